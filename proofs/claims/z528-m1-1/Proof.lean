import JvmDerived
import JvmDerived.Pilot.@@N@@Statement
import JvmDerived.Pilot.@@N@@Code
set_option linter.unusedVariables false
set_option linter.unusedSimpArgs false
namespace Jvm.Pilot.@@N@@
open Jvm Jvm.ClassFile Sem Op Lib Jvm.Free Jvm.Stand Jvm.LawKit Jvm.RoadKit Bundle Jvm.Pilot.@@N@@.Jvm.D
/-! ## The walk goes forward from its goal: own_W says that the run from here ends as Q asks. -/
def own_Post (s : State) (Q : Option Value → Heap → List Loc → Prop) (kc ks : Nat) (o : Outcome) (s₂ : State) : Prop := ∃ v L, o = .returned v ∧ Q v s₂.heap L ∧ FrameEnd s o s₂ L kc ks
def own_Fin (p : Program) (e : Env) (below : List Frame) (P : Outcome → State → Prop) (A : State) : Prop :=
  ∃ s₂ o, Steps p.tables e below A s₂ ∧ s₂.status = .running ∧ Ended s₂ below o ∧ P o s₂
def own_W (p : Program) (e : Env) (below : List Frame) (P : Outcome → State → Prop) (T : State) (m : MethodId) (pc : Nat) (Ls : Array Slot) (S : List Value) : Prop :=
  own_Fin p e below P (T.setTop (mkF m pc Ls S))
theorem own_w {Z : State} {a0 : Array Value} (hw : ∀ d ∈ tables_1, d.before a0 Z = true) (i : Nat) {d : Jvm.Cond} (h : tables_1[i]? = some d) : d.before a0 Z = true := hw d (List.mem_of_getElem? h)
section OwnKit
variable {p : Program} {l : Launch} {e : Env} {R : Room} {s : State} {m : MethodId} {args : Array Value} {below : List Frame} {meth : Method} {c : Code} {T : State} {locs : List Loc} {cells slots : Nat} {Z : State} {a0 : Array Value} {h : Heap}
  {P : Outcome → State → Prop} {Q : Option Value → Heap → List Loc → Prop} {kc ks : Nat} {pc pc' : Nat} {Ls Ls' : Array Slot} {S : List Value}
theorem own_go {A B : State} (st : ∀ t, Steps p.tables e below B t → Steps p.tables e below A t) (K : own_Fin p e below P B) : own_Fin p e below P A :=
  let ⟨s₂, o, h1, r⟩ := K; ⟨s₂, o, st _ h1, r⟩
theorem own_enter {ml : Nat} (q : entryFrame m args ml = mkF m 0 Ls []) (K : own_W p e below (own_Post s Q kc ks) T m 0 Ls []) :
    ∃ s₂ o, Steps p.tables e below (T.setTop (entryFrame m args ml)) s₂ ∧ s₂.status = .running ∧ Ended s₂ below o ∧ ∃ v L, o = .returned v ∧ Q v s₂.heap L ∧ FrameEnd s o s₂ L kc ks := by
  rw [q]; exact K
theorem own_iloadN (X : Stand p l e R s m args below meth c T locs cells slots) (hx : p.tables.exec = Jvm.exec) {k : Fin 4} {v : Int32} (hd : decode c.code pc = .ok (.iload_n k, 1)) (hp : pc + 1 = pc') (hl : Ls[k.val]? = some (.val (.int v))) (K : own_W p e below P T m pc' Ls (.int v :: S)) : own_W p e below P T m pc Ls S := by
  subst hp; exact own_go (fun t => XS.iloadN (g := mkF m pc Ls S) X.here hx rfl hd hl) K
theorem own_iload (X : Stand p l e R s m args below meth c T locs cells slots) (hx : p.tables.exec = Jvm.exec) {k : Nat} {v : Int32} (hd : decode c.code pc = .ok (.iload k, 2)) (hp : pc + 2 = pc') (hl : Ls[k]? = some (.val (.int v))) (K : own_W p e below P T m pc' Ls (.int v :: S)) : own_W p e below P T m pc Ls S := by
  subst hp; exact own_go (fun t => XS.iload (g := mkF m pc Ls S) X.here hx rfl hd hl) K
theorem own_lloadN (X : Stand p l e R s m args below meth c T locs cells slots) (hx : p.tables.exec = Jvm.exec) {k : Fin 4} {v : Int64} (hd : decode c.code pc = .ok (.lload_n k, 1)) (hp : pc + 1 = pc') (hl : Ls[k.val]? = some (.val (.long v))) (K : own_W p e below P T m pc' Ls (.long v :: S)) : own_W p e below P T m pc Ls S := by
  subst hp; exact own_go (fun t => XT.lloadN (g := mkF m pc Ls S) X.here hx rfl hd hl) K
theorem own_lload (X : Stand p l e R s m args below meth c T locs cells slots) (hx : p.tables.exec = Jvm.exec) {k : Nat} {v : Int64} (hd : decode c.code pc = .ok (.lload k, 2)) (hp : pc + 2 = pc') (hl : Ls[k]? = some (.val (.long v))) (K : own_W p e below P T m pc' Ls (.long v :: S)) : own_W p e below P T m pc Ls S := by
  subst hp; exact own_go (fun t => XT.lload (g := mkF m pc Ls S) X.here hx rfl hd hl) K
theorem own_aloadN (X : Stand p l e R s m args below meth c T locs cells slots) (hx : p.tables.exec = Jvm.exec) {k : Fin 4} {v : Value} (hd : decode c.code pc = .ok (.aload_n k, 1)) (hp : pc + 1 = pc') (hl : Ls[k.val]? = some (.val v)) (hv : v.isRef = true) (K : own_W p e below P T m pc' Ls (v :: S)) : own_W p e below P T m pc Ls S := by
  subst hp; exact own_go (fun t => XS.aloadN (g := mkF m pc Ls S) X.here hx rfl hd hl hv) K
theorem own_aload (X : Stand p l e R s m args below meth c T locs cells slots) (hx : p.tables.exec = Jvm.exec) {k : Nat} {v : Value} (hd : decode c.code pc = .ok (.aload k, 2)) (hp : pc + 2 = pc') (hl : Ls[k]? = some (.val v)) (hv : v.isRef = true) (K : own_W p e below P T m pc' Ls (v :: S)) : own_W p e below P T m pc Ls S := by
  subst hp; exact own_go (fun t => XS.aload (g := mkF m pc Ls S) X.here hx rfl hd hl hv) K
theorem own_istoreN (X : Stand p l e R s m args below meth c T locs cells slots) (hx : p.tables.exec = Jvm.exec) {k : Fin 4} {v : Int32} (hd : decode c.code pc = .ok (.istore_n k, 1)) (hp : pc + 1 = pc') (hl : storeLocals Ls k.val (.int v) = some Ls') (K : own_W p e below P T m pc' Ls' S) : own_W p e below P T m pc Ls (.int v :: S) := by
  subst hp; exact own_go (fun t => XS.istoreN (g := mkF m pc Ls (.int v :: S)) X.here hx rfl hd rfl hl) K
theorem own_istore (X : Stand p l e R s m args below meth c T locs cells slots) (hx : p.tables.exec = Jvm.exec) {k : Nat} {v : Int32} (hd : decode c.code pc = .ok (.istore k, 2)) (hp : pc + 2 = pc') (hl : storeLocals Ls k (.int v) = some Ls') (K : own_W p e below P T m pc' Ls' S) : own_W p e below P T m pc Ls (.int v :: S) := by
  subst hp; exact own_go (fun t => XS.istore (g := mkF m pc Ls (.int v :: S)) X.here hx rfl hd rfl hl) K
theorem own_lstoreN (X : Stand p l e R s m args below meth c T locs cells slots) (hx : p.tables.exec = Jvm.exec) {k : Fin 4} {v : Int64} (hd : decode c.code pc = .ok (.lstore_n k, 1)) (hp : pc + 1 = pc') (hl : storeLocals Ls k.val (.long v) = some Ls') (K : own_W p e below P T m pc' Ls' S) : own_W p e below P T m pc Ls (.long v :: S) := by
  subst hp; exact own_go (fun t => XT.lstoreN (g := mkF m pc Ls (.long v :: S)) X.here hx rfl hd rfl hl) K
theorem own_lstore (X : Stand p l e R s m args below meth c T locs cells slots) (hx : p.tables.exec = Jvm.exec) {k : Nat} {v : Int64} (hd : decode c.code pc = .ok (.lstore k, 2)) (hp : pc + 2 = pc') (hl : storeLocals Ls k (.long v) = some Ls') (K : own_W p e below P T m pc' Ls' S) : own_W p e below P T m pc Ls (.long v :: S) := by
  subst hp; exact own_go (fun t => XT.lstore (g := mkF m pc Ls (.long v :: S)) X.here hx rfl hd rfl hl) K
theorem own_astoreN (X : Stand p l e R s m args below meth c T locs cells slots) (hx : p.tables.exec = Jvm.exec) {k : Fin 4} {v : Value} (hd : decode c.code pc = .ok (.astore_n k, 1)) (hp : pc + 1 = pc') (hv : v.isRef = true) (hl : storeLocals Ls k.val v = some Ls') (K : own_W p e below P T m pc' Ls' S) : own_W p e below P T m pc Ls (v :: S) := by
  subst hp; exact own_go (fun t => XS.astoreN (g := mkF m pc Ls (v :: S)) X.here hx rfl hd rfl hv hl) K
theorem own_astore (X : Stand p l e R s m args below meth c T locs cells slots) (hx : p.tables.exec = Jvm.exec) {k : Nat} {v : Value} (hd : decode c.code pc = .ok (.astore k, 2)) (hp : pc + 2 = pc') (hv : v.isRef = true) (hl : storeLocals Ls k v = some Ls') (K : own_W p e below P T m pc' Ls' S) : own_W p e below P T m pc Ls (v :: S) := by
  subst hp; exact own_go (fun t => XS.astore (g := mkF m pc Ls (v :: S)) X.here hx rfl hd rfl hv hl) K
theorem own_iconst (X : Stand p l e R s m args below meth c T locs cells slots) (hx : p.tables.exec = Jvm.exec) {i : Int} (v : Int32) (hd : decode c.code pc = .ok (.iconst i, 1)) (hp : pc + 1 = pc') (hv : Int32.ofInt i = v) (K : own_W p e below P T m pc' Ls (.int v :: S)) : own_W p e below P T m pc Ls S := by
  subst hp hv; exact own_go (fun t => XS.iconst (g := mkF m pc Ls S) X.here hx rfl hd) K
theorem own_bipush (X : Stand p l e R s m args below meth c T locs cells slots) (hx : p.tables.exec = Jvm.exec) {i : Int} (v : Int32) (hd : decode c.code pc = .ok (.bipush i, 2)) (hp : pc + 2 = pc') (hv : (Int8.ofInt i).toInt32 = v) (K : own_W p e below P T m pc' Ls (.int v :: S)) : own_W p e below P T m pc Ls S := by
  subst hp; exact own_go (fun t => XT.bipushV (g := mkF m pc Ls S) X.here hx rfl v hd hv) K
theorem own_sipush (X : Stand p l e R s m args below meth c T locs cells slots) (hx : p.tables.exec = Jvm.exec) {i : Int} (v : Int32) (hd : decode c.code pc = .ok (.sipush i, 3)) (hp : pc + 3 = pc') (hv : (Int16.ofInt i).toInt32 = v) (K : own_W p e below P T m pc' Ls (.int v :: S)) : own_W p e below P T m pc Ls S := by
  subst hp; exact own_go (fun t => XT.sipushV (g := mkF m pc Ls S) X.here hx rfl v hd hv) K
theorem own_lconst (X : Stand p l e R s m args below meth c T locs cells slots) (hx : p.tables.exec = Jvm.exec) {k : Fin 2} (v : Int64) (hd : decode c.code pc = .ok (.lconst k, 1)) (hp : pc + 1 = pc') (hv : Int64.ofNat k = v) (K : own_W p e below P T m pc' Ls (.long v :: S)) : own_W p e below P T m pc Ls S := by
  subst hp; exact own_go (fun t => XT.lconstV (g := mkF m pc Ls S) X.here hx rfl v hd hv) K
theorem own_aconst_null (X : Stand p l e R s m args below meth c T locs cells slots) (hx : p.tables.exec = Jvm.exec) (hd : decode c.code pc = .ok (.aconst_null, 1)) (hp : pc + 1 = pc') (K : own_W p e below P T m pc' Ls (.null :: S)) : own_W p e below P T m pc Ls S := by
  subst hp; exact own_go (fun t => XS.aconstNull (g := mkF m pc Ls S) X.here hx rfl hd) K
theorem own_ldc (X : Stand p l e R s m args below meth c T locs cells slots) (hx : p.tables.exec = Jvm.exec) (hZ : Z.Warmed39 s.vm) {own : String} {index : Nat} {v : Int32} (hown : s.vm.findClass own = some m.cls) (w : (Cond.constant own index v).before a0 Z = true) (hd : decode c.code pc = .ok (.ldc index, 2)) (hp : pc + 2 = pc') (K : own_W p e below P T m pc' Ls (.int v :: S)) : own_W p e below P T m pc Ls S := by
  subst hp; exact own_go (fun t => X.ldcI (g := mkF m pc Ls S) hx hown (mvT hZ w) rfl hd) K
theorem own_ldc2 (X : Stand p l e R s m args below meth c T locs cells slots) (hx : p.tables.exec = Jvm.exec) (hZ : Z.Warmed39 s.vm) {own : String} {index : Nat} {v : Int64} (hown : s.vm.findClass own = some m.cls) (w : (Cond.constantLong own index v).before a0 Z = true) (hd : decode c.code pc = .ok (.ldc2_w index, 3)) (hp : pc + 3 = pc') (K : own_W p e below P T m pc' Ls (.long v :: S)) : own_W p e below P T m pc Ls S := by
  subst hp; exact own_go (fun t => X.ldc2J (g := mkF m pc Ls S) hx hown (mvT hZ w) rfl hd) K
theorem own_iadd (X : Stand p l e R s m args below meth c T locs cells slots) (hx : p.tables.exec = Jvm.exec) {x y : Int32} (hd : decode c.code pc = .ok (.iadd, 1)) (hp : pc + 1 = pc') (K : own_W p e below P T m pc' Ls (.int (x + y) :: S)) : own_W p e below P T m pc Ls (.int y :: .int x :: S) := by
  subst hp; exact own_go (fun t => XS.iadd (g := mkF m pc Ls (.int y :: .int x :: S)) X.here hx rfl hd rfl) K
theorem own_isub (X : Stand p l e R s m args below meth c T locs cells slots) (hx : p.tables.exec = Jvm.exec) {x y : Int32} (hd : decode c.code pc = .ok (.isub, 1)) (hp : pc + 1 = pc') (K : own_W p e below P T m pc' Ls (.int (x - y) :: S)) : own_W p e below P T m pc Ls (.int y :: .int x :: S) := by
  subst hp; exact own_go (fun t => XS.isub (g := mkF m pc Ls (.int y :: .int x :: S)) X.here hx rfl hd rfl) K
theorem own_imul (X : Stand p l e R s m args below meth c T locs cells slots) (hx : p.tables.exec = Jvm.exec) {x y : Int32} (hd : decode c.code pc = .ok (.imul, 1)) (hp : pc + 1 = pc') (K : own_W p e below P T m pc' Ls (.int (x * y) :: S)) : own_W p e below P T m pc Ls (.int y :: .int x :: S) := by
  subst hp; exact own_go (fun t => XS.imul (g := mkF m pc Ls (.int y :: .int x :: S)) X.here hx rfl hd rfl) K
theorem own_iand (X : Stand p l e R s m args below meth c T locs cells slots) (hx : p.tables.exec = Jvm.exec) {x y : Int32} (hd : decode c.code pc = .ok (.iand, 1)) (hp : pc + 1 = pc') (K : own_W p e below P T m pc' Ls (.int (x &&& y) :: S)) : own_W p e below P T m pc Ls (.int y :: .int x :: S) := by
  subst hp; exact own_go (fun t => XS.iand (g := mkF m pc Ls (.int y :: .int x :: S)) X.here hx rfl hd rfl) K
theorem own_ior (X : Stand p l e R s m args below meth c T locs cells slots) (hx : p.tables.exec = Jvm.exec) {x y : Int32} (hd : decode c.code pc = .ok (.ior, 1)) (hp : pc + 1 = pc') (K : own_W p e below P T m pc' Ls (.int (x ||| y) :: S)) : own_W p e below P T m pc Ls (.int y :: .int x :: S) := by
  subst hp; exact own_go (fun t => XT.ior (g := mkF m pc Ls (.int y :: .int x :: S)) X.here hx rfl hd rfl) K
theorem own_ixor (X : Stand p l e R s m args below meth c T locs cells slots) (hx : p.tables.exec = Jvm.exec) {x y : Int32} (hd : decode c.code pc = .ok (.ixor, 1)) (hp : pc + 1 = pc') (K : own_W p e below P T m pc' Ls (.int (x ^^^ y) :: S)) : own_W p e below P T m pc Ls (.int y :: .int x :: S) := by
  subst hp; exact own_go (fun t => XT.ixor (g := mkF m pc Ls (.int y :: .int x :: S)) X.here hx rfl hd rfl) K
theorem own_ishl (X : Stand p l e R s m args below meth c T locs cells slots) (hx : p.tables.exec = Jvm.exec) {x y : Int32} (hd : decode c.code pc = .ok (.ishl, 1)) (hp : pc + 1 = pc') (K : own_W p e below P T m pc' Ls (.int (x <<< (y &&& 31)) :: S)) : own_W p e below P T m pc Ls (.int y :: .int x :: S) := by
  subst hp; exact own_go (fun t => XT.ishl (g := mkF m pc Ls (.int y :: .int x :: S)) X.here hx rfl hd rfl) K
theorem own_ishr (X : Stand p l e R s m args below meth c T locs cells slots) (hx : p.tables.exec = Jvm.exec) {x y : Int32} (hd : decode c.code pc = .ok (.ishr, 1)) (hp : pc + 1 = pc') (K : own_W p e below P T m pc' Ls (.int (x >>> (y &&& 31)) :: S)) : own_W p e below P T m pc Ls (.int y :: .int x :: S) := by
  subst hp; exact own_go (fun t => XT.ishr (g := mkF m pc Ls (.int y :: .int x :: S)) X.here hx rfl hd rfl) K
theorem own_iushr (X : Stand p l e R s m args below meth c T locs cells slots) (hx : p.tables.exec = Jvm.exec) {x y : Int32} (hd : decode c.code pc = .ok (.iushr, 1)) (hp : pc + 1 = pc') (K : own_W p e below P T m pc' Ls (.int (XT.ushr x y) :: S)) : own_W p e below P T m pc Ls (.int y :: .int x :: S) := by
  subst hp; exact own_go (fun t => XT.iushr (g := mkF m pc Ls (.int y :: .int x :: S)) X.here hx rfl hd rfl) K
theorem own_ladd (X : Stand p l e R s m args below meth c T locs cells slots) (hx : p.tables.exec = Jvm.exec) {x y : Int64} (hd : decode c.code pc = .ok (.ladd, 1)) (hp : pc + 1 = pc') (K : own_W p e below P T m pc' Ls (.long (x + y) :: S)) : own_W p e below P T m pc Ls (.long y :: .long x :: S) := by
  subst hp; exact own_go (fun t => XT.ladd (g := mkF m pc Ls (.long y :: .long x :: S)) X.here hx rfl hd rfl) K
theorem own_lsub (X : Stand p l e R s m args below meth c T locs cells slots) (hx : p.tables.exec = Jvm.exec) {x y : Int64} (hd : decode c.code pc = .ok (.lsub, 1)) (hp : pc + 1 = pc') (K : own_W p e below P T m pc' Ls (.long (x - y) :: S)) : own_W p e below P T m pc Ls (.long y :: .long x :: S) := by
  subst hp; exact own_go (fun t => XT.lsub (g := mkF m pc Ls (.long y :: .long x :: S)) X.here hx rfl hd rfl) K
theorem own_lmul (X : Stand p l e R s m args below meth c T locs cells slots) (hx : p.tables.exec = Jvm.exec) {x y : Int64} (hd : decode c.code pc = .ok (.lmul, 1)) (hp : pc + 1 = pc') (K : own_W p e below P T m pc' Ls (.long (x * y) :: S)) : own_W p e below P T m pc Ls (.long y :: .long x :: S) := by
  subst hp; exact own_go (fun t => XT.lmul (g := mkF m pc Ls (.long y :: .long x :: S)) X.here hx rfl hd rfl) K
theorem own_land (X : Stand p l e R s m args below meth c T locs cells slots) (hx : p.tables.exec = Jvm.exec) {x y : Int64} (hd : decode c.code pc = .ok (.land, 1)) (hp : pc + 1 = pc') (K : own_W p e below P T m pc' Ls (.long (x &&& y) :: S)) : own_W p e below P T m pc Ls (.long y :: .long x :: S) := by
  subst hp; exact own_go (fun t => XT.land (g := mkF m pc Ls (.long y :: .long x :: S)) X.here hx rfl hd rfl) K
theorem own_lor (X : Stand p l e R s m args below meth c T locs cells slots) (hx : p.tables.exec = Jvm.exec) {x y : Int64} (hd : decode c.code pc = .ok (.lor, 1)) (hp : pc + 1 = pc') (K : own_W p e below P T m pc' Ls (.long (x ||| y) :: S)) : own_W p e below P T m pc Ls (.long y :: .long x :: S) := by
  subst hp; exact own_go (fun t => XT.lor (g := mkF m pc Ls (.long y :: .long x :: S)) X.here hx rfl hd rfl) K
theorem own_lxor (X : Stand p l e R s m args below meth c T locs cells slots) (hx : p.tables.exec = Jvm.exec) {x y : Int64} (hd : decode c.code pc = .ok (.lxor, 1)) (hp : pc + 1 = pc') (K : own_W p e below P T m pc' Ls (.long (x ^^^ y) :: S)) : own_W p e below P T m pc Ls (.long y :: .long x :: S) := by
  subst hp; exact own_go (fun t => XT.lxor (g := mkF m pc Ls (.long y :: .long x :: S)) X.here hx rfl hd rfl) K
theorem own_lshl (X : Stand p l e R s m args below meth c T locs cells slots) (hx : p.tables.exec = Jvm.exec) {x : Int64} {y : Int32} (hd : decode c.code pc = .ok (.lshl, 1)) (hp : pc + 1 = pc') (K : own_W p e below P T m pc' Ls (.long (x <<< (y.toInt64 &&& 63)) :: S)) : own_W p e below P T m pc Ls (.int y :: .long x :: S) := by
  subst hp; exact own_go (fun t => XT.lshl (g := mkF m pc Ls (.int y :: .long x :: S)) X.here hx rfl hd rfl) K
theorem own_lshr (X : Stand p l e R s m args below meth c T locs cells slots) (hx : p.tables.exec = Jvm.exec) {x : Int64} {y : Int32} (hd : decode c.code pc = .ok (.lshr, 1)) (hp : pc + 1 = pc') (K : own_W p e below P T m pc' Ls (.long (x >>> (y.toInt64 &&& 63)) :: S)) : own_W p e below P T m pc Ls (.int y :: .long x :: S) := by
  subst hp; exact own_go (fun t => XT.lshr (g := mkF m pc Ls (.int y :: .long x :: S)) X.here hx rfl hd rfl) K
theorem own_lushr (X : Stand p l e R s m args below meth c T locs cells slots) (hx : p.tables.exec = Jvm.exec) {x : Int64} {y : Int32} (hd : decode c.code pc = .ok (.lushr, 1)) (hp : pc + 1 = pc') (K : own_W p e below P T m pc' Ls (.long (XT.ushrL x y) :: S)) : own_W p e below P T m pc Ls (.int y :: .long x :: S) := by
  subst hp; exact own_go (fun t => XT.lushr (g := mkF m pc Ls (.int y :: .long x :: S)) X.here hx rfl hd rfl) K
theorem own_idiv (X : Stand p l e R s m args below meth c T locs cells slots) (hx : p.tables.exec = Jvm.exec) {x y : Int32} (hd : decode c.code pc = .ok (.idiv, 1)) (hp : pc + 1 = pc') (hy : y ≠ 0) (K : own_W p e below P T m pc' Ls (.int (x / y) :: S)) : own_W p e below P T m pc Ls (.int y :: .int x :: S) := by
  subst hp; exact own_go (fun t => XS.idiv (g := mkF m pc Ls (.int y :: .int x :: S)) X.here hx rfl hd rfl hy) K
theorem own_irem (X : Stand p l e R s m args below meth c T locs cells slots) (hx : p.tables.exec = Jvm.exec) {x y : Int32} (hd : decode c.code pc = .ok (.irem, 1)) (hp : pc + 1 = pc') (hy : y ≠ 0) (K : own_W p e below P T m pc' Ls (.int (x % y) :: S)) : own_W p e below P T m pc Ls (.int y :: .int x :: S) := by
  subst hp; exact own_go (fun t => iremM (g := mkF m pc Ls (.int y :: .int x :: S)) X hx rfl hd rfl hy) K
theorem own_ldiv (X : Stand p l e R s m args below meth c T locs cells slots) (hx : p.tables.exec = Jvm.exec) {x y : Int64} (hd : decode c.code pc = .ok (.ldiv, 1)) (hp : pc + 1 = pc') (hy : y ≠ 0) (K : own_W p e below P T m pc' Ls (.long (x / y) :: S)) : own_W p e below P T m pc Ls (.long y :: .long x :: S) := by
  subst hp; exact own_go (fun t => XT.ldiv (g := mkF m pc Ls (.long y :: .long x :: S)) X.here hx rfl hd rfl hy) K
theorem own_lrem (X : Stand p l e R s m args below meth c T locs cells slots) (hx : p.tables.exec = Jvm.exec) {x y : Int64} (hd : decode c.code pc = .ok (.lrem, 1)) (hp : pc + 1 = pc') (hy : y ≠ 0) (K : own_W p e below P T m pc' Ls (.long (x % y) :: S)) : own_W p e below P T m pc Ls (.long y :: .long x :: S) := by
  subst hp; rw [← lrem_mod] at K; exact own_go (fun t => XT.lrem (g := mkF m pc Ls (.long y :: .long x :: S)) X.here hx rfl hd rfl hy) K
theorem own_ineg (X : Stand p l e R s m args below meth c T locs cells slots) (hx : p.tables.exec = Jvm.exec) {x : Int32} (hd : decode c.code pc = .ok (.ineg, 1)) (hp : pc + 1 = pc') (K : own_W p e below P T m pc' Ls (.int (-x) :: S)) : own_W p e below P T m pc Ls (.int x :: S) := by
  subst hp; exact own_go (fun t => XS.ineg (g := mkF m pc Ls (.int x :: S)) X.here hx rfl hd rfl) K
theorem own_lneg (X : Stand p l e R s m args below meth c T locs cells slots) (hx : p.tables.exec = Jvm.exec) {x : Int64} (hd : decode c.code pc = .ok (.lneg, 1)) (hp : pc + 1 = pc') (K : own_W p e below P T m pc' Ls (.long (-x) :: S)) : own_W p e below P T m pc Ls (.long x :: S) := by
  subst hp; exact own_go (fun t => XT.lneg (g := mkF m pc Ls (.long x :: S)) X.here hx rfl hd rfl) K
theorem own_i2l (X : Stand p l e R s m args below meth c T locs cells slots) (hx : p.tables.exec = Jvm.exec) {x : Int32} (hd : decode c.code pc = .ok (.i2l, 1)) (hp : pc + 1 = pc') (K : own_W p e below P T m pc' Ls (.long (x.toInt64) :: S)) : own_W p e below P T m pc Ls (.int x :: S) := by
  subst hp; exact own_go (fun t => XT.i2l (g := mkF m pc Ls (.int x :: S)) X.here hx rfl hd rfl) K
theorem own_l2i (X : Stand p l e R s m args below meth c T locs cells slots) (hx : p.tables.exec = Jvm.exec) {x : Int64} (hd : decode c.code pc = .ok (.l2i, 1)) (hp : pc + 1 = pc') (K : own_W p e below P T m pc' Ls (.int (x.toInt32) :: S)) : own_W p e below P T m pc Ls (.long x :: S) := by
  subst hp; exact own_go (fun t => XT.l2i (g := mkF m pc Ls (.long x :: S)) X.here hx rfl hd rfl) K
theorem own_i2b (X : Stand p l e R s m args below meth c T locs cells slots) (hx : p.tables.exec = Jvm.exec) {x : Int32} (hd : decode c.code pc = .ok (.i2b, 1)) (hp : pc + 1 = pc') (K : own_W p e below P T m pc' Ls (.int (x.toInt8.toInt32) :: S)) : own_W p e below P T m pc Ls (.int x :: S) := by
  subst hp; exact own_go (fun t => XT.i2b (g := mkF m pc Ls (.int x :: S)) X.here hx rfl hd rfl) K
theorem own_i2c (X : Stand p l e R s m args below meth c T locs cells slots) (hx : p.tables.exec = Jvm.exec) {x : Int32} (hd : decode c.code pc = .ok (.i2c, 1)) (hp : pc + 1 = pc') (K : own_W p e below P T m pc' Ls (.int (x.toUInt32.toUInt16.toUInt32.toInt32) :: S)) : own_W p e below P T m pc Ls (.int x :: S) := by
  subst hp; exact own_go (fun t => XT.i2c (g := mkF m pc Ls (.int x :: S)) X.here hx rfl hd rfl) K
theorem own_i2s (X : Stand p l e R s m args below meth c T locs cells slots) (hx : p.tables.exec = Jvm.exec) {x : Int32} (hd : decode c.code pc = .ok (.i2s, 1)) (hp : pc + 1 = pc') (K : own_W p e below P T m pc' Ls (.int (x.toInt16.toInt32) :: S)) : own_W p e below P T m pc Ls (.int x :: S) := by
  subst hp; exact own_go (fun t => XT.i2s (g := mkF m pc Ls (.int x :: S)) X.here hx rfl hd rfl) K
theorem own_iinc (X : Stand p l e R s m args below meth c T locs cells slots) (hx : p.tables.exec = Jvm.exec) {k : Nat} {cst : Int} {x : Int32} (v : Int32) (hd : decode c.code pc = .ok (.iinc k cst, 3)) (hp : pc + 3 = pc') (hv : Int32.ofInt cst = v) (hl : Ls[k]? = some (.val (.int x))) (hl' : storeLocals Ls k (.int (x + v)) = some Ls') (K : own_W p e below P T m pc' Ls' S) : own_W p e below P T m pc Ls S := by
  subst hp; exact own_go (fun t => XT.iincV (g := mkF m pc Ls S) X.here hx rfl v hd hv hl hl') K
theorem own_dup (X : Stand p l e R s m args below meth c T locs cells slots) (hx : p.tables.exec = Jvm.exec) {x : Value} (hd : decode c.code pc = .ok (.dup, 1)) (hp : pc + 1 = pc') (hc : x.category = 1) (K : own_W p e below P T m pc' Ls (x :: x :: S)) : own_W p e below P T m pc Ls (x :: S) := by
  subst hp; exact own_go (fun t => XS.dup (g := mkF m pc Ls (x :: S)) X.here hx rfl hd rfl hc) K
theorem own_pop (X : Stand p l e R s m args below meth c T locs cells slots) (hx : p.tables.exec = Jvm.exec) {x : Value} (hd : decode c.code pc = .ok (.pop, 1)) (hp : pc + 1 = pc') (hc : x.category = 1) (K : own_W p e below P T m pc' Ls S) : own_W p e below P T m pc Ls (x :: S) := by
  subst hp; exact own_go (fun t => XT.pop (g := mkF m pc Ls (x :: S)) X.here hx rfl hd rfl hc) K
theorem own_dup2 (X : Stand p l e R s m args below meth c T locs cells slots) (hx : p.tables.exec = Jvm.exec) {x y : Value} (hd : decode c.code pc = .ok (.dup2, 1)) (hp : pc + 1 = pc') (hc : x.category = 1) (hc' : y.category = 1) (K : own_W p e below P T m pc' Ls (x :: y :: x :: y :: S)) : own_W p e below P T m pc Ls (x :: y :: S) := by
  subst hp; exact own_go (fun t => XT.dup2 (g := mkF m pc Ls (x :: y :: S)) X.here hx rfl hd rfl hc hc') K
theorem own_goto (X : Stand p l e R s m args below meth c T locs cells slots) (hx : p.tables.exec = Jvm.exec) {o : Int} (hd : decode c.code pc = .ok (.goto o, 3)) (ho : 0 ≤ (pc : Int) + o) (hp : ((pc : Int) + o).toNat = pc') (K : own_W p e below P T m pc' Ls S) : own_W p e below P T m pc Ls S :=
  own_go (fun t => XS.goto (g := mkF m pc Ls S) X.here hx rfl (pc0 := pc) (pc' := pc') rfl hd ho hp) K
/-- what a taken branch tells (own_P), what one that isn't taken tells (own_N) -/
def own_P : ClassFile.Cond → Int32 → Int32 → Prop
  | .eq, x, y => x = y
  | .ne, x, y => ¬ x = y
  | .lt, x, y => x < y
  | .ge, x, y => ¬ x < y
  | .gt, x, y => y < x
  | .le, x, y => ¬ y < x
def own_N : ClassFile.Cond → Int32 → Int32 → Prop
  | .eq, x, y => ¬ x = y
  | .ne, x, y => x = y
  | .lt, x, y => ¬ x < y
  | .ge, x, y => x < y
  | .gt, x, y => ¬ y < x
  | .le, x, y => y < x
theorem own_holdsT {cd : ClassFile.Cond} {x y : Int32} (q : own_P cd x y) : if_icmp.holds cd x y = true := by
  cases cd <;> first | exact (teq q).1 | exact (feq q).2 | exact (tlt q).1 | exact (flt q).2.1 | exact (tlt q).2.2.1 | exact (flt q).2.2.2
theorem own_holdsF {cd : ClassFile.Cond} {x y : Int32} (q : own_N cd x y) : if_icmp.holds cd x y = false := by
  cases cd <;> first | exact (feq q).1 | exact (teq q).2 | exact (flt q).1 | exact (tlt q).2.1 | exact (flt q).2.2.1 | exact (tlt q).2.2.2
theorem own_or (cd : ClassFile.Cond) (x y : Int32) : own_P cd x y ∨ own_N cd x y := by
  cases cd
  · exact Classical.em (x = y)
  · exact (Classical.em (x = y)).symm
  · exact Classical.em (x < y)
  · exact (Classical.em (x < y)).symm
  · exact Classical.em (y < x)
  · exact (Classical.em (y < x)).symm
theorem own_icmpY (X : Stand p l e R s m args below meth c T locs cells slots) (hx : p.tables.exec = Jvm.exec) {cd : ClassFile.Cond} {x y : Int32} {o : Int} (hd : decode c.code pc = .ok (.if_icmp cd o, 3)) (ho : 0 ≤ (pc : Int) + o) (hp : ((pc : Int) + o).toNat = pc') (q : own_P cd x y) (K : own_W p e below P T m pc' Ls S) : own_W p e below P T m pc Ls (.int y :: .int x :: S) :=
  own_go (fun t => XS.icmpYes (g := mkF m pc Ls (.int y :: .int x :: S)) X.here hx rfl (pc0 := pc) (pc' := pc') rfl hd rfl (own_holdsT q) ho hp) K
theorem own_icmpN (X : Stand p l e R s m args below meth c T locs cells slots) (hx : p.tables.exec = Jvm.exec) {cd : ClassFile.Cond} {x y : Int32} {o : Int} (hd : decode c.code pc = .ok (.if_icmp cd o, 3)) (hp : pc + 3 = pc') (q : own_N cd x y) (K : own_W p e below P T m pc' Ls S) : own_W p e below P T m pc Ls (.int y :: .int x :: S) := by
  subst hp; exact own_go (fun t => XS.icmpNo (g := mkF m pc Ls (.int y :: .int x :: S)) X.here hx rfl hd rfl (own_holdsF q)) K
theorem own_icmp (X : Stand p l e R s m args below meth c T locs cells slots) (hx : p.tables.exec = Jvm.exec) {cd : ClassFile.Cond} {x y : Int32} {o : Int} {pcY pcN : Nat} (hd : decode c.code pc = .ok (.if_icmp cd o, 3)) (ho : 0 ≤ (pc : Int) + o) (hY : ((pc : Int) + o).toNat = pcY) (hN : pc + 3 = pcN) (KY : own_P cd x y → own_W p e below P T m pcY Ls S) (KN : own_N cd x y → own_W p e below P T m pcN Ls S) : own_W p e below P T m pc Ls (.int y :: .int x :: S) :=
  (own_or cd x y).elim (fun q => own_icmpY X hx hd ho hY q (KY q)) (fun q => own_icmpN X hx hd hN q (KN q))
theorem own_ifY (X : Stand p l e R s m args below meth c T locs cells slots) (hx : p.tables.exec = Jvm.exec) {cd : ClassFile.Cond} {x : Int32} {o : Int} (hd : decode c.code pc = .ok (.ifCond cd o, 3)) (ho : 0 ≤ (pc : Int) + o) (hp : ((pc : Int) + o).toNat = pc') (q : own_P cd x 0) (K : own_W p e below P T m pc' Ls S) : own_W p e below P T m pc Ls (.int x :: S) :=
  own_go (fun t => XS.ifYes (g := mkF m pc Ls (.int x :: S)) X.here hx rfl (pc0 := pc) (pc' := pc') rfl hd rfl ((if0 _ _).trans (own_holdsT q)) ho hp) K
theorem own_ifN (X : Stand p l e R s m args below meth c T locs cells slots) (hx : p.tables.exec = Jvm.exec) {cd : ClassFile.Cond} {x : Int32} {o : Int} (hd : decode c.code pc = .ok (.ifCond cd o, 3)) (hp : pc + 3 = pc') (q : own_N cd x 0) (K : own_W p e below P T m pc' Ls S) : own_W p e below P T m pc Ls (.int x :: S) := by
  subst hp; exact own_go (fun t => XS.ifNo (g := mkF m pc Ls (.int x :: S)) X.here hx rfl hd rfl ((if0 _ _).trans (own_holdsF q))) K
theorem own_if (X : Stand p l e R s m args below meth c T locs cells slots) (hx : p.tables.exec = Jvm.exec) {cd : ClassFile.Cond} {x : Int32} {o : Int} {pcY pcN : Nat} (hd : decode c.code pc = .ok (.ifCond cd o, 3)) (ho : 0 ≤ (pc : Int) + o) (hY : ((pc : Int) + o).toNat = pcY) (hN : pc + 3 = pcN) (KY : own_P cd x 0 → own_W p e below P T m pcY Ls S) (KN : own_N cd x 0 → own_W p e below P T m pcN Ls S) : own_W p e below P T m pc Ls (.int x :: S) :=
  (own_or cd x 0).elim (fun q => own_ifY X hx hd ho hY q (KY q)) (fun q => own_ifN X hx hd hN q (KN q))
/-- the same of two longs: lcmp and the branch behind it, in one -/
def own_PL : ClassFile.Cond → Int64 → Int64 → Prop
  | .eq, x, y => x = y
  | .ne, x, y => ¬ x = y
  | .lt, x, y => x < y
  | .ge, x, y => ¬ x < y
  | .gt, x, y => y < x
  | .le, x, y => ¬ y < x
def own_NL : ClassFile.Cond → Int64 → Int64 → Prop
  | .eq, x, y => ¬ x = y
  | .ne, x, y => x = y
  | .lt, x, y => ¬ x < y
  | .ge, x, y => x < y
  | .gt, x, y => ¬ y < x
  | .le, x, y => y < x
theorem own_holdsLT {cd : ClassFile.Cond} {x y : Int64} (q : own_PL cd x y) : ifCond.holds cd (XT.cmpL x y) = true := by
  cases cd
  · exact XT.ll_eq_t q
  · exact XT.ll_ne_t q
  · exact XT.ll_lt_t q
  · exact XT.ll_ge_t q
  · exact XT.ll_gt_t q
  · exact XT.ll_le_t q
theorem own_holdsLF {cd : ClassFile.Cond} {x y : Int64} (q : own_NL cd x y) : ifCond.holds cd (XT.cmpL x y) = false := by
  cases cd
  · exact XT.ll_eq_f q
  · exact XT.ll_ne_f q
  · exact XT.ll_lt_f q
  · exact XT.ll_ge_f q
  · exact XT.ll_gt_f q
  · exact XT.ll_le_f q
theorem own_orL (cd : ClassFile.Cond) (x y : Int64) : own_PL cd x y ∨ own_NL cd x y := by
  cases cd
  · exact Classical.em (x = y)
  · exact (Classical.em (x = y)).symm
  · exact Classical.em (x < y)
  · exact (Classical.em (x < y)).symm
  · exact Classical.em (y < x)
  · exact (Classical.em (y < x)).symm
theorem own_lcY (X : Stand p l e R s m args below meth c T locs cells slots) (hx : p.tables.exec = Jvm.exec) {cd : ClassFile.Cond} {x y : Int64} {o : Int} (hd1 : decode c.code pc = .ok (.lcmp, 1)) (hd : decode c.code (pc + 1) = .ok (.ifCond cd o, 3)) (ho : 0 ≤ ((pc + 1 : Nat) : Int) + o) (hp : (((pc + 1 : Nat) : Int) + o).toNat = pc') (q : own_PL cd x y) (K : own_W p e below P T m pc' Ls S) : own_W p e below P T m pc Ls (.long y :: .long x :: S) :=
  own_go (fun t => XT.lcmp (g := mkF m pc Ls (.long y :: .long x :: S)) X.here hx rfl hd1 rfl) (own_go (fun t => XS.ifYes (g := mkF m (pc + 1) Ls (.int (XT.cmpL x y) :: S)) X.here hx rfl (pc0 := pc + 1) (pc' := pc') rfl hd rfl (own_holdsLT q) ho hp) K)
theorem own_lcN (X : Stand p l e R s m args below meth c T locs cells slots) (hx : p.tables.exec = Jvm.exec) {cd : ClassFile.Cond} {x y : Int64} {o : Int} (hd1 : decode c.code pc = .ok (.lcmp, 1)) (hd : decode c.code (pc + 1) = .ok (.ifCond cd o, 3)) (hp : pc + 4 = pc') (q : own_NL cd x y) (K : own_W p e below P T m pc' Ls S) : own_W p e below P T m pc Ls (.long y :: .long x :: S) := by
  subst hp; exact own_go (fun t => XT.lcmp (g := mkF m pc Ls (.long y :: .long x :: S)) X.here hx rfl hd1 rfl) (own_go (fun t => XS.ifNo (g := mkF m (pc + 1) Ls (.int (XT.cmpL x y) :: S)) X.here hx rfl hd rfl (own_holdsLF q)) K)
theorem own_lc (X : Stand p l e R s m args below meth c T locs cells slots) (hx : p.tables.exec = Jvm.exec) {cd : ClassFile.Cond} {x y : Int64} {o : Int} {pcY pcN : Nat} (hd1 : decode c.code pc = .ok (.lcmp, 1)) (hd : decode c.code (pc + 1) = .ok (.ifCond cd o, 3)) (ho : 0 ≤ ((pc + 1 : Nat) : Int) + o) (hY : (((pc + 1 : Nat) : Int) + o).toNat = pcY) (hN : pc + 4 = pcN) (KY : own_PL cd x y → own_W p e below P T m pcY Ls S) (KN : own_NL cd x y → own_W p e below P T m pcN Ls S) : own_W p e below P T m pc Ls (.long y :: .long x :: S) :=
  (own_orL cd x y).elim (fun q => own_lcY X hx hd1 hd ho hY q (KY q)) (fun q => own_lcN X hx hd1 hd hN q (KN q))
theorem own_ifnullY (X : Stand p l e R s m args below meth c T locs cells slots) (hx : p.tables.exec = Jvm.exec) {o : Int} (hd : decode c.code pc = .ok (.ifnull o, 3)) (ho : 0 ≤ (pc : Int) + o) (hp : ((pc : Int) + o).toNat = pc') (K : own_W p e below P T m pc' Ls S) : own_W p e below P T m pc Ls (.null :: S) :=
  own_go (fun t => XS.ifnullYes (g := mkF m pc Ls (.null :: S)) X.here hx rfl (pc0 := pc) (pc' := pc') rfl hd rfl ho hp) K
theorem own_ifnullN (X : Stand p l e R s m args below meth c T locs cells slots) (hx : p.tables.exec = Jvm.exec) {o : Int} {a : Addr} (hd : decode c.code pc = .ok (.ifnull o, 3)) (hp : pc + 3 = pc') (K : own_W p e below P T m pc' Ls S) : own_W p e below P T m pc Ls (.ref a :: S) := by
  subst hp; exact own_go (fun t => XS.ifnullNo (g := mkF m pc Ls (.ref a :: S)) X.here hx rfl hd rfl) K
theorem own_ifnonnullY (X : Stand p l e R s m args below meth c T locs cells slots) (hx : p.tables.exec = Jvm.exec) {o : Int} {a : Addr} (hd : decode c.code pc = .ok (.ifnonnull o, 3)) (ho : 0 ≤ (pc : Int) + o) (hp : ((pc : Int) + o).toNat = pc') (K : own_W p e below P T m pc' Ls S) : own_W p e below P T m pc Ls (.ref a :: S) :=
  own_go (fun t => XT.ifnonnullYes (g := mkF m pc Ls (.ref a :: S)) X.here hx rfl (pc0 := pc) (pc' := pc') rfl hd rfl ho hp) K
theorem own_ifnonnullN (X : Stand p l e R s m args below meth c T locs cells slots) (hx : p.tables.exec = Jvm.exec) {o : Int} (hd : decode c.code pc = .ok (.ifnonnull o, 3)) (hp : pc + 3 = pc') (K : own_W p e below P T m pc' Ls S) : own_W p e below P T m pc Ls (.null :: S) := by
  subst hp; exact own_go (fun t => XT.ifnonnullNo (g := mkF m pc Ls (.null :: S)) X.here hx rfl hd rfl) K
theorem own_acmpY (X : Stand p l e R s m args below meth c T locs cells slots) (hx : p.tables.exec = Jvm.exec) {cd : ClassFile.ACond} {x y : Value} {o : Int} (hd : decode c.code pc = .ok (.if_acmp cd o, 3)) (ho : 0 ≤ (pc : Int) + o) (hp : ((pc : Int) + o).toNat = pc') (hx' : x.isRef = true) (hy' : y.isRef = true) (q : XT.acmp cd x y = true) (K : own_W p e below P T m pc' Ls S) : own_W p e below P T m pc Ls (y :: x :: S) :=
  own_go (fun t => XT.acmpYes (g := mkF m pc Ls (y :: x :: S)) X.here hx rfl (pc0 := pc) (pc' := pc') rfl hd rfl hx' hy' q ho hp) K
theorem own_acmpN (X : Stand p l e R s m args below meth c T locs cells slots) (hx : p.tables.exec = Jvm.exec) {cd : ClassFile.ACond} {x y : Value} {o : Int} (hd : decode c.code pc = .ok (.if_acmp cd o, 3)) (hp : pc + 3 = pc') (hx' : x.isRef = true) (hy' : y.isRef = true) (q : XT.acmp cd x y = false) (K : own_W p e below P T m pc' Ls S) : own_W p e below P T m pc Ls (y :: x :: S) := by
  subst hp; exact own_go (fun t => XT.acmpNo (g := mkF m pc Ls (y :: x :: S)) X.here hx rfl hd rfl hx' hy' q) K
/-! heap -/
theorem own_getF (X : Stand p l e R s m args below meth c T locs cells slots) (hx : p.tables.exec = Jvm.exec) (hZ : Z.Warmed39 s.vm) {own R0 O n d host : String} {index : Nat} (hown : s.vm.findClass own = some m.cls) (w : (Cond.fieldLink own index R0 n d).before a0 Z = true ∨ (Cond.fieldLinkNest own index R0 n d host).before a0 Z = true) (via : Via Z R0 O n d)
    (eT : T.heap = h) {a : Addr} {v : Value} (F : Fld Z h a O n d v) (hd : decode c.code pc = .ok (.getfield index, 3)) (hp : pc + 3 = pc')
    (K : ∀ T', Stand p l e R s m args below meth c T' locs cells slots → T'.heap = h → own_W p e below P T' m pc' Ls (v :: S)) : own_W p e below P T m pc Ls (.ref a :: S) := by
  subst hp
  obtain ⟨T', X', e', st⟩ := getF X hx hZ hown w via eT F (g := mkF m pc Ls (.ref a :: S)) rfl rfl hd
  exact own_go st (K T' X' e')
theorem own_getS (X : Stand p l e R s m args below meth c T locs cells slots) (hx : p.tables.exec = Jvm.exec) (hZ : Z.Warmed39 s.vm) {own R0 O n d host : String} {index : Nat} (hown : s.vm.findClass own = some m.cls) (w : (Cond.fieldLink own index R0 n d).before a0 Z = true ∨ (Cond.fieldLinkNest own index R0 n d host).before a0 Z = true) (via : Via Z R0 O n d)
    (eT : T.heap = h) {v : Value} (F : Sta Z h O n d v) (hd : decode c.code pc = .ok (.getstatic index, 3)) (hp : pc + 3 = pc')
    (K : ∀ T', Stand p l e R s m args below meth c T' locs cells slots → T'.heap = h → own_W p e below P T' m pc' Ls (v :: S)) : own_W p e below P T m pc Ls S := by
  subst hp
  obtain ⟨T', X', e', st⟩ := getS2 X hx hZ hown w via eT F (g := mkF m pc Ls S) rfl hd
  exact own_go st (K T' X' e')
theorem own_putF (X : Stand p l e R s m args below meth c T locs cells slots) (hx : p.tables.exec = Jvm.exec) (hZ : Z.Warmed39 s.vm) {own R0 O n d C : String} {index kk : Nat} {ty : FieldType} (hown : s.vm.findClass own = some m.cls) (w : (Cond.fieldLink own index R0 n d).before a0 Z = true) (via : Via Z R0 O n d)
    (eT : T.heap = h) {a : Addr} {v v' old : Value} (F : Fld Z h a O n d old) (E : Exa Z h a C) (L : (Cond.lays C O n d).before a0 Z = true ∨ ((Cond.laysFinal C O n d).before a0 Z = true ∧ own = O ∧ meth.name = "<init>")) (wi : (Cond.instantiable C kk).before a0 Z = true)
    (hty : parseFieldDescriptor d = some ty) (hn : narrow ty v = v') (hf : fits ty v' = true) (hd : decode c.code pc = .ok (.putfield index, 3)) (hp : pc + 3 = pc')
    (K : ∀ T' h' lc, Stand p l e R s m args below meth c T' lc cells slots → T'.heap = h' → Wr h h' a (Jvm.RoadKit.slotOf Z O n d) v' → (∀ n0, n0 ≤ a → Fr n0 locs → Fr n0 lc) → own_W p e below P T' m pc' Ls S) : own_W p e below P T m pc Ls (v :: .ref a :: S) := by
  subst hp
  obtain ⟨T', h', X', e', W', st⟩ := putFN X hx hZ hown w via eT F E L wi hty hn hf (g := mkF m pc Ls (v :: .ref a :: S)) rfl rfl hd
  exact own_go st (K T' h' _ X' e' W' fun _ q N => Fr.snoc X' N q)
theorem own_new (X : Stand p l e R s m args below meth c T locs cells slots) (hx : p.tables.exec = Jvm.exec) (hZ : Z.Warmed39 s.vm) {own C : String} {index n : Nat} (hown : s.vm.findClass own = some m.cls) (w : (Cond.classLink own index C).before a0 Z = true) (wi : (Cond.instantiable C n).before a0 Z = true) (wz : (Cond.initialized C).before a0 Z = true) (eT : T.heap = h)
    (hd : decode c.code pc = .ok (.new index, 3)) (hp : pc + 3 = pc') {cells' slots' : Nat} (hc' : cells + 1 = cells') (hs' : slots + n = slots') (hc : cells' ≤ R.cells) (hl : slots' ≤ R.slots)
    (K : ∀ T' h' a, Stand p l e R s m args below meth c T' locs cells' slots' → T'.heap = h' → Ext h h' → a = h.size → Exa Z h' a C → (∀ {O nm d : String} {ty : FieldType}, Laid Z a0 C O nm d → parseFieldDescriptor d = some ty → Fld Z h' a O nm d (defaultValue ty)) → own_W p e below P T' m pc' Ls (.ref a :: S)) : own_W p e below P T m pc Ls S := by
  subst hp hc' hs'
  obtain ⟨T', h', X', e', E', A', D', -, st⟩ := newO X hx hZ hown w wi wz eT (g := mkF m pc Ls S) rfl hd hc hl
  exact own_go st (K T' h' _ X' e' E' rfl A' D')
theorem own_newarr (X : Stand p l e R s m args below meth c T locs cells slots) (hx : p.tables.exec = Jvm.exec) (hZ : Z.Warmed39 s.vm) {aty : ArrayType} (w : (Cond.arrayClass (newarray.typeOf aty)).before a0 Z = true) (eT : T.heap = h) (hd : decode c.code pc = .ok (.newarray aty, 2)) (hp : pc + 2 = pc') {n : Int32}
    (hn : ¬ n < 0) (cap : Nat) (hcap : n.toNatClampNeg ≤ cap) (hb : cap * 8 ≤ 536870912) {cells' slots' : Nat} (hc' : cells + 1 = cells') (hs' : slots + cap = slots') (hc : cells' ≤ R.cells) (hl : slots' ≤ R.slots)
    (K : ∀ T' h' cA a, Stand p l e R s m args below meth c T' locs cells' slots' → T'.heap = h' → Ext h h' → a = h.size → Arv Z h' a cA (newarray.typeOf aty) n [] (defaultValue (newarray.typeOf aty)) → own_W p e below P T' m pc' Ls (.ref a :: S)) : own_W p e below P T m pc Ls (.int n :: S) := by
  subst hp hc' hs'
  obtain ⟨T', h', cA, X', e', E', A', st⟩ := newP X hx hZ w eT (g := mkF m pc Ls (.int n :: S)) rfl hd rfl hn hcap hb hc hl
  exact own_go st (K T' h' cA _ X' e' E' rfl (Arv.new A' hn))
theorem own_arrlen (X : Stand p l e R s m args below meth c T locs cells slots) (hx : p.tables.exec = Jvm.exec) (hZ : Z.Warmed39 s.vm) (eT : T.heap = h) {a : Addr} {k : ClassId} {ty : FieldType} {n : Int32} {vs : List Value} {dv : Value} (A : Arv Z h a k ty n vs dv) (hd : decode c.code pc = .ok (.arraylength, 1)) (hp : pc + 1 = pc')
    (K : own_W p e below P T m pc' Ls (.int n :: S)) : own_W p e below P T m pc Ls (.ref a :: S) := by
  subst hp
  obtain ⟨cl, Ar, -, Sz, M, -⟩ := A
  have q := len_of Sz M
  rw [← q] at K
  exact own_go (fun t => X.arraylength hx (cell := cl) (by rw [eT]; exact Ar.1) (State.isArrayOf_alike hZ.alike Ar.2.1) (g := mkF m pc Ls (.ref a :: S)) rfl rfl hd t) K
theorem own_iaload (X : Stand p l e R s m args below meth c T locs cells slots) (hx : p.tables.exec = Jvm.exec) (hZ : Z.Warmed39 s.vm) (eT : T.heap = h) {a : Addr} {k : ClassId} {n : Int32} {vs : List Value} {dv : Value} (A : Arv Z h a k .int n vs dv) {j : Int32} {v : Value} (hj : ¬ j < 0 ∧ j < n) (hv : vs.getD j.toNatClampNeg dv = v) (hd : decode c.code pc = .ok (.iaload, 1)) (hp : pc + 1 = pc')
    (K : own_W p e below P T m pc' Ls (v :: S)) : own_W p e below P T m pc Ls (.int j :: .ref a :: S) := by
  subst hp
  obtain ⟨cl, Ar, -, Sz, M, H, -⟩ := A
  have hin := inb_of Sz hj
  exact own_go (fun t => X.iaload hx (cell := cl) (j := j) (v := v) (by rw [eT]; exact Ar.1) (State.isArrayOf_alike hZ.alike Ar.2.1) Ar.2.2 hin (H.at hin hv) (g := mkF m pc Ls (.int j :: .ref a :: S)) rfl rfl hd t) K
theorem own_laload (X : Stand p l e R s m args below meth c T locs cells slots) (hx : p.tables.exec = Jvm.exec) (hZ : Z.Warmed39 s.vm) (eT : T.heap = h) {a : Addr} {k : ClassId} {n : Int32} {vs : List Value} {dv : Value} (A : Arv Z h a k .long n vs dv) {j : Int32} {v : Value} (hj : ¬ j < 0 ∧ j < n) (hv : vs.getD j.toNatClampNeg dv = v) (hd : decode c.code pc = .ok (.laload, 1)) (hp : pc + 1 = pc')
    (K : own_W p e below P T m pc' Ls (v :: S)) : own_W p e below P T m pc Ls (.int j :: .ref a :: S) := by
  subst hp
  obtain ⟨cl, Ar, -, Sz, M, H, -⟩ := A
  have hin := inb_of Sz hj
  exact own_go (fun t => X.laload hx (cell := cl) (j := j) (v := v) (by rw [eT]; exact Ar.1) (State.isArrayOf_alike hZ.alike Ar.2.1) Ar.2.2 hin (H.at hin hv) (g := mkF m pc Ls (.int j :: .ref a :: S)) rfl rfl hd t) K
theorem own_caload (X : Stand p l e R s m args below meth c T locs cells slots) (hx : p.tables.exec = Jvm.exec) (hZ : Z.Warmed39 s.vm) (eT : T.heap = h) {a : Addr} {k : ClassId} {n : Int32} {vs : List Value} {dv : Value} (A : Arv Z h a k .char n vs dv) {j : Int32} {v : Value} (hj : ¬ j < 0 ∧ j < n) (hv : vs.getD j.toNatClampNeg dv = v) (hd : decode c.code pc = .ok (.caload, 1)) (hp : pc + 1 = pc')
    (K : own_W p e below P T m pc' Ls (v :: S)) : own_W p e below P T m pc Ls (.int j :: .ref a :: S) := by
  subst hp
  obtain ⟨cl, Ar, -, Sz, M, H, -⟩ := A
  have hin := inb_of Sz hj
  exact own_go (fun t => X.caload hx (cell := cl) (j := j) (v := v) (by rw [eT]; exact Ar.1) (State.isArrayOf_alike hZ.alike Ar.2.1) Ar.2.2 hin (H.at hin hv) (g := mkF m pc Ls (.int j :: .ref a :: S)) rfl rfl hd t) K
theorem own_baloadB (X : Stand p l e R s m args below meth c T locs cells slots) (hx : p.tables.exec = Jvm.exec) (hZ : Z.Warmed39 s.vm) (eT : T.heap = h) {a : Addr} {k : ClassId} {n : Int32} {vs : List Value} {dv : Value} (A : Arv Z h a k .byte n vs dv) {j : Int32} {v : Value} (hj : ¬ j < 0 ∧ j < n) (hv : vs.getD j.toNatClampNeg dv = v) (hd : decode c.code pc = .ok (.baload, 1)) (hp : pc + 1 = pc')
    (K : own_W p e below P T m pc' Ls (v :: S)) : own_W p e below P T m pc Ls (.int j :: .ref a :: S) := by
  subst hp
  obtain ⟨cl, Ar, -, Sz, M, H, -⟩ := A
  have hin := inb_of Sz hj
  exact own_go (fun t => X.baloadBytes hx (cell := cl) (j := j) (v := v) (by rw [eT]; exact Ar.1) (State.isArrayOf_alike hZ.alike Ar.2.1) Ar.2.2 hin (H.at hin hv) (g := mkF m pc Ls (.int j :: .ref a :: S)) rfl rfl hd t) K
theorem own_baloadZ (X : Stand p l e R s m args below meth c T locs cells slots) (hx : p.tables.exec = Jvm.exec) (hZ : Z.Warmed39 s.vm) (eT : T.heap = h) {a : Addr} {k : ClassId} {n : Int32} {vs : List Value} {dv : Value} (A : Arv Z h a k .boolean n vs dv) {j : Int32} {v : Value} (hj : ¬ j < 0 ∧ j < n) (hv : vs.getD j.toNatClampNeg dv = v) (hd : decode c.code pc = .ok (.baload, 1)) (hp : pc + 1 = pc')
    (K : own_W p e below P T m pc' Ls (v :: S)) : own_W p e below P T m pc Ls (.int j :: .ref a :: S) := by
  subst hp
  obtain ⟨cl, Ar, -, Sz, M, H, -⟩ := A
  have hin := inb_of Sz hj
  exact own_go (fun t => X.baloadBooleans hx (cell := cl) (j := j) (v := v) (by rw [eT]; exact Ar.1) (State.isArrayOf_alike hZ.alike Ar.2.1) Ar.2.2 hin (H.at hin hv) (g := mkF m pc Ls (.int j :: .ref a :: S)) rfl rfl hd t) K
theorem own_aaload (X : Stand p l e R s m args below meth c T locs cells slots) (hx : p.tables.exec = Jvm.exec) (hZ : Z.Warmed39 s.vm) (eT : T.heap = h) {a : Addr} {k : ClassId} {ty : FieldType} (hty : ty.isReference = true) {n : Int32} {vs : List Value} {dv : Value} (A : Arv Z h a k ty n vs dv) {j : Int32} {v : Value} (hj : ¬ j < 0 ∧ j < n) (hv : vs.getD j.toNatClampNeg dv = v) (hd : decode c.code pc = .ok (.aaload, 1)) (hp : pc + 1 = pc')
    (K : own_W p e below P T m pc' Ls (v :: S)) : own_W p e below P T m pc Ls (.int j :: .ref a :: S) := by
  subst hp
  obtain ⟨cl, Ar, -, Sz, M, H, -⟩ := A
  have hin := inb_of Sz hj
  exact own_go (fun t => X.aaload hx (cell := cl) (j := j) (v := v) (by rw [eT]; exact Ar.1) (State.isArrayOf_alike hZ.alike Ar.2.1) hty Ar.2.2 hin (H.at hin hv) (g := mkF m pc Ls (.int j :: .ref a :: S)) rfl rfl hd t) K
theorem own_iastore (X : Stand p l e R s m args below meth c T locs cells slots) (hx : p.tables.exec = Jvm.exec) (hZ : Z.Warmed39 s.vm) (eT : T.heap = h) {a : Addr} {k : ClassId} {n : Int32} {vs : List Value} {dv : Value} (A : Arv Z h a k .int n vs dv) {j : Int32} {x : Int32} (hj : ¬ j < 0 ∧ j < n) (i : Nat) (hi : j.toNatClampNeg = i) (hlen : i < vs.length) (hd : decode c.code pc = .ok (.iastore, 1)) (hp : pc + 1 = pc')
    (K : ∀ T' h' lc, Stand p l e R s m args below meth c T' lc cells slots → T'.heap = h' → Keep h h' [a] → Arv Z h' a k .int n (vs.set i (.int x)) dv → (∀ n0, n0 ≤ a → Fr n0 locs → Fr n0 lc) → own_W p e below P T' m pc' Ls S) : own_W p e below P T m pc Ls (.int x :: .int j :: .ref a :: S) := by
  subst hp
  obtain ⟨cl, Ar, q1, Sz, M, H, G⟩ := A
  obtain ⟨T', h', X', e', W', st⟩ := stI X hx hZ eT Ar (inb_of Sz hj) (g := mkF m pc Ls (.int x :: .int j :: .ref a :: S)) rfl rfl hd
  exact own_go st (K T' h' _ X' e' (Keep.of_wr W') (Arv.set Ar q1 Sz M H G rfl W' i hi hlen) fun _ q N => Fr.snoc X' N q)
theorem own_lastore (X : Stand p l e R s m args below meth c T locs cells slots) (hx : p.tables.exec = Jvm.exec) (hZ : Z.Warmed39 s.vm) (eT : T.heap = h) {a : Addr} {k : ClassId} {n : Int32} {vs : List Value} {dv : Value} (A : Arv Z h a k .long n vs dv) {j : Int32} {x : Int64} (hj : ¬ j < 0 ∧ j < n) (i : Nat) (hi : j.toNatClampNeg = i) (hlen : i < vs.length) (hd : decode c.code pc = .ok (.lastore, 1)) (hp : pc + 1 = pc')
    (K : ∀ T' h' lc, Stand p l e R s m args below meth c T' lc cells slots → T'.heap = h' → Keep h h' [a] → Arv Z h' a k .long n (vs.set i (.long x)) dv → (∀ n0, n0 ≤ a → Fr n0 locs → Fr n0 lc) → own_W p e below P T' m pc' Ls S) : own_W p e below P T m pc Ls (.long x :: .int j :: .ref a :: S) := by
  subst hp
  obtain ⟨cl, Ar, q1, Sz, M, H, G⟩ := A
  obtain ⟨T', h', X', e', W', st⟩ := stJ X hx hZ eT Ar (inb_of Sz hj) (g := mkF m pc Ls (.long x :: .int j :: .ref a :: S)) rfl rfl hd
  exact own_go st (K T' h' _ X' e' (Keep.of_wr W') (Arv.set Ar q1 Sz M H G rfl W' i hi hlen) fun _ q N => Fr.snoc X' N q)
theorem own_castore (X : Stand p l e R s m args below meth c T locs cells slots) (hx : p.tables.exec = Jvm.exec) (hZ : Z.Warmed39 s.vm) (eT : T.heap = h) {a : Addr} {k : ClassId} {n : Int32} {vs : List Value} {dv : Value} (A : Arv Z h a k .char n vs dv) {j : Int32} {x : Int32} (hj : ¬ j < 0 ∧ j < n) (i : Nat) (hi : j.toNatClampNeg = i) (hlen : i < vs.length) (hd : decode c.code pc = .ok (.castore, 1)) (hp : pc + 1 = pc')
    (K : ∀ T' h' lc, Stand p l e R s m args below meth c T' lc cells slots → T'.heap = h' → Keep h h' [a] → Arv Z h' a k .char n (vs.set i (.int (nar .char x))) dv → (∀ n0, n0 ≤ a → Fr n0 locs → Fr n0 lc) → own_W p e below P T' m pc' Ls S) : own_W p e below P T m pc Ls (.int x :: .int j :: .ref a :: S) := by
  subst hp
  obtain ⟨cl, Ar, q1, Sz, M, H, G⟩ := A
  obtain ⟨T', h', X', e', W', st⟩ := stC X hx hZ eT Ar (inb_of Sz hj) (g := mkF m pc Ls (.int x :: .int j :: .ref a :: S)) rfl rfl hd
  exact own_go st (K T' h' _ X' e' (Keep.of_wr W') (Arv.set Ar q1 Sz M H G (fits_nar_char x) W' i hi hlen) fun _ q N => Fr.snoc X' N q)
theorem own_bastoreZ (X : Stand p l e R s m args below meth c T locs cells slots) (hx : p.tables.exec = Jvm.exec) (hZ : Z.Warmed39 s.vm) (eT : T.heap = h) {a : Addr} {k : ClassId} {n : Int32} {vs : List Value} {dv : Value} (A : Arv Z h a k .boolean n vs dv) {j : Int32} {x : Int32} (hj : ¬ j < 0 ∧ j < n) (i : Nat) (hi : j.toNatClampNeg = i) (hlen : i < vs.length) (hd : decode c.code pc = .ok (.bastore, 1)) (hp : pc + 1 = pc')
    (K : ∀ T' h' lc, Stand p l e R s m args below meth c T' lc cells slots → T'.heap = h' → Keep h h' [a] → Arv Z h' a k .boolean n (vs.set i (.int (nar .boolean x))) dv → (∀ n0, n0 ≤ a → Fr n0 locs → Fr n0 lc) → own_W p e below P T' m pc' Ls S) : own_W p e below P T m pc Ls (.int x :: .int j :: .ref a :: S) := by
  subst hp
  obtain ⟨cl, Ar, q1, Sz, M, H, G⟩ := A
  obtain ⟨T', h', X', e', W', st⟩ := stZ X hx hZ eT Ar (inb_of Sz hj) (g := mkF m pc Ls (.int x :: .int j :: .ref a :: S)) rfl rfl hd
  exact own_go st (K T' h' _ X' e' (Keep.of_wr W') (Arv.set Ar q1 Sz M H G (fits_nar_bool x) W' i hi hlen) fun _ q N => Fr.snoc X' N q)
theorem own_bastoreB (X : Stand p l e R s m args below meth c T locs cells slots) (hx : p.tables.exec = Jvm.exec) (hZ : Z.Warmed39 s.vm) (eT : T.heap = h) {a : Addr} {k : ClassId} {n : Int32} {vs : List Value} {dv : Value} (A : Arv Z h a k .byte n vs dv) {j : Int32} {x : Int32} (hj : ¬ j < 0 ∧ j < n) (i : Nat) (hi : j.toNatClampNeg = i) (hlen : i < vs.length) (hd : decode c.code pc = .ok (.bastore, 1)) (hp : pc + 1 = pc')
    (K : ∀ T' h' lc, Stand p l e R s m args below meth c T' lc cells slots → T'.heap = h' → Keep h h' [a] → Arv Z h' a k .byte n (vs.set i (.int (nar .byte x))) dv → (∀ n0, n0 ≤ a → Fr n0 locs → Fr n0 lc) → own_W p e below P T' m pc' Ls S) : own_W p e below P T m pc Ls (.int x :: .int j :: .ref a :: S) := by
  subst hp
  obtain ⟨cl, Ar, q1, Sz, M, H, G⟩ := A
  obtain ⟨T', h', X', e', W', st⟩ := stB X hx hZ eT Ar (inb_of Sz hj) (g := mkF m pc Ls (.int x :: .int j :: .ref a :: S)) rfl rfl hd
  exact own_go st (K T' h' _ X' e' (Keep.of_wr W') (Arv.set Ar q1 Sz M H G (fits_nar_byte x) W' i hi hlen) fun _ q N => Fr.snoc X' N q)
theorem own_cast (X : Stand p l e R s m args below meth c T locs cells slots) (hx : p.tables.exec = Jvm.exec) (hZ : Z.Warmed39 s.vm) {own C : String} {index : Nat} (hown : s.vm.findClass own = some m.cls) (w : (Cond.classLink own index C).before a0 Z = true) (eT : T.heap = h) {a : Addr} (E : Exa Z h a C) (hd : decode c.code pc = .ok (.checkcast index, 3)) (hp : pc + 3 = pc')
    (K : ∀ T', Stand p l e R s m args below meth c T' locs cells slots → T'.heap = h → own_W p e below P T' m pc' Ls (.ref a :: S)) : own_W p e below P T m pc Ls (.ref a :: S) := by
  subst hp
  obtain ⟨T', X', e', st⟩ := castY X hx hZ hown w eT (Ins.self E) (g := mkF m pc Ls (.ref a :: S)) rfl rfl hd
  exact own_go st (K T' X' e')
theorem own_inst (X : Stand p l e R s m args below meth c T locs cells slots) (hx : p.tables.exec = Jvm.exec) (hZ : Z.Warmed39 s.vm) {own C : String} {index : Nat} (hown : s.vm.findClass own = some m.cls) (w : (Cond.classLink own index C).before a0 Z = true) (eT : T.heap = h) {a : Addr} (E : Exa Z h a C) (hd : decode c.code pc = .ok (.instanceof index, 3)) (hp : pc + 3 = pc')
    (K : ∀ T', Stand p l e R s m args below meth c T' locs cells slots → T'.heap = h → own_W p e below P T' m pc' Ls (.int 1 :: S)) : own_W p e below P T m pc Ls (.ref a :: S) := by
  subst hp
  obtain ⟨T', X', e', st⟩ := instY X hx hZ hown w eT (Ins.self E) (g := mkF m pc Ls (.ref a :: S)) rfl rfl hd
  exact own_go st (K T' X' e')
theorem own_acmpne (X : Stand p l e R s m args below meth c T locs cells slots) (hx : p.tables.exec = Jvm.exec) {x y : Addr} {o : Int} {pcY pcN : Nat} (hd : decode c.code pc = .ok (.if_acmp .ne o, 3)) (ho : 0 ≤ (pc : Int) + o) (hY : ((pc : Int) + o).toNat = pcY) (hN : pc + 3 = pcN) (KY : ¬ x = y → own_W p e below P T m pcY Ls S) (KN : x = y → own_W p e below P T m pcN Ls S) : own_W p e below P T m pc Ls (.ref y :: .ref x :: S) :=
  (Classical.em (x = y)).elim (fun q => own_acmpN X hx hd hN rfl rfl (XT.aa_ne_f (congrArg Value.ref q)) (KN q)) (fun q => own_acmpY X hx hd ho hY rfl rfl (XT.aa_ne_t fun z => q (Value.ref.inj z)) (KY q))
theorem own_sta_keep {h' : Heap} {ws : List Addr} {C n d : String} {v : Value} (F : Sta Z h C n d v) (K : Keep h h' ws) (hn : ∀ x ∈ ws, ∀ cell : Cell, h[x]? = some cell → cell.vm.isStatics = false) : Sta Z h' C n d v := by
  obtain ⟨cf, i, k, f, st, cell, h1, h2, h3, h4, h5, h6, h7⟩ := F
  exact ⟨cf, i, k, f, st, cell, h1, h2, h3, h4, K.2.1 _ _ h5 (fun q => by rw [hn _ q _ h5] at h6; cases h6), h6, h7⟩
theorem own_ns_exa {a : Addr} {C : String} (E : Exa Z h a C) : ∀ cell : Cell, h[a]? = some cell → cell.vm.isStatics = false := fun cell hc => by
  obtain ⟨c', k, h1, h2, h3, h4, h5⟩ := E
  cases h1.symm.trans hc; exact h4
theorem own_ns_arv {a : Addr} {k : ClassId} {ty : FieldType} {z : Int32} {vs : List Value} {dv : Value} (A : Arv Z h a k ty z vs dv) : ∀ cell : Cell, h[a]? = some cell → cell.vm.isStatics = false := fun cell hc => by
  obtain ⟨c', Ar, -⟩ := A
  cases Ar.1.symm.trans hc; exact Ar.plain
theorem own_callS (X : Stand p l e R s m args below meth c T locs cells slots) (hx : p.tables.exec = Jvm.exec) (hZ : Z.Warmed39 s.vm) {own : String} {index : Nat} {y : MethodName} {bytes : ByteArray} {maxL : Nat} {ret : Option FieldType} {rm : Room} {Qc : Option Value → Heap → List Loc → Prop} {as' : Array Value} {S' : List Value} (argsL : List Value)
    (hown : s.vm.findClass own = some m.cls) (w1 : (Cond.methodLink own index y).before a0 Z = true) (w2 : (Cond.static y).before a0 Z = true) (w3 : (Cond.initialized y.cls).before a0 Z = true) (w4 : (Cond.code y bytes maxL ret).before a0 Z = true) (hy : y.cls ≠ "java/lang/invoke/MethodHandle" ∧ y.cls ≠ "java/lang/invoke/VarHandle")
    (hM : MetFree l y (head1 [Cond.code y bytes maxL ret] rm) (fun a U => a = as' ∧ Z.Warmed39 U.vm ∧ U.heap = h) (fun _ _ _ _ _ => True) (fun _ U o U' => ∃ v L, o = .returned v ∧ Qc v U'.heap L ∧ FrameEnd U o U' L rm.cells rm.slots))
    (eT : T.heap = h) {W cells' slots' : Nat} (hf : rm.frames + 1 ≤ R.frames) (hl : W + (maxL + 11) + rm.locals ≤ R.locals) (hc' : cells + rm.cells = cells') (hs' : slots + rm.slots = slots') (hc : cells' ≤ R.cells) (hs : slots' ≤ R.slots) (hsize : Ls.size = c.maxLocals) (hlen : ∀ sig, parseMethodDescriptor y.desc = some sig → argsL.length = sig.parameters.length) (has : argsL.toArray = as') (hstk : S' = argsL.reverse ++ S) (hW : 2 * 0 + (S.map fun v => v.category).sum ≤ W) (hd : decode c.code pc = .ok (.invokestatic index, 3)) (hp : pc + 3 = pc')
    (K : ∀ v T' h' L lc, Stand p l e R s m args below meth c T' lc cells' slots' → T'.heap = h' → Qc v h' L → (∀ n0, Fr n0 locs → Fr n0 L → Fr n0 lc) → own_W p e below P T' m pc' Ls (v.toList ++ S)) : own_W p e below P T m pc Ls S' := by
  subst hp hc' hs'
  obtain ⟨v, vm₁, ⟨T1, L1, k1, n1⟩, -, X1, ⟨Lc1, hQ1, l1, y1, z1⟩, st1⟩ := Jvm.LawKit.callS X hx hown (mvT hZ w1) (mvT hZ w2) (mvT hZ w3) (mvT hZ w4) hy (backOf hM hZ w4 w3 hf hl) (g := mkF m pc Ls S') rfl hsize (argsL := argsL) (rest := S) hlen hstk hW hd (fun _ _ => ⟨has, eT, hc, hs⟩)
  dsimp only [Pt.U, Pt.locs, Pt.cells, Pt.slots] at X1 l1 y1 z1 st1 hQ1
  subst l1 y1 z1
  exact own_go st1 (K v T1 _ Lc1 _ X1 rfl hQ1 fun _ a b => Fr.app a b)
theorem own_callN (X : Stand p l e R s m args below meth c T locs cells slots) (hx : p.tables.exec = Jvm.exec) (hZ : Z.Warmed39 s.vm) {own : String} {index : Nat} {y : MethodName} {bytes : ByteArray} {maxL : Nat} {rm : Room} {Qc : Option Value → Heap → List Loc → Prop} {as' : Array Value} {S' : List Value} (a : Addr) (argsL : List Value) (hy1 : y.name = "<init>")
    (hown : s.vm.findClass own = some m.cls) (w1 : (Cond.methodLink own index y).before a0 Z = true) (w2 : (Cond.instanceMethod y).before a0 Z = true) (w3 : (Cond.initialized y.cls).before a0 Z = true) (w4 : (Cond.code y bytes maxL none).before a0 Z = true) (hy : y.cls ≠ "java/lang/invoke/MethodHandle" ∧ y.cls ≠ "java/lang/invoke/VarHandle")
    (hM : MetFree l y (head1 [Cond.code y bytes maxL none] rm) (fun a U => a = as' ∧ Z.Warmed39 U.vm ∧ U.heap = h) (fun _ _ _ _ _ => True) (fun _ U o U' => ∃ v L, o = .returned v ∧ Qc v U'.heap L ∧ FrameEnd U o U' L rm.cells rm.slots))
    (eT : T.heap = h) {W cells' slots' : Nat} (hf : rm.frames + 1 ≤ R.frames) (hl : W + (maxL + 11) + rm.locals ≤ R.locals) (hc' : cells + rm.cells = cells') (hs' : slots + rm.slots = slots') (hc : cells' ≤ R.cells) (hs : slots' ≤ R.slots) (hsize : Ls.size = c.maxLocals) (hlen : ∀ sig, parseMethodDescriptor y.desc = some sig → argsL.length = sig.parameters.length) (has : (.ref a :: argsL).toArray = as') (hstk : S' = argsL.reverse ++ .ref a :: S) (hW : 2 * 0 + (S.map fun v => v.category).sum ≤ W) (hd : decode c.code pc = .ok (.invokespecial index, 3)) (hp : pc + 3 = pc')
    (K : ∀ v T' h' L lc, Stand p l e R s m args below meth c T' lc cells' slots' → T'.heap = h' → Qc v h' L → (∀ n0, Fr n0 locs → Fr n0 L → Fr n0 lc) → own_W p e below P T' m pc' Ls (v.toList ++ S)) : own_W p e below P T m pc Ls S' := by
  subst hp hc' hs'
  obtain ⟨v, vm₁, ⟨T1, L1, k1, n1⟩, -, X1, ⟨Lc1, hQ1, l1, y1, z1⟩, st1⟩ := X.specialBack hx hy1 hown (mvT hZ w1) (mvT hZ w2) (mvT hZ w4) hy (backOf hM hZ w4 w3 hf hl) (g := mkF m pc Ls S') rfl hsize (Steps.refl _) (a := a) (argsL := argsL) (rest := S) hlen hstk hW hd (fun _ _ => ⟨has, eT, hc, hs⟩)
  dsimp only [Pt.U, Pt.locs, Pt.cells, Pt.slots] at X1 l1 y1 z1 st1 hQ1
  subst l1 y1 z1
  exact own_go (fun t k => st1.trans k) (K v T1 _ Lc1 _ X1 rfl hQ1 fun _ a b => Fr.app a b)
theorem own_callV (X : Stand p l e R s m args below meth c T locs cells slots) (hx : p.tables.exec = Jvm.exec) (hZ : Z.Warmed39 s.vm) {own C : String} {index : Nat} {y : MethodName} {bytes : ByteArray} {maxL : Nat} {ret : Option FieldType} {rm : Room} {Qc : Option Value → Heap → List Loc → Prop} {as' : Array Value} {S' : List Value} (a : Addr) (argsL : List Value)
    (hown : s.vm.findClass own = some m.cls) (w1 : (Cond.methodLink own index y).before a0 Z = true) (w2 : (Cond.declares y).before a0 Z = true) (w5 : (Cond.selects C y y).before a0 Z = true) (w6 : (Cond.instanceMethod y).before a0 Z = true) (w3 : (Cond.initialized y.cls).before a0 Z = true) (w4 : (Cond.code y bytes maxL ret).before a0 Z = true) (hy : y.cls ≠ "java/lang/invoke/MethodHandle" ∧ y.cls ≠ "java/lang/invoke/VarHandle")
    (hM : MetFree l y (head1 [Cond.code y bytes maxL ret] rm) (fun a U => a = as' ∧ Z.Warmed39 U.vm ∧ U.heap = h) (fun _ _ _ _ _ => True) (fun _ U o U' => ∃ v L, o = .returned v ∧ Qc v U'.heap L ∧ FrameEnd U o U' L rm.cells rm.slots))
    (E : Exa Z h a C) (eT : T.heap = h) {W cells' slots' : Nat} (hf : rm.frames + 1 ≤ R.frames) (hl : W + (maxL + 11) + rm.locals ≤ R.locals) (hc' : cells + rm.cells = cells') (hs' : slots + rm.slots = slots') (hc : cells' ≤ R.cells) (hs : slots' ≤ R.slots) (hsize : Ls.size = c.maxLocals) (hlen : ∀ sig, parseMethodDescriptor y.desc = some sig → argsL.length = sig.parameters.length) (has : (.ref a :: argsL).toArray = as') (hstk : S' = argsL.reverse ++ .ref a :: S) (hW : 2 * 0 + (S.map fun v => v.category).sum ≤ W) (hd : decode c.code pc = .ok (.invokevirtual index, 3)) (hp : pc + 3 = pc')
    (K : ∀ v T' h' L lc, Stand p l e R s m args below meth c T' lc cells' slots' → T'.heap = h' → Qc v h' L → (∀ n0, Fr n0 locs → Fr n0 L → Fr n0 lc) → own_W p e below P T' m pc' Ls (v.toList ++ S)) : own_W p e below P T m pc Ls S' := by
  subst hp hc' hs'
  obtain ⟨cq, kq, qa, qb, qc⟩ := isOf hZ eT E
  obtain ⟨v, vm₁, ⟨T1, L1, k1, n1⟩, -, X1, ⟨Lc1, hQ1, l1, y1, z1⟩, st1⟩ := X.virtualBack hx hown (mvT hZ w1) (mvT hZ w2) (notFace_of_selects (args := #[]) (mvT hZ w5)) (mvT hZ w5) (mvT hZ w6) hy (backOf hM hZ w4 w3 hf hl) qa qc (g := mkF m pc Ls S') rfl hsize (Steps.refl _) (argsL := argsL) (rest := S) hlen hstk hW hd (fun _ _ => ⟨has, eT, hc, hs⟩)
  dsimp only [Pt.U, Pt.locs, Pt.cells, Pt.slots] at X1 l1 y1 z1 st1 hQ1
  subst l1 y1 z1
  exact own_go (fun t k => st1.trans k) (K v T1 _ Lc1 _ X1 rfl hQ1 fun _ a b => Fr.app a b)
theorem own_initO (X : Stand p l e R s m args below meth c T locs cells slots) (hx : p.tables.exec = Jvm.exec) (hZ : Z.Warmed39 s.vm) {own : String} {idx : Nat} (hown : s.vm.findClass own = some m.cls) (w1 : (Cond.methodLink own idx Lib.objectInit).before a0 Z = true) (w2 : (Cond.instanceMethod Lib.objectInit).before a0 Z = true) (w3 : (Cond.code Lib.objectInit ⟨#[0xb1]⟩ 1 none).before a0 Z = true) (eT : T.heap = h)
    (hsize : Ls.size = c.maxLocals) {a : Addr} (hd : decode c.code pc = .ok (.invokespecial idx, 3)) (hp : pc + 3 = pc') (hf : 1 ≤ R.frames) {W : Nat} (hW : 2 * 0 + (S.map fun v => v.category).sum ≤ W) (hl : W + 12 ≤ R.locals)
    (K : ∀ T', Stand p l e R s m args below meth c T' locs cells slots → T'.heap = h → own_W p e below P T' m pc' Ls S) : own_W p e below P T m pc Ls (.ref a :: S) := by
  subst hp
  obtain ⟨T', X', e', st⟩ := initO X hx hZ hown w1 w2 w3 eT (g := mkF m pc Ls (.ref a :: S)) rfl hsize rfl hd hf (W := W) hW hl
  exact own_go st (K T' X' e')
/-! returns -/
theorem own_retI (X : Stand p l e R s m args below meth c T locs cells slots) (hx : p.tables.exec = Jvm.exec) (hlk : meth.locks = false) {t : FieldType} {w w' : Value} (hret : meth.sig.returnType = some t) (hd : decode c.code pc = .ok (.ireturn, 1)) {z : Int32} (hw : w = .int z) (hn : narrow t w = w') (ht : t = .int ∨ t = .boolean ∨ t = .byte ∨ t = .char ∨ t = .short) (hc : cells ≤ kc) (hs : slots ≤ ks) (hq : Q (some w') T.heap locs) : own_W p e below (own_Post s Q kc ks) T m pc Ls (w :: S) := by
  subst hw
  obtain ⟨fs, hr, hrun, hended, hW, hsame⟩ := X.leave (v := some w') (fun h => by rw [hret] at h; cases h) hlk
  refine ⟨_, _, ?_, hrun, hended, _, _, rfl, hq, ⟨_, rfl⟩, hW, hsame.mono hc hs⟩
  have hm' : T.vm.method? m = some meth := X.method'
  show Steps p.tables e below (T.setTop { method := m, pc := pc, locals := Ls, stack := _ :: S, locked := none }) _
  rcases ht with rfl | rfl | rfl | rfl | rfl
  all_goals
    jvm_step X.here [X.here.top, hx, hd, hm', hret, hn]
    first | (intro acts; rw [hr _ acts rfl rfl rfl]) | rw [hr _ _ rfl rfl rfl]
    exact Steps.refl _
theorem own_retJ (X : Stand p l e R s m args below meth c T locs cells slots) (hx : p.tables.exec = Jvm.exec) (hlk : meth.locks = false) {z : Int64} (hret : meth.sig.returnType = some .long) (hd : decode c.code pc = .ok (.lreturn, 1)) (hc : cells ≤ kc) (hs : slots ≤ ks) (hq : Q (some (.long z)) T.heap locs) : own_W p e below (own_Post s Q kc ks) T m pc Ls (.long z :: S) := by
  obtain ⟨fs, hr, hrun, hended, hW, hsame⟩ := X.leave (v := some (.long z)) (fun h => by rw [hret] at h; cases h) hlk
  exact ⟨_, _, retOut X hx hret rfl (Or.inr (Or.inl ⟨rfl, rfl, z, rfl⟩)) hd hr, hrun, hended, _, _, rfl, hq, ⟨_, rfl⟩, hW, hsame.mono hc hs⟩
theorem own_retA (X : Stand p l e R s m args below meth c T locs cells slots) (hx : p.tables.exec = Jvm.exec) (hlk : meth.locks = false) {t : FieldType} {w : Value} (hret : meth.sig.returnType = some t) (hd : decode c.code pc = .ok (.areturn, 1)) (ht : t.isReference = true) (hw : w.isRef = true) (hn : narrow t w = w) (hc : cells ≤ kc) (hs : slots ≤ ks) (hq : Q (some w) T.heap locs) : own_W p e below (own_Post s Q kc ks) T m pc Ls (w :: S) := by
  obtain ⟨fs, hr, hrun, hended, hW, hsame⟩ := X.leave (v := some w) (fun h => by rw [hret] at h; cases h) hlk
  exact ⟨_, _, retOut X hx hret hn (Or.inr (Or.inr (Or.inr (Or.inr ⟨rfl, ht, hw⟩)))) hd hr, hrun, hended, _, _, rfl, hq, ⟨_, rfl⟩, hW, hsame.mono hc hs⟩
theorem own_ret0 (X : Stand p l e R s m args below meth c T locs cells slots) (hx : p.tables.exec = Jvm.exec) (hlk : meth.locks = false) (hret : meth.sig.returnType = none) (hd : decode c.code pc = .ok (.return_, 1)) (hc : cells ≤ kc) (hs : slots ≤ ks) (hq : Q none T.heap locs) : own_W p e below (own_Post s Q kc ks) T m pc Ls [] := by
  obtain ⟨fs, hr, hrun, hended, hW, hsame⟩ := X.leave (v := none) (fun _ => rfl) hlk
  exact ⟨_, _, X.returnOut hx hret hd hr, hrun, hended, _, _, rfl, hq, ⟨_, rfl⟩, hW, hsame.mono hc hs⟩
end OwnKit
/-! ## the wide walk: String constants may be loaded; the Stand is over the start with the tables at hand (s.setVm vm0) -/
def own_PostS (Z : State) (EL : List (String × Nat)) (s : State) (Q : Option Value → Heap → List Loc → Prop) (kc ks : Nat) (o : Outcome) (s₂ : State) : Prop := ∃ v L, o = .returned v ∧ Q v s₂.heap L ∧ CHr Z EL s.vm s.heap s₂.vm s₂.heap ∧ ReturnedEndW s o s₂ L kc ks
theorem own_endW {s t : State} {o : Outcome} {L : List Loc} {k n k' n' : Nat} (h : ReturnedEndW s o t L k n) (hk : k ≤ k') (hn : n ≤ n') : ReturnedEndW s o t L k' n' := ⟨h.1, h.2.1, h.2.2.1, h.2.2.2.mono hk hn⟩
section OwnKit3
variable {p : Program} {l : Launch} {e : Env} {R : Room} {s : State} {m : MethodId} {args : Array Value} {below : List Frame} {meth : Method} {c : Code} {T : State} {locs : List Loc} {cells slots : Nat} {Z : State} {a0 : Array Value} {h h0 : Heap}
  {P : Outcome → State → Prop} {Q : Option Value → Heap → List Loc → Prop} {kc ks : Nat} {pc pc' : Nat} {Ls Ls' : Array Slot} {S : List Value} {EL : List (String × Nat)} {vm0 : Vm} {k0 : Nat}
theorem own_enterS {ml : Nat} (q : entryFrame m args ml = mkF m 0 Ls []) (K : own_W p e below (own_PostS Z EL s Q kc ks) T m 0 Ls []) :
    ∃ s₂ o, Steps p.tables e below (T.setTop (entryFrame m args ml)) s₂ ∧ s₂.status = .running ∧ Ended s₂ below o ∧ ∃ v L, o = .returned v ∧ Q v s₂.heap L ∧ CHr Z EL s.vm s.heap s₂.vm s₂.heap ∧ ReturnedEndW s o s₂ L kc ks := by
  rw [q]; exact K
theorem own_ldcS (X : Stand p l e R (s.setVm vm0) m args below meth c T locs cells slots) (hx : p.tables.exec = Jvm.exec) (hZ : Z.Warmed39 (s.setVm vm0).vm) {own text : String} {index : Nat} (hown : (s.setVm vm0).vm.findClass own = some m.cls) (w : (Cond.stringLink own index text).before a0 Z = true) (wS : ∀ a ∈ Bundle.stringAtoms, a.before a0 Z = true)
    (eT : T.heap = h) (hS : s.Since vm0 k0) (hk : k0 ≤ h.size) (hEL : EW Z a0 EL) (hmem : (own, index) ∈ EL) (H : CHv Z EL vm0 h) (vs : List Value) (z : Int32) (ht : (∀ c ∈ text.toList, c.toNat < 256) ∧ text.toList.map (fun c => Value.int (Jvm.Lit.byteI c.toNat.toUInt16)) = vs) (hz : ¬ z < 0) (hl : z.toNatClampNeg = vs.length)
    (hd : decode c.code pc = .ok (.ldc index, 2)) (hp : pc + 2 = pc') (n : Nat) (hn : 4 * text.toList.length ≤ n) (hbig : n ≤ 536870912) {cells' slots' : Nat} (hc' : cells + 2 = cells') (hs' : slots + (n + 4) = slots') (hc : cells' ≤ R.cells) (hl' : slots' ≤ R.slots)
    (K : ∀ a T' h' k1 b k vm1, Stand p l e R (s.setVm vm1) m args below meth c T' locs cells' slots' → T'.heap = h' → Ext h h' → s.Since vm1 k1 → k1 ≤ h'.size → Z.Warmed39 (s.setVm vm1).vm → (s.setVm vm1).vm.findClass own = some m.cls →
      Exa Z h' a "java/lang/String" → Fld Z h' a "java/lang/String" "coder" "B" (.int 0) → Fld Z h' a "java/lang/String" "value" "[B" (.ref b) → Arv Z h' b k .byte z vs (.int 0) → CHr Z EL vm0 h vm1 h' → (∀ x, Safe Z EL vm1 h' x → x ≠ a ∧ x ≠ b) → own_W p e below P T' m pc' Ls (.ref a :: S)) : own_W p e below P T m pc Ls S := by
  subst hp hc' hs'
  obtain ⟨a, T', h', k1, b, k, X', e', E', S', hk', hZ', ho', Ea, Fc, Fv, Av, -, -, C', -, hne, st⟩ := ldcCH X hx hZ hown w wS eT hS hk hEL hmem H ht hz hl (g := mkF m pc Ls S) rfl hd hn hbig hc hl'
  exact own_go st (K a T' h' k1 b k T'.vm X' e' E' S' hk' hZ' ho' Ea Fc Fv Av C' hne)
theorem own_callSS (X : Stand p l e R (s.setVm vm0) m args below meth c T locs cells slots) (hx : p.tables.exec = Jvm.exec) (hZ : Z.Warmed39 (s.setVm vm0).vm) {own : String} {index : Nat} {y : MethodName} {bytes : ByteArray} {maxL : Nat} {ret : Option FieldType} {rm : Room} {Qc : Option Value → Heap → List Loc → Prop} {as' : Array Value} {S' : List Value} (argsL : List Value)
    (hown : (s.setVm vm0).vm.findClass own = some m.cls) (w1 : (Cond.methodLink own index y).before a0 Z = true) (w2 : (Cond.static y).before a0 Z = true) (w3 : (Cond.initialized y.cls).before a0 Z = true) (w4 : (Cond.code y bytes maxL ret).before a0 Z = true) (hy : y.cls ≠ "java/lang/invoke/MethodHandle" ∧ y.cls ≠ "java/lang/invoke/VarHandle")
    (hM : MetFree l y (head1 [Cond.code y bytes maxL ret] rm) (fun a U => a = as' ∧ Z.Warmed39 U.vm ∧ U.heap = h ∧ CHv Z EL U.vm h) (fun _ _ _ _ _ => True) (fun _ U o U' => ∃ v L, o = .returned v ∧ Qc v U'.heap L ∧ CHr Z EL U.vm U.heap U'.vm U'.heap ∧ ReturnedEndW U o U' L rm.cells rm.slots))
    (eT : T.heap = h) (hS : s.Since vm0 k0) (hk : k0 ≤ h.size) (hEL : EW Z a0 EL) (H : CHv Z EL vm0 h) {W cells' slots' : Nat} (hf : rm.frames + 1 ≤ R.frames) (hl : W + (maxL + 11) + rm.locals ≤ R.locals) (hc' : cells + rm.cells = cells') (hs' : slots + rm.slots = slots') (hc : cells' ≤ R.cells) (hs : slots' ≤ R.slots) (hsize : Ls.size = c.maxLocals)
    (hlen : ∀ sig, parseMethodDescriptor y.desc = some sig → argsL.length = sig.parameters.length) (has : argsL.toArray = as') (hstk : S' = argsL.reverse ++ S) (hW : 2 * 0 + (S.map fun v => v.category).sum ≤ W) (hd : decode c.code pc = .ok (.invokestatic index, 3)) (hp : pc + 3 = pc')
    (K : ∀ v T' h' L lc vm1 k1, Stand p l e R (s.setVm vm1) m args below meth c T' lc cells' slots' → T'.heap = h' → s.Since vm1 k1 → k1 ≤ h'.size → Z.Warmed39 (s.setVm vm1).vm → (s.setVm vm1).vm.findClass own = some m.cls → CHr Z EL vm0 h vm1 h' → Qc v h' L → (∀ n0, Fr n0 locs → Fr n0 L → Fr n0 lc) → own_W p e below P T' m pc' Ls (v.toList ++ S)) : own_W p e below P T m pc Ls S' := by
  subst hp hc' hs' eT
  obtain ⟨v, vm₁, ⟨T1, L1, k1, n1⟩, -, X1, S1, g1, ⟨Lc1, hQ1, l1, y1, z1, C1⟩, st1⟩ := callSS X hx hown (mvT hZ w1) (mvT hZ w2) (mvT hZ w3) (mvT hZ w4) hy (backOfSH (s := s) (vm0 := vm0) hM hZ w4 w3 hf hl hEL H) (g := mkF m pc Ls S') rfl hsize (argsL := argsL) (rest := S) hlen hstk hW hd (fun _ _ => ⟨has, rfl, hc, hs⟩)
  dsimp only [Pt.U, Pt.locs, Pt.cells, Pt.slots] at X1 l1 y1 z1 st1 hQ1 S1 g1 C1
  subst l1 y1 z1
  obtain ⟨X2, S2, Z2, o2⟩ := rebS hS hk X1 S1 g1 hZ hown
  exact own_go (fun t k => st1.trans k) (K v T1 _ Lc1 _ _ _ X2 rfl S2 (Nat.le_refl _) Z2 o2 C1 hQ1 fun _ a b => Fr.app a b)
theorem own_callNS (X : Stand p l e R (s.setVm vm0) m args below meth c T locs cells slots) (hx : p.tables.exec = Jvm.exec) (hZ : Z.Warmed39 (s.setVm vm0).vm) {own : String} {index : Nat} {y : MethodName} {bytes : ByteArray} {maxL : Nat} {rm : Room} {Qc : Option Value → Heap → List Loc → Prop} {as' : Array Value} {S' : List Value} (a : Addr) (argsL : List Value) (hy1 : y.name = "<init>")
    (hown : (s.setVm vm0).vm.findClass own = some m.cls) (w1 : (Cond.methodLink own index y).before a0 Z = true) (w2 : (Cond.instanceMethod y).before a0 Z = true) (w3 : (Cond.initialized y.cls).before a0 Z = true) (w4 : (Cond.code y bytes maxL none).before a0 Z = true) (hy : y.cls ≠ "java/lang/invoke/MethodHandle" ∧ y.cls ≠ "java/lang/invoke/VarHandle")
    (hM : MetFree l y (head1 [Cond.code y bytes maxL none] rm) (fun a U => a = as' ∧ Z.Warmed39 U.vm ∧ U.heap = h ∧ CHv Z EL U.vm h) (fun _ _ _ _ _ => True) (fun _ U o U' => ∃ v L, o = .returned v ∧ Qc v U'.heap L ∧ CHr Z EL U.vm U.heap U'.vm U'.heap ∧ ReturnedEndW U o U' L rm.cells rm.slots))
    (eT : T.heap = h) (hS : s.Since vm0 k0) (hk : k0 ≤ h.size) (hEL : EW Z a0 EL) (H : CHv Z EL vm0 h) {W cells' slots' : Nat} (hf : rm.frames + 1 ≤ R.frames) (hl : W + (maxL + 11) + rm.locals ≤ R.locals) (hc' : cells + rm.cells = cells') (hs' : slots + rm.slots = slots') (hc : cells' ≤ R.cells) (hs : slots' ≤ R.slots) (hsize : Ls.size = c.maxLocals)
    (hlen : ∀ sig, parseMethodDescriptor y.desc = some sig → argsL.length = sig.parameters.length) (has : (.ref a :: argsL).toArray = as') (hstk : S' = argsL.reverse ++ .ref a :: S) (hW : 2 * 0 + (S.map fun v => v.category).sum ≤ W) (hd : decode c.code pc = .ok (.invokespecial index, 3)) (hp : pc + 3 = pc')
    (K : ∀ v T' h' L lc vm1 k1, Stand p l e R (s.setVm vm1) m args below meth c T' lc cells' slots' → T'.heap = h' → s.Since vm1 k1 → k1 ≤ h'.size → Z.Warmed39 (s.setVm vm1).vm → (s.setVm vm1).vm.findClass own = some m.cls → CHr Z EL vm0 h vm1 h' → Qc v h' L → (∀ n0, Fr n0 locs → Fr n0 L → Fr n0 lc) → own_W p e below P T' m pc' Ls (v.toList ++ S)) : own_W p e below P T m pc Ls S' := by
  subst hp hc' hs' eT
  obtain ⟨v, vm₁, ⟨T1, L1, k1, n1⟩, -, X1, S1, g1, ⟨Lc1, hQ1, l1, y1, z1, C1⟩, st1⟩ := X.specialBackS hx hy1 hown (mvT hZ w1) (mvT hZ w2) (mvT hZ w4) hy (backOfSH (s := s) (vm0 := vm0) hM hZ w4 w3 hf hl hEL H) (g := mkF m pc Ls S') rfl hsize (Steps.refl _) (a := a) (argsL := argsL) (rest := S) hlen hstk hW hd (fun _ _ => ⟨has, rfl, hc, hs⟩)
  dsimp only [Pt.U, Pt.locs, Pt.cells, Pt.slots] at X1 l1 y1 z1 st1 hQ1 S1 g1 C1
  subst l1 y1 z1
  obtain ⟨X2, S2, Z2, o2⟩ := rebS hS hk X1 S1 g1 hZ hown
  exact own_go (fun t k => st1.trans k) (K v T1 _ Lc1 _ _ _ X2 rfl S2 (Nat.le_refl _) Z2 o2 C1 hQ1 fun _ a b => Fr.app a b)
theorem own_callVS (X : Stand p l e R (s.setVm vm0) m args below meth c T locs cells slots) (hx : p.tables.exec = Jvm.exec) (hZ : Z.Warmed39 (s.setVm vm0).vm) {own C : String} {index : Nat} {y : MethodName} {bytes : ByteArray} {maxL : Nat} {ret : Option FieldType} {rm : Room} {Qc : Option Value → Heap → List Loc → Prop} {as' : Array Value} {S' : List Value} (a : Addr) (argsL : List Value)
    (hown : (s.setVm vm0).vm.findClass own = some m.cls) (w1 : (Cond.methodLink own index y).before a0 Z = true) (w2 : (Cond.declares y).before a0 Z = true) (w5 : (Cond.selects C y y).before a0 Z = true) (w6 : (Cond.instanceMethod y).before a0 Z = true) (w3 : (Cond.initialized y.cls).before a0 Z = true) (w4 : (Cond.code y bytes maxL ret).before a0 Z = true) (hy : y.cls ≠ "java/lang/invoke/MethodHandle" ∧ y.cls ≠ "java/lang/invoke/VarHandle")
    (hM : MetFree l y (head1 [Cond.code y bytes maxL ret] rm) (fun a U => a = as' ∧ Z.Warmed39 U.vm ∧ U.heap = h ∧ CHv Z EL U.vm h) (fun _ _ _ _ _ => True) (fun _ U o U' => ∃ v L, o = .returned v ∧ Qc v U'.heap L ∧ CHr Z EL U.vm U.heap U'.vm U'.heap ∧ ReturnedEndW U o U' L rm.cells rm.slots))
    (E : Exa Z h a C) (eT : T.heap = h) (hS : s.Since vm0 k0) (hk : k0 ≤ h.size) (hEL : EW Z a0 EL) (H : CHv Z EL vm0 h) {W cells' slots' : Nat} (hf : rm.frames + 1 ≤ R.frames) (hl : W + (maxL + 11) + rm.locals ≤ R.locals) (hc' : cells + rm.cells = cells') (hs' : slots + rm.slots = slots') (hc : cells' ≤ R.cells) (hs : slots' ≤ R.slots) (hsize : Ls.size = c.maxLocals)
    (hlen : ∀ sig, parseMethodDescriptor y.desc = some sig → argsL.length = sig.parameters.length) (has : (.ref a :: argsL).toArray = as') (hstk : S' = argsL.reverse ++ .ref a :: S) (hW : 2 * 0 + (S.map fun v => v.category).sum ≤ W) (hd : decode c.code pc = .ok (.invokevirtual index, 3)) (hp : pc + 3 = pc')
    (K : ∀ v T' h' L lc vm1 k1, Stand p l e R (s.setVm vm1) m args below meth c T' lc cells' slots' → T'.heap = h' → s.Since vm1 k1 → k1 ≤ h'.size → Z.Warmed39 (s.setVm vm1).vm → (s.setVm vm1).vm.findClass own = some m.cls → CHr Z EL vm0 h vm1 h' → Qc v h' L → (∀ n0, Fr n0 locs → Fr n0 L → Fr n0 lc) → own_W p e below P T' m pc' Ls (v.toList ++ S)) : own_W p e below P T m pc Ls S' := by
  subst hp hc' hs' eT
  obtain ⟨cq, kq, qa, qb, qc⟩ := isOf hZ rfl E
  obtain ⟨v, vm₁, ⟨T1, L1, k1, n1⟩, -, X1, S1, g1, ⟨Lc1, hQ1, l1, y1, z1, C1⟩, st1⟩ := X.virtualBackS hx hown (mvT hZ w1) (mvT hZ w2) (notFace_of_selects (args := #[]) (mvT hZ w5)) (mvT hZ w5) (mvT hZ w6) hy (backOfSH (s := s) (vm0 := vm0) hM hZ w4 w3 hf hl hEL H) qa qc (g := mkF m pc Ls S') rfl hsize (Steps.refl _) (argsL := argsL) (rest := S) hlen hstk hW hd (fun _ _ => ⟨has, rfl, hc, hs⟩)
  dsimp only [Pt.U, Pt.locs, Pt.cells, Pt.slots] at X1 l1 y1 z1 st1 hQ1 S1 g1 C1
  subst l1 y1 z1
  obtain ⟨X2, S2, Z2, o2⟩ := rebS hS hk X1 S1 g1 hZ hown
  exact own_go (fun t k => st1.trans k) (K v T1 _ Lc1 _ _ _ X2 rfl S2 (Nat.le_refl _) Z2 o2 C1 hQ1 fun _ a b => Fr.app a b)
theorem own_chr (X : Stand p l e R (s.setVm vm0) m args below meth c T locs cells slots) (hZ : Z.Warmed39 (s.setVm vm0).vm) (eT : T.heap = h) (hh : s.heap = h0) (hEL : EW Z a0 EL) (H : CHv Z EL vm0 h) (CR : CHr Z EL s.vm h0 vm0 h) (fs : List Frame) : CHr Z EL s.vm s.heap (T.setFrames fs).vm (T.setFrames fs).heap := by
  have q := CR.trans (CHv.at X hZ hEL H)
  rw [← hh, ← eT] at q
  exact q
theorem own_retIS (X : Stand p l e R (s.setVm vm0) m args below meth c T locs cells slots) (hx : p.tables.exec = Jvm.exec) (hlk : meth.locks = false) (hZ : Z.Warmed39 (s.setVm vm0).vm) (eT : T.heap = h) (hh : s.heap = h0) (hS : s.Since vm0 k0) (hk : k0 ≤ h.size) (hEL : EW Z a0 EL) (H : CHv Z EL vm0 h) (CR : CHr Z EL s.vm h0 vm0 h)
    {t : FieldType} {w w' : Value} (hret : meth.sig.returnType = some t) (hd : decode c.code pc = .ok (.ireturn, 1)) {z : Int32} (hw : w = .int z) (hn : narrow t w = w') (ht : t = .int ∨ t = .boolean ∨ t = .byte ∨ t = .char ∨ t = .short) (hc : cells ≤ kc) (hs : slots ≤ ks) (hq : Q (some w') T.heap locs) : own_W p e below (own_PostS Z EL s Q kc ks) T m pc Ls (w :: S) := by
  subst hw
  obtain ⟨fs, hr, hrun, hended, hW⟩ := X.leaveW hS (by rw [eT]; exact hk) (v := some w') (fun h => by rw [hret] at h; cases h) hlk
  refine ⟨_, _, ?_, hrun, hended, _, _, rfl, hq, own_chr X hZ eT hh hEL H CR fs, own_endW hW hc hs⟩
  have hm' : T.vm.method? m = some meth := X.method'
  show Steps p.tables e below (T.setTop { method := m, pc := pc, locals := Ls, stack := _ :: S, locked := none }) _
  rcases ht with rfl | rfl | rfl | rfl | rfl
  all_goals
    jvm_step X.here [X.here.top, hx, hd, hm', hret, hn]
    first | (intro acts; rw [hr _ acts rfl rfl rfl]) | rw [hr _ _ rfl rfl rfl]
    exact Steps.refl _
theorem own_retAS (X : Stand p l e R (s.setVm vm0) m args below meth c T locs cells slots) (hx : p.tables.exec = Jvm.exec) (hlk : meth.locks = false) (hZ : Z.Warmed39 (s.setVm vm0).vm) (eT : T.heap = h) (hh : s.heap = h0) (hS : s.Since vm0 k0) (hk : k0 ≤ h.size) (hEL : EW Z a0 EL) (H : CHv Z EL vm0 h) (CR : CHr Z EL s.vm h0 vm0 h)
    {t : FieldType} {w : Value} (hret : meth.sig.returnType = some t) (hd : decode c.code pc = .ok (.areturn, 1)) (ht : t.isReference = true) (hw : w.isRef = true) (hn : narrow t w = w) (hc : cells ≤ kc) (hs : slots ≤ ks) (hq : Q (some w) T.heap locs) : own_W p e below (own_PostS Z EL s Q kc ks) T m pc Ls (w :: S) := by
  obtain ⟨fs, hr, hrun, hended, hW⟩ := X.leaveW hS (by rw [eT]; exact hk) (v := some w) (fun h => by rw [hret] at h; cases h) hlk
  exact ⟨_, _, retOut X hx hret hn (Or.inr (Or.inr (Or.inr (Or.inr ⟨rfl, ht, hw⟩)))) hd hr, hrun, hended, _, _, rfl, hq, own_chr X hZ eT hh hEL H CR fs, own_endW hW hc hs⟩
theorem own_ret0S (X : Stand p l e R (s.setVm vm0) m args below meth c T locs cells slots) (hx : p.tables.exec = Jvm.exec) (hlk : meth.locks = false) (hZ : Z.Warmed39 (s.setVm vm0).vm) (eT : T.heap = h) (hh : s.heap = h0) (hS : s.Since vm0 k0) (hk : k0 ≤ h.size) (hEL : EW Z a0 EL) (H : CHv Z EL vm0 h) (CR : CHr Z EL s.vm h0 vm0 h)
    (hret : meth.sig.returnType = none) (hd : decode c.code pc = .ok (.return_, 1)) (hc : cells ≤ kc) (hs : slots ≤ ks) (hq : Q none T.heap locs) : own_W p e below (own_PostS Z EL s Q kc ks) T m pc Ls [] := by
  obtain ⟨fs, hr, hrun, hended, hW⟩ := X.leaveW hS (by rw [eT]; exact hk) (v := none) (fun _ => rfl) hlk
  exact ⟨_, _, X.returnOut hx hret hd hr, hrun, hended, _, _, rfl, hq, own_chr X hZ eT hh hEL H CR fs, own_endW hW hc hs⟩
end OwnKit3
/-- a String under construction (its value is null yet) is no booked literal -/
theorem own_safe_null {Z : State} {EL : List (String × Nat)} {vm : Vm} {h : Heap} {x : Addr} (hal : Z.vm.Alike vm) (E : Exa Z h x "java/lang/String") (F : Fld Z h x "java/lang/String" "value" "[B" .null) : Safe Z EL vm h x := by
  rintro ⟨p, hp, u, a, hb, q, rfl, ⟨cS, ⟨⟨s1, s2, s3, ⟨cv, kv, iv, s4, s4'⟩, ⟨cc, kc, ic, s5, s5'⟩, s6, s7, s8, s9, s10, s11, s12, s13, s14, s15, s16⟩, hfS, hcS⟩, ⟨kS, k1, k2, k3⟩, hB, hbyt⟩, hy⟩
  rcases hy with rfl | rfl
  · obtain ⟨cell, cf, k, i, f, f1, f2, f3, f4, f5, f6, f7⟩ := F
    obtain ⟨kv', z4⟩ := ff_back (Z := Z) (U := Wst Z vm h) hal s4
    have c1 : h[q.sa]? = some q.sC := s1
    cases c1.symm.trans f1
    cases z4.symm.trans f2
    cases s8.symm.trans f7
  · obtain ⟨cell, k, e1, e2, e3, e4, e5⟩ := E
    have c1 : h[q.sd]? = some q.SA := s10
    cases c1.symm.trans e1
    have hfS' : Z.vm.findClass "java/lang/String" = some q.SA.cls := e2
    have hB' : Z.vm.findClass "[B" = some q.SA.cls := by rw [← hal.findClass]; exact hB
    obtain ⟨ka, a1, a2⟩ := Vm.findClass_spec hfS'
    obtain ⟨kb, b1, b2⟩ := Vm.findClass_spec hB'
    cases a1.symm.trans b1
    exact absurd (a2.symm.trans b2) (by decide)
theorem own_arv_at {Z : State} {h : Heap} {a : Addr} {k k' : ClassId} {ty ty' : FieldType} {z z' : Int32} {vs vs' : List Value} {d d' : Value} (A : Arv Z h a k ty z vs d) (B : Arv Z h a k' ty' z' vs' d') (i : Nat) (hi : i < z.toNatClampNeg) : vs.getD i d = vs'.getD i d' := by
  obtain ⟨c1, a1, -, s1, -, h1, -⟩ := A
  obtain ⟨c2, b1, -, s2, -, h2, -⟩ := B
  cases a1.1.symm.trans b1.1
  exact Option.some.inj ((h1 i (by rw [s1]; exact hi)).symm.trans (h2 i (by rw [s1]; exact hi)))
theorem own_fld_at {Z : State} {h : Heap} {a : Addr} {C n d : String} {v w : Value} (F : Fld Z h a C n d v) (G : Fld Z h a C n d w) : v = w := Classical.byContradiction fun q => F.ne G q rfl
def own_EL : List (String × Nat) := consts_1
theorem own_mem_28 : ("java/lang/String", 7) ∈ own_EL := by simp [own_EL, consts_1]
theorem own_txt_28 : (∀ c ∈ "".toList, c.toNat < 256) ∧ "".toList.map (fun c => Value.int (Jvm.Lit.byteI c.toNat.toUInt16)) = [] := by decide +kernel
theorem own_mem_40 : ("com/example/bleeper/bleeper/cli/Arguments", 125) ∈ own_EL := by simp [own_EL, consts_1]
theorem own_txt_40 : (∀ c ∈ "--help".toList, c.toNat < 256) ∧ "--help".toList.map (fun c => Value.int (Jvm.Lit.byteI c.toNat.toUInt16)) = [(.int (45 : Int32)), (.int (45 : Int32)), (.int (104 : Int32)), (.int (101 : Int32)), (.int (108 : Int32)), (.int (112 : Int32))] := by decide +kernel
theorem own_mem_52 : ("com/example/bleeper/bleeper/cli/Arguments", 127) ∈ own_EL := by simp [own_EL, consts_1]
theorem own_txt_52 : (∀ c ∈ "-h".toList, c.toNat < 256) ∧ "-h".toList.map (fun c => Value.int (Jvm.Lit.byteI c.toNat.toUInt16)) = [(.int (45 : Int32)), (.int (104 : Int32))] := by decide +kernel
theorem own_wS {Z : State} {a0 : Array Value} (hw : ∀ d ∈ tables_1, d.before a0 Z = true) : ∀ a ∈ Bundle.stringAtoms, a.before a0 Z = true := by
  intro a ha
  simp only [Bundle.stringAtoms, List.mem_cons, List.not_mem_nil, or_false] at ha
  rcases ha with rfl | rfl | rfl | rfl | rfl | rfl | rfl
  all_goals first | exact (own_w hw 16 rfl) | exact (own_w hw 15 rfl) | exact (own_w hw 29 rfl) | exact (own_w hw 30 rfl) | exact (own_w hw 31 rfl) | exact (own_w hw 32 rfl) | exact (own_w hw 33 rfl)
def own_lat8 (z : Int32) : Prop := 0 ≤ z.toInt ∧ z.toInt ≤ 255
theorem own_le {z : Int32} (h : own_lat8 z) : ¬ (255 : Int32) < z := by
  rw [Int32.lt_iff_toInt_lt]; have e : (255 : Int32).toInt = 255 := by decide
  have := h.2; omega
theorem own_nc {z : Int32} (h : own_lat8 z) : nar .char z = z := by
  have q := c_i2c z
  refine Int32.toInt_inj.mp ?_
  show (z.toUInt32.toUInt16.toUInt32.toInt32).toInt = _
  have := h.1; have := h.2; omega
theorem own_i2cL {z : Int32} (h : own_lat8 z) : own_lat8 (nar .char z.toUInt32.toUInt16.toUInt32.toInt32) := by
  have q : z.toUInt32.toUInt16.toUInt32.toInt32 = z := own_nc h
  rw [q, own_nc h]; exact h
theorem own_lit {z : Int32} (h : 0 ≤ z.toInt ∧ z.toInt ≤ 255) : own_lat8 (nar .char z) := by rw [own_nc h]; exact h
theorem own_m255 (x : Int32) : own_lat8 (x &&& 255) := by
  have q := c_mask x 255 8 (by decide) (by decide)
  unfold own_lat8; rw [q]; omega
theorem own_lo {d l : Int32} (h : own_lat8 d) (hl : 0 ≤ l.toInt ∧ l.toInt < 128) : nar .byte d.toInt8.toInt32 = l ↔ d = l := by
  have q := c_i2b d
  have r := c_i2b d.toInt8.toInt32
  have e : (nar .byte d.toInt8.toInt32) = d.toInt8.toInt32.toInt8.toInt32 := rfl
  rw [e, ← Int32.toInt_inj, ← Int32.toInt_inj]
  have := h.1; have := h.2
  constructor <;> intro z <;> omega
def own_eqv : List Int32 → List Int32 → Int32
  | [], [] => 1
  | x :: r, y :: t => if x = y then own_eqv r t else 0
  | _, _ => 0
theorem own_ge0 {z : Int32} (h : ¬ z < 0) : 0 ≤ z.toInt := by
  rw [Int32.lt_iff_toInt_lt] at h; have e : (0 : Int32).toInt = 0 := by decide
  omega
theorem own_eqv01 : ∀ a b : List Int32, own_eqv a b = 0 ∨ own_eqv a b = 1
  | [], [] => Or.inr rfl
  | x :: r, y :: t => by
    unfold own_eqv
    by_cases q : x = y
    · rw [if_pos q]; exact own_eqv01 r t
    · rw [if_neg q]; exact Or.inl rfl
  | [], _ :: _ => Or.inl rfl
  | _ :: _, [] => Or.inl rfl
theorem own_ecT {x y : Int32} {r t : List Int32} (h : x = y) : own_eqv (x :: r) (y :: t) = own_eqv r t := if_pos h
theorem own_ecF {x y : Int32} {r t : List Int32} (h : ¬ x = y) : own_eqv (x :: r) (y :: t) = 0 := if_neg h
theorem own_e1 {a b : List Int32} (h : ¬ own_eqv a b = 0) : (1 : Int32) = own_eqv a b := ((own_eqv01 a b).resolve_left h).symm
theorem own_e0 {a b : List Int32} (h : own_eqv a b = 0) : (0 : Int32) = own_eqv a b := h.symm
theorem own_n8 (n : Int32) : n &&& 7 = (0 : Int32) ∨ n &&& 7 = (1 : Int32) ∨ n &&& 7 = (2 : Int32) ∨ n &&& 7 = (3 : Int32) ∨ n &&& 7 = (4 : Int32) ∨ n &&& 7 = (5 : Int32) ∨ n &&& 7 = (6 : Int32) ∨ n &&& 7 = (7 : Int32) := by
  have q := c_mask n 7 3 (by decide) (by decide)
  have e0 : (0 : Int32).toInt = 0 := by decide
  have e1 : (1 : Int32).toInt = 1 := by decide
  have e2 : (2 : Int32).toInt = 2 := by decide
  have e3 : (3 : Int32).toInt = 3 := by decide
  have e4 : (4 : Int32).toInt = 4 := by decide
  have e5 : (5 : Int32).toInt = 5 := by decide
  have e6 : (6 : Int32).toInt = 6 := by decide
  have e7 : (7 : Int32).toInt = 7 := by decide
  simp only [← Int32.toInt_inj, e0, e1, e2, e3, e4, e5, e6, e7]
  omega
theorem own_d_method_2_code_0 : decode method_2_code 0 = .ok (.lload_n 0, 1) := by decide +kernel
theorem own_d_method_2_code_1 : decode method_2_code 1 = .ok (.ldc2_w 7, 3) := by decide +kernel
theorem own_d_method_2_code_4 : decode method_2_code 4 = .ok (.land, 1) := by decide +kernel
theorem own_d_method_2_code_5 : decode method_2_code 5 = .ok (.l2i, 1) := by decide +kernel
theorem own_d_method_2_code_6 : decode method_2_code 6 = .ok (.istore_n 2, 1) := by decide +kernel
theorem own_d_method_2_code_7 : decode method_2_code 7 = .ok (.iload_n 2, 1) := by decide +kernel
theorem own_d_method_2_code_8 : decode method_2_code 8 = .ok (.sipush 256, 3) := by decide +kernel
theorem own_d_method_2_code_11 : decode method_2_code 11 = .ok (.iand, 1) := by decide +kernel
theorem own_d_method_2_code_12 : decode method_2_code 12 = .ok (.ifCond .ne 10, 3) := by decide +kernel
theorem own_d_method_2_code_22 : decode method_2_code 22 = .ok (.iload_n 2, 1) := by decide +kernel
theorem own_d_method_2_code_23 : decode method_2_code 23 = .ok (.bipush 7, 2) := by decide +kernel
theorem own_d_method_2_code_25 : decode method_2_code 25 = .ok (.iand, 1) := by decide +kernel
theorem own_d_method_2_code_26 : decode method_2_code 26 = .ok (.istore_n 3, 1) := by decide +kernel
theorem own_d_method_2_code_27 : decode method_2_code 27 = .ok (.iload_n 3, 1) := by decide +kernel
theorem own_d_method_2_code_28 : decode method_2_code 28 = .ok (.iconst 1, 1) := by decide +kernel
theorem own_d_method_2_code_29 : decode method_2_code 29 = .ok (.if_icmp .gt 6, 3) := by decide +kernel
theorem own_d_method_2_code_35 : decode method_2_code 35 = .ok (.iload_n 3, 1) := by decide +kernel
theorem own_d_method_2_code_36 : decode method_2_code 36 = .ok (.iconst 2, 1) := by decide +kernel
theorem own_d_method_2_code_37 : decode method_2_code 37 = .ok (.if_icmp .ne 6, 3) := by decide +kernel
theorem own_d_method_2_code_43 : decode method_2_code 43 = .ok (.iload_n 3, 1) := by decide +kernel
theorem own_d_method_2_code_44 : decode method_2_code 44 = .ok (.iconst 3, 1) := by decide +kernel
theorem own_d_method_2_code_45 : decode method_2_code 45 = .ok (.if_icmp .ne 6, 3) := by decide +kernel
theorem own_d_method_2_code_51 : decode method_2_code 51 = .ok (.iload_n 3, 1) := by decide +kernel
theorem own_d_method_2_code_52 : decode method_2_code 52 = .ok (.iconst 4, 1) := by decide +kernel
theorem own_d_method_2_code_53 : decode method_2_code 53 = .ok (.if_icmp .ne 6, 3) := by decide +kernel
theorem own_d_method_2_code_59 : decode method_2_code 59 = .ok (.iload_n 3, 1) := by decide +kernel
theorem own_d_method_2_code_60 : decode method_2_code 60 = .ok (.iconst 5, 1) := by decide +kernel
theorem own_d_method_2_code_61 : decode method_2_code 61 = .ok (.if_icmp .ne 6, 3) := by decide +kernel
theorem own_d_method_2_code_67 : decode method_2_code 67 = .ok (.iload_n 3, 1) := by decide +kernel
theorem own_d_method_2_code_68 : decode method_2_code 68 = .ok (.bipush 6, 2) := by decide +kernel
theorem own_d_method_2_code_70 : decode method_2_code 70 = .ok (.if_icmp .ne 6, 3) := by decide +kernel
theorem own_d_method_2_code_76 : decode method_2_code 76 = .ok (.bipush 32, 2) := by decide +kernel
theorem own_d_method_2_code_78 : decode method_2_code 78 = .ok (.ireturn, 1) := by decide +kernel
theorem own_d_method_2_code_73 : decode method_2_code 73 = .ok (.bipush 72, 2) := by decide +kernel
theorem own_d_method_2_code_75 : decode method_2_code 75 = .ok (.ireturn, 1) := by decide +kernel
theorem own_d_method_2_code_64 : decode method_2_code 64 = .ok (.bipush 112, 2) := by decide +kernel
theorem own_d_method_2_code_66 : decode method_2_code 66 = .ok (.ireturn, 1) := by decide +kernel
theorem own_d_method_2_code_56 : decode method_2_code 56 = .ok (.bipush 108, 2) := by decide +kernel
theorem own_d_method_2_code_58 : decode method_2_code 58 = .ok (.ireturn, 1) := by decide +kernel
theorem own_d_method_2_code_48 : decode method_2_code 48 = .ok (.bipush 101, 2) := by decide +kernel
theorem own_d_method_2_code_50 : decode method_2_code 50 = .ok (.ireturn, 1) := by decide +kernel
theorem own_d_method_2_code_40 : decode method_2_code 40 = .ok (.bipush 104, 2) := by decide +kernel
theorem own_d_method_2_code_42 : decode method_2_code 42 = .ok (.ireturn, 1) := by decide +kernel
theorem own_d_method_2_code_32 : decode method_2_code 32 = .ok (.bipush 45, 2) := by decide +kernel
theorem own_d_method_2_code_34 : decode method_2_code 34 = .ok (.ireturn, 1) := by decide +kernel
theorem own_d_method_2_code_15 : decode method_2_code 15 = .ok (.iload_n 2, 1) := by decide +kernel
theorem own_d_method_2_code_16 : decode method_2_code 16 = .ok (.sipush 255, 3) := by decide +kernel
theorem own_d_method_2_code_19 : decode method_2_code 19 = .ok (.iand, 1) := by decide +kernel
theorem own_d_method_2_code_20 : decode method_2_code 20 = .ok (.i2c, 1) := by decide +kernel
theorem own_d_method_2_code_21 : decode method_2_code 21 = .ok (.ireturn, 1) := by decide +kernel
theorem own_pn_com_example_bleeper_bleeper_cli_ArgumentsAsksForHelpPinLaw : plainName "com/example/bleeper/bleeper/cli/ArgumentsAsksForHelpPinLaw" = true := by first | (simp [plainName, overriddenIn]; done) | decide +kernel
theorem ef_draw (m : MethodId) (x0 : Int64) : entryFrame m #[(.long x0)] 4 = mkF m 0 #[.val (.long x0), .second, .unset, .unset] [] := by first | (simp [entryFrame, mkF, argsToLocals, Value.category]; done) | rfl
def Q_draw (Z : State) (q0 : Int64) (h0 : Heap) (n0 : Nat) (v : Option Value) (h : Heap) (L : List Loc) : Prop := ∃ z : Int32, v = some (.int z) ∧ Fr n0 L ∧ h = h0 ∧ own_lat8 z
set_option maxRecDepth 65536 in
set_option maxHeartbeats 40000000 in
theorem rm_draw (l : Launch) (Z : State) (a0 : Array Value) (hw : ∀ d ∈ tables_1, d.before a0 Z = true) (ws : List Jvm.Cond) (q0 : Int64) (h0 : Heap) (n0 : Nat) (Z0 : n0 ≤ h0.size)  :
    MetFree l (⟨"com/example/bleeper/bleeper/cli/ArgumentsAsksForHelpPinLaw", "draw", "(J)C"⟩ : MethodName) (head1 (Jvm.Cond.code (⟨"com/example/bleeper/bleeper/cli/ArgumentsAsksForHelpPinLaw", "draw", "(J)C"⟩ : MethodName) method_2_code 4 (some .char) :: ws) ({ frames := 0, cells := 0, slots := 0, locals := 0 } : Room)) (fun a U => a = #[(.long q0)] ∧ Z.Warmed39 U.vm ∧ U.heap = h0) (fun _ _ _ _ _ => True) (fun _ U o U' => ∃ v L, o = .returned v ∧ Q_draw Z q0 h0 n0 v U'.heap L ∧ FrameEnd U o U' L ({ frames := 0, cells := 0, slots := 0, locals := 0 } : Room).cells ({ frames := 0, cells := 0, slots := 0, locals := 0 } : Room).slots) := by
  refine MetFree.of_bodySF (plainFor_of_name own_pn_com_example_bleeper_bleeper_cli_ArgumentsAsksForHelpPinLaw) hisR ?_
  intro p e s m args below meth c s₁ Bd hml0 hP hK
  obtain ⟨rfl, hZ, hh⟩ := hP
  have hx := Bd.exec
  have hby := Bd.bytes
  have hml : c.maxLocals = 4 := hml0
  have hown : s.vm.findClass "com/example/bleeper/bleeper/cli/ArgumentsAsksForHelpPinLaw" = some m.cls := findClass_of_methodNamed Bd.named
  have hnm := (name_of_methodNamed Bd.named Bd.method).1
  have hlk := Bd.notSynchronized
  obtain ⟨lc, hlc⟩ : ∃ lc : List Loc, lc = [] := ⟨_, rfl⟩
  have X : Stand p l e ({ frames := 0, cells := 0, slots := 0, locals := 0 } : Room) s m #[(.long q0)] below meth c s₁ lc 0 0 := hlc ▸ Stand.of_body Bd
  have eT : s₁.heap = h0 := by rw [← hh, Bd.state]; rfl
  have N : Fr n0 lc := hlc ▸ Fr.nil n0
  refine own_enter (ef_draw m q0) ?_
  obtain ⟨T, hT⟩ : ∃ T : State, T = s₁ := ⟨_, rfl⟩
  rw [← hT] at X eT ⊢
  show own_W p e below (own_Post s (Q_draw Z q0 h0 n0) 0 0) T m 0 #[.val (.long q0), .second, .unset, .unset] []
  refine own_lloadN X hx (hb hby own_d_method_2_code_0) (pc' := 1) rfl rfl ?_
  refine own_ldc2 X hx hZ hown (own_w hw 10 rfl) (hb hby own_d_method_2_code_1) (pc' := 4) rfl ?_
  refine own_land X hx (hb hby own_d_method_2_code_4) (pc' := 5) rfl ?_
  refine own_l2i X hx (hb hby own_d_method_2_code_5) (pc' := 6) rfl ?_
  refine own_istoreN X hx (hb hby own_d_method_2_code_6) (pc' := 7) rfl (Ls' := #[.val (.long q0), .second, .val (.int (q0 &&& (1023 : Int64)).toInt32), .unset]) rfl ?_
  refine own_iloadN X hx (hb hby own_d_method_2_code_7) (pc' := 8) rfl rfl ?_
  refine own_sipush X hx (256 : Int32) (hb hby own_d_method_2_code_8) (pc' := 11) rfl rfl ?_
  refine own_iand X hx (hb hby own_d_method_2_code_11) (pc' := 12) rfl ?_
  refine own_if X hx (hb hby own_d_method_2_code_12) (by decide) (pcY := 22) (pcN := 15) rfl rfl (fun (hc12 : ¬ (((q0 &&& (1023 : Int64)).toInt32 &&& (256 : Int32)) = (0 : Int32))) => ?_) (fun (hc12 : ((q0 &&& (1023 : Int64)).toInt32 &&& (256 : Int32)) = (0 : Int32)) => ?_)
  · refine own_iloadN X hx (hb hby own_d_method_2_code_22) (pc' := 23) rfl rfl ?_
    refine own_bipush X hx (7 : Int32) (hb hby own_d_method_2_code_23) (pc' := 25) rfl rfl ?_
    refine own_iand X hx (hb hby own_d_method_2_code_25) (pc' := 26) rfl ?_
    refine own_istoreN X hx (hb hby own_d_method_2_code_26) (pc' := 27) rfl (Ls' := #[.val (.long q0), .second, .val (.int (q0 &&& (1023 : Int64)).toInt32), .val (.int ((q0 &&& (1023 : Int64)).toInt32 &&& (7 : Int32)))]) rfl ?_
    refine own_iloadN X hx (hb hby own_d_method_2_code_27) (pc' := 28) rfl rfl ?_
    refine own_iconst X hx (1 : Int32) (hb hby own_d_method_2_code_28) (pc' := 29) rfl rfl ?_
    refine own_icmp X hx (hb hby own_d_method_2_code_29) (by decide) (pcY := 35) (pcN := 32) rfl rfl (fun (hc29 : (1 : Int32) < ((q0 &&& (1023 : Int64)).toInt32 &&& (7 : Int32))) => ?_) (fun (hc29 : ¬ ((1 : Int32) < ((q0 &&& (1023 : Int64)).toInt32 &&& (7 : Int32)))) => ?_)
    · refine own_iloadN X hx (hb hby own_d_method_2_code_35) (pc' := 36) rfl rfl ?_
      refine own_iconst X hx (2 : Int32) (hb hby own_d_method_2_code_36) (pc' := 37) rfl rfl ?_
      refine own_icmp X hx (hb hby own_d_method_2_code_37) (by decide) (pcY := 43) (pcN := 40) rfl rfl (fun (hc37 : ¬ (((q0 &&& (1023 : Int64)).toInt32 &&& (7 : Int32)) = (2 : Int32))) => ?_) (fun (hc37 : ((q0 &&& (1023 : Int64)).toInt32 &&& (7 : Int32)) = (2 : Int32)) => ?_)
      · refine own_iloadN X hx (hb hby own_d_method_2_code_43) (pc' := 44) rfl rfl ?_
        refine own_iconst X hx (3 : Int32) (hb hby own_d_method_2_code_44) (pc' := 45) rfl rfl ?_
        refine own_icmp X hx (hb hby own_d_method_2_code_45) (by decide) (pcY := 51) (pcN := 48) rfl rfl (fun (hc45 : ¬ (((q0 &&& (1023 : Int64)).toInt32 &&& (7 : Int32)) = (3 : Int32))) => ?_) (fun (hc45 : ((q0 &&& (1023 : Int64)).toInt32 &&& (7 : Int32)) = (3 : Int32)) => ?_)
        · refine own_iloadN X hx (hb hby own_d_method_2_code_51) (pc' := 52) rfl rfl ?_
          refine own_iconst X hx (4 : Int32) (hb hby own_d_method_2_code_52) (pc' := 53) rfl rfl ?_
          refine own_icmp X hx (hb hby own_d_method_2_code_53) (by decide) (pcY := 59) (pcN := 56) rfl rfl (fun (hc53 : ¬ (((q0 &&& (1023 : Int64)).toInt32 &&& (7 : Int32)) = (4 : Int32))) => ?_) (fun (hc53 : ((q0 &&& (1023 : Int64)).toInt32 &&& (7 : Int32)) = (4 : Int32)) => ?_)
          · refine own_iloadN X hx (hb hby own_d_method_2_code_59) (pc' := 60) rfl rfl ?_
            refine own_iconst X hx (5 : Int32) (hb hby own_d_method_2_code_60) (pc' := 61) rfl rfl ?_
            refine own_icmp X hx (hb hby own_d_method_2_code_61) (by decide) (pcY := 67) (pcN := 64) rfl rfl (fun (hc61 : ¬ (((q0 &&& (1023 : Int64)).toInt32 &&& (7 : Int32)) = (5 : Int32))) => ?_) (fun (hc61 : ((q0 &&& (1023 : Int64)).toInt32 &&& (7 : Int32)) = (5 : Int32)) => ?_)
            · refine own_iloadN X hx (hb hby own_d_method_2_code_67) (pc' := 68) rfl rfl ?_
              refine own_bipush X hx (6 : Int32) (hb hby own_d_method_2_code_68) (pc' := 70) rfl rfl ?_
              refine own_icmp X hx (hb hby own_d_method_2_code_70) (by decide) (pcY := 76) (pcN := 73) rfl rfl (fun (hc70 : ¬ (((q0 &&& (1023 : Int64)).toInt32 &&& (7 : Int32)) = (6 : Int32))) => ?_) (fun (hc70 : ((q0 &&& (1023 : Int64)).toInt32 &&& (7 : Int32)) = (6 : Int32)) => ?_)
              · refine own_bipush X hx (32 : Int32) (hb hby own_d_method_2_code_76) (pc' := 78) rfl rfl ?_
                refine own_retI X hx hlk (t := .char) (w' := (.int (nar .char (32 : Int32)))) Bd.returns (hb hby own_d_method_2_code_78) rfl rfl (by simp) (by decide) (by decide) ?_
                rw [eT]
                exact ⟨_, rfl, N, rfl, own_lit (by decide)⟩
              · refine own_bipush X hx (72 : Int32) (hb hby own_d_method_2_code_73) (pc' := 75) rfl rfl ?_
                refine own_retI X hx hlk (t := .char) (w' := (.int (nar .char (72 : Int32)))) Bd.returns (hb hby own_d_method_2_code_75) rfl rfl (by simp) (by decide) (by decide) ?_
                rw [eT]
                exact ⟨_, rfl, N, rfl, own_lit (by decide)⟩
            · refine own_bipush X hx (112 : Int32) (hb hby own_d_method_2_code_64) (pc' := 66) rfl rfl ?_
              refine own_retI X hx hlk (t := .char) (w' := (.int (nar .char (112 : Int32)))) Bd.returns (hb hby own_d_method_2_code_66) rfl rfl (by simp) (by decide) (by decide) ?_
              rw [eT]
              exact ⟨_, rfl, N, rfl, own_lit (by decide)⟩
          · refine own_bipush X hx (108 : Int32) (hb hby own_d_method_2_code_56) (pc' := 58) rfl rfl ?_
            refine own_retI X hx hlk (t := .char) (w' := (.int (nar .char (108 : Int32)))) Bd.returns (hb hby own_d_method_2_code_58) rfl rfl (by simp) (by decide) (by decide) ?_
            rw [eT]
            exact ⟨_, rfl, N, rfl, own_lit (by decide)⟩
        · refine own_bipush X hx (101 : Int32) (hb hby own_d_method_2_code_48) (pc' := 50) rfl rfl ?_
          refine own_retI X hx hlk (t := .char) (w' := (.int (nar .char (101 : Int32)))) Bd.returns (hb hby own_d_method_2_code_50) rfl rfl (by simp) (by decide) (by decide) ?_
          rw [eT]
          exact ⟨_, rfl, N, rfl, own_lit (by decide)⟩
      · refine own_bipush X hx (104 : Int32) (hb hby own_d_method_2_code_40) (pc' := 42) rfl rfl ?_
        refine own_retI X hx hlk (t := .char) (w' := (.int (nar .char (104 : Int32)))) Bd.returns (hb hby own_d_method_2_code_42) rfl rfl (by simp) (by decide) (by decide) ?_
        rw [eT]
        exact ⟨_, rfl, N, rfl, own_lit (by decide)⟩
    · refine own_bipush X hx (45 : Int32) (hb hby own_d_method_2_code_32) (pc' := 34) rfl rfl ?_
      refine own_retI X hx hlk (t := .char) (w' := (.int (nar .char (45 : Int32)))) Bd.returns (hb hby own_d_method_2_code_34) rfl rfl (by simp) (by decide) (by decide) ?_
      rw [eT]
      exact ⟨_, rfl, N, rfl, own_lit (by decide)⟩
  · refine own_iloadN X hx (hb hby own_d_method_2_code_15) (pc' := 16) rfl rfl ?_
    refine own_sipush X hx (255 : Int32) (hb hby own_d_method_2_code_16) (pc' := 19) rfl rfl ?_
    refine own_iand X hx (hb hby own_d_method_2_code_19) (pc' := 20) rfl ?_
    refine own_i2c X hx (hb hby own_d_method_2_code_20) (pc' := 21) rfl ?_
    refine own_retI X hx hlk (t := .char) (w' := (.int (nar .char ((q0 &&& (1023 : Int64)).toInt32 &&& (255 : Int32)).toUInt32.toUInt16.toUInt32.toInt32))) Bd.returns (hb hby own_d_method_2_code_21) rfl rfl (by simp) (by decide) (by decide) ?_
    rw [eT]
    exact ⟨_, rfl, N, rfl, own_i2cL (own_m255 _)⟩
theorem own_d_method_3_code_0 : decode method_3_code 0 = .ok (.iload_n 0, 1) := by decide +kernel
theorem own_d_method_3_code_1 : decode method_3_code 1 = .ok (.iconst 1, 1) := by decide +kernel
theorem own_d_method_3_code_2 : decode method_3_code 2 = .ok (.if_icmp .ne 49, 3) := by decide +kernel
theorem own_d_method_3_code_51 : decode method_3_code 51 = .ok (.iload_n 0, 1) := by decide +kernel
theorem own_d_method_3_code_52 : decode method_3_code 52 = .ok (.iconst 2, 1) := by decide +kernel
theorem own_d_method_3_code_53 : decode method_3_code 53 = .ok (.if_icmp .ne 20, 3) := by decide +kernel
theorem own_d_method_3_code_73 : decode method_3_code 73 = .ok (.iload_n 0, 1) := by decide +kernel
theorem own_d_method_3_code_74 : decode method_3_code 74 = .ok (.iconst 3, 1) := by decide +kernel
theorem own_d_method_3_code_75 : decode method_3_code 75 = .ok (.if_icmp .ne 25, 3) := by decide +kernel
theorem own_d_method_3_code_100 : decode method_3_code 100 = .ok (.iconst (-1), 1) := by decide +kernel
theorem own_d_method_3_code_101 : decode method_3_code 101 = .ok (.ireturn, 1) := by decide +kernel
theorem own_d_method_3_code_78 : decode method_3_code 78 = .ok (.iload_n 1, 1) := by decide +kernel
theorem own_d_method_3_code_79 : decode method_3_code 79 = .ok (.ifCond .eq 8, 3) := by decide +kernel
theorem own_d_method_3_code_87 : decode method_3_code 87 = .ok (.bipush 45, 2) := by decide +kernel
theorem own_d_method_3_code_89 : decode method_3_code 89 = .ok (.ireturn, 1) := by decide +kernel
theorem own_d_method_3_code_82 : decode method_3_code 82 = .ok (.iload_n 1, 1) := by decide +kernel
theorem own_d_method_3_code_83 : decode method_3_code 83 = .ok (.iconst 1, 1) := by decide +kernel
theorem own_d_method_3_code_84 : decode method_3_code 84 = .ok (.if_icmp .ne 6, 3) := by decide +kernel
theorem own_d_method_3_code_90 : decode method_3_code 90 = .ok (.iload_n 1, 1) := by decide +kernel
theorem own_d_method_3_code_91 : decode method_3_code 91 = .ok (.iconst 2, 1) := by decide +kernel
theorem own_d_method_3_code_92 : decode method_3_code 92 = .ok (.if_icmp .ne 6, 3) := by decide +kernel
theorem own_d_method_3_code_98 : decode method_3_code 98 = .ok (.iconst (-1), 1) := by decide +kernel
theorem own_d_method_3_code_99 : decode method_3_code 99 = .ok (.ireturn, 1) := by decide +kernel
theorem own_d_method_3_code_95 : decode method_3_code 95 = .ok (.bipush 104, 2) := by decide +kernel
theorem own_d_method_3_code_97 : decode method_3_code 97 = .ok (.ireturn, 1) := by decide +kernel
theorem own_d_method_3_code_56 : decode method_3_code 56 = .ok (.iload_n 1, 1) := by decide +kernel
theorem own_d_method_3_code_57 : decode method_3_code 57 = .ok (.ifCond .ne 6, 3) := by decide +kernel
theorem own_d_method_3_code_63 : decode method_3_code 63 = .ok (.iload_n 1, 1) := by decide +kernel
theorem own_d_method_3_code_64 : decode method_3_code 64 = .ok (.iconst 1, 1) := by decide +kernel
theorem own_d_method_3_code_65 : decode method_3_code 65 = .ok (.if_icmp .ne 6, 3) := by decide +kernel
theorem own_d_method_3_code_71 : decode method_3_code 71 = .ok (.iconst (-1), 1) := by decide +kernel
theorem own_d_method_3_code_72 : decode method_3_code 72 = .ok (.ireturn, 1) := by decide +kernel
theorem own_d_method_3_code_68 : decode method_3_code 68 = .ok (.bipush 104, 2) := by decide +kernel
theorem own_d_method_3_code_70 : decode method_3_code 70 = .ok (.ireturn, 1) := by decide +kernel
theorem own_d_method_3_code_60 : decode method_3_code 60 = .ok (.bipush 45, 2) := by decide +kernel
theorem own_d_method_3_code_62 : decode method_3_code 62 = .ok (.ireturn, 1) := by decide +kernel
theorem own_d_method_3_code_5 : decode method_3_code 5 = .ok (.iload_n 1, 1) := by decide +kernel
theorem own_d_method_3_code_6 : decode method_3_code 6 = .ok (.ifCond .eq 8, 3) := by decide +kernel
theorem own_d_method_3_code_14 : decode method_3_code 14 = .ok (.bipush 45, 2) := by decide +kernel
theorem own_d_method_3_code_16 : decode method_3_code 16 = .ok (.ireturn, 1) := by decide +kernel
theorem own_d_method_3_code_9 : decode method_3_code 9 = .ok (.iload_n 1, 1) := by decide +kernel
theorem own_d_method_3_code_10 : decode method_3_code 10 = .ok (.iconst 1, 1) := by decide +kernel
theorem own_d_method_3_code_11 : decode method_3_code 11 = .ok (.if_icmp .ne 6, 3) := by decide +kernel
theorem own_d_method_3_code_17 : decode method_3_code 17 = .ok (.iload_n 1, 1) := by decide +kernel
theorem own_d_method_3_code_18 : decode method_3_code 18 = .ok (.iconst 2, 1) := by decide +kernel
theorem own_d_method_3_code_19 : decode method_3_code 19 = .ok (.if_icmp .ne 6, 3) := by decide +kernel
theorem own_d_method_3_code_25 : decode method_3_code 25 = .ok (.iload_n 1, 1) := by decide +kernel
theorem own_d_method_3_code_26 : decode method_3_code 26 = .ok (.iconst 3, 1) := by decide +kernel
theorem own_d_method_3_code_27 : decode method_3_code 27 = .ok (.if_icmp .ne 6, 3) := by decide +kernel
theorem own_d_method_3_code_33 : decode method_3_code 33 = .ok (.iload_n 1, 1) := by decide +kernel
theorem own_d_method_3_code_34 : decode method_3_code 34 = .ok (.iconst 4, 1) := by decide +kernel
theorem own_d_method_3_code_35 : decode method_3_code 35 = .ok (.if_icmp .ne 6, 3) := by decide +kernel
theorem own_d_method_3_code_41 : decode method_3_code 41 = .ok (.iload_n 1, 1) := by decide +kernel
theorem own_d_method_3_code_42 : decode method_3_code 42 = .ok (.iconst 5, 1) := by decide +kernel
theorem own_d_method_3_code_43 : decode method_3_code 43 = .ok (.if_icmp .ne 6, 3) := by decide +kernel
theorem own_d_method_3_code_49 : decode method_3_code 49 = .ok (.iconst (-1), 1) := by decide +kernel
theorem own_d_method_3_code_50 : decode method_3_code 50 = .ok (.ireturn, 1) := by decide +kernel
theorem own_d_method_3_code_46 : decode method_3_code 46 = .ok (.bipush 112, 2) := by decide +kernel
theorem own_d_method_3_code_48 : decode method_3_code 48 = .ok (.ireturn, 1) := by decide +kernel
theorem own_d_method_3_code_38 : decode method_3_code 38 = .ok (.bipush 108, 2) := by decide +kernel
theorem own_d_method_3_code_40 : decode method_3_code 40 = .ok (.ireturn, 1) := by decide +kernel
theorem own_d_method_3_code_30 : decode method_3_code 30 = .ok (.bipush 101, 2) := by decide +kernel
theorem own_d_method_3_code_32 : decode method_3_code 32 = .ok (.ireturn, 1) := by decide +kernel
theorem own_d_method_3_code_22 : decode method_3_code 22 = .ok (.bipush 104, 2) := by decide +kernel
theorem own_d_method_3_code_24 : decode method_3_code 24 = .ok (.ireturn, 1) := by decide +kernel
theorem ef_templ (m : MethodId) (x0 : Int32) (x1 : Int32) : entryFrame m #[(.int x0), (.int x1)] 2 = mkF m 0 #[.val (.int x0), .val (.int x1)] [] := by first | (simp [entryFrame, mkF, argsToLocals, Value.category]; done) | rfl
def Q_templ (Z : State) (p0 p1 : Int32) (h0 : Heap) (n0 : Nat) (v : Option Value) (h : Heap) (L : List Loc) : Prop := ∃ z : Int32, v = some (.int z) ∧ Fr n0 L ∧ h = h0 ∧ (-1 ≤ z.toInt ∧ z.toInt ≤ 255)
set_option maxRecDepth 65536 in
set_option maxHeartbeats 40000000 in
theorem rm_templ (l : Launch) (Z : State) (a0 : Array Value) (hw : ∀ d ∈ tables_1, d.before a0 Z = true) (ws : List Jvm.Cond) (p0 p1 : Int32) (h0 : Heap) (n0 : Nat) (Z0 : n0 ≤ h0.size)  :
    MetFree l (⟨"com/example/bleeper/bleeper/cli/ArgumentsAsksForHelpPinLaw", "templ", "(II)I"⟩ : MethodName) (head1 (Jvm.Cond.code (⟨"com/example/bleeper/bleeper/cli/ArgumentsAsksForHelpPinLaw", "templ", "(II)I"⟩ : MethodName) method_3_code 2 (some .int) :: ws) ({ frames := 0, cells := 0, slots := 0, locals := 0 } : Room)) (fun a U => a = #[(.int p0), (.int p1)] ∧ Z.Warmed39 U.vm ∧ U.heap = h0) (fun _ _ _ _ _ => True) (fun _ U o U' => ∃ v L, o = .returned v ∧ Q_templ Z p0 p1 h0 n0 v U'.heap L ∧ FrameEnd U o U' L ({ frames := 0, cells := 0, slots := 0, locals := 0 } : Room).cells ({ frames := 0, cells := 0, slots := 0, locals := 0 } : Room).slots) := by
  refine MetFree.of_bodySF (plainFor_of_name own_pn_com_example_bleeper_bleeper_cli_ArgumentsAsksForHelpPinLaw) hisR ?_
  intro p e s m args below meth c s₁ Bd hml0 hP hK
  obtain ⟨rfl, hZ, hh⟩ := hP
  have hx := Bd.exec
  have hby := Bd.bytes
  have hml : c.maxLocals = 2 := hml0
  have hown : s.vm.findClass "com/example/bleeper/bleeper/cli/ArgumentsAsksForHelpPinLaw" = some m.cls := findClass_of_methodNamed Bd.named
  have hnm := (name_of_methodNamed Bd.named Bd.method).1
  have hlk := Bd.notSynchronized
  obtain ⟨lc, hlc⟩ : ∃ lc : List Loc, lc = [] := ⟨_, rfl⟩
  have X : Stand p l e ({ frames := 0, cells := 0, slots := 0, locals := 0 } : Room) s m #[(.int p0), (.int p1)] below meth c s₁ lc 0 0 := hlc ▸ Stand.of_body Bd
  have eT : s₁.heap = h0 := by rw [← hh, Bd.state]; rfl
  have N : Fr n0 lc := hlc ▸ Fr.nil n0
  refine own_enter (ef_templ m p0 p1) ?_
  obtain ⟨T, hT⟩ : ∃ T : State, T = s₁ := ⟨_, rfl⟩
  rw [← hT] at X eT ⊢
  show own_W p e below (own_Post s (Q_templ Z p0 p1 h0 n0) 0 0) T m 0 #[.val (.int p0), .val (.int p1)] []
  refine own_iloadN X hx (hb hby own_d_method_3_code_0) (pc' := 1) rfl rfl ?_
  refine own_iconst X hx (1 : Int32) (hb hby own_d_method_3_code_1) (pc' := 2) rfl rfl ?_
  refine own_icmp X hx (hb hby own_d_method_3_code_2) (by decide) (pcY := 51) (pcN := 5) rfl rfl (fun (hc2 : ¬ (p0 = (1 : Int32))) => ?_) (fun (hc2 : p0 = (1 : Int32)) => ?_)
  · refine own_iloadN X hx (hb hby own_d_method_3_code_51) (pc' := 52) rfl rfl ?_
    refine own_iconst X hx (2 : Int32) (hb hby own_d_method_3_code_52) (pc' := 53) rfl rfl ?_
    refine own_icmp X hx (hb hby own_d_method_3_code_53) (by decide) (pcY := 73) (pcN := 56) rfl rfl (fun (hc53 : ¬ (p0 = (2 : Int32))) => ?_) (fun (hc53 : p0 = (2 : Int32)) => ?_)
    · refine own_iloadN X hx (hb hby own_d_method_3_code_73) (pc' := 74) rfl rfl ?_
      refine own_iconst X hx (3 : Int32) (hb hby own_d_method_3_code_74) (pc' := 75) rfl rfl ?_
      refine own_icmp X hx (hb hby own_d_method_3_code_75) (by decide) (pcY := 100) (pcN := 78) rfl rfl (fun (hc75 : ¬ (p0 = (3 : Int32))) => ?_) (fun (hc75 : p0 = (3 : Int32)) => ?_)
      · refine own_iconst X hx (-1 : Int32) (hb hby own_d_method_3_code_100) (pc' := 101) rfl rfl ?_
        refine own_retI X hx hlk (t := .int) (w' := (.int (-1 : Int32))) Bd.returns (hb hby own_d_method_3_code_101) rfl rfl (by simp) (by decide) (by decide) ?_
        rw [eT]
        exact ⟨_, rfl, N, rfl, by decide⟩
      · refine own_iloadN X hx (hb hby own_d_method_3_code_78) (pc' := 79) rfl rfl ?_
        refine own_if X hx (hb hby own_d_method_3_code_79) (by decide) (pcY := 87) (pcN := 82) rfl rfl (fun (hc79 : p1 = (0 : Int32)) => ?_) (fun (hc79 : ¬ (p1 = (0 : Int32))) => ?_)
        · refine own_bipush X hx (45 : Int32) (hb hby own_d_method_3_code_87) (pc' := 89) rfl rfl ?_
          refine own_retI X hx hlk (t := .int) (w' := (.int (45 : Int32))) Bd.returns (hb hby own_d_method_3_code_89) rfl rfl (by simp) (by decide) (by decide) ?_
          rw [eT]
          exact ⟨_, rfl, N, rfl, by decide⟩
        · refine own_iloadN X hx (hb hby own_d_method_3_code_82) (pc' := 83) rfl rfl ?_
          refine own_iconst X hx (1 : Int32) (hb hby own_d_method_3_code_83) (pc' := 84) rfl rfl ?_
          refine own_icmp X hx (hb hby own_d_method_3_code_84) (by decide) (pcY := 90) (pcN := 87) rfl rfl (fun (hc84 : ¬ (p1 = (1 : Int32))) => ?_) (fun (hc84 : p1 = (1 : Int32)) => ?_)
          · refine own_iloadN X hx (hb hby own_d_method_3_code_90) (pc' := 91) rfl rfl ?_
            refine own_iconst X hx (2 : Int32) (hb hby own_d_method_3_code_91) (pc' := 92) rfl rfl ?_
            refine own_icmp X hx (hb hby own_d_method_3_code_92) (by decide) (pcY := 98) (pcN := 95) rfl rfl (fun (hc92 : ¬ (p1 = (2 : Int32))) => ?_) (fun (hc92 : p1 = (2 : Int32)) => ?_)
            · refine own_iconst X hx (-1 : Int32) (hb hby own_d_method_3_code_98) (pc' := 99) rfl rfl ?_
              refine own_retI X hx hlk (t := .int) (w' := (.int (-1 : Int32))) Bd.returns (hb hby own_d_method_3_code_99) rfl rfl (by simp) (by decide) (by decide) ?_
              rw [eT]
              exact ⟨_, rfl, N, rfl, by decide⟩
            · refine own_bipush X hx (104 : Int32) (hb hby own_d_method_3_code_95) (pc' := 97) rfl rfl ?_
              refine own_retI X hx hlk (t := .int) (w' := (.int (104 : Int32))) Bd.returns (hb hby own_d_method_3_code_97) rfl rfl (by simp) (by decide) (by decide) ?_
              rw [eT]
              exact ⟨_, rfl, N, rfl, by decide⟩
          · refine own_bipush X hx (45 : Int32) (hb hby own_d_method_3_code_87) (pc' := 89) rfl rfl ?_
            refine own_retI X hx hlk (t := .int) (w' := (.int (45 : Int32))) Bd.returns (hb hby own_d_method_3_code_89) rfl rfl (by simp) (by decide) (by decide) ?_
            rw [eT]
            exact ⟨_, rfl, N, rfl, by decide⟩
    · refine own_iloadN X hx (hb hby own_d_method_3_code_56) (pc' := 57) rfl rfl ?_
      refine own_if X hx (hb hby own_d_method_3_code_57) (by decide) (pcY := 63) (pcN := 60) rfl rfl (fun (hc57 : ¬ (p1 = (0 : Int32))) => ?_) (fun (hc57 : p1 = (0 : Int32)) => ?_)
      · refine own_iloadN X hx (hb hby own_d_method_3_code_63) (pc' := 64) rfl rfl ?_
        refine own_iconst X hx (1 : Int32) (hb hby own_d_method_3_code_64) (pc' := 65) rfl rfl ?_
        refine own_icmp X hx (hb hby own_d_method_3_code_65) (by decide) (pcY := 71) (pcN := 68) rfl rfl (fun (hc65 : ¬ (p1 = (1 : Int32))) => ?_) (fun (hc65 : p1 = (1 : Int32)) => ?_)
        · refine own_iconst X hx (-1 : Int32) (hb hby own_d_method_3_code_71) (pc' := 72) rfl rfl ?_
          refine own_retI X hx hlk (t := .int) (w' := (.int (-1 : Int32))) Bd.returns (hb hby own_d_method_3_code_72) rfl rfl (by simp) (by decide) (by decide) ?_
          rw [eT]
          exact ⟨_, rfl, N, rfl, by decide⟩
        · refine own_bipush X hx (104 : Int32) (hb hby own_d_method_3_code_68) (pc' := 70) rfl rfl ?_
          refine own_retI X hx hlk (t := .int) (w' := (.int (104 : Int32))) Bd.returns (hb hby own_d_method_3_code_70) rfl rfl (by simp) (by decide) (by decide) ?_
          rw [eT]
          exact ⟨_, rfl, N, rfl, by decide⟩
      · refine own_bipush X hx (45 : Int32) (hb hby own_d_method_3_code_60) (pc' := 62) rfl rfl ?_
        refine own_retI X hx hlk (t := .int) (w' := (.int (45 : Int32))) Bd.returns (hb hby own_d_method_3_code_62) rfl rfl (by simp) (by decide) (by decide) ?_
        rw [eT]
        exact ⟨_, rfl, N, rfl, by decide⟩
  · refine own_iloadN X hx (hb hby own_d_method_3_code_5) (pc' := 6) rfl rfl ?_
    refine own_if X hx (hb hby own_d_method_3_code_6) (by decide) (pcY := 14) (pcN := 9) rfl rfl (fun (hc6 : p1 = (0 : Int32)) => ?_) (fun (hc6 : ¬ (p1 = (0 : Int32))) => ?_)
    · refine own_bipush X hx (45 : Int32) (hb hby own_d_method_3_code_14) (pc' := 16) rfl rfl ?_
      refine own_retI X hx hlk (t := .int) (w' := (.int (45 : Int32))) Bd.returns (hb hby own_d_method_3_code_16) rfl rfl (by simp) (by decide) (by decide) ?_
      rw [eT]
      exact ⟨_, rfl, N, rfl, by decide⟩
    · refine own_iloadN X hx (hb hby own_d_method_3_code_9) (pc' := 10) rfl rfl ?_
      refine own_iconst X hx (1 : Int32) (hb hby own_d_method_3_code_10) (pc' := 11) rfl rfl ?_
      refine own_icmp X hx (hb hby own_d_method_3_code_11) (by decide) (pcY := 17) (pcN := 14) rfl rfl (fun (hc11 : ¬ (p1 = (1 : Int32))) => ?_) (fun (hc11 : p1 = (1 : Int32)) => ?_)
      · refine own_iloadN X hx (hb hby own_d_method_3_code_17) (pc' := 18) rfl rfl ?_
        refine own_iconst X hx (2 : Int32) (hb hby own_d_method_3_code_18) (pc' := 19) rfl rfl ?_
        refine own_icmp X hx (hb hby own_d_method_3_code_19) (by decide) (pcY := 25) (pcN := 22) rfl rfl (fun (hc19 : ¬ (p1 = (2 : Int32))) => ?_) (fun (hc19 : p1 = (2 : Int32)) => ?_)
        · refine own_iloadN X hx (hb hby own_d_method_3_code_25) (pc' := 26) rfl rfl ?_
          refine own_iconst X hx (3 : Int32) (hb hby own_d_method_3_code_26) (pc' := 27) rfl rfl ?_
          refine own_icmp X hx (hb hby own_d_method_3_code_27) (by decide) (pcY := 33) (pcN := 30) rfl rfl (fun (hc27 : ¬ (p1 = (3 : Int32))) => ?_) (fun (hc27 : p1 = (3 : Int32)) => ?_)
          · refine own_iloadN X hx (hb hby own_d_method_3_code_33) (pc' := 34) rfl rfl ?_
            refine own_iconst X hx (4 : Int32) (hb hby own_d_method_3_code_34) (pc' := 35) rfl rfl ?_
            refine own_icmp X hx (hb hby own_d_method_3_code_35) (by decide) (pcY := 41) (pcN := 38) rfl rfl (fun (hc35 : ¬ (p1 = (4 : Int32))) => ?_) (fun (hc35 : p1 = (4 : Int32)) => ?_)
            · refine own_iloadN X hx (hb hby own_d_method_3_code_41) (pc' := 42) rfl rfl ?_
              refine own_iconst X hx (5 : Int32) (hb hby own_d_method_3_code_42) (pc' := 43) rfl rfl ?_
              refine own_icmp X hx (hb hby own_d_method_3_code_43) (by decide) (pcY := 49) (pcN := 46) rfl rfl (fun (hc43 : ¬ (p1 = (5 : Int32))) => ?_) (fun (hc43 : p1 = (5 : Int32)) => ?_)
              · refine own_iconst X hx (-1 : Int32) (hb hby own_d_method_3_code_49) (pc' := 50) rfl rfl ?_
                refine own_retI X hx hlk (t := .int) (w' := (.int (-1 : Int32))) Bd.returns (hb hby own_d_method_3_code_50) rfl rfl (by simp) (by decide) (by decide) ?_
                rw [eT]
                exact ⟨_, rfl, N, rfl, by decide⟩
              · refine own_bipush X hx (112 : Int32) (hb hby own_d_method_3_code_46) (pc' := 48) rfl rfl ?_
                refine own_retI X hx hlk (t := .int) (w' := (.int (112 : Int32))) Bd.returns (hb hby own_d_method_3_code_48) rfl rfl (by simp) (by decide) (by decide) ?_
                rw [eT]
                exact ⟨_, rfl, N, rfl, by decide⟩
            · refine own_bipush X hx (108 : Int32) (hb hby own_d_method_3_code_38) (pc' := 40) rfl rfl ?_
              refine own_retI X hx hlk (t := .int) (w' := (.int (108 : Int32))) Bd.returns (hb hby own_d_method_3_code_40) rfl rfl (by simp) (by decide) (by decide) ?_
              rw [eT]
              exact ⟨_, rfl, N, rfl, by decide⟩
          · refine own_bipush X hx (101 : Int32) (hb hby own_d_method_3_code_30) (pc' := 32) rfl rfl ?_
            refine own_retI X hx hlk (t := .int) (w' := (.int (101 : Int32))) Bd.returns (hb hby own_d_method_3_code_32) rfl rfl (by simp) (by decide) (by decide) ?_
            rw [eT]
            exact ⟨_, rfl, N, rfl, by decide⟩
        · refine own_bipush X hx (104 : Int32) (hb hby own_d_method_3_code_22) (pc' := 24) rfl rfl ?_
          refine own_retI X hx hlk (t := .int) (w' := (.int (104 : Int32))) Bd.returns (hb hby own_d_method_3_code_24) rfl rfl (by simp) (by decide) (by decide) ?_
          rw [eT]
          exact ⟨_, rfl, N, rfl, by decide⟩
      · refine own_bipush X hx (45 : Int32) (hb hby own_d_method_3_code_14) (pc' := 16) rfl rfl ?_
        refine own_retI X hx hlk (t := .int) (w' := (.int (45 : Int32))) Bd.returns (hb hby own_d_method_3_code_16) rfl rfl (by simp) (by decide) (by decide) ?_
        rw [eT]
        exact ⟨_, rfl, N, rfl, by decide⟩
theorem own_d_method_4_code_0 : decode method_4_code 0 = .ok (.iload_n 0, 1) := by decide +kernel
theorem own_d_method_4_code_1 : decode method_4_code 1 = .ok (.iload_n 2, 1) := by decide +kernel
theorem own_d_method_4_code_2 : decode method_4_code 2 = .ok (.invokestatic 9, 3) := by decide +kernel
theorem own_pd_28II29I : parseMethodDescriptor "(II)I" = some ⟨[.int, .int], some .int⟩ := by decide +kernel
theorem own_d_method_4_code_5 : decode method_4_code 5 = .ok (.istore 5, 2) := by decide +kernel
theorem own_d_method_4_code_7 : decode method_4_code 7 = .ok (.iload 5, 2) := by decide +kernel
theorem own_d_method_4_code_9 : decode method_4_code 9 = .ok (.ifCond .lt 17, 3) := by decide +kernel
theorem own_d_method_4_code_26 : decode method_4_code 26 = .ok (.lload_n 3, 1) := by decide +kernel
theorem own_d_method_4_code_27 : decode method_4_code 27 = .ok (.invokestatic 15, 3) := by decide +kernel
theorem own_pd_28J29C : parseMethodDescriptor "(J)C" = some ⟨[.long], some .char⟩ := by decide +kernel
theorem own_d_method_4_code_30 : decode method_4_code 30 = .ok (.ireturn, 1) := by decide +kernel
theorem own_d_method_4_code_12 : decode method_4_code 12 = .ok (.iload_n 1, 1) := by decide +kernel
theorem own_d_method_4_code_13 : decode method_4_code 13 = .ok (.iconst 5, 1) := by decide +kernel
theorem own_d_method_4_code_14 : decode method_4_code 14 = .ok (.iload_n 2, 1) := by decide +kernel
theorem own_d_method_4_code_15 : decode method_4_code 15 = .ok (.iadd, 1) := by decide +kernel
theorem own_d_method_4_code_16 : decode method_4_code 16 = .ok (.iushr, 1) := by decide +kernel
theorem own_d_method_4_code_17 : decode method_4_code 17 = .ok (.iconst 1, 1) := by decide +kernel
theorem own_d_method_4_code_18 : decode method_4_code 18 = .ok (.iand, 1) := by decide +kernel
theorem own_d_method_4_code_19 : decode method_4_code 19 = .ok (.ifCond .eq 7, 3) := by decide +kernel
theorem own_d_method_4_code_22 : decode method_4_code 22 = .ok (.iload 5, 2) := by decide +kernel
theorem own_d_method_4_code_24 : decode method_4_code 24 = .ok (.i2c, 1) := by decide +kernel
theorem own_d_method_4_code_25 : decode method_4_code 25 = .ok (.ireturn, 1) := by decide +kernel
theorem ef_pick (m : MethodId) (x0 : Int32) (x1 : Int32) (x2 : Int32) (x3 : Int64) : entryFrame m #[(.int x0), (.int x1), (.int x2), (.long x3)] 6 = mkF m 0 #[.val (.int x0), .val (.int x1), .val (.int x2), .val (.long x3), .second, .unset] [] := by first | (simp [entryFrame, mkF, argsToLocals, Value.category]; done) | rfl
def Q_pick (Z : State) (p0 p1 p2 : Int32) (q3 : Int64) (h0 : Heap) (n0 : Nat) (v : Option Value) (h : Heap) (L : List Loc) : Prop := ∃ z : Int32, v = some (.int z) ∧ Fr n0 L ∧ h = h0 ∧ own_lat8 z
set_option maxRecDepth 65536 in
set_option maxHeartbeats 40000000 in
theorem rm_pick (l : Launch) (Z : State) (a0 : Array Value) (hw : ∀ d ∈ tables_1, d.before a0 Z = true) (ws : List Jvm.Cond) (p0 p1 p2 : Int32) (q3 : Int64) (h0 : Heap) (n0 : Nat) (Z0 : n0 ≤ h0.size)  :
    MetFree l (⟨"com/example/bleeper/bleeper/cli/ArgumentsAsksForHelpPinLaw", "pick", "(IIIJ)C"⟩ : MethodName) (head1 (Jvm.Cond.code (⟨"com/example/bleeper/bleeper/cli/ArgumentsAsksForHelpPinLaw", "pick", "(IIIJ)C"⟩ : MethodName) method_4_code 6 (some .char) :: ws) ({ frames := 1, cells := 0, slots := 0, locals := 15 } : Room)) (fun a U => a = #[(.int p0), (.int p1), (.int p2), (.long q3)] ∧ Z.Warmed39 U.vm ∧ U.heap = h0) (fun _ _ _ _ _ => True) (fun _ U o U' => ∃ v L, o = .returned v ∧ Q_pick Z p0 p1 p2 q3 h0 n0 v U'.heap L ∧ FrameEnd U o U' L ({ frames := 1, cells := 0, slots := 0, locals := 15 } : Room).cells ({ frames := 1, cells := 0, slots := 0, locals := 15 } : Room).slots) := by
  refine MetFree.of_bodySF (plainFor_of_name own_pn_com_example_bleeper_bleeper_cli_ArgumentsAsksForHelpPinLaw) hisR ?_
  intro p e s m args below meth c s₁ Bd hml0 hP hK
  obtain ⟨rfl, hZ, hh⟩ := hP
  have hx := Bd.exec
  have hby := Bd.bytes
  have hml : c.maxLocals = 6 := hml0
  have hown : s.vm.findClass "com/example/bleeper/bleeper/cli/ArgumentsAsksForHelpPinLaw" = some m.cls := findClass_of_methodNamed Bd.named
  have hnm := (name_of_methodNamed Bd.named Bd.method).1
  have hlk := Bd.notSynchronized
  obtain ⟨lc, hlc⟩ : ∃ lc : List Loc, lc = [] := ⟨_, rfl⟩
  have X : Stand p l e ({ frames := 1, cells := 0, slots := 0, locals := 15 } : Room) s m #[(.int p0), (.int p1), (.int p2), (.long q3)] below meth c s₁ lc 0 0 := hlc ▸ Stand.of_body Bd
  have eT : s₁.heap = h0 := by rw [← hh, Bd.state]; rfl
  have N : Fr n0 lc := hlc ▸ Fr.nil n0
  refine own_enter (ef_pick m p0 p1 p2 q3) ?_
  obtain ⟨T, hT⟩ : ∃ T : State, T = s₁ := ⟨_, rfl⟩
  rw [← hT] at X eT ⊢
  show own_W p e below (own_Post s (Q_pick Z p0 p1 p2 q3 h0 n0) 0 0) T m 0 #[.val (.int p0), .val (.int p1), .val (.int p2), .val (.long q3), .second, .unset] []
  refine own_iloadN X hx (hb hby own_d_method_4_code_0) (pc' := 1) rfl rfl ?_
  refine own_iloadN X hx (hb hby own_d_method_4_code_1) (pc' := 2) rfl rfl ?_
  refine own_callS X hx hZ [(.int p0), (.int p2)] hown (own_w hw 4 rfl) (own_w hw 5 rfl) (own_w hw 2 rfl) (own_w hw 6 rfl) (by decide) (rm_templ l Z a0 hw [] p0 p2 h0 n0 Z0) eT (W := 0) (by decide) (by decide) (cells' := 0) (slots' := 0) rfl rfl (by decide) (by decide) (by rw [hml]; rfl) (lenOf own_pd_28II29I rfl) rfl (S := []) rfl (Nat.le_of_eq rfl) (hb hby own_d_method_4_code_2) (pc' := 5) rfl ?_
  intro v T h1 L lc X eT hq fN
  obtain ⟨tz, rfl, Nq, hqe, btz⟩ := hq
  have N := fN _ N Nq
  rw [hqe] at eT
  show own_W p e below (own_Post s (Q_pick Z p0 p1 p2 q3 h0 n0) 0 0) T m 5 #[.val (.int p0), .val (.int p1), .val (.int p2), .val (.long q3), .second, .unset] [(.int tz)]
  refine own_istore X hx (hb hby own_d_method_4_code_5) (pc' := 7) rfl (Ls' := #[.val (.int p0), .val (.int p1), .val (.int p2), .val (.long q3), .second, .val (.int tz)]) rfl ?_
  refine own_iload X hx (hb hby own_d_method_4_code_7) (pc' := 9) rfl rfl ?_
  refine own_if X hx (hb hby own_d_method_4_code_9) (by decide) (pcY := 26) (pcN := 12) rfl rfl (fun (hc9 : tz < (0 : Int32)) => ?_) (fun (hc9 : ¬ (tz < (0 : Int32))) => ?_)
  · refine own_lloadN X hx (hb hby own_d_method_4_code_26) (pc' := 27) rfl rfl ?_
    refine own_callS X hx hZ [(.long q3)] hown (own_w hw 7 rfl) (own_w hw 8 rfl) (own_w hw 2 rfl) (own_w hw 9 rfl) (by decide) (rm_draw l Z a0 hw [] q3 h0 n0 Z0) eT (W := 0) (by decide) (by decide) (cells' := 0) (slots' := 0) rfl rfl (by decide) (by decide) (by rw [hml]; rfl) (lenOf own_pd_28J29C rfl) rfl (S := []) rfl (Nat.le_of_eq rfl) (hb hby own_d_method_4_code_27) (pc' := 30) rfl ?_
    intro v T h2 L lc X eT hq fN
    obtain ⟨dz, rfl, Nq, hqe, bdz⟩ := hq
    have N := fN _ N Nq
    rw [hqe] at eT
    show own_W p e below (own_Post s (Q_pick Z p0 p1 p2 q3 h0 n0) 0 0) T m 30 #[.val (.int p0), .val (.int p1), .val (.int p2), .val (.long q3), .second, .val (.int tz)] [(.int dz)]
    refine own_retI X hx hlk (t := .char) (w' := (.int (nar .char dz))) Bd.returns (hb hby own_d_method_4_code_30) rfl rfl (by simp) (by decide) (by decide) ?_
    rw [eT]
    exact ⟨_, rfl, N, rfl, own_lit bdz⟩
  · refine own_iloadN X hx (hb hby own_d_method_4_code_12) (pc' := 13) rfl rfl ?_
    refine own_iconst X hx (5 : Int32) (hb hby own_d_method_4_code_13) (pc' := 14) rfl rfl ?_
    refine own_iloadN X hx (hb hby own_d_method_4_code_14) (pc' := 15) rfl rfl ?_
    refine own_iadd X hx (hb hby own_d_method_4_code_15) (pc' := 16) rfl ?_
    refine own_iushr X hx (hb hby own_d_method_4_code_16) (pc' := 17) rfl ?_
    refine own_iconst X hx (1 : Int32) (hb hby own_d_method_4_code_17) (pc' := 18) rfl rfl ?_
    refine own_iand X hx (hb hby own_d_method_4_code_18) (pc' := 19) rfl ?_
    refine own_if X hx (hb hby own_d_method_4_code_19) (by decide) (pcY := 26) (pcN := 22) rfl rfl (fun (hc19 : ((XT.ushr p1 ((5 : Int32) + p2)) &&& (1 : Int32)) = (0 : Int32)) => ?_) (fun (hc19 : ¬ (((XT.ushr p1 ((5 : Int32) + p2)) &&& (1 : Int32)) = (0 : Int32))) => ?_)
    · refine own_lloadN X hx (hb hby own_d_method_4_code_26) (pc' := 27) rfl rfl ?_
      refine own_callS X hx hZ [(.long q3)] hown (own_w hw 7 rfl) (own_w hw 8 rfl) (own_w hw 2 rfl) (own_w hw 9 rfl) (by decide) (rm_draw l Z a0 hw [] q3 h0 n0 Z0) eT (W := 0) (by decide) (by decide) (cells' := 0) (slots' := 0) rfl rfl (by decide) (by decide) (by rw [hml]; rfl) (lenOf own_pd_28J29C rfl) rfl (S := []) rfl (Nat.le_of_eq rfl) (hb hby own_d_method_4_code_27) (pc' := 30) rfl ?_
      intro v T h3 L lc X eT hq fN
      obtain ⟨dz, rfl, Nq, hqe, bdz⟩ := hq
      have N := fN _ N Nq
      rw [hqe] at eT
      show own_W p e below (own_Post s (Q_pick Z p0 p1 p2 q3 h0 n0) 0 0) T m 30 #[.val (.int p0), .val (.int p1), .val (.int p2), .val (.long q3), .second, .val (.int tz)] [(.int dz)]
      refine own_retI X hx hlk (t := .char) (w' := (.int (nar .char dz))) Bd.returns (hb hby own_d_method_4_code_30) rfl rfl (by simp) (by decide) (by decide) ?_
      rw [eT]
      exact ⟨_, rfl, N, rfl, own_lit bdz⟩
    · refine own_iload X hx (hb hby own_d_method_4_code_22) (pc' := 24) rfl rfl ?_
      refine own_i2c X hx (hb hby own_d_method_4_code_24) (pc' := 25) rfl ?_
      refine own_retI X hx hlk (t := .char) (w' := (.int (nar .char tz.toUInt32.toUInt16.toUInt32.toInt32))) Bd.returns (hb hby own_d_method_4_code_25) rfl rfl (by simp) (by decide) (by decide) ?_
      rw [eT]
      exact ⟨_, rfl, N, rfl, own_i2cL ⟨own_ge0 hc9, btz.2⟩⟩
theorem own_d_jdk_42_method_149_code_0 : decode jdk_42_method_149_code 0 = .ok (.aload_n 0, 1) := by decide +kernel
theorem own_d_jdk_42_method_149_code_1 : decode jdk_42_method_149_code 1 = .ok (.invokespecial 1, 3) := by decide +kernel
theorem own_d_jdk_42_method_149_code_4 : decode jdk_42_method_149_code 4 = .ok (.iload_n 3, 1) := by decide +kernel
theorem own_d_jdk_42_method_149_code_5 : decode jdk_42_method_149_code 5 = .ok (.ifCond .ne 22, 3) := by decide +kernel
theorem own_d_jdk_42_method_149_code_8 : decode jdk_42_method_149_code 8 = .ok (.aload_n 0, 1) := by decide +kernel
theorem own_d_jdk_42_method_149_code_9 : decode jdk_42_method_149_code 9 = .ok (.ldc 7, 2) := by decide +kernel
theorem own_d_jdk_42_method_149_code_11 : decode jdk_42_method_149_code 11 = .ok (.getfield 9, 3) := by decide +kernel
theorem own_d_jdk_42_method_149_code_14 : decode jdk_42_method_149_code 14 = .ok (.putfield 9, 3) := by decide +kernel
theorem own_d_jdk_42_method_149_code_17 : decode jdk_42_method_149_code 17 = .ok (.aload_n 0, 1) := by decide +kernel
theorem own_d_jdk_42_method_149_code_18 : decode jdk_42_method_149_code 18 = .ok (.ldc 7, 2) := by decide +kernel
theorem own_d_jdk_42_method_149_code_20 : decode jdk_42_method_149_code 20 = .ok (.getfield 15, 3) := by decide +kernel
theorem own_d_jdk_42_method_149_code_23 : decode jdk_42_method_149_code 23 = .ok (.putfield 15, 3) := by decide +kernel
theorem own_d_jdk_42_method_149_code_26 : decode jdk_42_method_149_code 26 = .ok (.return_, 1) := by decide +kernel
theorem own_pn_java_lang_String : plainName "java/lang/String" = true := by first | (simp [plainName, overriddenIn]; done) | decide +kernel
theorem ef_iv0 (m : MethodId) (x0 : Addr) (x1 : Addr) (x2 : Int32) (x3 : Int32) : entryFrame m #[(.ref x0), (.ref x1), (.int x2), (.int x3), .null] 6 = mkF m 0 #[.val (.ref x0), .val (.ref x1), .val (.int x2), .val (.int x3), .val .null, .unset] [] := by first | (simp [entryFrame, mkF, argsToLocals, Value.category]; done) | rfl
def Q_iv0 (Z : State) (a1 aq : Addr) (h0 : Heap) (n0 : Nat) (v : Option Value) (h : Heap) (L : List Loc) : Prop := v = none ∧ Fr n0 L ∧ Keep h0 h [a1] ∧ ∃ (b : Addr) (k : ClassId), Fld Z h a1 "java/lang/String" "coder" "B" (.int (0 : Int32)) ∧ Fld Z h a1 "java/lang/String" "value" "[B" (.ref b) ∧ Arv Z h b k .byte (0 : Int32) [] (.int (0 : Int32))
set_option maxRecDepth 65536 in
set_option maxHeartbeats 40000000 in
theorem rm_iv0 (l : Launch) (Z : State) (a0 : Array Value) (hw : ∀ d ∈ tables_1, d.before a0 Z = true) (hEL : EW Z a0 own_EL) (ws : List Jvm.Cond) (a1 aq : Addr) (h0 : Heap) (n0 : Nat) (Z0 : n0 ≤ h0.size) (u1 : Value) (E_a1 : Exa Z h0 a1 "java/lang/String") (F_c : Fld Z h0 a1 "java/lang/String" "coder" "B" u1) (F_v : Fld Z h0 a1 "java/lang/String" "value" "[B" .null) (z_a1 : n0 ≤ a1) :
    MetFree l (⟨"java/lang/String", "<init>", "([CIILjava/lang/Void;)V"⟩ : MethodName) (head1 (Jvm.Cond.code (⟨"java/lang/String", "<init>", "([CIILjava/lang/Void;)V"⟩ : MethodName) jdk_42_method_149_code 6 none :: ws) ({ frames := 1, cells := 4, slots := 8, locals := 12 } : Room)) (fun a U => a = #[(.ref a1), (.ref aq), (.int (0 : Int32)), (.int (0 : Int32)), .null] ∧ Z.Warmed39 U.vm ∧ U.heap = h0 ∧ CHv Z own_EL U.vm h0) (fun _ _ _ _ _ => True) (fun _ U o U' => ∃ v L, o = .returned v ∧ Q_iv0 Z a1 aq h0 n0 v U'.heap L ∧ CHr Z own_EL U.vm U.heap U'.vm U'.heap ∧ ReturnedEndW U o U' L ({ frames := 1, cells := 4, slots := 8, locals := 12 } : Room).cells ({ frames := 1, cells := 4, slots := 8, locals := 12 } : Room).slots) := by
  refine MetFree.of_bodySF (plainFor_of_name own_pn_java_lang_String) hisR ?_
  intro p e s m args below meth c s₁ Bd hml0 hP hK
  obtain ⟨rfl, hZ, hh, H⟩ := hP
  have hx := Bd.exec
  have hby := Bd.bytes
  have hml : c.maxLocals = 6 := hml0
  have hown : s.vm.findClass "java/lang/String" = some m.cls := findClass_of_methodNamed Bd.named
  have hnm := (name_of_methodNamed Bd.named Bd.method).1
  have hlk := Bd.notSynchronized
  obtain ⟨lc, hlc⟩ : ∃ lc : List Loc, lc = [] := ⟨_, rfl⟩
  have X : Stand p l e ({ frames := 1, cells := 4, slots := 8, locals := 12 } : Room) s m #[(.ref a1), (.ref aq), (.int (0 : Int32)), (.int (0 : Int32)), .null] below meth c s₁ lc 0 0 := hlc ▸ Stand.of_body Bd
  have eT : s₁.heap = h0 := by rw [← hh, Bd.state]; rfl
  have N : Fr n0 lc := hlc ▸ Fr.nil n0
  obtain ⟨vm0, hvm⟩ : ∃ v : Vm, v = s.vm := ⟨_, rfl⟩
  have X : Stand p l e ({ frames := 1, cells := 4, slots := 8, locals := 12 } : Room) (s.setVm vm0) m #[(.ref a1), (.ref aq), (.int (0 : Int32)), (.int (0 : Int32)), .null] below meth c s₁ lc 0 0 := by rw [hvm]; exact X
  have hZ : Z.Warmed39 (s.setVm vm0).vm := by rw [hvm]; exact hZ
  have hown : (s.setVm vm0).vm.findClass "java/lang/String" = some m.cls := by rw [hvm]; exact hown
  have hS : s.Since vm0 h0.size := by rw [hvm]; exact (State.WarmedH.refl s).since _
  have hk : h0.size ≤ h0.size := Nat.le_refl _
  have CR : CHr Z own_EL s.vm h0 vm0 h0 := by rw [hvm]; exact CHr.refl H
  have H : CHv Z own_EL vm0 h0 := by rw [hvm]; exact H
  refine own_enterS (ef_iv0 m a1 aq (0 : Int32) (0 : Int32)) ?_
  obtain ⟨T, hT⟩ : ∃ T : State, T = s₁ := ⟨_, rfl⟩
  rw [← hT] at X eT ⊢
  show own_W p e below (own_PostS Z own_EL s (Q_iv0 Z a1 aq h0 n0) 4 8) T m 0 #[.val (.ref a1), .val (.ref aq), .val (.int (0 : Int32)), .val (.int (0 : Int32)), .val .null, .unset] []
  have Kp : Keep h0 h0 [a1] := Keep.refl _ _
  have S_a1 : Safe Z own_EL vm0 h0 a1 := own_safe_null hZ.alike E_a1 F_v
  refine own_aloadN X hx (hb hby own_d_jdk_42_method_149_code_0) (pc' := 1) rfl rfl rfl ?_
  refine own_initO X hx hZ hown (own_w hw 25 rfl) (own_w hw 26 rfl) (own_w hw 27 rfl) eT (by rw [hml]; rfl) (hb hby own_d_jdk_42_method_149_code_1) (pc' := 4) rfl (by decide) (W := 0) (Nat.le_of_eq rfl) (by decide) ?_
  intro T X eT
  refine own_iloadN X hx (hb hby own_d_jdk_42_method_149_code_4) (pc' := 5) rfl rfl ?_
  refine own_ifN X hx (hb hby own_d_jdk_42_method_149_code_5) (pc' := 8) rfl (show (0 : Int32) = (0 : Int32) from (by decide)) ?_
  refine own_aloadN X hx (hb hby own_d_jdk_42_method_149_code_8) (pc' := 9) rfl rfl rfl ?_
  refine own_ldcS X hx hZ hown (own_w hw 28 rfl) (own_wS hw) eT hS hk hEL own_mem_28 H [] (0 : Int32) own_txt_28 (by decide) rfl (hb hby own_d_jdk_42_method_149_code_9) (pc' := 11) rfl 0 (by decide) (by decide) (cells' := 2) (slots' := 4) rfl rfl (by decide) (by decide) ?_
  intro sa1 T h1 k1 sb1 k_sb1 vm0 X eT E hS hk hZ hown E_sa1 FC_sa1 FV_sa1 A_sb1 CQ hne_sa1
  have S_a1 := CQ.safe E_a1.lt S_a1
  have CR := CR.trans CQ
  have H := CQ.1
  have E_a1 := E_a1.ext E
  have F_c := F_c.ext E
  have F_v := F_v.ext E
  have Z0 := Nat.le_trans Z0 E.1
  have Kp := Kp.ext E
  have ne_a1_sa1 := (hne_sa1 _ S_a1).1
  have ne_a1_sb1 := (hne_sa1 _ S_a1).2
  refine own_getF X hx hZ hown (host := "") (Or.inl (own_w hw 34 rfl)) Via.refl eT FV_sa1 (hb hby own_d_jdk_42_method_149_code_11) (pc' := 14) rfl ?_
  intro T X eT
  refine own_putF X hx hZ hown (own_w hw 34 rfl) Via.refl eT F_v E_a1 (Or.inr ⟨(own_w hw 30 rfl), rfl, hnm⟩) (own_w hw 15 rfl) (ty := (.array .byte)) (v' := (.ref sb1)) (by decide) rfl rfl (hb hby own_d_jdk_42_method_149_code_14) (pc' := 17) rfl ?_
  intro T h2 lc X eT Wq fN
  have sfa : Safe Z own_EL vm0 _ a1 := S_a1
  have S_a1 := Safe.wr Wq sfa H S_a1
  have CR := CR.trans (CHr.wr Wq sfa H)
  have H := H.wr Wq sfa
  have hk := Nat.le_trans hk (Keep.of_wr Wq).1
  have F_v := F_v.same Wq
  have E_a1 := E_a1.wr Wq
  have F_c := F_c.other Wq (Or.inr (slot_ne (Or.inr (own_w hw 31 rfl)) (Or.inr (own_w hw 30 rfl)) (by decide) (t := .byte) (t' := (.array .byte)) (by decide) (by decide)))
  have E_sa1 := E_sa1.wr Wq
  have FC_sa1 := FC_sa1.other Wq (Or.inl (Ne.symm ne_a1_sa1))
  have FV_sa1 := FV_sa1.other Wq (Or.inl (Ne.symm ne_a1_sa1))
  have A_sb1 := A_sb1.other Wq (Ne.symm ne_a1_sb1)
  have Z0 := Nat.le_trans Z0 (Keep.of_wr Wq).1
  have N := fN _ z_a1 N
  have Kp := Kp.wr Wq (Or.inl (List.mem_of_getElem? (i := 0) rfl))
  refine own_aloadN X hx (hb hby own_d_jdk_42_method_149_code_17) (pc' := 18) rfl rfl rfl ?_
  refine own_ldcS X hx hZ hown (own_w hw 28 rfl) (own_wS hw) eT hS hk hEL own_mem_28 H [] (0 : Int32) own_txt_28 (by decide) rfl (hb hby own_d_jdk_42_method_149_code_18) (pc' := 20) rfl 0 (by decide) (by decide) (cells' := 4) (slots' := 8) rfl rfl (by decide) (by decide) ?_
  intro sa3 T h3 k1 sb3 k_sb3 vm0 X eT E hS hk hZ hown E_sa3 FC_sa3 FV_sa3 A_sb3 CQ hne_sa3
  have S_a1 := CQ.safe E_a1.lt S_a1
  have CR := CR.trans CQ
  have H := CQ.1
  have E_a1 := E_a1.ext E
  have F_c := F_c.ext E
  have E_sa1 := E_sa1.ext E
  have FC_sa1 := FC_sa1.ext E
  have FV_sa1 := FV_sa1.ext E
  have A_sb1 := A_sb1.ext E
  have F_v := F_v.ext E
  have Z0 := Nat.le_trans Z0 E.1
  have Kp := Kp.ext E
  have ne_a1_sa3 := (hne_sa3 _ S_a1).1
  have ne_a1_sb3 := (hne_sa3 _ S_a1).2
  refine own_getF X hx hZ hown (host := "") (Or.inl (own_w hw 35 rfl)) Via.refl eT FC_sa3 (hb hby own_d_jdk_42_method_149_code_20) (pc' := 23) rfl ?_
  intro T X eT
  refine own_putF X hx hZ hown (own_w hw 35 rfl) Via.refl eT F_c E_a1 (Or.inr ⟨(own_w hw 31 rfl), rfl, hnm⟩) (own_w hw 15 rfl) (ty := .byte) (v' := (.int (0 : Int32))) (by decide) rfl rfl (hb hby own_d_jdk_42_method_149_code_23) (pc' := 26) rfl ?_
  intro T h4 lc X eT Wq fN
  have sfa : Safe Z own_EL vm0 _ a1 := S_a1
  have S_a1 := Safe.wr Wq sfa H S_a1
  have CR := CR.trans (CHr.wr Wq sfa H)
  have H := H.wr Wq sfa
  have hk := Nat.le_trans hk (Keep.of_wr Wq).1
  have F_c := F_c.same Wq
  have E_a1 := E_a1.wr Wq
  have E_sa1 := E_sa1.wr Wq
  have FC_sa1 := FC_sa1.other Wq (Or.inl (Ne.symm ne_a1_sa1))
  have FV_sa1 := FV_sa1.other Wq (Or.inl (Ne.symm ne_a1_sa1))
  have A_sb1 := A_sb1.other Wq (Ne.symm ne_a1_sb1)
  have F_v := F_v.other Wq (Or.inr (slot_ne (Or.inr (own_w hw 30 rfl)) (Or.inr (own_w hw 31 rfl)) (by decide) (t := (.array .byte)) (t' := .byte) (by decide) (by decide)))
  have E_sa3 := E_sa3.wr Wq
  have FC_sa3 := FC_sa3.other Wq (Or.inl (Ne.symm ne_a1_sa3))
  have FV_sa3 := FV_sa3.other Wq (Or.inl (Ne.symm ne_a1_sa3))
  have A_sb3 := A_sb3.other Wq (Ne.symm ne_a1_sb3)
  have Z0 := Nat.le_trans Z0 (Keep.of_wr Wq).1
  have N := fN _ z_a1 N
  have Kp := Kp.wr Wq (Or.inl (List.mem_of_getElem? (i := 0) rfl))
  refine own_ret0S X hx hlk hZ eT hh hS hk hEL H CR Bd.returns (hb hby own_d_jdk_42_method_149_code_26) (by decide) (by decide) ?_
  rw [eT]
  exact ⟨rfl, N, Kp, sb1, _, F_c, F_v, A_sb1⟩
theorem own_d_jdk_42_method_3_code_0 : decode jdk_42_method_3_code 0 = .ok (.aload_n 0, 1) := by decide +kernel
theorem own_d_jdk_42_method_3_code_1 : decode jdk_42_method_3_code 1 = .ok (.aload_n 1, 1) := by decide +kernel
theorem own_d_jdk_42_method_3_code_2 : decode jdk_42_method_3_code 2 = .ok (.iconst 0, 1) := by decide +kernel
theorem own_d_jdk_42_method_3_code_3 : decode jdk_42_method_3_code 3 = .ok (.aload_n 1, 1) := by decide +kernel
theorem own_d_jdk_42_method_3_code_4 : decode jdk_42_method_3_code 4 = .ok (.arraylength, 1) := by decide +kernel
theorem own_d_jdk_42_method_3_code_5 : decode jdk_42_method_3_code 5 = .ok (.aconst_null, 1) := by decide +kernel
theorem own_d_jdk_42_method_3_code_6 : decode jdk_42_method_3_code 6 = .ok (.invokespecial 27, 3) := by decide +kernel
theorem own_pd_285bCIILjava2flang2fVoid3b29V : parseMethodDescriptor "([CIILjava/lang/Void;)V" = some ⟨[(.array .char), .int, .int, (.object "java/lang/Void")], none⟩ := by decide +kernel
theorem own_d_jdk_42_method_3_code_9 : decode jdk_42_method_3_code 9 = .ok (.return_, 1) := by decide +kernel
theorem ef_ic0 (m : MethodId) (x0 : Addr) (x1 : Addr) : entryFrame m #[(.ref x0), (.ref x1)] 2 = mkF m 0 #[.val (.ref x0), .val (.ref x1)] [] := by first | (simp [entryFrame, mkF, argsToLocals, Value.category]; done) | rfl
def Q_ic0 (Z : State) (a1 aq : Addr) (h0 : Heap) (n0 : Nat) (v : Option Value) (h : Heap) (L : List Loc) : Prop := v = none ∧ Fr n0 L ∧ Keep h0 h [a1] ∧ ∃ (b : Addr) (k : ClassId), Fld Z h a1 "java/lang/String" "coder" "B" (.int (0 : Int32)) ∧ Fld Z h a1 "java/lang/String" "value" "[B" (.ref b) ∧ Arv Z h b k .byte (0 : Int32) [] (.int (0 : Int32))
set_option maxRecDepth 65536 in
set_option maxHeartbeats 40000000 in
theorem rm_ic0 (l : Launch) (Z : State) (a0 : Array Value) (hw : ∀ d ∈ tables_1, d.before a0 Z = true) (hEL : EW Z a0 own_EL) (ws : List Jvm.Cond) (a1 aq : Addr) (h0 : Heap) (n0 : Nat) (Z0 : n0 ≤ h0.size) (u1 : Value) (E_a1 : Exa Z h0 a1 "java/lang/String") (F_c : Fld Z h0 a1 "java/lang/String" "coder" "B" u1) (F_v : Fld Z h0 a1 "java/lang/String" "value" "[B" .null) (z_a1 : n0 ≤ a1) (kq : ClassId) (vq : List Value) (A_aq : Arv Z h0 aq kq .char (0 : Int32) vq (.int (0 : Int32))) :
    MetFree l (⟨"java/lang/String", "<init>", "([C)V"⟩ : MethodName) (head1 (Jvm.Cond.code (⟨"java/lang/String", "<init>", "([C)V"⟩ : MethodName) jdk_42_method_3_code 2 none :: ws) ({ frames := 2, cells := 4, slots := 8, locals := 29 } : Room)) (fun a U => a = #[(.ref a1), (.ref aq)] ∧ Z.Warmed39 U.vm ∧ U.heap = h0 ∧ CHv Z own_EL U.vm h0) (fun _ _ _ _ _ => True) (fun _ U o U' => ∃ v L, o = .returned v ∧ Q_ic0 Z a1 aq h0 n0 v U'.heap L ∧ CHr Z own_EL U.vm U.heap U'.vm U'.heap ∧ ReturnedEndW U o U' L ({ frames := 2, cells := 4, slots := 8, locals := 29 } : Room).cells ({ frames := 2, cells := 4, slots := 8, locals := 29 } : Room).slots) := by
  refine MetFree.of_bodySF (plainFor_of_name own_pn_java_lang_String) hisR ?_
  intro p e s m args below meth c s₁ Bd hml0 hP hK
  obtain ⟨rfl, hZ, hh, H⟩ := hP
  have hx := Bd.exec
  have hby := Bd.bytes
  have hml : c.maxLocals = 2 := hml0
  have hown : s.vm.findClass "java/lang/String" = some m.cls := findClass_of_methodNamed Bd.named
  have hnm := (name_of_methodNamed Bd.named Bd.method).1
  have hlk := Bd.notSynchronized
  obtain ⟨lc, hlc⟩ : ∃ lc : List Loc, lc = [] := ⟨_, rfl⟩
  have X : Stand p l e ({ frames := 2, cells := 4, slots := 8, locals := 29 } : Room) s m #[(.ref a1), (.ref aq)] below meth c s₁ lc 0 0 := hlc ▸ Stand.of_body Bd
  have eT : s₁.heap = h0 := by rw [← hh, Bd.state]; rfl
  have N : Fr n0 lc := hlc ▸ Fr.nil n0
  obtain ⟨vm0, hvm⟩ : ∃ v : Vm, v = s.vm := ⟨_, rfl⟩
  have X : Stand p l e ({ frames := 2, cells := 4, slots := 8, locals := 29 } : Room) (s.setVm vm0) m #[(.ref a1), (.ref aq)] below meth c s₁ lc 0 0 := by rw [hvm]; exact X
  have hZ : Z.Warmed39 (s.setVm vm0).vm := by rw [hvm]; exact hZ
  have hown : (s.setVm vm0).vm.findClass "java/lang/String" = some m.cls := by rw [hvm]; exact hown
  have hS : s.Since vm0 h0.size := by rw [hvm]; exact (State.WarmedH.refl s).since _
  have hk : h0.size ≤ h0.size := Nat.le_refl _
  have CR : CHr Z own_EL s.vm h0 vm0 h0 := by rw [hvm]; exact CHr.refl H
  have H : CHv Z own_EL vm0 h0 := by rw [hvm]; exact H
  refine own_enterS (ef_ic0 m a1 aq) ?_
  obtain ⟨T, hT⟩ : ∃ T : State, T = s₁ := ⟨_, rfl⟩
  rw [← hT] at X eT ⊢
  show own_W p e below (own_PostS Z own_EL s (Q_ic0 Z a1 aq h0 n0) 4 8) T m 0 #[.val (.ref a1), .val (.ref aq)] []
  refine own_aloadN X hx (hb hby own_d_jdk_42_method_3_code_0) (pc' := 1) rfl rfl rfl ?_
  refine own_aloadN X hx (hb hby own_d_jdk_42_method_3_code_1) (pc' := 2) rfl rfl rfl ?_
  refine own_iconst X hx (0 : Int32) (hb hby own_d_jdk_42_method_3_code_2) (pc' := 3) rfl rfl ?_
  refine own_aloadN X hx (hb hby own_d_jdk_42_method_3_code_3) (pc' := 4) rfl rfl rfl ?_
  refine own_arrlen X hx hZ eT A_aq (hb hby own_d_jdk_42_method_3_code_4) (pc' := 5) rfl ?_
  refine own_aconst_null X hx (hb hby own_d_jdk_42_method_3_code_5) (pc' := 6) rfl ?_
  refine own_callNS X hx hZ a1 [(.ref aq), (.int (0 : Int32)), (.int (0 : Int32)), .null] rfl hown (own_w hw 21 rfl) (own_w hw 22 rfl) (own_w hw 16 rfl) (own_w hw 24 rfl) (by decide) (rm_iv0 l Z a0 hw hEL [] a1 aq h0 n0 Z0 _ E_a1 F_c F_v z_a1) eT hS hk hEL H (W := 0) (by decide) (by decide) (cells' := 4) (slots' := 8) rfl rfl (by decide) (by decide) (by rw [hml]; rfl) (lenOf own_pd_285bCIILjava2flang2fVoid3b29V rfl) rfl (S := []) rfl (Nat.le_of_eq rfl) (hb hby own_d_jdk_42_method_3_code_6) (pc' := 9) rfl ?_
  intro v T h1 L lc vm0 k1 X eT hS hk hZ hown CQ hq fN
  obtain ⟨rfl, Nq, Kq, bb, kb, F_c2, F_v2, A_bb⟩ := hq
  have N := fN _ N Nq
  have CR := CR.trans CQ
  have H := CQ.1
  show own_W p e below (own_PostS Z own_EL s (Q_ic0 Z a1 aq h0 n0) 4 8) T m 9 #[.val (.ref a1), .val (.ref aq)] []
  refine own_ret0S X hx hlk hZ eT hh hS hk hEL H CR Bd.returns (hb hby own_d_jdk_42_method_3_code_9) (by decide) (by decide) ?_
  rw [eT]
  exact ⟨rfl, N, Kq, bb, kb, F_c2, F_v2, A_bb⟩
theorem own_d_jdk_52_method_21_code_0 : decode jdk_52_method_21_code 0 = .ok (.iconst 0, 1) := by decide +kernel
theorem own_d_jdk_52_method_21_code_1 : decode jdk_52_method_21_code 1 = .ok (.istore 5, 2) := by decide +kernel
theorem own_d_jdk_52_method_21_code_3 : decode jdk_52_method_21_code 3 = .ok (.iload 5, 2) := by decide +kernel
theorem own_d_jdk_52_method_21_code_5 : decode jdk_52_method_21_code 5 = .ok (.iload 4, 2) := by decide +kernel
theorem own_d_jdk_52_method_21_code_7 : decode jdk_52_method_21_code 7 = .ok (.if_icmp .ge 37, 3) := by decide +kernel
theorem own_d_jdk_52_method_21_code_10 : decode jdk_52_method_21_code 10 = .ok (.aload_n 0, 1) := by decide +kernel
theorem own_d_jdk_52_method_21_code_11 : decode jdk_52_method_21_code 11 = .ok (.iload_n 1, 1) := by decide +kernel
theorem own_d_jdk_52_method_21_code_12 : decode jdk_52_method_21_code 12 = .ok (.caload, 1) := by decide +kernel
theorem own_d_jdk_52_method_21_code_13 : decode jdk_52_method_21_code 13 = .ok (.istore 6, 2) := by decide +kernel
theorem own_d_jdk_52_method_21_code_15 : decode jdk_52_method_21_code 15 = .ok (.iload 6, 2) := by decide +kernel
theorem own_d_jdk_52_method_21_code_17 : decode jdk_52_method_21_code 17 = .ok (.sipush 255, 3) := by decide +kernel
theorem own_d_jdk_52_method_21_code_20 : decode jdk_52_method_21_code 20 = .ok (.if_icmp .le 6, 3) := by decide +kernel
theorem own_d_jdk_52_method_21_code_26 : decode jdk_52_method_21_code 26 = .ok (.aload_n 2, 1) := by decide +kernel
theorem own_d_jdk_52_method_21_code_27 : decode jdk_52_method_21_code 27 = .ok (.iload_n 3, 1) := by decide +kernel
theorem own_d_jdk_52_method_21_code_28 : decode jdk_52_method_21_code 28 = .ok (.iload 6, 2) := by decide +kernel
theorem own_d_jdk_52_method_21_code_30 : decode jdk_52_method_21_code 30 = .ok (.i2b, 1) := by decide +kernel
theorem own_d_jdk_52_method_21_code_31 : decode jdk_52_method_21_code 31 = .ok (.bastore, 1) := by decide +kernel
theorem own_d_jdk_52_method_21_code_32 : decode jdk_52_method_21_code 32 = .ok (.iinc 1 1, 3) := by decide +kernel
theorem own_d_jdk_52_method_21_code_35 : decode jdk_52_method_21_code 35 = .ok (.iinc 3 1, 3) := by decide +kernel
theorem own_d_jdk_52_method_21_code_38 : decode jdk_52_method_21_code 38 = .ok (.iinc 5 1, 3) := by decide +kernel
theorem own_d_jdk_52_method_21_code_41 : decode jdk_52_method_21_code 41 = .ok (.goto (-38), 3) := by decide +kernel
theorem own_d_jdk_52_method_21_code_44 : decode jdk_52_method_21_code 44 = .ok (.iload 4, 2) := by decide +kernel
theorem own_d_jdk_52_method_21_code_46 : decode jdk_52_method_21_code 46 = .ok (.ireturn, 1) := by decide +kernel
theorem own_pn_java_lang_StringUTF16 : plainName "java/lang/StringUTF16" = true := by first | (simp [plainName, overriddenIn]; done) | decide +kernel
theorem ef_ci1 (m : MethodId) (x0 : Addr) (x1 : Int32) (x2 : Addr) (x3 : Int32) (x4 : Int32) : entryFrame m #[(.ref x0), (.int x1), (.ref x2), (.int x3), (.int x4)] 7 = mkF m 0 #[.val (.ref x0), .val (.int x1), .val (.ref x2), .val (.int x3), .val (.int x4), .unset, .unset] [] := by first | (simp [entryFrame, mkF, argsToLocals, Value.category]; done) | rfl
def Q_ci1 (Z : State) (aq ad : Addr) (kq kd : ClassId) (d0 : Int32) (h0 : Heap) (n0 : Nat) (v : Option Value) (h : Heap) (L : List Loc) : Prop := v = some (.int (1 : Int32)) ∧ Fr n0 L ∧ Keep h0 h [ad] ∧ Arv Z h ad kd .byte (1 : Int32) [(.int (nar .byte d0.toInt8.toInt32))] (.int (0 : Int32))
set_option maxRecDepth 65536 in
set_option maxHeartbeats 40000000 in
theorem rm_ci1 (l : Launch) (Z : State) (a0 : Array Value) (hw : ∀ d ∈ tables_1, d.before a0 Z = true) (ws : List Jvm.Cond) (aq ad : Addr) (kq kd : ClassId) (d0 : Int32) (h0 : Heap) (n0 : Nat) (Z0 : n0 ≤ h0.size) (A_aq : Arv Z h0 aq kq .char (1 : Int32) [(.int d0)] (.int (0 : Int32))) (A_ad : Arv Z h0 ad kd .byte (1 : Int32) [(.int (0 : Int32))] (.int (0 : Int32))) (nqd : aq ≠ ad) (hd0 : ¬ ((255 : Int32) < d0)) (z_ad : n0 ≤ ad) :
    MetFree l (⟨"java/lang/StringUTF16", "compress", "([CI[BII)I"⟩ : MethodName) (head1 (Jvm.Cond.code (⟨"java/lang/StringUTF16", "compress", "([CI[BII)I"⟩ : MethodName) jdk_52_method_21_code 7 (some .int) :: ws) ({ frames := 0, cells := 0, slots := 0, locals := 0 } : Room)) (fun a U => a = #[(.ref aq), (.int (0 : Int32)), (.ref ad), (.int (0 : Int32)), (.int (1 : Int32))] ∧ Z.Warmed39 U.vm ∧ U.heap = h0) (fun _ _ _ _ _ => True) (fun _ U o U' => ∃ v L, o = .returned v ∧ Q_ci1 Z aq ad kq kd d0 h0 n0 v U'.heap L ∧ FrameEnd U o U' L ({ frames := 0, cells := 0, slots := 0, locals := 0 } : Room).cells ({ frames := 0, cells := 0, slots := 0, locals := 0 } : Room).slots) := by
  refine MetFree.of_bodySF (plainFor_of_name own_pn_java_lang_StringUTF16) hisR ?_
  intro p e s m args below meth c s₁ Bd hml0 hP hK
  obtain ⟨rfl, hZ, hh⟩ := hP
  have hx := Bd.exec
  have hby := Bd.bytes
  have hml : c.maxLocals = 7 := hml0
  have hown : s.vm.findClass "java/lang/StringUTF16" = some m.cls := findClass_of_methodNamed Bd.named
  have hnm := (name_of_methodNamed Bd.named Bd.method).1
  have hlk := Bd.notSynchronized
  obtain ⟨lc, hlc⟩ : ∃ lc : List Loc, lc = [] := ⟨_, rfl⟩
  have X : Stand p l e ({ frames := 0, cells := 0, slots := 0, locals := 0 } : Room) s m #[(.ref aq), (.int (0 : Int32)), (.ref ad), (.int (0 : Int32)), (.int (1 : Int32))] below meth c s₁ lc 0 0 := hlc ▸ Stand.of_body Bd
  have eT : s₁.heap = h0 := by rw [← hh, Bd.state]; rfl
  have N : Fr n0 lc := hlc ▸ Fr.nil n0
  refine own_enter (ef_ci1 m aq (0 : Int32) ad (0 : Int32) (1 : Int32)) ?_
  obtain ⟨T, hT⟩ : ∃ T : State, T = s₁ := ⟨_, rfl⟩
  rw [← hT] at X eT ⊢
  show own_W p e below (own_Post s (Q_ci1 Z aq ad kq kd d0 h0 n0) 0 0) T m 0 #[.val (.ref aq), .val (.int (0 : Int32)), .val (.ref ad), .val (.int (0 : Int32)), .val (.int (1 : Int32)), .unset, .unset] []
  have Kp : Keep h0 h0 [ad] := Keep.refl _ _
  refine own_iconst X hx (0 : Int32) (hb hby own_d_jdk_52_method_21_code_0) (pc' := 1) rfl rfl ?_
  refine own_istore X hx (hb hby own_d_jdk_52_method_21_code_1) (pc' := 3) rfl (Ls' := #[.val (.ref aq), .val (.int (0 : Int32)), .val (.ref ad), .val (.int (0 : Int32)), .val (.int (1 : Int32)), .val (.int (0 : Int32)), .unset]) rfl ?_
  refine own_iload X hx (hb hby own_d_jdk_52_method_21_code_3) (pc' := 5) rfl rfl ?_
  refine own_iload X hx (hb hby own_d_jdk_52_method_21_code_5) (pc' := 7) rfl rfl ?_
  refine own_icmpN X hx (hb hby own_d_jdk_52_method_21_code_7) (pc' := 10) rfl (show (0 : Int32) < (1 : Int32) from (by decide)) ?_
  refine own_aloadN X hx (hb hby own_d_jdk_52_method_21_code_10) (pc' := 11) rfl rfl rfl ?_
  refine own_iloadN X hx (hb hby own_d_jdk_52_method_21_code_11) (pc' := 12) rfl rfl ?_
  refine own_caload X hx hZ eT A_aq (v := (.int d0)) (by decide) rfl (hb hby own_d_jdk_52_method_21_code_12) (pc' := 13) rfl ?_
  refine own_istore X hx (hb hby own_d_jdk_52_method_21_code_13) (pc' := 15) rfl (Ls' := #[.val (.ref aq), .val (.int (0 : Int32)), .val (.ref ad), .val (.int (0 : Int32)), .val (.int (1 : Int32)), .val (.int (0 : Int32)), .val (.int d0)]) rfl ?_
  refine own_iload X hx (hb hby own_d_jdk_52_method_21_code_15) (pc' := 17) rfl rfl ?_
  refine own_sipush X hx (255 : Int32) (hb hby own_d_jdk_52_method_21_code_17) (pc' := 20) rfl rfl ?_
  refine own_icmpY X hx (hb hby own_d_jdk_52_method_21_code_20) (by decide) (pc' := 26) rfl (show ¬ ((255 : Int32) < d0) from hd0) ?_
  refine own_aloadN X hx (hb hby own_d_jdk_52_method_21_code_26) (pc' := 27) rfl rfl rfl ?_
  refine own_iloadN X hx (hb hby own_d_jdk_52_method_21_code_27) (pc' := 28) rfl rfl ?_
  refine own_iload X hx (hb hby own_d_jdk_52_method_21_code_28) (pc' := 30) rfl rfl ?_
  refine own_i2b X hx (hb hby own_d_jdk_52_method_21_code_30) (pc' := 31) rfl ?_
  refine own_bastoreB X hx hZ eT A_ad (by decide) 0 rfl (by show 0 < 1; decide) (hb hby own_d_jdk_52_method_21_code_31) (pc' := 32) rfl ?_
  intro T h1 lc X eT Kq A_adn fN
  have A_aq := A_aq.keep Kq (ninS nqd nin0)
  have Z0 := Nat.le_trans Z0 Kq.1
  have A_ad := A_adn
  have N := fN _ z_ad N
  have Kp := Kp.trans Kq (allS (P := fun x => x ∈ [ad] ∨ h0.size ≤ x) (Or.inl (List.mem_of_getElem? (i := 0) rfl)) all0)
  have A_ad : Arv Z h1 ad _ .byte (1 : Int32) [(.int (nar .byte d0.toInt8.toInt32))] (.int (0 : Int32)) := A_ad
  refine own_iinc X hx (1 : Int32) (hb hby own_d_jdk_52_method_21_code_32) (pc' := 35) rfl rfl rfl (Ls' := #[.val (.ref aq), .val (.int (1 : Int32)), .val (.ref ad), .val (.int (0 : Int32)), .val (.int (1 : Int32)), .val (.int (0 : Int32)), .val (.int d0)]) rfl ?_
  refine own_iinc X hx (1 : Int32) (hb hby own_d_jdk_52_method_21_code_35) (pc' := 38) rfl rfl rfl (Ls' := #[.val (.ref aq), .val (.int (1 : Int32)), .val (.ref ad), .val (.int (1 : Int32)), .val (.int (1 : Int32)), .val (.int (0 : Int32)), .val (.int d0)]) rfl ?_
  refine own_iinc X hx (1 : Int32) (hb hby own_d_jdk_52_method_21_code_38) (pc' := 41) rfl rfl rfl (Ls' := #[.val (.ref aq), .val (.int (1 : Int32)), .val (.ref ad), .val (.int (1 : Int32)), .val (.int (1 : Int32)), .val (.int (1 : Int32)), .val (.int d0)]) rfl ?_
  refine own_goto X hx (hb hby own_d_jdk_52_method_21_code_41) (by decide) (pc' := 3) rfl ?_
  refine own_iload X hx (hb hby own_d_jdk_52_method_21_code_3) (pc' := 5) rfl rfl ?_
  refine own_iload X hx (hb hby own_d_jdk_52_method_21_code_5) (pc' := 7) rfl rfl ?_
  refine own_icmpY X hx (hb hby own_d_jdk_52_method_21_code_7) (by decide) (pc' := 44) rfl (show ¬ ((1 : Int32) < (1 : Int32)) from (by decide)) ?_
  refine own_iload X hx (hb hby own_d_jdk_52_method_21_code_44) (pc' := 46) rfl rfl ?_
  refine own_retI X hx hlk (t := .int) (w' := (.int (1 : Int32))) Bd.returns (hb hby own_d_jdk_52_method_21_code_46) rfl rfl (by simp) (by decide) (by decide) ?_
  rw [eT]
  exact ⟨rfl, N, Kp, A_ad⟩
theorem own_d_jdk_52_method_16_code_0 : decode jdk_52_method_16_code 0 = .ok (.iload_n 2, 1) := by decide +kernel
theorem own_d_jdk_52_method_16_code_1 : decode jdk_52_method_16_code 1 = .ok (.newarray .byte, 2) := by decide +kernel
theorem own_d_jdk_52_method_16_code_3 : decode jdk_52_method_16_code 3 = .ok (.astore_n 3, 1) := by decide +kernel
theorem own_d_jdk_52_method_16_code_4 : decode jdk_52_method_16_code 4 = .ok (.aload_n 0, 1) := by decide +kernel
theorem own_d_jdk_52_method_16_code_5 : decode jdk_52_method_16_code 5 = .ok (.iload_n 1, 1) := by decide +kernel
theorem own_d_jdk_52_method_16_code_6 : decode jdk_52_method_16_code 6 = .ok (.aload_n 3, 1) := by decide +kernel
theorem own_d_jdk_52_method_16_code_7 : decode jdk_52_method_16_code 7 = .ok (.iconst 0, 1) := by decide +kernel
theorem own_d_jdk_52_method_16_code_8 : decode jdk_52_method_16_code 8 = .ok (.iload_n 2, 1) := by decide +kernel
theorem own_d_jdk_52_method_16_code_9 : decode jdk_52_method_16_code 9 = .ok (.invokestatic 115, 3) := by decide +kernel
theorem own_pd_285bCI5bBII29I : parseMethodDescriptor "([CI[BII)I" = some ⟨[(.array .char), .int, (.array .byte), .int, .int], some .int⟩ := by decide +kernel
theorem own_d_jdk_52_method_16_code_12 : decode jdk_52_method_16_code 12 = .ok (.istore 4, 2) := by decide +kernel
theorem own_d_jdk_52_method_16_code_14 : decode jdk_52_method_16_code 14 = .ok (.iload 4, 2) := by decide +kernel
theorem own_d_jdk_52_method_16_code_16 : decode jdk_52_method_16_code 16 = .ok (.iload_n 2, 1) := by decide +kernel
theorem own_d_jdk_52_method_16_code_17 : decode jdk_52_method_16_code 17 = .ok (.if_icmp .eq 40, 3) := by decide +kernel
theorem own_d_jdk_52_method_16_code_57 : decode jdk_52_method_16_code 57 = .ok (.aload_n 3, 1) := by decide +kernel
theorem own_d_jdk_52_method_16_code_58 : decode jdk_52_method_16_code 58 = .ok (.areturn, 1) := by decide +kernel
theorem ef_cc1 (m : MethodId) (x0 : Addr) (x1 : Int32) (x2 : Int32) : entryFrame m #[(.ref x0), (.int x1), (.int x2)] 6 = mkF m 0 #[.val (.ref x0), .val (.int x1), .val (.int x2), .unset, .unset, .unset] [] := by first | (simp [entryFrame, mkF, argsToLocals, Value.category]; done) | rfl
def Q_cc1 (Z : State) (aq : Addr) (kq : ClassId) (d0 : Int32) (h0 : Heap) (n0 : Nat) (v : Option Value) (h : Heap) (L : List Loc) : Prop := ∃ (b : Addr) (kb : ClassId), v = some (.ref b) ∧ Fr n0 L ∧ Keep h0 h [] ∧ h0.size ≤ b ∧ Arv Z h b kb .byte (1 : Int32) [(.int (nar .byte d0.toInt8.toInt32))] (.int (0 : Int32))
set_option maxRecDepth 65536 in
set_option maxHeartbeats 40000000 in
theorem rm_cc1 (l : Launch) (Z : State) (a0 : Array Value) (hw : ∀ d ∈ tables_1, d.before a0 Z = true) (ws : List Jvm.Cond) (aq : Addr) (kq : ClassId) (d0 : Int32) (h0 : Heap) (n0 : Nat) (Z0 : n0 ≤ h0.size) (A_aq : Arv Z h0 aq kq .char (1 : Int32) [(.int d0)] (.int (0 : Int32))) (hd0 : ¬ ((255 : Int32) < d0)) :
    MetFree l (⟨"java/lang/StringUTF16", "compress", "([CII)[B"⟩ : MethodName) (head1 (Jvm.Cond.code (⟨"java/lang/StringUTF16", "compress", "([CII)[B"⟩ : MethodName) jdk_52_method_16_code 6 (some (.array .byte)) :: ws) ({ frames := 1, cells := 1, slots := 1, locals := 18 } : Room)) (fun a U => a = #[(.ref aq), (.int (0 : Int32)), (.int (1 : Int32))] ∧ Z.Warmed39 U.vm ∧ U.heap = h0) (fun _ _ _ _ _ => True) (fun _ U o U' => ∃ v L, o = .returned v ∧ Q_cc1 Z aq kq d0 h0 n0 v U'.heap L ∧ FrameEnd U o U' L ({ frames := 1, cells := 1, slots := 1, locals := 18 } : Room).cells ({ frames := 1, cells := 1, slots := 1, locals := 18 } : Room).slots) := by
  refine MetFree.of_bodySF (plainFor_of_name own_pn_java_lang_StringUTF16) hisR ?_
  intro p e s m args below meth c s₁ Bd hml0 hP hK
  obtain ⟨rfl, hZ, hh⟩ := hP
  have hx := Bd.exec
  have hby := Bd.bytes
  have hml : c.maxLocals = 6 := hml0
  have hown : s.vm.findClass "java/lang/StringUTF16" = some m.cls := findClass_of_methodNamed Bd.named
  have hnm := (name_of_methodNamed Bd.named Bd.method).1
  have hlk := Bd.notSynchronized
  obtain ⟨lc, hlc⟩ : ∃ lc : List Loc, lc = [] := ⟨_, rfl⟩
  have X : Stand p l e ({ frames := 1, cells := 1, slots := 1, locals := 18 } : Room) s m #[(.ref aq), (.int (0 : Int32)), (.int (1 : Int32))] below meth c s₁ lc 0 0 := hlc ▸ Stand.of_body Bd
  have eT : s₁.heap = h0 := by rw [← hh, Bd.state]; rfl
  have N : Fr n0 lc := hlc ▸ Fr.nil n0
  refine own_enter (ef_cc1 m aq (0 : Int32) (1 : Int32)) ?_
  obtain ⟨T, hT⟩ : ∃ T : State, T = s₁ := ⟨_, rfl⟩
  rw [← hT] at X eT ⊢
  show own_W p e below (own_Post s (Q_cc1 Z aq kq d0 h0 n0) 1 1) T m 0 #[.val (.ref aq), .val (.int (0 : Int32)), .val (.int (1 : Int32)), .unset, .unset, .unset] []
  have Kp : Keep h0 h0 [] := Keep.refl _ _
  refine own_iloadN X hx (hb hby own_d_jdk_52_method_16_code_0) (pc' := 1) rfl rfl ?_
  refine own_newarr X hx hZ (own_w hw 29 rfl) eT (hb hby own_d_jdk_52_method_16_code_1) (pc' := 3) rfl (by decide) 1 (by decide) (by decide) (cells' := 1) (slots' := 1) rfl rfl (by decide) (by decide) ?_
  intro T h1 k_b1 b1 X eT E gb1 A_b1
  have lt_aq_b1 : aq < b1 := Nat.lt_of_lt_of_le A_aq.lt (Nat.le_of_eq gb1.symm)
  have ne_aq_b1 : aq ≠ b1 := Nat.ne_of_lt lt_aq_b1
  have z_b1 : n0 ≤ b1 := Nat.le_trans Z0 (Nat.le_of_eq gb1.symm)
  have s_b1 : h0.size ≤ b1 := Nat.le_trans Kp.1 (Nat.le_of_eq gb1.symm)
  have A_aq := A_aq.ext E
  have Z0 := Nat.le_trans Z0 E.1
  have Kp := Kp.ext E
  have A_b1 : Arv Z h1 b1 k_b1 .byte (1 : Int32) [(.int (0 : Int32))] (.int (0 : Int32)) := A_b1.pad (pad_rep [] (.int (0 : Int32)) 1)
  refine own_astoreN X hx (hb hby own_d_jdk_52_method_16_code_3) (pc' := 4) rfl rfl (Ls' := #[.val (.ref aq), .val (.int (0 : Int32)), .val (.int (1 : Int32)), .val (.ref b1), .unset, .unset]) rfl ?_
  refine own_aloadN X hx (hb hby own_d_jdk_52_method_16_code_4) (pc' := 5) rfl rfl rfl ?_
  refine own_iloadN X hx (hb hby own_d_jdk_52_method_16_code_5) (pc' := 6) rfl rfl ?_
  refine own_aloadN X hx (hb hby own_d_jdk_52_method_16_code_6) (pc' := 7) rfl rfl rfl ?_
  refine own_iconst X hx (0 : Int32) (hb hby own_d_jdk_52_method_16_code_7) (pc' := 8) rfl rfl ?_
  refine own_iloadN X hx (hb hby own_d_jdk_52_method_16_code_8) (pc' := 9) rfl rfl ?_
  refine own_callS X hx hZ [(.ref aq), (.int (0 : Int32)), (.ref b1), (.int (0 : Int32)), (.int (1 : Int32))] hown (own_w hw 57 rfl) (own_w hw 58 rfl) (own_w hw 55 rfl) (own_w hw 59 rfl) (by decide) (rm_ci1 l Z a0 hw [] aq b1 _ _ d0 h1 n0 Z0 A_aq A_b1 ne_aq_b1 hd0 z_b1) eT (W := 0) (by decide) (by decide) (cells' := 1) (slots' := 1) rfl rfl (by decide) (by decide) (by rw [hml]; rfl) (lenOf own_pd_285bCI5bBII29I rfl) rfl (S := []) rfl (Nat.le_of_eq rfl) (hb hby own_d_jdk_52_method_16_code_9) (pc' := 12) rfl ?_
  intro v T h2 L lc X eT hq fN
  obtain ⟨rfl, Nq, Kq, B_b1⟩ := hq
  have N := fN _ N Nq
  have A_aq := A_aq.keep Kq (ninS ne_aq_b1 nin0)
  have Z0 := Nat.le_trans Z0 Kq.1
  have Kp := Kp.trans Kq (allS (P := fun x => x ∈ ([] : List Addr) ∨ h0.size ≤ x) (Or.inr s_b1) all0)
  show own_W p e below (own_Post s (Q_cc1 Z aq kq d0 h0 n0) 1 1) T m 12 #[.val (.ref aq), .val (.int (0 : Int32)), .val (.int (1 : Int32)), .val (.ref b1), .unset, .unset] [(.int (1 : Int32))]
  refine own_istore X hx (hb hby own_d_jdk_52_method_16_code_12) (pc' := 14) rfl (Ls' := #[.val (.ref aq), .val (.int (0 : Int32)), .val (.int (1 : Int32)), .val (.ref b1), .val (.int (1 : Int32)), .unset]) rfl ?_
  refine own_iload X hx (hb hby own_d_jdk_52_method_16_code_14) (pc' := 16) rfl rfl ?_
  refine own_iloadN X hx (hb hby own_d_jdk_52_method_16_code_16) (pc' := 17) rfl rfl ?_
  refine own_icmpY X hx (hb hby own_d_jdk_52_method_16_code_17) (by decide) (pc' := 57) rfl (show (1 : Int32) = (1 : Int32) from (by decide)) ?_
  refine own_aloadN X hx (hb hby own_d_jdk_52_method_16_code_57) (pc' := 58) rfl rfl rfl ?_
  refine own_retA X hx hlk Bd.returns (hb hby own_d_jdk_52_method_16_code_58) rfl rfl rfl (by decide) (by decide) ?_
  rw [eT]
  exact ⟨_, _, rfl, N, Kp, s_b1, B_b1⟩
theorem own_d_jdk_52_method_15_code_0 : decode jdk_52_method_15_code 0 = .ok (.iload_n 1, 1) := by decide +kernel
theorem own_d_jdk_52_method_15_code_1 : decode jdk_52_method_15_code 1 = .ok (.aload_n 0, 1) := by decide +kernel
theorem own_d_jdk_52_method_15_code_2 : decode jdk_52_method_15_code 2 = .ok (.arraylength, 1) := by decide +kernel
theorem own_d_jdk_52_method_15_code_3 : decode jdk_52_method_15_code 3 = .ok (.isub, 1) := by decide +kernel
theorem own_d_jdk_52_method_15_code_4 : decode jdk_52_method_15_code 4 = .ok (.bipush 31, 2) := by decide +kernel
theorem own_d_jdk_52_method_15_code_6 : decode jdk_52_method_15_code 6 = .ok (.iushr, 1) := by decide +kernel
theorem own_d_jdk_52_method_15_code_7 : decode jdk_52_method_15_code 7 = .ok (.i2b, 1) := by decide +kernel
theorem own_d_jdk_52_method_15_code_8 : decode jdk_52_method_15_code 8 = .ok (.ireturn, 1) := by decide +kernel
theorem ef_cf1 (m : MethodId) (x0 : Addr) (x1 : Int32) : entryFrame m #[(.ref x0), (.int x1)] 2 = mkF m 0 #[.val (.ref x0), .val (.int x1)] [] := by first | (simp [entryFrame, mkF, argsToLocals, Value.category]; done) | rfl
def Q_cf1 (Z : State) (b : Addr) (h0 : Heap) (n0 : Nat) (v : Option Value) (h : Heap) (L : List Loc) : Prop := v = some (.int (0 : Int32)) ∧ Fr n0 L ∧ h = h0
set_option maxRecDepth 65536 in
set_option maxHeartbeats 40000000 in
theorem rm_cf1 (l : Launch) (Z : State) (a0 : Array Value) (hw : ∀ d ∈ tables_1, d.before a0 Z = true) (ws : List Jvm.Cond) (b : Addr) (h0 : Heap) (n0 : Nat) (Z0 : n0 ≤ h0.size) (k : ClassId) (vs : List Value) (A_b : Arv Z h0 b k .byte (1 : Int32) vs (.int (0 : Int32))) :
    MetFree l (⟨"java/lang/StringUTF16", "coderFromArrayLen", "([BI)B"⟩ : MethodName) (head1 (Jvm.Cond.code (⟨"java/lang/StringUTF16", "coderFromArrayLen", "([BI)B"⟩ : MethodName) jdk_52_method_15_code 2 (some .byte) :: ws) ({ frames := 0, cells := 0, slots := 0, locals := 0 } : Room)) (fun a U => a = #[(.ref b), (.int (1 : Int32))] ∧ Z.Warmed39 U.vm ∧ U.heap = h0) (fun _ _ _ _ _ => True) (fun _ U o U' => ∃ v L, o = .returned v ∧ Q_cf1 Z b h0 n0 v U'.heap L ∧ FrameEnd U o U' L ({ frames := 0, cells := 0, slots := 0, locals := 0 } : Room).cells ({ frames := 0, cells := 0, slots := 0, locals := 0 } : Room).slots) := by
  refine MetFree.of_bodySF (plainFor_of_name own_pn_java_lang_StringUTF16) hisR ?_
  intro p e s m args below meth c s₁ Bd hml0 hP hK
  obtain ⟨rfl, hZ, hh⟩ := hP
  have hx := Bd.exec
  have hby := Bd.bytes
  have hml : c.maxLocals = 2 := hml0
  have hown : s.vm.findClass "java/lang/StringUTF16" = some m.cls := findClass_of_methodNamed Bd.named
  have hnm := (name_of_methodNamed Bd.named Bd.method).1
  have hlk := Bd.notSynchronized
  obtain ⟨lc, hlc⟩ : ∃ lc : List Loc, lc = [] := ⟨_, rfl⟩
  have X : Stand p l e ({ frames := 0, cells := 0, slots := 0, locals := 0 } : Room) s m #[(.ref b), (.int (1 : Int32))] below meth c s₁ lc 0 0 := hlc ▸ Stand.of_body Bd
  have eT : s₁.heap = h0 := by rw [← hh, Bd.state]; rfl
  have N : Fr n0 lc := hlc ▸ Fr.nil n0
  refine own_enter (ef_cf1 m b (1 : Int32)) ?_
  obtain ⟨T, hT⟩ : ∃ T : State, T = s₁ := ⟨_, rfl⟩
  rw [← hT] at X eT ⊢
  show own_W p e below (own_Post s (Q_cf1 Z b h0 n0) 0 0) T m 0 #[.val (.ref b), .val (.int (1 : Int32))] []
  refine own_iloadN X hx (hb hby own_d_jdk_52_method_15_code_0) (pc' := 1) rfl rfl ?_
  refine own_aloadN X hx (hb hby own_d_jdk_52_method_15_code_1) (pc' := 2) rfl rfl rfl ?_
  refine own_arrlen X hx hZ eT A_b (hb hby own_d_jdk_52_method_15_code_2) (pc' := 3) rfl ?_
  refine own_isub X hx (hb hby own_d_jdk_52_method_15_code_3) (pc' := 4) rfl ?_
  refine own_bipush X hx (31 : Int32) (hb hby own_d_jdk_52_method_15_code_4) (pc' := 6) rfl rfl ?_
  refine own_iushr X hx (hb hby own_d_jdk_52_method_15_code_6) (pc' := 7) rfl ?_
  refine own_i2b X hx (hb hby own_d_jdk_52_method_15_code_7) (pc' := 8) rfl ?_
  refine own_retI X hx hlk (t := .byte) (w' := (.int (0 : Int32))) Bd.returns (hb hby own_d_jdk_52_method_15_code_8) rfl rfl (by simp) (by decide) (by decide) ?_
  rw [eT]
  exact ⟨rfl, N, rfl⟩
theorem own_d_jdk_42_method_149_code_27 : decode jdk_42_method_149_code 27 = .ok (.getstatic 38, 3) := by decide +kernel
theorem own_d_jdk_42_method_149_code_30 : decode jdk_42_method_149_code 30 = .ok (.ifCond .eq 28, 3) := by decide +kernel
theorem own_d_jdk_42_method_149_code_33 : decode jdk_42_method_149_code 33 = .ok (.aload_n 1, 1) := by decide +kernel
theorem own_d_jdk_42_method_149_code_34 : decode jdk_42_method_149_code 34 = .ok (.iload_n 2, 1) := by decide +kernel
theorem own_d_jdk_42_method_149_code_35 : decode jdk_42_method_149_code 35 = .ok (.iload_n 3, 1) := by decide +kernel
theorem own_d_jdk_42_method_149_code_36 : decode jdk_42_method_149_code 36 = .ok (.invokestatic 177, 3) := by decide +kernel
theorem own_pd_285bCII295bB : parseMethodDescriptor "([CII)[B" = some ⟨[(.array .char), .int, .int], some (.array .byte)⟩ := by decide +kernel
theorem own_d_jdk_42_method_149_code_39 : decode jdk_42_method_149_code 39 = .ok (.astore 5, 2) := by decide +kernel
theorem own_d_jdk_42_method_149_code_41 : decode jdk_42_method_149_code 41 = .ok (.aload_n 0, 1) := by decide +kernel
theorem own_d_jdk_42_method_149_code_42 : decode jdk_42_method_149_code 42 = .ok (.aload 5, 2) := by decide +kernel
theorem own_d_jdk_42_method_149_code_44 : decode jdk_42_method_149_code 44 = .ok (.iload_n 3, 1) := by decide +kernel
theorem own_d_jdk_42_method_149_code_45 : decode jdk_42_method_149_code 45 = .ok (.invokestatic 47, 3) := by decide +kernel
theorem own_pd_285bBI29B : parseMethodDescriptor "([BI)B" = some ⟨[(.array .byte), .int], some .byte⟩ := by decide +kernel
theorem own_d_jdk_42_method_149_code_48 : decode jdk_42_method_149_code 48 = .ok (.putfield 15, 3) := by decide +kernel
theorem own_d_jdk_42_method_149_code_51 : decode jdk_42_method_149_code 51 = .ok (.aload_n 0, 1) := by decide +kernel
theorem own_d_jdk_42_method_149_code_52 : decode jdk_42_method_149_code 52 = .ok (.aload 5, 2) := by decide +kernel
theorem own_d_jdk_42_method_149_code_54 : decode jdk_42_method_149_code 54 = .ok (.putfield 9, 3) := by decide +kernel
theorem own_d_jdk_42_method_149_code_57 : decode jdk_42_method_149_code 57 = .ok (.return_, 1) := by decide +kernel
theorem ef_iv1 (m : MethodId) (x0 : Addr) (x1 : Addr) (x2 : Int32) (x3 : Int32) : entryFrame m #[(.ref x0), (.ref x1), (.int x2), (.int x3), .null] 6 = mkF m 0 #[.val (.ref x0), .val (.ref x1), .val (.int x2), .val (.int x3), .val .null, .unset] [] := by first | (simp [entryFrame, mkF, argsToLocals, Value.category]; done) | rfl
def Q_iv1 (Z : State) (a1 aq : Addr) (kq : ClassId) (cs : Int32) (d0 : Int32) (h0 : Heap) (n0 : Nat) (v : Option Value) (h : Heap) (L : List Loc) : Prop := v = none ∧ Fr n0 L ∧ Keep h0 h [a1] ∧ ∃ (b : Addr) (k : ClassId), h0.size ≤ b ∧ Fld Z h a1 "java/lang/String" "coder" "B" (.int (0 : Int32)) ∧ Fld Z h a1 "java/lang/String" "value" "[B" (.ref b) ∧ Arv Z h b k .byte (1 : Int32) [(.int (nar .byte d0.toInt8.toInt32))] (.int (0 : Int32))
set_option maxRecDepth 65536 in
set_option maxHeartbeats 40000000 in
theorem rm_iv1 (l : Launch) (Z : State) (a0 : Array Value) (hw : ∀ d ∈ tables_1, d.before a0 Z = true) (ws : List Jvm.Cond) (a1 aq : Addr) (kq : ClassId) (cs : Int32) (d0 : Int32) (h0 : Heap) (n0 : Nat) (Z0 : n0 ≤ h0.size) (S_C : Sta Z h0 "java/lang/String" "COMPACT_STRINGS" "Z" (.int cs)) (hcs : ¬ cs = 0) (u1 u2 : Value) (E_a1 : Exa Z h0 a1 "java/lang/String") (F_c : Fld Z h0 a1 "java/lang/String" "coder" "B" u1) (F_v : Fld Z h0 a1 "java/lang/String" "value" "[B" u2) (A_aq : Arv Z h0 aq kq .char (1 : Int32) [(.int d0)] (.int (0 : Int32))) (n1q : a1 ≠ aq) (hd0 : ¬ ((255 : Int32) < d0)) (z_a1 : n0 ≤ a1) :
    MetFree l (⟨"java/lang/String", "<init>", "([CIILjava/lang/Void;)V"⟩ : MethodName) (head1 (Jvm.Cond.code (⟨"java/lang/String", "<init>", "([CIILjava/lang/Void;)V"⟩ : MethodName) jdk_42_method_149_code 6 none :: ws) ({ frames := 2, cells := 1, slots := 1, locals := 35 } : Room)) (fun a U => a = #[(.ref a1), (.ref aq), (.int (0 : Int32)), (.int (1 : Int32)), .null] ∧ Z.Warmed39 U.vm ∧ U.heap = h0) (fun _ _ _ _ _ => True) (fun _ U o U' => ∃ v L, o = .returned v ∧ Q_iv1 Z a1 aq kq cs d0 h0 n0 v U'.heap L ∧ FrameEnd U o U' L ({ frames := 2, cells := 1, slots := 1, locals := 35 } : Room).cells ({ frames := 2, cells := 1, slots := 1, locals := 35 } : Room).slots) := by
  refine MetFree.of_bodySF (plainFor_of_name own_pn_java_lang_String) hisR ?_
  intro p e s m args below meth c s₁ Bd hml0 hP hK
  obtain ⟨rfl, hZ, hh⟩ := hP
  have hx := Bd.exec
  have hby := Bd.bytes
  have hml : c.maxLocals = 6 := hml0
  have hown : s.vm.findClass "java/lang/String" = some m.cls := findClass_of_methodNamed Bd.named
  have hnm := (name_of_methodNamed Bd.named Bd.method).1
  have hlk := Bd.notSynchronized
  obtain ⟨lc, hlc⟩ : ∃ lc : List Loc, lc = [] := ⟨_, rfl⟩
  have X : Stand p l e ({ frames := 2, cells := 1, slots := 1, locals := 35 } : Room) s m #[(.ref a1), (.ref aq), (.int (0 : Int32)), (.int (1 : Int32)), .null] below meth c s₁ lc 0 0 := hlc ▸ Stand.of_body Bd
  have eT : s₁.heap = h0 := by rw [← hh, Bd.state]; rfl
  have N : Fr n0 lc := hlc ▸ Fr.nil n0
  refine own_enter (ef_iv1 m a1 aq (0 : Int32) (1 : Int32)) ?_
  obtain ⟨T, hT⟩ : ∃ T : State, T = s₁ := ⟨_, rfl⟩
  rw [← hT] at X eT ⊢
  show own_W p e below (own_Post s (Q_iv1 Z a1 aq kq cs d0 h0 n0) 1 1) T m 0 #[.val (.ref a1), .val (.ref aq), .val (.int (0 : Int32)), .val (.int (1 : Int32)), .val .null, .unset] []
  have Kp : Keep h0 h0 [a1] := Keep.refl _ _
  refine own_aloadN X hx (hb hby own_d_jdk_42_method_149_code_0) (pc' := 1) rfl rfl rfl ?_
  refine own_initO X hx hZ hown (own_w hw 25 rfl) (own_w hw 26 rfl) (own_w hw 27 rfl) eT (by rw [hml]; rfl) (hb hby own_d_jdk_42_method_149_code_1) (pc' := 4) rfl (by decide) (W := 0) (Nat.le_of_eq rfl) (by decide) ?_
  intro T X eT
  refine own_iloadN X hx (hb hby own_d_jdk_42_method_149_code_4) (pc' := 5) rfl rfl ?_
  refine own_ifY X hx (hb hby own_d_jdk_42_method_149_code_5) (by decide) (pc' := 27) rfl (show ¬ ((1 : Int32) = (0 : Int32)) from (by decide)) ?_
  refine own_getS X hx hZ hown (host := "") (Or.inl (own_w hw 47 rfl)) Via.refl eT S_C (hb hby own_d_jdk_42_method_149_code_27) (pc' := 30) rfl ?_
  intro T X eT
  refine own_ifN X hx (hb hby own_d_jdk_42_method_149_code_30) (pc' := 33) rfl (show ¬ (cs = (0 : Int32)) from hcs) ?_
  refine own_aloadN X hx (hb hby own_d_jdk_42_method_149_code_33) (pc' := 34) rfl rfl rfl ?_
  refine own_iloadN X hx (hb hby own_d_jdk_42_method_149_code_34) (pc' := 35) rfl rfl ?_
  refine own_iloadN X hx (hb hby own_d_jdk_42_method_149_code_35) (pc' := 36) rfl rfl ?_
  refine own_callS X hx hZ [(.ref aq), (.int (0 : Int32)), (.int (1 : Int32))] hown (own_w hw 53 rfl) (own_w hw 54 rfl) (own_w hw 55 rfl) (own_w hw 56 rfl) (by decide) (rm_cc1 l Z a0 hw [] aq kq d0 h0 n0 Z0 A_aq hd0) eT (W := 0) (by decide) (by decide) (cells' := 1) (slots' := 1) rfl rfl (by decide) (by decide) (by rw [hml]; rfl) (lenOf own_pd_285bCII295bB rfl) rfl (S := []) rfl (Nat.le_of_eq rfl) (hb hby own_d_jdk_42_method_149_code_36) (pc' := 39) rfl ?_
  intro v T h1 L lc X eT hq fN
  obtain ⟨bb, kb, rfl, Nq, Kq, hbb, A_bb⟩ := hq
  have N := fN _ N Nq
  have lt_a1_bb : a1 < bb := Nat.lt_of_lt_of_le E_a1.lt hbb
  have ne_a1_bb : a1 ≠ bb := Nat.ne_of_lt lt_a1_bb
  have lt_aq_bb : aq < bb := Nat.lt_of_lt_of_le A_aq.lt hbb
  have ne_aq_bb : aq ≠ bb := Nat.ne_of_lt lt_aq_bb
  have z_bb : n0 ≤ bb := Nat.le_trans Z0 hbb
  have s_bb : h0.size ≤ bb := Nat.le_trans Kp.1 hbb
  have S_C := own_sta_keep S_C Kq ns0
  have E_a1 := E_a1.keep Kq
  have F_c := F_c.keep Kq nin0
  have F_v := F_v.keep Kq nin0
  have A_aq := A_aq.keep Kq nin0
  have Z0 := Nat.le_trans Z0 Kq.1
  have Kp := Kp.trans Kq all0
  show own_W p e below (own_Post s (Q_iv1 Z a1 aq kq cs d0 h0 n0) 1 1) T m 39 #[.val (.ref a1), .val (.ref aq), .val (.int (0 : Int32)), .val (.int (1 : Int32)), .val .null, .unset] [(.ref bb)]
  refine own_astore X hx (hb hby own_d_jdk_42_method_149_code_39) (pc' := 41) rfl rfl (Ls' := #[.val (.ref a1), .val (.ref aq), .val (.int (0 : Int32)), .val (.int (1 : Int32)), .val .null, .val (.ref bb)]) rfl ?_
  refine own_aloadN X hx (hb hby own_d_jdk_42_method_149_code_41) (pc' := 42) rfl rfl rfl ?_
  refine own_aload X hx (hb hby own_d_jdk_42_method_149_code_42) (pc' := 44) rfl rfl rfl ?_
  refine own_iloadN X hx (hb hby own_d_jdk_42_method_149_code_44) (pc' := 45) rfl rfl ?_
  refine own_callS X hx hZ [(.ref bb), (.int (1 : Int32))] hown (own_w hw 60 rfl) (own_w hw 61 rfl) (own_w hw 55 rfl) (own_w hw 62 rfl) (by decide) (rm_cf1 l Z a0 hw [] bb h1 n0 Z0 _ _ A_bb) eT (W := 1) (by decide) (by decide) (cells' := 1) (slots' := 1) rfl rfl (by decide) (by decide) (by rw [hml]; rfl) (lenOf own_pd_285bBI29B rfl) rfl (S := [(.ref a1)]) rfl (Nat.le_of_eq rfl) (hb hby own_d_jdk_42_method_149_code_45) (pc' := 48) rfl ?_
  intro v T h2 L lc X eT hq fN
  obtain ⟨rfl, Nq, hqe⟩ := hq
  have N := fN _ N Nq
  rw [hqe] at eT
  show own_W p e below (own_Post s (Q_iv1 Z a1 aq kq cs d0 h0 n0) 1 1) T m 48 #[.val (.ref a1), .val (.ref aq), .val (.int (0 : Int32)), .val (.int (1 : Int32)), .val .null, .val (.ref bb)] [(.int (0 : Int32)), (.ref a1)]
  refine own_putF X hx hZ hown (own_w hw 35 rfl) Via.refl eT F_c E_a1 (Or.inr ⟨(own_w hw 31 rfl), rfl, hnm⟩) (own_w hw 15 rfl) (ty := .byte) (v' := (.int (0 : Int32))) (by decide) rfl rfl (hb hby own_d_jdk_42_method_149_code_48) (pc' := 51) rfl ?_
  intro T h3 lc X eT Wq fN
  have F_c := F_c.same Wq
  have S_C := S_C.wr Wq
  have E_a1 := E_a1.wr Wq
  have F_v := F_v.other Wq (Or.inr (slot_ne (Or.inr (own_w hw 30 rfl)) (Or.inr (own_w hw 31 rfl)) (by decide) (t := (.array .byte)) (t' := .byte) (by decide) (by decide)))
  have A_aq := A_aq.other Wq (Ne.symm n1q)
  have A_bb := A_bb.other Wq (Ne.symm ne_a1_bb)
  have Z0 := Nat.le_trans Z0 (Keep.of_wr Wq).1
  have N := fN _ z_a1 N
  have Kp := Kp.wr Wq (Or.inl (List.mem_of_getElem? (i := 0) rfl))
  refine own_aloadN X hx (hb hby own_d_jdk_42_method_149_code_51) (pc' := 52) rfl rfl rfl ?_
  refine own_aload X hx (hb hby own_d_jdk_42_method_149_code_52) (pc' := 54) rfl rfl rfl ?_
  refine own_putF X hx hZ hown (own_w hw 34 rfl) Via.refl eT F_v E_a1 (Or.inr ⟨(own_w hw 30 rfl), rfl, hnm⟩) (own_w hw 15 rfl) (ty := (.array .byte)) (v' := (.ref bb)) (by decide) rfl rfl (hb hby own_d_jdk_42_method_149_code_54) (pc' := 57) rfl ?_
  intro T h4 lc X eT Wq fN
  have F_v := F_v.same Wq
  have S_C := S_C.wr Wq
  have E_a1 := E_a1.wr Wq
  have A_aq := A_aq.other Wq (Ne.symm n1q)
  have A_bb := A_bb.other Wq (Ne.symm ne_a1_bb)
  have F_c := F_c.other Wq (Or.inr (slot_ne (Or.inr (own_w hw 31 rfl)) (Or.inr (own_w hw 30 rfl)) (by decide) (t := .byte) (t' := (.array .byte)) (by decide) (by decide)))
  have Z0 := Nat.le_trans Z0 (Keep.of_wr Wq).1
  have N := fN _ z_a1 N
  have Kp := Kp.wr Wq (Or.inl (List.mem_of_getElem? (i := 0) rfl))
  refine own_ret0 X hx hlk Bd.returns (hb hby own_d_jdk_42_method_149_code_57) (by decide) (by decide) ?_
  rw [eT]
  exact ⟨rfl, N, Kp, bb, kb, s_bb, F_c, F_v, A_bb⟩
theorem ef_ic1 (m : MethodId) (x0 : Addr) (x1 : Addr) : entryFrame m #[(.ref x0), (.ref x1)] 2 = mkF m 0 #[.val (.ref x0), .val (.ref x1)] [] := by first | (simp [entryFrame, mkF, argsToLocals, Value.category]; done) | rfl
def Q_ic1 (Z : State) (a1 aq : Addr) (kq : ClassId) (cs : Int32) (d0 : Int32) (h0 : Heap) (n0 : Nat) (v : Option Value) (h : Heap) (L : List Loc) : Prop := v = none ∧ Fr n0 L ∧ Keep h0 h [a1] ∧ ∃ (b : Addr) (k : ClassId), h0.size ≤ b ∧ Fld Z h a1 "java/lang/String" "coder" "B" (.int (0 : Int32)) ∧ Fld Z h a1 "java/lang/String" "value" "[B" (.ref b) ∧ Arv Z h b k .byte (1 : Int32) [(.int (nar .byte d0.toInt8.toInt32))] (.int (0 : Int32))
set_option maxRecDepth 65536 in
set_option maxHeartbeats 40000000 in
theorem rm_ic1 (l : Launch) (Z : State) (a0 : Array Value) (hw : ∀ d ∈ tables_1, d.before a0 Z = true) (ws : List Jvm.Cond) (a1 aq : Addr) (kq : ClassId) (cs : Int32) (d0 : Int32) (h0 : Heap) (n0 : Nat) (Z0 : n0 ≤ h0.size) (S_C : Sta Z h0 "java/lang/String" "COMPACT_STRINGS" "Z" (.int cs)) (hcs : ¬ cs = 0) (u1 u2 : Value) (E_a1 : Exa Z h0 a1 "java/lang/String") (F_c : Fld Z h0 a1 "java/lang/String" "coder" "B" u1) (F_v : Fld Z h0 a1 "java/lang/String" "value" "[B" u2) (A_aq : Arv Z h0 aq kq .char (1 : Int32) [(.int d0)] (.int (0 : Int32))) (n1q : a1 ≠ aq) (hd0 : ¬ ((255 : Int32) < d0)) (z_a1 : n0 ≤ a1) :
    MetFree l (⟨"java/lang/String", "<init>", "([C)V"⟩ : MethodName) (head1 (Jvm.Cond.code (⟨"java/lang/String", "<init>", "([C)V"⟩ : MethodName) jdk_42_method_3_code 2 none :: ws) ({ frames := 3, cells := 1, slots := 1, locals := 52 } : Room)) (fun a U => a = #[(.ref a1), (.ref aq)] ∧ Z.Warmed39 U.vm ∧ U.heap = h0) (fun _ _ _ _ _ => True) (fun _ U o U' => ∃ v L, o = .returned v ∧ Q_ic1 Z a1 aq kq cs d0 h0 n0 v U'.heap L ∧ FrameEnd U o U' L ({ frames := 3, cells := 1, slots := 1, locals := 52 } : Room).cells ({ frames := 3, cells := 1, slots := 1, locals := 52 } : Room).slots) := by
  refine MetFree.of_bodySF (plainFor_of_name own_pn_java_lang_String) hisR ?_
  intro p e s m args below meth c s₁ Bd hml0 hP hK
  obtain ⟨rfl, hZ, hh⟩ := hP
  have hx := Bd.exec
  have hby := Bd.bytes
  have hml : c.maxLocals = 2 := hml0
  have hown : s.vm.findClass "java/lang/String" = some m.cls := findClass_of_methodNamed Bd.named
  have hnm := (name_of_methodNamed Bd.named Bd.method).1
  have hlk := Bd.notSynchronized
  obtain ⟨lc, hlc⟩ : ∃ lc : List Loc, lc = [] := ⟨_, rfl⟩
  have X : Stand p l e ({ frames := 3, cells := 1, slots := 1, locals := 52 } : Room) s m #[(.ref a1), (.ref aq)] below meth c s₁ lc 0 0 := hlc ▸ Stand.of_body Bd
  have eT : s₁.heap = h0 := by rw [← hh, Bd.state]; rfl
  have N : Fr n0 lc := hlc ▸ Fr.nil n0
  refine own_enter (ef_ic1 m a1 aq) ?_
  obtain ⟨T, hT⟩ : ∃ T : State, T = s₁ := ⟨_, rfl⟩
  rw [← hT] at X eT ⊢
  show own_W p e below (own_Post s (Q_ic1 Z a1 aq kq cs d0 h0 n0) 1 1) T m 0 #[.val (.ref a1), .val (.ref aq)] []
  refine own_aloadN X hx (hb hby own_d_jdk_42_method_3_code_0) (pc' := 1) rfl rfl rfl ?_
  refine own_aloadN X hx (hb hby own_d_jdk_42_method_3_code_1) (pc' := 2) rfl rfl rfl ?_
  refine own_iconst X hx (0 : Int32) (hb hby own_d_jdk_42_method_3_code_2) (pc' := 3) rfl rfl ?_
  refine own_aloadN X hx (hb hby own_d_jdk_42_method_3_code_3) (pc' := 4) rfl rfl rfl ?_
  refine own_arrlen X hx hZ eT A_aq (hb hby own_d_jdk_42_method_3_code_4) (pc' := 5) rfl ?_
  refine own_aconst_null X hx (hb hby own_d_jdk_42_method_3_code_5) (pc' := 6) rfl ?_
  refine own_callN X hx hZ a1 [(.ref aq), (.int (0 : Int32)), (.int (1 : Int32)), .null] rfl hown (own_w hw 21 rfl) (own_w hw 22 rfl) (own_w hw 16 rfl) (own_w hw 24 rfl) (by decide) (rm_iv1 l Z a0 hw [] a1 aq kq cs d0 h0 n0 Z0 S_C hcs _ _ E_a1 F_c F_v A_aq n1q hd0 z_a1) eT (W := 0) (by decide) (by decide) (cells' := 1) (slots' := 1) rfl rfl (by decide) (by decide) (by rw [hml]; rfl) (lenOf own_pd_285bCIILjava2flang2fVoid3b29V rfl) rfl (S := []) rfl (Nat.le_of_eq rfl) (hb hby own_d_jdk_42_method_3_code_6) (pc' := 9) rfl ?_
  intro v T h1 L lc X eT hq fN
  obtain ⟨rfl, Nq, Kq, bb, kb, hbb, F_c2, F_v2, A_bb⟩ := hq
  have N := fN _ N Nq
  show own_W p e below (own_Post s (Q_ic1 Z a1 aq kq cs d0 h0 n0) 1 1) T m 9 #[.val (.ref a1), .val (.ref aq)] []
  refine own_ret0 X hx hlk Bd.returns (hb hby own_d_jdk_42_method_3_code_9) (by decide) (by decide) ?_
  rw [eT]
  exact ⟨rfl, N, Kq, bb, kb, hbb, F_c2, F_v2, A_bb⟩
theorem ef_ci2 (m : MethodId) (x0 : Addr) (x1 : Int32) (x2 : Addr) (x3 : Int32) (x4 : Int32) : entryFrame m #[(.ref x0), (.int x1), (.ref x2), (.int x3), (.int x4)] 7 = mkF m 0 #[.val (.ref x0), .val (.int x1), .val (.ref x2), .val (.int x3), .val (.int x4), .unset, .unset] [] := by first | (simp [entryFrame, mkF, argsToLocals, Value.category]; done) | rfl
def Q_ci2 (Z : State) (aq ad : Addr) (kq kd : ClassId) (d0 d1 : Int32) (h0 : Heap) (n0 : Nat) (v : Option Value) (h : Heap) (L : List Loc) : Prop := v = some (.int (2 : Int32)) ∧ Fr n0 L ∧ Keep h0 h [ad] ∧ Arv Z h ad kd .byte (2 : Int32) [(.int (nar .byte d0.toInt8.toInt32)), (.int (nar .byte d1.toInt8.toInt32))] (.int (0 : Int32))
set_option maxRecDepth 65536 in
set_option maxHeartbeats 40000000 in
theorem rm_ci2 (l : Launch) (Z : State) (a0 : Array Value) (hw : ∀ d ∈ tables_1, d.before a0 Z = true) (ws : List Jvm.Cond) (aq ad : Addr) (kq kd : ClassId) (d0 d1 : Int32) (h0 : Heap) (n0 : Nat) (Z0 : n0 ≤ h0.size) (A_aq : Arv Z h0 aq kq .char (2 : Int32) [(.int d0), (.int d1)] (.int (0 : Int32))) (A_ad : Arv Z h0 ad kd .byte (2 : Int32) [(.int (0 : Int32)), (.int (0 : Int32))] (.int (0 : Int32))) (nqd : aq ≠ ad) (hd0 : ¬ ((255 : Int32) < d0)) (hd1 : ¬ ((255 : Int32) < d1)) (z_ad : n0 ≤ ad) :
    MetFree l (⟨"java/lang/StringUTF16", "compress", "([CI[BII)I"⟩ : MethodName) (head1 (Jvm.Cond.code (⟨"java/lang/StringUTF16", "compress", "([CI[BII)I"⟩ : MethodName) jdk_52_method_21_code 7 (some .int) :: ws) ({ frames := 0, cells := 0, slots := 0, locals := 0 } : Room)) (fun a U => a = #[(.ref aq), (.int (0 : Int32)), (.ref ad), (.int (0 : Int32)), (.int (2 : Int32))] ∧ Z.Warmed39 U.vm ∧ U.heap = h0) (fun _ _ _ _ _ => True) (fun _ U o U' => ∃ v L, o = .returned v ∧ Q_ci2 Z aq ad kq kd d0 d1 h0 n0 v U'.heap L ∧ FrameEnd U o U' L ({ frames := 0, cells := 0, slots := 0, locals := 0 } : Room).cells ({ frames := 0, cells := 0, slots := 0, locals := 0 } : Room).slots) := by
  refine MetFree.of_bodySF (plainFor_of_name own_pn_java_lang_StringUTF16) hisR ?_
  intro p e s m args below meth c s₁ Bd hml0 hP hK
  obtain ⟨rfl, hZ, hh⟩ := hP
  have hx := Bd.exec
  have hby := Bd.bytes
  have hml : c.maxLocals = 7 := hml0
  have hown : s.vm.findClass "java/lang/StringUTF16" = some m.cls := findClass_of_methodNamed Bd.named
  have hnm := (name_of_methodNamed Bd.named Bd.method).1
  have hlk := Bd.notSynchronized
  obtain ⟨lc, hlc⟩ : ∃ lc : List Loc, lc = [] := ⟨_, rfl⟩
  have X : Stand p l e ({ frames := 0, cells := 0, slots := 0, locals := 0 } : Room) s m #[(.ref aq), (.int (0 : Int32)), (.ref ad), (.int (0 : Int32)), (.int (2 : Int32))] below meth c s₁ lc 0 0 := hlc ▸ Stand.of_body Bd
  have eT : s₁.heap = h0 := by rw [← hh, Bd.state]; rfl
  have N : Fr n0 lc := hlc ▸ Fr.nil n0
  refine own_enter (ef_ci2 m aq (0 : Int32) ad (0 : Int32) (2 : Int32)) ?_
  obtain ⟨T, hT⟩ : ∃ T : State, T = s₁ := ⟨_, rfl⟩
  rw [← hT] at X eT ⊢
  show own_W p e below (own_Post s (Q_ci2 Z aq ad kq kd d0 d1 h0 n0) 0 0) T m 0 #[.val (.ref aq), .val (.int (0 : Int32)), .val (.ref ad), .val (.int (0 : Int32)), .val (.int (2 : Int32)), .unset, .unset] []
  have Kp : Keep h0 h0 [ad] := Keep.refl _ _
  refine own_iconst X hx (0 : Int32) (hb hby own_d_jdk_52_method_21_code_0) (pc' := 1) rfl rfl ?_
  refine own_istore X hx (hb hby own_d_jdk_52_method_21_code_1) (pc' := 3) rfl (Ls' := #[.val (.ref aq), .val (.int (0 : Int32)), .val (.ref ad), .val (.int (0 : Int32)), .val (.int (2 : Int32)), .val (.int (0 : Int32)), .unset]) rfl ?_
  refine own_iload X hx (hb hby own_d_jdk_52_method_21_code_3) (pc' := 5) rfl rfl ?_
  refine own_iload X hx (hb hby own_d_jdk_52_method_21_code_5) (pc' := 7) rfl rfl ?_
  refine own_icmpN X hx (hb hby own_d_jdk_52_method_21_code_7) (pc' := 10) rfl (show (0 : Int32) < (2 : Int32) from (by decide)) ?_
  refine own_aloadN X hx (hb hby own_d_jdk_52_method_21_code_10) (pc' := 11) rfl rfl rfl ?_
  refine own_iloadN X hx (hb hby own_d_jdk_52_method_21_code_11) (pc' := 12) rfl rfl ?_
  refine own_caload X hx hZ eT A_aq (v := (.int d0)) (by decide) rfl (hb hby own_d_jdk_52_method_21_code_12) (pc' := 13) rfl ?_
  refine own_istore X hx (hb hby own_d_jdk_52_method_21_code_13) (pc' := 15) rfl (Ls' := #[.val (.ref aq), .val (.int (0 : Int32)), .val (.ref ad), .val (.int (0 : Int32)), .val (.int (2 : Int32)), .val (.int (0 : Int32)), .val (.int d0)]) rfl ?_
  refine own_iload X hx (hb hby own_d_jdk_52_method_21_code_15) (pc' := 17) rfl rfl ?_
  refine own_sipush X hx (255 : Int32) (hb hby own_d_jdk_52_method_21_code_17) (pc' := 20) rfl rfl ?_
  refine own_icmpY X hx (hb hby own_d_jdk_52_method_21_code_20) (by decide) (pc' := 26) rfl (show ¬ ((255 : Int32) < d0) from hd0) ?_
  refine own_aloadN X hx (hb hby own_d_jdk_52_method_21_code_26) (pc' := 27) rfl rfl rfl ?_
  refine own_iloadN X hx (hb hby own_d_jdk_52_method_21_code_27) (pc' := 28) rfl rfl ?_
  refine own_iload X hx (hb hby own_d_jdk_52_method_21_code_28) (pc' := 30) rfl rfl ?_
  refine own_i2b X hx (hb hby own_d_jdk_52_method_21_code_30) (pc' := 31) rfl ?_
  refine own_bastoreB X hx hZ eT A_ad (by decide) 0 rfl (by show 0 < 2; decide) (hb hby own_d_jdk_52_method_21_code_31) (pc' := 32) rfl ?_
  intro T h1 lc X eT Kq A_adn fN
  have A_aq := A_aq.keep Kq (ninS nqd nin0)
  have Z0 := Nat.le_trans Z0 Kq.1
  have A_ad := A_adn
  have N := fN _ z_ad N
  have Kp := Kp.trans Kq (allS (P := fun x => x ∈ [ad] ∨ h0.size ≤ x) (Or.inl (List.mem_of_getElem? (i := 0) rfl)) all0)
  have A_ad : Arv Z h1 ad _ .byte (2 : Int32) [(.int (nar .byte d0.toInt8.toInt32)), (.int (0 : Int32))] (.int (0 : Int32)) := A_ad
  refine own_iinc X hx (1 : Int32) (hb hby own_d_jdk_52_method_21_code_32) (pc' := 35) rfl rfl rfl (Ls' := #[.val (.ref aq), .val (.int (1 : Int32)), .val (.ref ad), .val (.int (0 : Int32)), .val (.int (2 : Int32)), .val (.int (0 : Int32)), .val (.int d0)]) rfl ?_
  refine own_iinc X hx (1 : Int32) (hb hby own_d_jdk_52_method_21_code_35) (pc' := 38) rfl rfl rfl (Ls' := #[.val (.ref aq), .val (.int (1 : Int32)), .val (.ref ad), .val (.int (1 : Int32)), .val (.int (2 : Int32)), .val (.int (0 : Int32)), .val (.int d0)]) rfl ?_
  refine own_iinc X hx (1 : Int32) (hb hby own_d_jdk_52_method_21_code_38) (pc' := 41) rfl rfl rfl (Ls' := #[.val (.ref aq), .val (.int (1 : Int32)), .val (.ref ad), .val (.int (1 : Int32)), .val (.int (2 : Int32)), .val (.int (1 : Int32)), .val (.int d0)]) rfl ?_
  refine own_goto X hx (hb hby own_d_jdk_52_method_21_code_41) (by decide) (pc' := 3) rfl ?_
  refine own_iload X hx (hb hby own_d_jdk_52_method_21_code_3) (pc' := 5) rfl rfl ?_
  refine own_iload X hx (hb hby own_d_jdk_52_method_21_code_5) (pc' := 7) rfl rfl ?_
  refine own_icmpN X hx (hb hby own_d_jdk_52_method_21_code_7) (pc' := 10) rfl (show (1 : Int32) < (2 : Int32) from (by decide)) ?_
  refine own_aloadN X hx (hb hby own_d_jdk_52_method_21_code_10) (pc' := 11) rfl rfl rfl ?_
  refine own_iloadN X hx (hb hby own_d_jdk_52_method_21_code_11) (pc' := 12) rfl rfl ?_
  refine own_caload X hx hZ eT A_aq (v := (.int d1)) (by decide) rfl (hb hby own_d_jdk_52_method_21_code_12) (pc' := 13) rfl ?_
  refine own_istore X hx (hb hby own_d_jdk_52_method_21_code_13) (pc' := 15) rfl (Ls' := #[.val (.ref aq), .val (.int (1 : Int32)), .val (.ref ad), .val (.int (1 : Int32)), .val (.int (2 : Int32)), .val (.int (1 : Int32)), .val (.int d1)]) rfl ?_
  refine own_iload X hx (hb hby own_d_jdk_52_method_21_code_15) (pc' := 17) rfl rfl ?_
  refine own_sipush X hx (255 : Int32) (hb hby own_d_jdk_52_method_21_code_17) (pc' := 20) rfl rfl ?_
  refine own_icmpY X hx (hb hby own_d_jdk_52_method_21_code_20) (by decide) (pc' := 26) rfl (show ¬ ((255 : Int32) < d1) from hd1) ?_
  refine own_aloadN X hx (hb hby own_d_jdk_52_method_21_code_26) (pc' := 27) rfl rfl rfl ?_
  refine own_iloadN X hx (hb hby own_d_jdk_52_method_21_code_27) (pc' := 28) rfl rfl ?_
  refine own_iload X hx (hb hby own_d_jdk_52_method_21_code_28) (pc' := 30) rfl rfl ?_
  refine own_i2b X hx (hb hby own_d_jdk_52_method_21_code_30) (pc' := 31) rfl ?_
  refine own_bastoreB X hx hZ eT A_ad (by decide) 1 rfl (by show 1 < 2; decide) (hb hby own_d_jdk_52_method_21_code_31) (pc' := 32) rfl ?_
  intro T h2 lc X eT Kq A_adn fN
  have A_aq := A_aq.keep Kq (ninS nqd nin0)
  have Z0 := Nat.le_trans Z0 Kq.1
  have A_ad := A_adn
  have N := fN _ z_ad N
  have Kp := Kp.trans Kq (allS (P := fun x => x ∈ [ad] ∨ h0.size ≤ x) (Or.inl (List.mem_of_getElem? (i := 0) rfl)) all0)
  have A_ad : Arv Z h2 ad _ .byte (2 : Int32) [(.int (nar .byte d0.toInt8.toInt32)), (.int (nar .byte d1.toInt8.toInt32))] (.int (0 : Int32)) := A_ad
  refine own_iinc X hx (1 : Int32) (hb hby own_d_jdk_52_method_21_code_32) (pc' := 35) rfl rfl rfl (Ls' := #[.val (.ref aq), .val (.int (2 : Int32)), .val (.ref ad), .val (.int (1 : Int32)), .val (.int (2 : Int32)), .val (.int (1 : Int32)), .val (.int d1)]) rfl ?_
  refine own_iinc X hx (1 : Int32) (hb hby own_d_jdk_52_method_21_code_35) (pc' := 38) rfl rfl rfl (Ls' := #[.val (.ref aq), .val (.int (2 : Int32)), .val (.ref ad), .val (.int (2 : Int32)), .val (.int (2 : Int32)), .val (.int (1 : Int32)), .val (.int d1)]) rfl ?_
  refine own_iinc X hx (1 : Int32) (hb hby own_d_jdk_52_method_21_code_38) (pc' := 41) rfl rfl rfl (Ls' := #[.val (.ref aq), .val (.int (2 : Int32)), .val (.ref ad), .val (.int (2 : Int32)), .val (.int (2 : Int32)), .val (.int (2 : Int32)), .val (.int d1)]) rfl ?_
  refine own_goto X hx (hb hby own_d_jdk_52_method_21_code_41) (by decide) (pc' := 3) rfl ?_
  refine own_iload X hx (hb hby own_d_jdk_52_method_21_code_3) (pc' := 5) rfl rfl ?_
  refine own_iload X hx (hb hby own_d_jdk_52_method_21_code_5) (pc' := 7) rfl rfl ?_
  refine own_icmpY X hx (hb hby own_d_jdk_52_method_21_code_7) (by decide) (pc' := 44) rfl (show ¬ ((2 : Int32) < (2 : Int32)) from (by decide)) ?_
  refine own_iload X hx (hb hby own_d_jdk_52_method_21_code_44) (pc' := 46) rfl rfl ?_
  refine own_retI X hx hlk (t := .int) (w' := (.int (2 : Int32))) Bd.returns (hb hby own_d_jdk_52_method_21_code_46) rfl rfl (by simp) (by decide) (by decide) ?_
  rw [eT]
  exact ⟨rfl, N, Kp, A_ad⟩
theorem ef_cc2 (m : MethodId) (x0 : Addr) (x1 : Int32) (x2 : Int32) : entryFrame m #[(.ref x0), (.int x1), (.int x2)] 6 = mkF m 0 #[.val (.ref x0), .val (.int x1), .val (.int x2), .unset, .unset, .unset] [] := by first | (simp [entryFrame, mkF, argsToLocals, Value.category]; done) | rfl
def Q_cc2 (Z : State) (aq : Addr) (kq : ClassId) (d0 d1 : Int32) (h0 : Heap) (n0 : Nat) (v : Option Value) (h : Heap) (L : List Loc) : Prop := ∃ (b : Addr) (kb : ClassId), v = some (.ref b) ∧ Fr n0 L ∧ Keep h0 h [] ∧ h0.size ≤ b ∧ Arv Z h b kb .byte (2 : Int32) [(.int (nar .byte d0.toInt8.toInt32)), (.int (nar .byte d1.toInt8.toInt32))] (.int (0 : Int32))
set_option maxRecDepth 65536 in
set_option maxHeartbeats 40000000 in
theorem rm_cc2 (l : Launch) (Z : State) (a0 : Array Value) (hw : ∀ d ∈ tables_1, d.before a0 Z = true) (ws : List Jvm.Cond) (aq : Addr) (kq : ClassId) (d0 d1 : Int32) (h0 : Heap) (n0 : Nat) (Z0 : n0 ≤ h0.size) (A_aq : Arv Z h0 aq kq .char (2 : Int32) [(.int d0), (.int d1)] (.int (0 : Int32))) (hd0 : ¬ ((255 : Int32) < d0)) (hd1 : ¬ ((255 : Int32) < d1)) :
    MetFree l (⟨"java/lang/StringUTF16", "compress", "([CII)[B"⟩ : MethodName) (head1 (Jvm.Cond.code (⟨"java/lang/StringUTF16", "compress", "([CII)[B"⟩ : MethodName) jdk_52_method_16_code 6 (some (.array .byte)) :: ws) ({ frames := 1, cells := 1, slots := 2, locals := 18 } : Room)) (fun a U => a = #[(.ref aq), (.int (0 : Int32)), (.int (2 : Int32))] ∧ Z.Warmed39 U.vm ∧ U.heap = h0) (fun _ _ _ _ _ => True) (fun _ U o U' => ∃ v L, o = .returned v ∧ Q_cc2 Z aq kq d0 d1 h0 n0 v U'.heap L ∧ FrameEnd U o U' L ({ frames := 1, cells := 1, slots := 2, locals := 18 } : Room).cells ({ frames := 1, cells := 1, slots := 2, locals := 18 } : Room).slots) := by
  refine MetFree.of_bodySF (plainFor_of_name own_pn_java_lang_StringUTF16) hisR ?_
  intro p e s m args below meth c s₁ Bd hml0 hP hK
  obtain ⟨rfl, hZ, hh⟩ := hP
  have hx := Bd.exec
  have hby := Bd.bytes
  have hml : c.maxLocals = 6 := hml0
  have hown : s.vm.findClass "java/lang/StringUTF16" = some m.cls := findClass_of_methodNamed Bd.named
  have hnm := (name_of_methodNamed Bd.named Bd.method).1
  have hlk := Bd.notSynchronized
  obtain ⟨lc, hlc⟩ : ∃ lc : List Loc, lc = [] := ⟨_, rfl⟩
  have X : Stand p l e ({ frames := 1, cells := 1, slots := 2, locals := 18 } : Room) s m #[(.ref aq), (.int (0 : Int32)), (.int (2 : Int32))] below meth c s₁ lc 0 0 := hlc ▸ Stand.of_body Bd
  have eT : s₁.heap = h0 := by rw [← hh, Bd.state]; rfl
  have N : Fr n0 lc := hlc ▸ Fr.nil n0
  refine own_enter (ef_cc2 m aq (0 : Int32) (2 : Int32)) ?_
  obtain ⟨T, hT⟩ : ∃ T : State, T = s₁ := ⟨_, rfl⟩
  rw [← hT] at X eT ⊢
  show own_W p e below (own_Post s (Q_cc2 Z aq kq d0 d1 h0 n0) 1 2) T m 0 #[.val (.ref aq), .val (.int (0 : Int32)), .val (.int (2 : Int32)), .unset, .unset, .unset] []
  have Kp : Keep h0 h0 [] := Keep.refl _ _
  refine own_iloadN X hx (hb hby own_d_jdk_52_method_16_code_0) (pc' := 1) rfl rfl ?_
  refine own_newarr X hx hZ (own_w hw 29 rfl) eT (hb hby own_d_jdk_52_method_16_code_1) (pc' := 3) rfl (by decide) 2 (by decide) (by decide) (cells' := 1) (slots' := 2) rfl rfl (by decide) (by decide) ?_
  intro T h1 k_b1 b1 X eT E gb1 A_b1
  have lt_aq_b1 : aq < b1 := Nat.lt_of_lt_of_le A_aq.lt (Nat.le_of_eq gb1.symm)
  have ne_aq_b1 : aq ≠ b1 := Nat.ne_of_lt lt_aq_b1
  have z_b1 : n0 ≤ b1 := Nat.le_trans Z0 (Nat.le_of_eq gb1.symm)
  have s_b1 : h0.size ≤ b1 := Nat.le_trans Kp.1 (Nat.le_of_eq gb1.symm)
  have A_aq := A_aq.ext E
  have Z0 := Nat.le_trans Z0 E.1
  have Kp := Kp.ext E
  have A_b1 : Arv Z h1 b1 k_b1 .byte (2 : Int32) [(.int (0 : Int32)), (.int (0 : Int32))] (.int (0 : Int32)) := A_b1.pad (pad_rep [] (.int (0 : Int32)) 2)
  refine own_astoreN X hx (hb hby own_d_jdk_52_method_16_code_3) (pc' := 4) rfl rfl (Ls' := #[.val (.ref aq), .val (.int (0 : Int32)), .val (.int (2 : Int32)), .val (.ref b1), .unset, .unset]) rfl ?_
  refine own_aloadN X hx (hb hby own_d_jdk_52_method_16_code_4) (pc' := 5) rfl rfl rfl ?_
  refine own_iloadN X hx (hb hby own_d_jdk_52_method_16_code_5) (pc' := 6) rfl rfl ?_
  refine own_aloadN X hx (hb hby own_d_jdk_52_method_16_code_6) (pc' := 7) rfl rfl rfl ?_
  refine own_iconst X hx (0 : Int32) (hb hby own_d_jdk_52_method_16_code_7) (pc' := 8) rfl rfl ?_
  refine own_iloadN X hx (hb hby own_d_jdk_52_method_16_code_8) (pc' := 9) rfl rfl ?_
  refine own_callS X hx hZ [(.ref aq), (.int (0 : Int32)), (.ref b1), (.int (0 : Int32)), (.int (2 : Int32))] hown (own_w hw 57 rfl) (own_w hw 58 rfl) (own_w hw 55 rfl) (own_w hw 59 rfl) (by decide) (rm_ci2 l Z a0 hw [] aq b1 _ _ d0 d1 h1 n0 Z0 A_aq A_b1 ne_aq_b1 hd0 hd1 z_b1) eT (W := 0) (by decide) (by decide) (cells' := 1) (slots' := 2) rfl rfl (by decide) (by decide) (by rw [hml]; rfl) (lenOf own_pd_285bCI5bBII29I rfl) rfl (S := []) rfl (Nat.le_of_eq rfl) (hb hby own_d_jdk_52_method_16_code_9) (pc' := 12) rfl ?_
  intro v T h2 L lc X eT hq fN
  obtain ⟨rfl, Nq, Kq, B_b1⟩ := hq
  have N := fN _ N Nq
  have A_aq := A_aq.keep Kq (ninS ne_aq_b1 nin0)
  have Z0 := Nat.le_trans Z0 Kq.1
  have Kp := Kp.trans Kq (allS (P := fun x => x ∈ ([] : List Addr) ∨ h0.size ≤ x) (Or.inr s_b1) all0)
  show own_W p e below (own_Post s (Q_cc2 Z aq kq d0 d1 h0 n0) 1 2) T m 12 #[.val (.ref aq), .val (.int (0 : Int32)), .val (.int (2 : Int32)), .val (.ref b1), .unset, .unset] [(.int (2 : Int32))]
  refine own_istore X hx (hb hby own_d_jdk_52_method_16_code_12) (pc' := 14) rfl (Ls' := #[.val (.ref aq), .val (.int (0 : Int32)), .val (.int (2 : Int32)), .val (.ref b1), .val (.int (2 : Int32)), .unset]) rfl ?_
  refine own_iload X hx (hb hby own_d_jdk_52_method_16_code_14) (pc' := 16) rfl rfl ?_
  refine own_iloadN X hx (hb hby own_d_jdk_52_method_16_code_16) (pc' := 17) rfl rfl ?_
  refine own_icmpY X hx (hb hby own_d_jdk_52_method_16_code_17) (by decide) (pc' := 57) rfl (show (2 : Int32) = (2 : Int32) from (by decide)) ?_
  refine own_aloadN X hx (hb hby own_d_jdk_52_method_16_code_57) (pc' := 58) rfl rfl rfl ?_
  refine own_retA X hx hlk Bd.returns (hb hby own_d_jdk_52_method_16_code_58) rfl rfl rfl (by decide) (by decide) ?_
  rw [eT]
  exact ⟨_, _, rfl, N, Kp, s_b1, B_b1⟩
theorem ef_cf2 (m : MethodId) (x0 : Addr) (x1 : Int32) : entryFrame m #[(.ref x0), (.int x1)] 2 = mkF m 0 #[.val (.ref x0), .val (.int x1)] [] := by first | (simp [entryFrame, mkF, argsToLocals, Value.category]; done) | rfl
def Q_cf2 (Z : State) (b : Addr) (h0 : Heap) (n0 : Nat) (v : Option Value) (h : Heap) (L : List Loc) : Prop := v = some (.int (0 : Int32)) ∧ Fr n0 L ∧ h = h0
set_option maxRecDepth 65536 in
set_option maxHeartbeats 40000000 in
theorem rm_cf2 (l : Launch) (Z : State) (a0 : Array Value) (hw : ∀ d ∈ tables_1, d.before a0 Z = true) (ws : List Jvm.Cond) (b : Addr) (h0 : Heap) (n0 : Nat) (Z0 : n0 ≤ h0.size) (k : ClassId) (vs : List Value) (A_b : Arv Z h0 b k .byte (2 : Int32) vs (.int (0 : Int32))) :
    MetFree l (⟨"java/lang/StringUTF16", "coderFromArrayLen", "([BI)B"⟩ : MethodName) (head1 (Jvm.Cond.code (⟨"java/lang/StringUTF16", "coderFromArrayLen", "([BI)B"⟩ : MethodName) jdk_52_method_15_code 2 (some .byte) :: ws) ({ frames := 0, cells := 0, slots := 0, locals := 0 } : Room)) (fun a U => a = #[(.ref b), (.int (2 : Int32))] ∧ Z.Warmed39 U.vm ∧ U.heap = h0) (fun _ _ _ _ _ => True) (fun _ U o U' => ∃ v L, o = .returned v ∧ Q_cf2 Z b h0 n0 v U'.heap L ∧ FrameEnd U o U' L ({ frames := 0, cells := 0, slots := 0, locals := 0 } : Room).cells ({ frames := 0, cells := 0, slots := 0, locals := 0 } : Room).slots) := by
  refine MetFree.of_bodySF (plainFor_of_name own_pn_java_lang_StringUTF16) hisR ?_
  intro p e s m args below meth c s₁ Bd hml0 hP hK
  obtain ⟨rfl, hZ, hh⟩ := hP
  have hx := Bd.exec
  have hby := Bd.bytes
  have hml : c.maxLocals = 2 := hml0
  have hown : s.vm.findClass "java/lang/StringUTF16" = some m.cls := findClass_of_methodNamed Bd.named
  have hnm := (name_of_methodNamed Bd.named Bd.method).1
  have hlk := Bd.notSynchronized
  obtain ⟨lc, hlc⟩ : ∃ lc : List Loc, lc = [] := ⟨_, rfl⟩
  have X : Stand p l e ({ frames := 0, cells := 0, slots := 0, locals := 0 } : Room) s m #[(.ref b), (.int (2 : Int32))] below meth c s₁ lc 0 0 := hlc ▸ Stand.of_body Bd
  have eT : s₁.heap = h0 := by rw [← hh, Bd.state]; rfl
  have N : Fr n0 lc := hlc ▸ Fr.nil n0
  refine own_enter (ef_cf2 m b (2 : Int32)) ?_
  obtain ⟨T, hT⟩ : ∃ T : State, T = s₁ := ⟨_, rfl⟩
  rw [← hT] at X eT ⊢
  show own_W p e below (own_Post s (Q_cf2 Z b h0 n0) 0 0) T m 0 #[.val (.ref b), .val (.int (2 : Int32))] []
  refine own_iloadN X hx (hb hby own_d_jdk_52_method_15_code_0) (pc' := 1) rfl rfl ?_
  refine own_aloadN X hx (hb hby own_d_jdk_52_method_15_code_1) (pc' := 2) rfl rfl rfl ?_
  refine own_arrlen X hx hZ eT A_b (hb hby own_d_jdk_52_method_15_code_2) (pc' := 3) rfl ?_
  refine own_isub X hx (hb hby own_d_jdk_52_method_15_code_3) (pc' := 4) rfl ?_
  refine own_bipush X hx (31 : Int32) (hb hby own_d_jdk_52_method_15_code_4) (pc' := 6) rfl rfl ?_
  refine own_iushr X hx (hb hby own_d_jdk_52_method_15_code_6) (pc' := 7) rfl ?_
  refine own_i2b X hx (hb hby own_d_jdk_52_method_15_code_7) (pc' := 8) rfl ?_
  refine own_retI X hx hlk (t := .byte) (w' := (.int (0 : Int32))) Bd.returns (hb hby own_d_jdk_52_method_15_code_8) rfl rfl (by simp) (by decide) (by decide) ?_
  rw [eT]
  exact ⟨rfl, N, rfl⟩
theorem ef_iv2 (m : MethodId) (x0 : Addr) (x1 : Addr) (x2 : Int32) (x3 : Int32) : entryFrame m #[(.ref x0), (.ref x1), (.int x2), (.int x3), .null] 6 = mkF m 0 #[.val (.ref x0), .val (.ref x1), .val (.int x2), .val (.int x3), .val .null, .unset] [] := by first | (simp [entryFrame, mkF, argsToLocals, Value.category]; done) | rfl
def Q_iv2 (Z : State) (a1 aq : Addr) (kq : ClassId) (cs : Int32) (d0 d1 : Int32) (h0 : Heap) (n0 : Nat) (v : Option Value) (h : Heap) (L : List Loc) : Prop := v = none ∧ Fr n0 L ∧ Keep h0 h [a1] ∧ ∃ (b : Addr) (k : ClassId), h0.size ≤ b ∧ Fld Z h a1 "java/lang/String" "coder" "B" (.int (0 : Int32)) ∧ Fld Z h a1 "java/lang/String" "value" "[B" (.ref b) ∧ Arv Z h b k .byte (2 : Int32) [(.int (nar .byte d0.toInt8.toInt32)), (.int (nar .byte d1.toInt8.toInt32))] (.int (0 : Int32))
set_option maxRecDepth 65536 in
set_option maxHeartbeats 40000000 in
theorem rm_iv2 (l : Launch) (Z : State) (a0 : Array Value) (hw : ∀ d ∈ tables_1, d.before a0 Z = true) (ws : List Jvm.Cond) (a1 aq : Addr) (kq : ClassId) (cs : Int32) (d0 d1 : Int32) (h0 : Heap) (n0 : Nat) (Z0 : n0 ≤ h0.size) (S_C : Sta Z h0 "java/lang/String" "COMPACT_STRINGS" "Z" (.int cs)) (hcs : ¬ cs = 0) (u1 u2 : Value) (E_a1 : Exa Z h0 a1 "java/lang/String") (F_c : Fld Z h0 a1 "java/lang/String" "coder" "B" u1) (F_v : Fld Z h0 a1 "java/lang/String" "value" "[B" u2) (A_aq : Arv Z h0 aq kq .char (2 : Int32) [(.int d0), (.int d1)] (.int (0 : Int32))) (n1q : a1 ≠ aq) (hd0 : ¬ ((255 : Int32) < d0)) (hd1 : ¬ ((255 : Int32) < d1)) (z_a1 : n0 ≤ a1) :
    MetFree l (⟨"java/lang/String", "<init>", "([CIILjava/lang/Void;)V"⟩ : MethodName) (head1 (Jvm.Cond.code (⟨"java/lang/String", "<init>", "([CIILjava/lang/Void;)V"⟩ : MethodName) jdk_42_method_149_code 6 none :: ws) ({ frames := 2, cells := 1, slots := 2, locals := 35 } : Room)) (fun a U => a = #[(.ref a1), (.ref aq), (.int (0 : Int32)), (.int (2 : Int32)), .null] ∧ Z.Warmed39 U.vm ∧ U.heap = h0) (fun _ _ _ _ _ => True) (fun _ U o U' => ∃ v L, o = .returned v ∧ Q_iv2 Z a1 aq kq cs d0 d1 h0 n0 v U'.heap L ∧ FrameEnd U o U' L ({ frames := 2, cells := 1, slots := 2, locals := 35 } : Room).cells ({ frames := 2, cells := 1, slots := 2, locals := 35 } : Room).slots) := by
  refine MetFree.of_bodySF (plainFor_of_name own_pn_java_lang_String) hisR ?_
  intro p e s m args below meth c s₁ Bd hml0 hP hK
  obtain ⟨rfl, hZ, hh⟩ := hP
  have hx := Bd.exec
  have hby := Bd.bytes
  have hml : c.maxLocals = 6 := hml0
  have hown : s.vm.findClass "java/lang/String" = some m.cls := findClass_of_methodNamed Bd.named
  have hnm := (name_of_methodNamed Bd.named Bd.method).1
  have hlk := Bd.notSynchronized
  obtain ⟨lc, hlc⟩ : ∃ lc : List Loc, lc = [] := ⟨_, rfl⟩
  have X : Stand p l e ({ frames := 2, cells := 1, slots := 2, locals := 35 } : Room) s m #[(.ref a1), (.ref aq), (.int (0 : Int32)), (.int (2 : Int32)), .null] below meth c s₁ lc 0 0 := hlc ▸ Stand.of_body Bd
  have eT : s₁.heap = h0 := by rw [← hh, Bd.state]; rfl
  have N : Fr n0 lc := hlc ▸ Fr.nil n0
  refine own_enter (ef_iv2 m a1 aq (0 : Int32) (2 : Int32)) ?_
  obtain ⟨T, hT⟩ : ∃ T : State, T = s₁ := ⟨_, rfl⟩
  rw [← hT] at X eT ⊢
  show own_W p e below (own_Post s (Q_iv2 Z a1 aq kq cs d0 d1 h0 n0) 1 2) T m 0 #[.val (.ref a1), .val (.ref aq), .val (.int (0 : Int32)), .val (.int (2 : Int32)), .val .null, .unset] []
  have Kp : Keep h0 h0 [a1] := Keep.refl _ _
  refine own_aloadN X hx (hb hby own_d_jdk_42_method_149_code_0) (pc' := 1) rfl rfl rfl ?_
  refine own_initO X hx hZ hown (own_w hw 25 rfl) (own_w hw 26 rfl) (own_w hw 27 rfl) eT (by rw [hml]; rfl) (hb hby own_d_jdk_42_method_149_code_1) (pc' := 4) rfl (by decide) (W := 0) (Nat.le_of_eq rfl) (by decide) ?_
  intro T X eT
  refine own_iloadN X hx (hb hby own_d_jdk_42_method_149_code_4) (pc' := 5) rfl rfl ?_
  refine own_ifY X hx (hb hby own_d_jdk_42_method_149_code_5) (by decide) (pc' := 27) rfl (show ¬ ((2 : Int32) = (0 : Int32)) from (by decide)) ?_
  refine own_getS X hx hZ hown (host := "") (Or.inl (own_w hw 47 rfl)) Via.refl eT S_C (hb hby own_d_jdk_42_method_149_code_27) (pc' := 30) rfl ?_
  intro T X eT
  refine own_ifN X hx (hb hby own_d_jdk_42_method_149_code_30) (pc' := 33) rfl (show ¬ (cs = (0 : Int32)) from hcs) ?_
  refine own_aloadN X hx (hb hby own_d_jdk_42_method_149_code_33) (pc' := 34) rfl rfl rfl ?_
  refine own_iloadN X hx (hb hby own_d_jdk_42_method_149_code_34) (pc' := 35) rfl rfl ?_
  refine own_iloadN X hx (hb hby own_d_jdk_42_method_149_code_35) (pc' := 36) rfl rfl ?_
  refine own_callS X hx hZ [(.ref aq), (.int (0 : Int32)), (.int (2 : Int32))] hown (own_w hw 53 rfl) (own_w hw 54 rfl) (own_w hw 55 rfl) (own_w hw 56 rfl) (by decide) (rm_cc2 l Z a0 hw [] aq kq d0 d1 h0 n0 Z0 A_aq hd0 hd1) eT (W := 0) (by decide) (by decide) (cells' := 1) (slots' := 2) rfl rfl (by decide) (by decide) (by rw [hml]; rfl) (lenOf own_pd_285bCII295bB rfl) rfl (S := []) rfl (Nat.le_of_eq rfl) (hb hby own_d_jdk_42_method_149_code_36) (pc' := 39) rfl ?_
  intro v T h1 L lc X eT hq fN
  obtain ⟨bb, kb, rfl, Nq, Kq, hbb, A_bb⟩ := hq
  have N := fN _ N Nq
  have lt_a1_bb : a1 < bb := Nat.lt_of_lt_of_le E_a1.lt hbb
  have ne_a1_bb : a1 ≠ bb := Nat.ne_of_lt lt_a1_bb
  have lt_aq_bb : aq < bb := Nat.lt_of_lt_of_le A_aq.lt hbb
  have ne_aq_bb : aq ≠ bb := Nat.ne_of_lt lt_aq_bb
  have z_bb : n0 ≤ bb := Nat.le_trans Z0 hbb
  have s_bb : h0.size ≤ bb := Nat.le_trans Kp.1 hbb
  have S_C := own_sta_keep S_C Kq ns0
  have E_a1 := E_a1.keep Kq
  have F_c := F_c.keep Kq nin0
  have F_v := F_v.keep Kq nin0
  have A_aq := A_aq.keep Kq nin0
  have Z0 := Nat.le_trans Z0 Kq.1
  have Kp := Kp.trans Kq all0
  show own_W p e below (own_Post s (Q_iv2 Z a1 aq kq cs d0 d1 h0 n0) 1 2) T m 39 #[.val (.ref a1), .val (.ref aq), .val (.int (0 : Int32)), .val (.int (2 : Int32)), .val .null, .unset] [(.ref bb)]
  refine own_astore X hx (hb hby own_d_jdk_42_method_149_code_39) (pc' := 41) rfl rfl (Ls' := #[.val (.ref a1), .val (.ref aq), .val (.int (0 : Int32)), .val (.int (2 : Int32)), .val .null, .val (.ref bb)]) rfl ?_
  refine own_aloadN X hx (hb hby own_d_jdk_42_method_149_code_41) (pc' := 42) rfl rfl rfl ?_
  refine own_aload X hx (hb hby own_d_jdk_42_method_149_code_42) (pc' := 44) rfl rfl rfl ?_
  refine own_iloadN X hx (hb hby own_d_jdk_42_method_149_code_44) (pc' := 45) rfl rfl ?_
  refine own_callS X hx hZ [(.ref bb), (.int (2 : Int32))] hown (own_w hw 60 rfl) (own_w hw 61 rfl) (own_w hw 55 rfl) (own_w hw 62 rfl) (by decide) (rm_cf2 l Z a0 hw [] bb h1 n0 Z0 _ _ A_bb) eT (W := 1) (by decide) (by decide) (cells' := 1) (slots' := 2) rfl rfl (by decide) (by decide) (by rw [hml]; rfl) (lenOf own_pd_285bBI29B rfl) rfl (S := [(.ref a1)]) rfl (Nat.le_of_eq rfl) (hb hby own_d_jdk_42_method_149_code_45) (pc' := 48) rfl ?_
  intro v T h2 L lc X eT hq fN
  obtain ⟨rfl, Nq, hqe⟩ := hq
  have N := fN _ N Nq
  rw [hqe] at eT
  show own_W p e below (own_Post s (Q_iv2 Z a1 aq kq cs d0 d1 h0 n0) 1 2) T m 48 #[.val (.ref a1), .val (.ref aq), .val (.int (0 : Int32)), .val (.int (2 : Int32)), .val .null, .val (.ref bb)] [(.int (0 : Int32)), (.ref a1)]
  refine own_putF X hx hZ hown (own_w hw 35 rfl) Via.refl eT F_c E_a1 (Or.inr ⟨(own_w hw 31 rfl), rfl, hnm⟩) (own_w hw 15 rfl) (ty := .byte) (v' := (.int (0 : Int32))) (by decide) rfl rfl (hb hby own_d_jdk_42_method_149_code_48) (pc' := 51) rfl ?_
  intro T h3 lc X eT Wq fN
  have F_c := F_c.same Wq
  have S_C := S_C.wr Wq
  have E_a1 := E_a1.wr Wq
  have F_v := F_v.other Wq (Or.inr (slot_ne (Or.inr (own_w hw 30 rfl)) (Or.inr (own_w hw 31 rfl)) (by decide) (t := (.array .byte)) (t' := .byte) (by decide) (by decide)))
  have A_aq := A_aq.other Wq (Ne.symm n1q)
  have A_bb := A_bb.other Wq (Ne.symm ne_a1_bb)
  have Z0 := Nat.le_trans Z0 (Keep.of_wr Wq).1
  have N := fN _ z_a1 N
  have Kp := Kp.wr Wq (Or.inl (List.mem_of_getElem? (i := 0) rfl))
  refine own_aloadN X hx (hb hby own_d_jdk_42_method_149_code_51) (pc' := 52) rfl rfl rfl ?_
  refine own_aload X hx (hb hby own_d_jdk_42_method_149_code_52) (pc' := 54) rfl rfl rfl ?_
  refine own_putF X hx hZ hown (own_w hw 34 rfl) Via.refl eT F_v E_a1 (Or.inr ⟨(own_w hw 30 rfl), rfl, hnm⟩) (own_w hw 15 rfl) (ty := (.array .byte)) (v' := (.ref bb)) (by decide) rfl rfl (hb hby own_d_jdk_42_method_149_code_54) (pc' := 57) rfl ?_
  intro T h4 lc X eT Wq fN
  have F_v := F_v.same Wq
  have S_C := S_C.wr Wq
  have E_a1 := E_a1.wr Wq
  have A_aq := A_aq.other Wq (Ne.symm n1q)
  have A_bb := A_bb.other Wq (Ne.symm ne_a1_bb)
  have F_c := F_c.other Wq (Or.inr (slot_ne (Or.inr (own_w hw 31 rfl)) (Or.inr (own_w hw 30 rfl)) (by decide) (t := .byte) (t' := (.array .byte)) (by decide) (by decide)))
  have Z0 := Nat.le_trans Z0 (Keep.of_wr Wq).1
  have N := fN _ z_a1 N
  have Kp := Kp.wr Wq (Or.inl (List.mem_of_getElem? (i := 0) rfl))
  refine own_ret0 X hx hlk Bd.returns (hb hby own_d_jdk_42_method_149_code_57) (by decide) (by decide) ?_
  rw [eT]
  exact ⟨rfl, N, Kp, bb, kb, s_bb, F_c, F_v, A_bb⟩
theorem ef_ic2 (m : MethodId) (x0 : Addr) (x1 : Addr) : entryFrame m #[(.ref x0), (.ref x1)] 2 = mkF m 0 #[.val (.ref x0), .val (.ref x1)] [] := by first | (simp [entryFrame, mkF, argsToLocals, Value.category]; done) | rfl
def Q_ic2 (Z : State) (a1 aq : Addr) (kq : ClassId) (cs : Int32) (d0 d1 : Int32) (h0 : Heap) (n0 : Nat) (v : Option Value) (h : Heap) (L : List Loc) : Prop := v = none ∧ Fr n0 L ∧ Keep h0 h [a1] ∧ ∃ (b : Addr) (k : ClassId), h0.size ≤ b ∧ Fld Z h a1 "java/lang/String" "coder" "B" (.int (0 : Int32)) ∧ Fld Z h a1 "java/lang/String" "value" "[B" (.ref b) ∧ Arv Z h b k .byte (2 : Int32) [(.int (nar .byte d0.toInt8.toInt32)), (.int (nar .byte d1.toInt8.toInt32))] (.int (0 : Int32))
set_option maxRecDepth 65536 in
set_option maxHeartbeats 40000000 in
theorem rm_ic2 (l : Launch) (Z : State) (a0 : Array Value) (hw : ∀ d ∈ tables_1, d.before a0 Z = true) (ws : List Jvm.Cond) (a1 aq : Addr) (kq : ClassId) (cs : Int32) (d0 d1 : Int32) (h0 : Heap) (n0 : Nat) (Z0 : n0 ≤ h0.size) (S_C : Sta Z h0 "java/lang/String" "COMPACT_STRINGS" "Z" (.int cs)) (hcs : ¬ cs = 0) (u1 u2 : Value) (E_a1 : Exa Z h0 a1 "java/lang/String") (F_c : Fld Z h0 a1 "java/lang/String" "coder" "B" u1) (F_v : Fld Z h0 a1 "java/lang/String" "value" "[B" u2) (A_aq : Arv Z h0 aq kq .char (2 : Int32) [(.int d0), (.int d1)] (.int (0 : Int32))) (n1q : a1 ≠ aq) (hd0 : ¬ ((255 : Int32) < d0)) (hd1 : ¬ ((255 : Int32) < d1)) (z_a1 : n0 ≤ a1) :
    MetFree l (⟨"java/lang/String", "<init>", "([C)V"⟩ : MethodName) (head1 (Jvm.Cond.code (⟨"java/lang/String", "<init>", "([C)V"⟩ : MethodName) jdk_42_method_3_code 2 none :: ws) ({ frames := 3, cells := 1, slots := 2, locals := 52 } : Room)) (fun a U => a = #[(.ref a1), (.ref aq)] ∧ Z.Warmed39 U.vm ∧ U.heap = h0) (fun _ _ _ _ _ => True) (fun _ U o U' => ∃ v L, o = .returned v ∧ Q_ic2 Z a1 aq kq cs d0 d1 h0 n0 v U'.heap L ∧ FrameEnd U o U' L ({ frames := 3, cells := 1, slots := 2, locals := 52 } : Room).cells ({ frames := 3, cells := 1, slots := 2, locals := 52 } : Room).slots) := by
  refine MetFree.of_bodySF (plainFor_of_name own_pn_java_lang_String) hisR ?_
  intro p e s m args below meth c s₁ Bd hml0 hP hK
  obtain ⟨rfl, hZ, hh⟩ := hP
  have hx := Bd.exec
  have hby := Bd.bytes
  have hml : c.maxLocals = 2 := hml0
  have hown : s.vm.findClass "java/lang/String" = some m.cls := findClass_of_methodNamed Bd.named
  have hnm := (name_of_methodNamed Bd.named Bd.method).1
  have hlk := Bd.notSynchronized
  obtain ⟨lc, hlc⟩ : ∃ lc : List Loc, lc = [] := ⟨_, rfl⟩
  have X : Stand p l e ({ frames := 3, cells := 1, slots := 2, locals := 52 } : Room) s m #[(.ref a1), (.ref aq)] below meth c s₁ lc 0 0 := hlc ▸ Stand.of_body Bd
  have eT : s₁.heap = h0 := by rw [← hh, Bd.state]; rfl
  have N : Fr n0 lc := hlc ▸ Fr.nil n0
  refine own_enter (ef_ic2 m a1 aq) ?_
  obtain ⟨T, hT⟩ : ∃ T : State, T = s₁ := ⟨_, rfl⟩
  rw [← hT] at X eT ⊢
  show own_W p e below (own_Post s (Q_ic2 Z a1 aq kq cs d0 d1 h0 n0) 1 2) T m 0 #[.val (.ref a1), .val (.ref aq)] []
  refine own_aloadN X hx (hb hby own_d_jdk_42_method_3_code_0) (pc' := 1) rfl rfl rfl ?_
  refine own_aloadN X hx (hb hby own_d_jdk_42_method_3_code_1) (pc' := 2) rfl rfl rfl ?_
  refine own_iconst X hx (0 : Int32) (hb hby own_d_jdk_42_method_3_code_2) (pc' := 3) rfl rfl ?_
  refine own_aloadN X hx (hb hby own_d_jdk_42_method_3_code_3) (pc' := 4) rfl rfl rfl ?_
  refine own_arrlen X hx hZ eT A_aq (hb hby own_d_jdk_42_method_3_code_4) (pc' := 5) rfl ?_
  refine own_aconst_null X hx (hb hby own_d_jdk_42_method_3_code_5) (pc' := 6) rfl ?_
  refine own_callN X hx hZ a1 [(.ref aq), (.int (0 : Int32)), (.int (2 : Int32)), .null] rfl hown (own_w hw 21 rfl) (own_w hw 22 rfl) (own_w hw 16 rfl) (own_w hw 24 rfl) (by decide) (rm_iv2 l Z a0 hw [] a1 aq kq cs d0 d1 h0 n0 Z0 S_C hcs _ _ E_a1 F_c F_v A_aq n1q hd0 hd1 z_a1) eT (W := 0) (by decide) (by decide) (cells' := 1) (slots' := 2) rfl rfl (by decide) (by decide) (by rw [hml]; rfl) (lenOf own_pd_285bCIILjava2flang2fVoid3b29V rfl) rfl (S := []) rfl (Nat.le_of_eq rfl) (hb hby own_d_jdk_42_method_3_code_6) (pc' := 9) rfl ?_
  intro v T h1 L lc X eT hq fN
  obtain ⟨rfl, Nq, Kq, bb, kb, hbb, F_c2, F_v2, A_bb⟩ := hq
  have N := fN _ N Nq
  show own_W p e below (own_Post s (Q_ic2 Z a1 aq kq cs d0 d1 h0 n0) 1 2) T m 9 #[.val (.ref a1), .val (.ref aq)] []
  refine own_ret0 X hx hlk Bd.returns (hb hby own_d_jdk_42_method_3_code_9) (by decide) (by decide) ?_
  rw [eT]
  exact ⟨rfl, N, Kq, bb, kb, hbb, F_c2, F_v2, A_bb⟩
theorem ef_ci3 (m : MethodId) (x0 : Addr) (x1 : Int32) (x2 : Addr) (x3 : Int32) (x4 : Int32) : entryFrame m #[(.ref x0), (.int x1), (.ref x2), (.int x3), (.int x4)] 7 = mkF m 0 #[.val (.ref x0), .val (.int x1), .val (.ref x2), .val (.int x3), .val (.int x4), .unset, .unset] [] := by first | (simp [entryFrame, mkF, argsToLocals, Value.category]; done) | rfl
def Q_ci3 (Z : State) (aq ad : Addr) (kq kd : ClassId) (d0 d1 d2 : Int32) (h0 : Heap) (n0 : Nat) (v : Option Value) (h : Heap) (L : List Loc) : Prop := v = some (.int (3 : Int32)) ∧ Fr n0 L ∧ Keep h0 h [ad] ∧ Arv Z h ad kd .byte (3 : Int32) [(.int (nar .byte d0.toInt8.toInt32)), (.int (nar .byte d1.toInt8.toInt32)), (.int (nar .byte d2.toInt8.toInt32))] (.int (0 : Int32))
set_option maxRecDepth 65536 in
set_option maxHeartbeats 40000000 in
theorem rm_ci3 (l : Launch) (Z : State) (a0 : Array Value) (hw : ∀ d ∈ tables_1, d.before a0 Z = true) (ws : List Jvm.Cond) (aq ad : Addr) (kq kd : ClassId) (d0 d1 d2 : Int32) (h0 : Heap) (n0 : Nat) (Z0 : n0 ≤ h0.size) (A_aq : Arv Z h0 aq kq .char (3 : Int32) [(.int d0), (.int d1), (.int d2)] (.int (0 : Int32))) (A_ad : Arv Z h0 ad kd .byte (3 : Int32) [(.int (0 : Int32)), (.int (0 : Int32)), (.int (0 : Int32))] (.int (0 : Int32))) (nqd : aq ≠ ad) (hd0 : ¬ ((255 : Int32) < d0)) (hd1 : ¬ ((255 : Int32) < d1)) (hd2 : ¬ ((255 : Int32) < d2)) (z_ad : n0 ≤ ad) :
    MetFree l (⟨"java/lang/StringUTF16", "compress", "([CI[BII)I"⟩ : MethodName) (head1 (Jvm.Cond.code (⟨"java/lang/StringUTF16", "compress", "([CI[BII)I"⟩ : MethodName) jdk_52_method_21_code 7 (some .int) :: ws) ({ frames := 0, cells := 0, slots := 0, locals := 0 } : Room)) (fun a U => a = #[(.ref aq), (.int (0 : Int32)), (.ref ad), (.int (0 : Int32)), (.int (3 : Int32))] ∧ Z.Warmed39 U.vm ∧ U.heap = h0) (fun _ _ _ _ _ => True) (fun _ U o U' => ∃ v L, o = .returned v ∧ Q_ci3 Z aq ad kq kd d0 d1 d2 h0 n0 v U'.heap L ∧ FrameEnd U o U' L ({ frames := 0, cells := 0, slots := 0, locals := 0 } : Room).cells ({ frames := 0, cells := 0, slots := 0, locals := 0 } : Room).slots) := by
  refine MetFree.of_bodySF (plainFor_of_name own_pn_java_lang_StringUTF16) hisR ?_
  intro p e s m args below meth c s₁ Bd hml0 hP hK
  obtain ⟨rfl, hZ, hh⟩ := hP
  have hx := Bd.exec
  have hby := Bd.bytes
  have hml : c.maxLocals = 7 := hml0
  have hown : s.vm.findClass "java/lang/StringUTF16" = some m.cls := findClass_of_methodNamed Bd.named
  have hnm := (name_of_methodNamed Bd.named Bd.method).1
  have hlk := Bd.notSynchronized
  obtain ⟨lc, hlc⟩ : ∃ lc : List Loc, lc = [] := ⟨_, rfl⟩
  have X : Stand p l e ({ frames := 0, cells := 0, slots := 0, locals := 0 } : Room) s m #[(.ref aq), (.int (0 : Int32)), (.ref ad), (.int (0 : Int32)), (.int (3 : Int32))] below meth c s₁ lc 0 0 := hlc ▸ Stand.of_body Bd
  have eT : s₁.heap = h0 := by rw [← hh, Bd.state]; rfl
  have N : Fr n0 lc := hlc ▸ Fr.nil n0
  refine own_enter (ef_ci3 m aq (0 : Int32) ad (0 : Int32) (3 : Int32)) ?_
  obtain ⟨T, hT⟩ : ∃ T : State, T = s₁ := ⟨_, rfl⟩
  rw [← hT] at X eT ⊢
  show own_W p e below (own_Post s (Q_ci3 Z aq ad kq kd d0 d1 d2 h0 n0) 0 0) T m 0 #[.val (.ref aq), .val (.int (0 : Int32)), .val (.ref ad), .val (.int (0 : Int32)), .val (.int (3 : Int32)), .unset, .unset] []
  have Kp : Keep h0 h0 [ad] := Keep.refl _ _
  refine own_iconst X hx (0 : Int32) (hb hby own_d_jdk_52_method_21_code_0) (pc' := 1) rfl rfl ?_
  refine own_istore X hx (hb hby own_d_jdk_52_method_21_code_1) (pc' := 3) rfl (Ls' := #[.val (.ref aq), .val (.int (0 : Int32)), .val (.ref ad), .val (.int (0 : Int32)), .val (.int (3 : Int32)), .val (.int (0 : Int32)), .unset]) rfl ?_
  refine own_iload X hx (hb hby own_d_jdk_52_method_21_code_3) (pc' := 5) rfl rfl ?_
  refine own_iload X hx (hb hby own_d_jdk_52_method_21_code_5) (pc' := 7) rfl rfl ?_
  refine own_icmpN X hx (hb hby own_d_jdk_52_method_21_code_7) (pc' := 10) rfl (show (0 : Int32) < (3 : Int32) from (by decide)) ?_
  refine own_aloadN X hx (hb hby own_d_jdk_52_method_21_code_10) (pc' := 11) rfl rfl rfl ?_
  refine own_iloadN X hx (hb hby own_d_jdk_52_method_21_code_11) (pc' := 12) rfl rfl ?_
  refine own_caload X hx hZ eT A_aq (v := (.int d0)) (by decide) rfl (hb hby own_d_jdk_52_method_21_code_12) (pc' := 13) rfl ?_
  refine own_istore X hx (hb hby own_d_jdk_52_method_21_code_13) (pc' := 15) rfl (Ls' := #[.val (.ref aq), .val (.int (0 : Int32)), .val (.ref ad), .val (.int (0 : Int32)), .val (.int (3 : Int32)), .val (.int (0 : Int32)), .val (.int d0)]) rfl ?_
  refine own_iload X hx (hb hby own_d_jdk_52_method_21_code_15) (pc' := 17) rfl rfl ?_
  refine own_sipush X hx (255 : Int32) (hb hby own_d_jdk_52_method_21_code_17) (pc' := 20) rfl rfl ?_
  refine own_icmpY X hx (hb hby own_d_jdk_52_method_21_code_20) (by decide) (pc' := 26) rfl (show ¬ ((255 : Int32) < d0) from hd0) ?_
  refine own_aloadN X hx (hb hby own_d_jdk_52_method_21_code_26) (pc' := 27) rfl rfl rfl ?_
  refine own_iloadN X hx (hb hby own_d_jdk_52_method_21_code_27) (pc' := 28) rfl rfl ?_
  refine own_iload X hx (hb hby own_d_jdk_52_method_21_code_28) (pc' := 30) rfl rfl ?_
  refine own_i2b X hx (hb hby own_d_jdk_52_method_21_code_30) (pc' := 31) rfl ?_
  refine own_bastoreB X hx hZ eT A_ad (by decide) 0 rfl (by show 0 < 3; decide) (hb hby own_d_jdk_52_method_21_code_31) (pc' := 32) rfl ?_
  intro T h1 lc X eT Kq A_adn fN
  have A_aq := A_aq.keep Kq (ninS nqd nin0)
  have Z0 := Nat.le_trans Z0 Kq.1
  have A_ad := A_adn
  have N := fN _ z_ad N
  have Kp := Kp.trans Kq (allS (P := fun x => x ∈ [ad] ∨ h0.size ≤ x) (Or.inl (List.mem_of_getElem? (i := 0) rfl)) all0)
  have A_ad : Arv Z h1 ad _ .byte (3 : Int32) [(.int (nar .byte d0.toInt8.toInt32)), (.int (0 : Int32)), (.int (0 : Int32))] (.int (0 : Int32)) := A_ad
  refine own_iinc X hx (1 : Int32) (hb hby own_d_jdk_52_method_21_code_32) (pc' := 35) rfl rfl rfl (Ls' := #[.val (.ref aq), .val (.int (1 : Int32)), .val (.ref ad), .val (.int (0 : Int32)), .val (.int (3 : Int32)), .val (.int (0 : Int32)), .val (.int d0)]) rfl ?_
  refine own_iinc X hx (1 : Int32) (hb hby own_d_jdk_52_method_21_code_35) (pc' := 38) rfl rfl rfl (Ls' := #[.val (.ref aq), .val (.int (1 : Int32)), .val (.ref ad), .val (.int (1 : Int32)), .val (.int (3 : Int32)), .val (.int (0 : Int32)), .val (.int d0)]) rfl ?_
  refine own_iinc X hx (1 : Int32) (hb hby own_d_jdk_52_method_21_code_38) (pc' := 41) rfl rfl rfl (Ls' := #[.val (.ref aq), .val (.int (1 : Int32)), .val (.ref ad), .val (.int (1 : Int32)), .val (.int (3 : Int32)), .val (.int (1 : Int32)), .val (.int d0)]) rfl ?_
  refine own_goto X hx (hb hby own_d_jdk_52_method_21_code_41) (by decide) (pc' := 3) rfl ?_
  refine own_iload X hx (hb hby own_d_jdk_52_method_21_code_3) (pc' := 5) rfl rfl ?_
  refine own_iload X hx (hb hby own_d_jdk_52_method_21_code_5) (pc' := 7) rfl rfl ?_
  refine own_icmpN X hx (hb hby own_d_jdk_52_method_21_code_7) (pc' := 10) rfl (show (1 : Int32) < (3 : Int32) from (by decide)) ?_
  refine own_aloadN X hx (hb hby own_d_jdk_52_method_21_code_10) (pc' := 11) rfl rfl rfl ?_
  refine own_iloadN X hx (hb hby own_d_jdk_52_method_21_code_11) (pc' := 12) rfl rfl ?_
  refine own_caload X hx hZ eT A_aq (v := (.int d1)) (by decide) rfl (hb hby own_d_jdk_52_method_21_code_12) (pc' := 13) rfl ?_
  refine own_istore X hx (hb hby own_d_jdk_52_method_21_code_13) (pc' := 15) rfl (Ls' := #[.val (.ref aq), .val (.int (1 : Int32)), .val (.ref ad), .val (.int (1 : Int32)), .val (.int (3 : Int32)), .val (.int (1 : Int32)), .val (.int d1)]) rfl ?_
  refine own_iload X hx (hb hby own_d_jdk_52_method_21_code_15) (pc' := 17) rfl rfl ?_
  refine own_sipush X hx (255 : Int32) (hb hby own_d_jdk_52_method_21_code_17) (pc' := 20) rfl rfl ?_
  refine own_icmpY X hx (hb hby own_d_jdk_52_method_21_code_20) (by decide) (pc' := 26) rfl (show ¬ ((255 : Int32) < d1) from hd1) ?_
  refine own_aloadN X hx (hb hby own_d_jdk_52_method_21_code_26) (pc' := 27) rfl rfl rfl ?_
  refine own_iloadN X hx (hb hby own_d_jdk_52_method_21_code_27) (pc' := 28) rfl rfl ?_
  refine own_iload X hx (hb hby own_d_jdk_52_method_21_code_28) (pc' := 30) rfl rfl ?_
  refine own_i2b X hx (hb hby own_d_jdk_52_method_21_code_30) (pc' := 31) rfl ?_
  refine own_bastoreB X hx hZ eT A_ad (by decide) 1 rfl (by show 1 < 3; decide) (hb hby own_d_jdk_52_method_21_code_31) (pc' := 32) rfl ?_
  intro T h2 lc X eT Kq A_adn fN
  have A_aq := A_aq.keep Kq (ninS nqd nin0)
  have Z0 := Nat.le_trans Z0 Kq.1
  have A_ad := A_adn
  have N := fN _ z_ad N
  have Kp := Kp.trans Kq (allS (P := fun x => x ∈ [ad] ∨ h0.size ≤ x) (Or.inl (List.mem_of_getElem? (i := 0) rfl)) all0)
  have A_ad : Arv Z h2 ad _ .byte (3 : Int32) [(.int (nar .byte d0.toInt8.toInt32)), (.int (nar .byte d1.toInt8.toInt32)), (.int (0 : Int32))] (.int (0 : Int32)) := A_ad
  refine own_iinc X hx (1 : Int32) (hb hby own_d_jdk_52_method_21_code_32) (pc' := 35) rfl rfl rfl (Ls' := #[.val (.ref aq), .val (.int (2 : Int32)), .val (.ref ad), .val (.int (1 : Int32)), .val (.int (3 : Int32)), .val (.int (1 : Int32)), .val (.int d1)]) rfl ?_
  refine own_iinc X hx (1 : Int32) (hb hby own_d_jdk_52_method_21_code_35) (pc' := 38) rfl rfl rfl (Ls' := #[.val (.ref aq), .val (.int (2 : Int32)), .val (.ref ad), .val (.int (2 : Int32)), .val (.int (3 : Int32)), .val (.int (1 : Int32)), .val (.int d1)]) rfl ?_
  refine own_iinc X hx (1 : Int32) (hb hby own_d_jdk_52_method_21_code_38) (pc' := 41) rfl rfl rfl (Ls' := #[.val (.ref aq), .val (.int (2 : Int32)), .val (.ref ad), .val (.int (2 : Int32)), .val (.int (3 : Int32)), .val (.int (2 : Int32)), .val (.int d1)]) rfl ?_
  refine own_goto X hx (hb hby own_d_jdk_52_method_21_code_41) (by decide) (pc' := 3) rfl ?_
  refine own_iload X hx (hb hby own_d_jdk_52_method_21_code_3) (pc' := 5) rfl rfl ?_
  refine own_iload X hx (hb hby own_d_jdk_52_method_21_code_5) (pc' := 7) rfl rfl ?_
  refine own_icmpN X hx (hb hby own_d_jdk_52_method_21_code_7) (pc' := 10) rfl (show (2 : Int32) < (3 : Int32) from (by decide)) ?_
  refine own_aloadN X hx (hb hby own_d_jdk_52_method_21_code_10) (pc' := 11) rfl rfl rfl ?_
  refine own_iloadN X hx (hb hby own_d_jdk_52_method_21_code_11) (pc' := 12) rfl rfl ?_
  refine own_caload X hx hZ eT A_aq (v := (.int d2)) (by decide) rfl (hb hby own_d_jdk_52_method_21_code_12) (pc' := 13) rfl ?_
  refine own_istore X hx (hb hby own_d_jdk_52_method_21_code_13) (pc' := 15) rfl (Ls' := #[.val (.ref aq), .val (.int (2 : Int32)), .val (.ref ad), .val (.int (2 : Int32)), .val (.int (3 : Int32)), .val (.int (2 : Int32)), .val (.int d2)]) rfl ?_
  refine own_iload X hx (hb hby own_d_jdk_52_method_21_code_15) (pc' := 17) rfl rfl ?_
  refine own_sipush X hx (255 : Int32) (hb hby own_d_jdk_52_method_21_code_17) (pc' := 20) rfl rfl ?_
  refine own_icmpY X hx (hb hby own_d_jdk_52_method_21_code_20) (by decide) (pc' := 26) rfl (show ¬ ((255 : Int32) < d2) from hd2) ?_
  refine own_aloadN X hx (hb hby own_d_jdk_52_method_21_code_26) (pc' := 27) rfl rfl rfl ?_
  refine own_iloadN X hx (hb hby own_d_jdk_52_method_21_code_27) (pc' := 28) rfl rfl ?_
  refine own_iload X hx (hb hby own_d_jdk_52_method_21_code_28) (pc' := 30) rfl rfl ?_
  refine own_i2b X hx (hb hby own_d_jdk_52_method_21_code_30) (pc' := 31) rfl ?_
  refine own_bastoreB X hx hZ eT A_ad (by decide) 2 rfl (by show 2 < 3; decide) (hb hby own_d_jdk_52_method_21_code_31) (pc' := 32) rfl ?_
  intro T h3 lc X eT Kq A_adn fN
  have A_aq := A_aq.keep Kq (ninS nqd nin0)
  have Z0 := Nat.le_trans Z0 Kq.1
  have A_ad := A_adn
  have N := fN _ z_ad N
  have Kp := Kp.trans Kq (allS (P := fun x => x ∈ [ad] ∨ h0.size ≤ x) (Or.inl (List.mem_of_getElem? (i := 0) rfl)) all0)
  have A_ad : Arv Z h3 ad _ .byte (3 : Int32) [(.int (nar .byte d0.toInt8.toInt32)), (.int (nar .byte d1.toInt8.toInt32)), (.int (nar .byte d2.toInt8.toInt32))] (.int (0 : Int32)) := A_ad
  refine own_iinc X hx (1 : Int32) (hb hby own_d_jdk_52_method_21_code_32) (pc' := 35) rfl rfl rfl (Ls' := #[.val (.ref aq), .val (.int (3 : Int32)), .val (.ref ad), .val (.int (2 : Int32)), .val (.int (3 : Int32)), .val (.int (2 : Int32)), .val (.int d2)]) rfl ?_
  refine own_iinc X hx (1 : Int32) (hb hby own_d_jdk_52_method_21_code_35) (pc' := 38) rfl rfl rfl (Ls' := #[.val (.ref aq), .val (.int (3 : Int32)), .val (.ref ad), .val (.int (3 : Int32)), .val (.int (3 : Int32)), .val (.int (2 : Int32)), .val (.int d2)]) rfl ?_
  refine own_iinc X hx (1 : Int32) (hb hby own_d_jdk_52_method_21_code_38) (pc' := 41) rfl rfl rfl (Ls' := #[.val (.ref aq), .val (.int (3 : Int32)), .val (.ref ad), .val (.int (3 : Int32)), .val (.int (3 : Int32)), .val (.int (3 : Int32)), .val (.int d2)]) rfl ?_
  refine own_goto X hx (hb hby own_d_jdk_52_method_21_code_41) (by decide) (pc' := 3) rfl ?_
  refine own_iload X hx (hb hby own_d_jdk_52_method_21_code_3) (pc' := 5) rfl rfl ?_
  refine own_iload X hx (hb hby own_d_jdk_52_method_21_code_5) (pc' := 7) rfl rfl ?_
  refine own_icmpY X hx (hb hby own_d_jdk_52_method_21_code_7) (by decide) (pc' := 44) rfl (show ¬ ((3 : Int32) < (3 : Int32)) from (by decide)) ?_
  refine own_iload X hx (hb hby own_d_jdk_52_method_21_code_44) (pc' := 46) rfl rfl ?_
  refine own_retI X hx hlk (t := .int) (w' := (.int (3 : Int32))) Bd.returns (hb hby own_d_jdk_52_method_21_code_46) rfl rfl (by simp) (by decide) (by decide) ?_
  rw [eT]
  exact ⟨rfl, N, Kp, A_ad⟩
theorem ef_cc3 (m : MethodId) (x0 : Addr) (x1 : Int32) (x2 : Int32) : entryFrame m #[(.ref x0), (.int x1), (.int x2)] 6 = mkF m 0 #[.val (.ref x0), .val (.int x1), .val (.int x2), .unset, .unset, .unset] [] := by first | (simp [entryFrame, mkF, argsToLocals, Value.category]; done) | rfl
def Q_cc3 (Z : State) (aq : Addr) (kq : ClassId) (d0 d1 d2 : Int32) (h0 : Heap) (n0 : Nat) (v : Option Value) (h : Heap) (L : List Loc) : Prop := ∃ (b : Addr) (kb : ClassId), v = some (.ref b) ∧ Fr n0 L ∧ Keep h0 h [] ∧ h0.size ≤ b ∧ Arv Z h b kb .byte (3 : Int32) [(.int (nar .byte d0.toInt8.toInt32)), (.int (nar .byte d1.toInt8.toInt32)), (.int (nar .byte d2.toInt8.toInt32))] (.int (0 : Int32))
set_option maxRecDepth 65536 in
set_option maxHeartbeats 40000000 in
theorem rm_cc3 (l : Launch) (Z : State) (a0 : Array Value) (hw : ∀ d ∈ tables_1, d.before a0 Z = true) (ws : List Jvm.Cond) (aq : Addr) (kq : ClassId) (d0 d1 d2 : Int32) (h0 : Heap) (n0 : Nat) (Z0 : n0 ≤ h0.size) (A_aq : Arv Z h0 aq kq .char (3 : Int32) [(.int d0), (.int d1), (.int d2)] (.int (0 : Int32))) (hd0 : ¬ ((255 : Int32) < d0)) (hd1 : ¬ ((255 : Int32) < d1)) (hd2 : ¬ ((255 : Int32) < d2)) :
    MetFree l (⟨"java/lang/StringUTF16", "compress", "([CII)[B"⟩ : MethodName) (head1 (Jvm.Cond.code (⟨"java/lang/StringUTF16", "compress", "([CII)[B"⟩ : MethodName) jdk_52_method_16_code 6 (some (.array .byte)) :: ws) ({ frames := 1, cells := 1, slots := 3, locals := 18 } : Room)) (fun a U => a = #[(.ref aq), (.int (0 : Int32)), (.int (3 : Int32))] ∧ Z.Warmed39 U.vm ∧ U.heap = h0) (fun _ _ _ _ _ => True) (fun _ U o U' => ∃ v L, o = .returned v ∧ Q_cc3 Z aq kq d0 d1 d2 h0 n0 v U'.heap L ∧ FrameEnd U o U' L ({ frames := 1, cells := 1, slots := 3, locals := 18 } : Room).cells ({ frames := 1, cells := 1, slots := 3, locals := 18 } : Room).slots) := by
  refine MetFree.of_bodySF (plainFor_of_name own_pn_java_lang_StringUTF16) hisR ?_
  intro p e s m args below meth c s₁ Bd hml0 hP hK
  obtain ⟨rfl, hZ, hh⟩ := hP
  have hx := Bd.exec
  have hby := Bd.bytes
  have hml : c.maxLocals = 6 := hml0
  have hown : s.vm.findClass "java/lang/StringUTF16" = some m.cls := findClass_of_methodNamed Bd.named
  have hnm := (name_of_methodNamed Bd.named Bd.method).1
  have hlk := Bd.notSynchronized
  obtain ⟨lc, hlc⟩ : ∃ lc : List Loc, lc = [] := ⟨_, rfl⟩
  have X : Stand p l e ({ frames := 1, cells := 1, slots := 3, locals := 18 } : Room) s m #[(.ref aq), (.int (0 : Int32)), (.int (3 : Int32))] below meth c s₁ lc 0 0 := hlc ▸ Stand.of_body Bd
  have eT : s₁.heap = h0 := by rw [← hh, Bd.state]; rfl
  have N : Fr n0 lc := hlc ▸ Fr.nil n0
  refine own_enter (ef_cc3 m aq (0 : Int32) (3 : Int32)) ?_
  obtain ⟨T, hT⟩ : ∃ T : State, T = s₁ := ⟨_, rfl⟩
  rw [← hT] at X eT ⊢
  show own_W p e below (own_Post s (Q_cc3 Z aq kq d0 d1 d2 h0 n0) 1 3) T m 0 #[.val (.ref aq), .val (.int (0 : Int32)), .val (.int (3 : Int32)), .unset, .unset, .unset] []
  have Kp : Keep h0 h0 [] := Keep.refl _ _
  refine own_iloadN X hx (hb hby own_d_jdk_52_method_16_code_0) (pc' := 1) rfl rfl ?_
  refine own_newarr X hx hZ (own_w hw 29 rfl) eT (hb hby own_d_jdk_52_method_16_code_1) (pc' := 3) rfl (by decide) 3 (by decide) (by decide) (cells' := 1) (slots' := 3) rfl rfl (by decide) (by decide) ?_
  intro T h1 k_b1 b1 X eT E gb1 A_b1
  have lt_aq_b1 : aq < b1 := Nat.lt_of_lt_of_le A_aq.lt (Nat.le_of_eq gb1.symm)
  have ne_aq_b1 : aq ≠ b1 := Nat.ne_of_lt lt_aq_b1
  have z_b1 : n0 ≤ b1 := Nat.le_trans Z0 (Nat.le_of_eq gb1.symm)
  have s_b1 : h0.size ≤ b1 := Nat.le_trans Kp.1 (Nat.le_of_eq gb1.symm)
  have A_aq := A_aq.ext E
  have Z0 := Nat.le_trans Z0 E.1
  have Kp := Kp.ext E
  have A_b1 : Arv Z h1 b1 k_b1 .byte (3 : Int32) [(.int (0 : Int32)), (.int (0 : Int32)), (.int (0 : Int32))] (.int (0 : Int32)) := A_b1.pad (pad_rep [] (.int (0 : Int32)) 3)
  refine own_astoreN X hx (hb hby own_d_jdk_52_method_16_code_3) (pc' := 4) rfl rfl (Ls' := #[.val (.ref aq), .val (.int (0 : Int32)), .val (.int (3 : Int32)), .val (.ref b1), .unset, .unset]) rfl ?_
  refine own_aloadN X hx (hb hby own_d_jdk_52_method_16_code_4) (pc' := 5) rfl rfl rfl ?_
  refine own_iloadN X hx (hb hby own_d_jdk_52_method_16_code_5) (pc' := 6) rfl rfl ?_
  refine own_aloadN X hx (hb hby own_d_jdk_52_method_16_code_6) (pc' := 7) rfl rfl rfl ?_
  refine own_iconst X hx (0 : Int32) (hb hby own_d_jdk_52_method_16_code_7) (pc' := 8) rfl rfl ?_
  refine own_iloadN X hx (hb hby own_d_jdk_52_method_16_code_8) (pc' := 9) rfl rfl ?_
  refine own_callS X hx hZ [(.ref aq), (.int (0 : Int32)), (.ref b1), (.int (0 : Int32)), (.int (3 : Int32))] hown (own_w hw 57 rfl) (own_w hw 58 rfl) (own_w hw 55 rfl) (own_w hw 59 rfl) (by decide) (rm_ci3 l Z a0 hw [] aq b1 _ _ d0 d1 d2 h1 n0 Z0 A_aq A_b1 ne_aq_b1 hd0 hd1 hd2 z_b1) eT (W := 0) (by decide) (by decide) (cells' := 1) (slots' := 3) rfl rfl (by decide) (by decide) (by rw [hml]; rfl) (lenOf own_pd_285bCI5bBII29I rfl) rfl (S := []) rfl (Nat.le_of_eq rfl) (hb hby own_d_jdk_52_method_16_code_9) (pc' := 12) rfl ?_
  intro v T h2 L lc X eT hq fN
  obtain ⟨rfl, Nq, Kq, B_b1⟩ := hq
  have N := fN _ N Nq
  have A_aq := A_aq.keep Kq (ninS ne_aq_b1 nin0)
  have Z0 := Nat.le_trans Z0 Kq.1
  have Kp := Kp.trans Kq (allS (P := fun x => x ∈ ([] : List Addr) ∨ h0.size ≤ x) (Or.inr s_b1) all0)
  show own_W p e below (own_Post s (Q_cc3 Z aq kq d0 d1 d2 h0 n0) 1 3) T m 12 #[.val (.ref aq), .val (.int (0 : Int32)), .val (.int (3 : Int32)), .val (.ref b1), .unset, .unset] [(.int (3 : Int32))]
  refine own_istore X hx (hb hby own_d_jdk_52_method_16_code_12) (pc' := 14) rfl (Ls' := #[.val (.ref aq), .val (.int (0 : Int32)), .val (.int (3 : Int32)), .val (.ref b1), .val (.int (3 : Int32)), .unset]) rfl ?_
  refine own_iload X hx (hb hby own_d_jdk_52_method_16_code_14) (pc' := 16) rfl rfl ?_
  refine own_iloadN X hx (hb hby own_d_jdk_52_method_16_code_16) (pc' := 17) rfl rfl ?_
  refine own_icmpY X hx (hb hby own_d_jdk_52_method_16_code_17) (by decide) (pc' := 57) rfl (show (3 : Int32) = (3 : Int32) from (by decide)) ?_
  refine own_aloadN X hx (hb hby own_d_jdk_52_method_16_code_57) (pc' := 58) rfl rfl rfl ?_
  refine own_retA X hx hlk Bd.returns (hb hby own_d_jdk_52_method_16_code_58) rfl rfl rfl (by decide) (by decide) ?_
  rw [eT]
  exact ⟨_, _, rfl, N, Kp, s_b1, B_b1⟩
theorem ef_cf3 (m : MethodId) (x0 : Addr) (x1 : Int32) : entryFrame m #[(.ref x0), (.int x1)] 2 = mkF m 0 #[.val (.ref x0), .val (.int x1)] [] := by first | (simp [entryFrame, mkF, argsToLocals, Value.category]; done) | rfl
def Q_cf3 (Z : State) (b : Addr) (h0 : Heap) (n0 : Nat) (v : Option Value) (h : Heap) (L : List Loc) : Prop := v = some (.int (0 : Int32)) ∧ Fr n0 L ∧ h = h0
set_option maxRecDepth 65536 in
set_option maxHeartbeats 40000000 in
theorem rm_cf3 (l : Launch) (Z : State) (a0 : Array Value) (hw : ∀ d ∈ tables_1, d.before a0 Z = true) (ws : List Jvm.Cond) (b : Addr) (h0 : Heap) (n0 : Nat) (Z0 : n0 ≤ h0.size) (k : ClassId) (vs : List Value) (A_b : Arv Z h0 b k .byte (3 : Int32) vs (.int (0 : Int32))) :
    MetFree l (⟨"java/lang/StringUTF16", "coderFromArrayLen", "([BI)B"⟩ : MethodName) (head1 (Jvm.Cond.code (⟨"java/lang/StringUTF16", "coderFromArrayLen", "([BI)B"⟩ : MethodName) jdk_52_method_15_code 2 (some .byte) :: ws) ({ frames := 0, cells := 0, slots := 0, locals := 0 } : Room)) (fun a U => a = #[(.ref b), (.int (3 : Int32))] ∧ Z.Warmed39 U.vm ∧ U.heap = h0) (fun _ _ _ _ _ => True) (fun _ U o U' => ∃ v L, o = .returned v ∧ Q_cf3 Z b h0 n0 v U'.heap L ∧ FrameEnd U o U' L ({ frames := 0, cells := 0, slots := 0, locals := 0 } : Room).cells ({ frames := 0, cells := 0, slots := 0, locals := 0 } : Room).slots) := by
  refine MetFree.of_bodySF (plainFor_of_name own_pn_java_lang_StringUTF16) hisR ?_
  intro p e s m args below meth c s₁ Bd hml0 hP hK
  obtain ⟨rfl, hZ, hh⟩ := hP
  have hx := Bd.exec
  have hby := Bd.bytes
  have hml : c.maxLocals = 2 := hml0
  have hown : s.vm.findClass "java/lang/StringUTF16" = some m.cls := findClass_of_methodNamed Bd.named
  have hnm := (name_of_methodNamed Bd.named Bd.method).1
  have hlk := Bd.notSynchronized
  obtain ⟨lc, hlc⟩ : ∃ lc : List Loc, lc = [] := ⟨_, rfl⟩
  have X : Stand p l e ({ frames := 0, cells := 0, slots := 0, locals := 0 } : Room) s m #[(.ref b), (.int (3 : Int32))] below meth c s₁ lc 0 0 := hlc ▸ Stand.of_body Bd
  have eT : s₁.heap = h0 := by rw [← hh, Bd.state]; rfl
  have N : Fr n0 lc := hlc ▸ Fr.nil n0
  refine own_enter (ef_cf3 m b (3 : Int32)) ?_
  obtain ⟨T, hT⟩ : ∃ T : State, T = s₁ := ⟨_, rfl⟩
  rw [← hT] at X eT ⊢
  show own_W p e below (own_Post s (Q_cf3 Z b h0 n0) 0 0) T m 0 #[.val (.ref b), .val (.int (3 : Int32))] []
  refine own_iloadN X hx (hb hby own_d_jdk_52_method_15_code_0) (pc' := 1) rfl rfl ?_
  refine own_aloadN X hx (hb hby own_d_jdk_52_method_15_code_1) (pc' := 2) rfl rfl rfl ?_
  refine own_arrlen X hx hZ eT A_b (hb hby own_d_jdk_52_method_15_code_2) (pc' := 3) rfl ?_
  refine own_isub X hx (hb hby own_d_jdk_52_method_15_code_3) (pc' := 4) rfl ?_
  refine own_bipush X hx (31 : Int32) (hb hby own_d_jdk_52_method_15_code_4) (pc' := 6) rfl rfl ?_
  refine own_iushr X hx (hb hby own_d_jdk_52_method_15_code_6) (pc' := 7) rfl ?_
  refine own_i2b X hx (hb hby own_d_jdk_52_method_15_code_7) (pc' := 8) rfl ?_
  refine own_retI X hx hlk (t := .byte) (w' := (.int (0 : Int32))) Bd.returns (hb hby own_d_jdk_52_method_15_code_8) rfl rfl (by simp) (by decide) (by decide) ?_
  rw [eT]
  exact ⟨rfl, N, rfl⟩
theorem ef_iv3 (m : MethodId) (x0 : Addr) (x1 : Addr) (x2 : Int32) (x3 : Int32) : entryFrame m #[(.ref x0), (.ref x1), (.int x2), (.int x3), .null] 6 = mkF m 0 #[.val (.ref x0), .val (.ref x1), .val (.int x2), .val (.int x3), .val .null, .unset] [] := by first | (simp [entryFrame, mkF, argsToLocals, Value.category]; done) | rfl
def Q_iv3 (Z : State) (a1 aq : Addr) (kq : ClassId) (cs : Int32) (d0 d1 d2 : Int32) (h0 : Heap) (n0 : Nat) (v : Option Value) (h : Heap) (L : List Loc) : Prop := v = none ∧ Fr n0 L ∧ Keep h0 h [a1] ∧ ∃ (b : Addr) (k : ClassId), h0.size ≤ b ∧ Fld Z h a1 "java/lang/String" "coder" "B" (.int (0 : Int32)) ∧ Fld Z h a1 "java/lang/String" "value" "[B" (.ref b) ∧ Arv Z h b k .byte (3 : Int32) [(.int (nar .byte d0.toInt8.toInt32)), (.int (nar .byte d1.toInt8.toInt32)), (.int (nar .byte d2.toInt8.toInt32))] (.int (0 : Int32))
set_option maxRecDepth 65536 in
set_option maxHeartbeats 40000000 in
theorem rm_iv3 (l : Launch) (Z : State) (a0 : Array Value) (hw : ∀ d ∈ tables_1, d.before a0 Z = true) (ws : List Jvm.Cond) (a1 aq : Addr) (kq : ClassId) (cs : Int32) (d0 d1 d2 : Int32) (h0 : Heap) (n0 : Nat) (Z0 : n0 ≤ h0.size) (S_C : Sta Z h0 "java/lang/String" "COMPACT_STRINGS" "Z" (.int cs)) (hcs : ¬ cs = 0) (u1 u2 : Value) (E_a1 : Exa Z h0 a1 "java/lang/String") (F_c : Fld Z h0 a1 "java/lang/String" "coder" "B" u1) (F_v : Fld Z h0 a1 "java/lang/String" "value" "[B" u2) (A_aq : Arv Z h0 aq kq .char (3 : Int32) [(.int d0), (.int d1), (.int d2)] (.int (0 : Int32))) (n1q : a1 ≠ aq) (hd0 : ¬ ((255 : Int32) < d0)) (hd1 : ¬ ((255 : Int32) < d1)) (hd2 : ¬ ((255 : Int32) < d2)) (z_a1 : n0 ≤ a1) :
    MetFree l (⟨"java/lang/String", "<init>", "([CIILjava/lang/Void;)V"⟩ : MethodName) (head1 (Jvm.Cond.code (⟨"java/lang/String", "<init>", "([CIILjava/lang/Void;)V"⟩ : MethodName) jdk_42_method_149_code 6 none :: ws) ({ frames := 2, cells := 1, slots := 3, locals := 35 } : Room)) (fun a U => a = #[(.ref a1), (.ref aq), (.int (0 : Int32)), (.int (3 : Int32)), .null] ∧ Z.Warmed39 U.vm ∧ U.heap = h0) (fun _ _ _ _ _ => True) (fun _ U o U' => ∃ v L, o = .returned v ∧ Q_iv3 Z a1 aq kq cs d0 d1 d2 h0 n0 v U'.heap L ∧ FrameEnd U o U' L ({ frames := 2, cells := 1, slots := 3, locals := 35 } : Room).cells ({ frames := 2, cells := 1, slots := 3, locals := 35 } : Room).slots) := by
  refine MetFree.of_bodySF (plainFor_of_name own_pn_java_lang_String) hisR ?_
  intro p e s m args below meth c s₁ Bd hml0 hP hK
  obtain ⟨rfl, hZ, hh⟩ := hP
  have hx := Bd.exec
  have hby := Bd.bytes
  have hml : c.maxLocals = 6 := hml0
  have hown : s.vm.findClass "java/lang/String" = some m.cls := findClass_of_methodNamed Bd.named
  have hnm := (name_of_methodNamed Bd.named Bd.method).1
  have hlk := Bd.notSynchronized
  obtain ⟨lc, hlc⟩ : ∃ lc : List Loc, lc = [] := ⟨_, rfl⟩
  have X : Stand p l e ({ frames := 2, cells := 1, slots := 3, locals := 35 } : Room) s m #[(.ref a1), (.ref aq), (.int (0 : Int32)), (.int (3 : Int32)), .null] below meth c s₁ lc 0 0 := hlc ▸ Stand.of_body Bd
  have eT : s₁.heap = h0 := by rw [← hh, Bd.state]; rfl
  have N : Fr n0 lc := hlc ▸ Fr.nil n0
  refine own_enter (ef_iv3 m a1 aq (0 : Int32) (3 : Int32)) ?_
  obtain ⟨T, hT⟩ : ∃ T : State, T = s₁ := ⟨_, rfl⟩
  rw [← hT] at X eT ⊢
  show own_W p e below (own_Post s (Q_iv3 Z a1 aq kq cs d0 d1 d2 h0 n0) 1 3) T m 0 #[.val (.ref a1), .val (.ref aq), .val (.int (0 : Int32)), .val (.int (3 : Int32)), .val .null, .unset] []
  have Kp : Keep h0 h0 [a1] := Keep.refl _ _
  refine own_aloadN X hx (hb hby own_d_jdk_42_method_149_code_0) (pc' := 1) rfl rfl rfl ?_
  refine own_initO X hx hZ hown (own_w hw 25 rfl) (own_w hw 26 rfl) (own_w hw 27 rfl) eT (by rw [hml]; rfl) (hb hby own_d_jdk_42_method_149_code_1) (pc' := 4) rfl (by decide) (W := 0) (Nat.le_of_eq rfl) (by decide) ?_
  intro T X eT
  refine own_iloadN X hx (hb hby own_d_jdk_42_method_149_code_4) (pc' := 5) rfl rfl ?_
  refine own_ifY X hx (hb hby own_d_jdk_42_method_149_code_5) (by decide) (pc' := 27) rfl (show ¬ ((3 : Int32) = (0 : Int32)) from (by decide)) ?_
  refine own_getS X hx hZ hown (host := "") (Or.inl (own_w hw 47 rfl)) Via.refl eT S_C (hb hby own_d_jdk_42_method_149_code_27) (pc' := 30) rfl ?_
  intro T X eT
  refine own_ifN X hx (hb hby own_d_jdk_42_method_149_code_30) (pc' := 33) rfl (show ¬ (cs = (0 : Int32)) from hcs) ?_
  refine own_aloadN X hx (hb hby own_d_jdk_42_method_149_code_33) (pc' := 34) rfl rfl rfl ?_
  refine own_iloadN X hx (hb hby own_d_jdk_42_method_149_code_34) (pc' := 35) rfl rfl ?_
  refine own_iloadN X hx (hb hby own_d_jdk_42_method_149_code_35) (pc' := 36) rfl rfl ?_
  refine own_callS X hx hZ [(.ref aq), (.int (0 : Int32)), (.int (3 : Int32))] hown (own_w hw 53 rfl) (own_w hw 54 rfl) (own_w hw 55 rfl) (own_w hw 56 rfl) (by decide) (rm_cc3 l Z a0 hw [] aq kq d0 d1 d2 h0 n0 Z0 A_aq hd0 hd1 hd2) eT (W := 0) (by decide) (by decide) (cells' := 1) (slots' := 3) rfl rfl (by decide) (by decide) (by rw [hml]; rfl) (lenOf own_pd_285bCII295bB rfl) rfl (S := []) rfl (Nat.le_of_eq rfl) (hb hby own_d_jdk_42_method_149_code_36) (pc' := 39) rfl ?_
  intro v T h1 L lc X eT hq fN
  obtain ⟨bb, kb, rfl, Nq, Kq, hbb, A_bb⟩ := hq
  have N := fN _ N Nq
  have lt_a1_bb : a1 < bb := Nat.lt_of_lt_of_le E_a1.lt hbb
  have ne_a1_bb : a1 ≠ bb := Nat.ne_of_lt lt_a1_bb
  have lt_aq_bb : aq < bb := Nat.lt_of_lt_of_le A_aq.lt hbb
  have ne_aq_bb : aq ≠ bb := Nat.ne_of_lt lt_aq_bb
  have z_bb : n0 ≤ bb := Nat.le_trans Z0 hbb
  have s_bb : h0.size ≤ bb := Nat.le_trans Kp.1 hbb
  have S_C := own_sta_keep S_C Kq ns0
  have E_a1 := E_a1.keep Kq
  have F_c := F_c.keep Kq nin0
  have F_v := F_v.keep Kq nin0
  have A_aq := A_aq.keep Kq nin0
  have Z0 := Nat.le_trans Z0 Kq.1
  have Kp := Kp.trans Kq all0
  show own_W p e below (own_Post s (Q_iv3 Z a1 aq kq cs d0 d1 d2 h0 n0) 1 3) T m 39 #[.val (.ref a1), .val (.ref aq), .val (.int (0 : Int32)), .val (.int (3 : Int32)), .val .null, .unset] [(.ref bb)]
  refine own_astore X hx (hb hby own_d_jdk_42_method_149_code_39) (pc' := 41) rfl rfl (Ls' := #[.val (.ref a1), .val (.ref aq), .val (.int (0 : Int32)), .val (.int (3 : Int32)), .val .null, .val (.ref bb)]) rfl ?_
  refine own_aloadN X hx (hb hby own_d_jdk_42_method_149_code_41) (pc' := 42) rfl rfl rfl ?_
  refine own_aload X hx (hb hby own_d_jdk_42_method_149_code_42) (pc' := 44) rfl rfl rfl ?_
  refine own_iloadN X hx (hb hby own_d_jdk_42_method_149_code_44) (pc' := 45) rfl rfl ?_
  refine own_callS X hx hZ [(.ref bb), (.int (3 : Int32))] hown (own_w hw 60 rfl) (own_w hw 61 rfl) (own_w hw 55 rfl) (own_w hw 62 rfl) (by decide) (rm_cf3 l Z a0 hw [] bb h1 n0 Z0 _ _ A_bb) eT (W := 1) (by decide) (by decide) (cells' := 1) (slots' := 3) rfl rfl (by decide) (by decide) (by rw [hml]; rfl) (lenOf own_pd_285bBI29B rfl) rfl (S := [(.ref a1)]) rfl (Nat.le_of_eq rfl) (hb hby own_d_jdk_42_method_149_code_45) (pc' := 48) rfl ?_
  intro v T h2 L lc X eT hq fN
  obtain ⟨rfl, Nq, hqe⟩ := hq
  have N := fN _ N Nq
  rw [hqe] at eT
  show own_W p e below (own_Post s (Q_iv3 Z a1 aq kq cs d0 d1 d2 h0 n0) 1 3) T m 48 #[.val (.ref a1), .val (.ref aq), .val (.int (0 : Int32)), .val (.int (3 : Int32)), .val .null, .val (.ref bb)] [(.int (0 : Int32)), (.ref a1)]
  refine own_putF X hx hZ hown (own_w hw 35 rfl) Via.refl eT F_c E_a1 (Or.inr ⟨(own_w hw 31 rfl), rfl, hnm⟩) (own_w hw 15 rfl) (ty := .byte) (v' := (.int (0 : Int32))) (by decide) rfl rfl (hb hby own_d_jdk_42_method_149_code_48) (pc' := 51) rfl ?_
  intro T h3 lc X eT Wq fN
  have F_c := F_c.same Wq
  have S_C := S_C.wr Wq
  have E_a1 := E_a1.wr Wq
  have F_v := F_v.other Wq (Or.inr (slot_ne (Or.inr (own_w hw 30 rfl)) (Or.inr (own_w hw 31 rfl)) (by decide) (t := (.array .byte)) (t' := .byte) (by decide) (by decide)))
  have A_aq := A_aq.other Wq (Ne.symm n1q)
  have A_bb := A_bb.other Wq (Ne.symm ne_a1_bb)
  have Z0 := Nat.le_trans Z0 (Keep.of_wr Wq).1
  have N := fN _ z_a1 N
  have Kp := Kp.wr Wq (Or.inl (List.mem_of_getElem? (i := 0) rfl))
  refine own_aloadN X hx (hb hby own_d_jdk_42_method_149_code_51) (pc' := 52) rfl rfl rfl ?_
  refine own_aload X hx (hb hby own_d_jdk_42_method_149_code_52) (pc' := 54) rfl rfl rfl ?_
  refine own_putF X hx hZ hown (own_w hw 34 rfl) Via.refl eT F_v E_a1 (Or.inr ⟨(own_w hw 30 rfl), rfl, hnm⟩) (own_w hw 15 rfl) (ty := (.array .byte)) (v' := (.ref bb)) (by decide) rfl rfl (hb hby own_d_jdk_42_method_149_code_54) (pc' := 57) rfl ?_
  intro T h4 lc X eT Wq fN
  have F_v := F_v.same Wq
  have S_C := S_C.wr Wq
  have E_a1 := E_a1.wr Wq
  have A_aq := A_aq.other Wq (Ne.symm n1q)
  have A_bb := A_bb.other Wq (Ne.symm ne_a1_bb)
  have F_c := F_c.other Wq (Or.inr (slot_ne (Or.inr (own_w hw 31 rfl)) (Or.inr (own_w hw 30 rfl)) (by decide) (t := .byte) (t' := (.array .byte)) (by decide) (by decide)))
  have Z0 := Nat.le_trans Z0 (Keep.of_wr Wq).1
  have N := fN _ z_a1 N
  have Kp := Kp.wr Wq (Or.inl (List.mem_of_getElem? (i := 0) rfl))
  refine own_ret0 X hx hlk Bd.returns (hb hby own_d_jdk_42_method_149_code_57) (by decide) (by decide) ?_
  rw [eT]
  exact ⟨rfl, N, Kp, bb, kb, s_bb, F_c, F_v, A_bb⟩
theorem ef_ic3 (m : MethodId) (x0 : Addr) (x1 : Addr) : entryFrame m #[(.ref x0), (.ref x1)] 2 = mkF m 0 #[.val (.ref x0), .val (.ref x1)] [] := by first | (simp [entryFrame, mkF, argsToLocals, Value.category]; done) | rfl
def Q_ic3 (Z : State) (a1 aq : Addr) (kq : ClassId) (cs : Int32) (d0 d1 d2 : Int32) (h0 : Heap) (n0 : Nat) (v : Option Value) (h : Heap) (L : List Loc) : Prop := v = none ∧ Fr n0 L ∧ Keep h0 h [a1] ∧ ∃ (b : Addr) (k : ClassId), h0.size ≤ b ∧ Fld Z h a1 "java/lang/String" "coder" "B" (.int (0 : Int32)) ∧ Fld Z h a1 "java/lang/String" "value" "[B" (.ref b) ∧ Arv Z h b k .byte (3 : Int32) [(.int (nar .byte d0.toInt8.toInt32)), (.int (nar .byte d1.toInt8.toInt32)), (.int (nar .byte d2.toInt8.toInt32))] (.int (0 : Int32))
set_option maxRecDepth 65536 in
set_option maxHeartbeats 40000000 in
theorem rm_ic3 (l : Launch) (Z : State) (a0 : Array Value) (hw : ∀ d ∈ tables_1, d.before a0 Z = true) (ws : List Jvm.Cond) (a1 aq : Addr) (kq : ClassId) (cs : Int32) (d0 d1 d2 : Int32) (h0 : Heap) (n0 : Nat) (Z0 : n0 ≤ h0.size) (S_C : Sta Z h0 "java/lang/String" "COMPACT_STRINGS" "Z" (.int cs)) (hcs : ¬ cs = 0) (u1 u2 : Value) (E_a1 : Exa Z h0 a1 "java/lang/String") (F_c : Fld Z h0 a1 "java/lang/String" "coder" "B" u1) (F_v : Fld Z h0 a1 "java/lang/String" "value" "[B" u2) (A_aq : Arv Z h0 aq kq .char (3 : Int32) [(.int d0), (.int d1), (.int d2)] (.int (0 : Int32))) (n1q : a1 ≠ aq) (hd0 : ¬ ((255 : Int32) < d0)) (hd1 : ¬ ((255 : Int32) < d1)) (hd2 : ¬ ((255 : Int32) < d2)) (z_a1 : n0 ≤ a1) :
    MetFree l (⟨"java/lang/String", "<init>", "([C)V"⟩ : MethodName) (head1 (Jvm.Cond.code (⟨"java/lang/String", "<init>", "([C)V"⟩ : MethodName) jdk_42_method_3_code 2 none :: ws) ({ frames := 3, cells := 1, slots := 3, locals := 52 } : Room)) (fun a U => a = #[(.ref a1), (.ref aq)] ∧ Z.Warmed39 U.vm ∧ U.heap = h0) (fun _ _ _ _ _ => True) (fun _ U o U' => ∃ v L, o = .returned v ∧ Q_ic3 Z a1 aq kq cs d0 d1 d2 h0 n0 v U'.heap L ∧ FrameEnd U o U' L ({ frames := 3, cells := 1, slots := 3, locals := 52 } : Room).cells ({ frames := 3, cells := 1, slots := 3, locals := 52 } : Room).slots) := by
  refine MetFree.of_bodySF (plainFor_of_name own_pn_java_lang_String) hisR ?_
  intro p e s m args below meth c s₁ Bd hml0 hP hK
  obtain ⟨rfl, hZ, hh⟩ := hP
  have hx := Bd.exec
  have hby := Bd.bytes
  have hml : c.maxLocals = 2 := hml0
  have hown : s.vm.findClass "java/lang/String" = some m.cls := findClass_of_methodNamed Bd.named
  have hnm := (name_of_methodNamed Bd.named Bd.method).1
  have hlk := Bd.notSynchronized
  obtain ⟨lc, hlc⟩ : ∃ lc : List Loc, lc = [] := ⟨_, rfl⟩
  have X : Stand p l e ({ frames := 3, cells := 1, slots := 3, locals := 52 } : Room) s m #[(.ref a1), (.ref aq)] below meth c s₁ lc 0 0 := hlc ▸ Stand.of_body Bd
  have eT : s₁.heap = h0 := by rw [← hh, Bd.state]; rfl
  have N : Fr n0 lc := hlc ▸ Fr.nil n0
  refine own_enter (ef_ic3 m a1 aq) ?_
  obtain ⟨T, hT⟩ : ∃ T : State, T = s₁ := ⟨_, rfl⟩
  rw [← hT] at X eT ⊢
  show own_W p e below (own_Post s (Q_ic3 Z a1 aq kq cs d0 d1 d2 h0 n0) 1 3) T m 0 #[.val (.ref a1), .val (.ref aq)] []
  refine own_aloadN X hx (hb hby own_d_jdk_42_method_3_code_0) (pc' := 1) rfl rfl rfl ?_
  refine own_aloadN X hx (hb hby own_d_jdk_42_method_3_code_1) (pc' := 2) rfl rfl rfl ?_
  refine own_iconst X hx (0 : Int32) (hb hby own_d_jdk_42_method_3_code_2) (pc' := 3) rfl rfl ?_
  refine own_aloadN X hx (hb hby own_d_jdk_42_method_3_code_3) (pc' := 4) rfl rfl rfl ?_
  refine own_arrlen X hx hZ eT A_aq (hb hby own_d_jdk_42_method_3_code_4) (pc' := 5) rfl ?_
  refine own_aconst_null X hx (hb hby own_d_jdk_42_method_3_code_5) (pc' := 6) rfl ?_
  refine own_callN X hx hZ a1 [(.ref aq), (.int (0 : Int32)), (.int (3 : Int32)), .null] rfl hown (own_w hw 21 rfl) (own_w hw 22 rfl) (own_w hw 16 rfl) (own_w hw 24 rfl) (by decide) (rm_iv3 l Z a0 hw [] a1 aq kq cs d0 d1 d2 h0 n0 Z0 S_C hcs _ _ E_a1 F_c F_v A_aq n1q hd0 hd1 hd2 z_a1) eT (W := 0) (by decide) (by decide) (cells' := 1) (slots' := 3) rfl rfl (by decide) (by decide) (by rw [hml]; rfl) (lenOf own_pd_285bCIILjava2flang2fVoid3b29V rfl) rfl (S := []) rfl (Nat.le_of_eq rfl) (hb hby own_d_jdk_42_method_3_code_6) (pc' := 9) rfl ?_
  intro v T h1 L lc X eT hq fN
  obtain ⟨rfl, Nq, Kq, bb, kb, hbb, F_c2, F_v2, A_bb⟩ := hq
  have N := fN _ N Nq
  show own_W p e below (own_Post s (Q_ic3 Z a1 aq kq cs d0 d1 d2 h0 n0) 1 3) T m 9 #[.val (.ref a1), .val (.ref aq)] []
  refine own_ret0 X hx hlk Bd.returns (hb hby own_d_jdk_42_method_3_code_9) (by decide) (by decide) ?_
  rw [eT]
  exact ⟨rfl, N, Kq, bb, kb, hbb, F_c2, F_v2, A_bb⟩
theorem ef_ci4 (m : MethodId) (x0 : Addr) (x1 : Int32) (x2 : Addr) (x3 : Int32) (x4 : Int32) : entryFrame m #[(.ref x0), (.int x1), (.ref x2), (.int x3), (.int x4)] 7 = mkF m 0 #[.val (.ref x0), .val (.int x1), .val (.ref x2), .val (.int x3), .val (.int x4), .unset, .unset] [] := by first | (simp [entryFrame, mkF, argsToLocals, Value.category]; done) | rfl
def Q_ci4 (Z : State) (aq ad : Addr) (kq kd : ClassId) (d0 d1 d2 d3 : Int32) (h0 : Heap) (n0 : Nat) (v : Option Value) (h : Heap) (L : List Loc) : Prop := v = some (.int (4 : Int32)) ∧ Fr n0 L ∧ Keep h0 h [ad] ∧ Arv Z h ad kd .byte (4 : Int32) [(.int (nar .byte d0.toInt8.toInt32)), (.int (nar .byte d1.toInt8.toInt32)), (.int (nar .byte d2.toInt8.toInt32)), (.int (nar .byte d3.toInt8.toInt32))] (.int (0 : Int32))
set_option maxRecDepth 65536 in
set_option maxHeartbeats 40000000 in
theorem rm_ci4 (l : Launch) (Z : State) (a0 : Array Value) (hw : ∀ d ∈ tables_1, d.before a0 Z = true) (ws : List Jvm.Cond) (aq ad : Addr) (kq kd : ClassId) (d0 d1 d2 d3 : Int32) (h0 : Heap) (n0 : Nat) (Z0 : n0 ≤ h0.size) (A_aq : Arv Z h0 aq kq .char (4 : Int32) [(.int d0), (.int d1), (.int d2), (.int d3)] (.int (0 : Int32))) (A_ad : Arv Z h0 ad kd .byte (4 : Int32) [(.int (0 : Int32)), (.int (0 : Int32)), (.int (0 : Int32)), (.int (0 : Int32))] (.int (0 : Int32))) (nqd : aq ≠ ad) (hd0 : ¬ ((255 : Int32) < d0)) (hd1 : ¬ ((255 : Int32) < d1)) (hd2 : ¬ ((255 : Int32) < d2)) (hd3 : ¬ ((255 : Int32) < d3)) (z_ad : n0 ≤ ad) :
    MetFree l (⟨"java/lang/StringUTF16", "compress", "([CI[BII)I"⟩ : MethodName) (head1 (Jvm.Cond.code (⟨"java/lang/StringUTF16", "compress", "([CI[BII)I"⟩ : MethodName) jdk_52_method_21_code 7 (some .int) :: ws) ({ frames := 0, cells := 0, slots := 0, locals := 0 } : Room)) (fun a U => a = #[(.ref aq), (.int (0 : Int32)), (.ref ad), (.int (0 : Int32)), (.int (4 : Int32))] ∧ Z.Warmed39 U.vm ∧ U.heap = h0) (fun _ _ _ _ _ => True) (fun _ U o U' => ∃ v L, o = .returned v ∧ Q_ci4 Z aq ad kq kd d0 d1 d2 d3 h0 n0 v U'.heap L ∧ FrameEnd U o U' L ({ frames := 0, cells := 0, slots := 0, locals := 0 } : Room).cells ({ frames := 0, cells := 0, slots := 0, locals := 0 } : Room).slots) := by
  refine MetFree.of_bodySF (plainFor_of_name own_pn_java_lang_StringUTF16) hisR ?_
  intro p e s m args below meth c s₁ Bd hml0 hP hK
  obtain ⟨rfl, hZ, hh⟩ := hP
  have hx := Bd.exec
  have hby := Bd.bytes
  have hml : c.maxLocals = 7 := hml0
  have hown : s.vm.findClass "java/lang/StringUTF16" = some m.cls := findClass_of_methodNamed Bd.named
  have hnm := (name_of_methodNamed Bd.named Bd.method).1
  have hlk := Bd.notSynchronized
  obtain ⟨lc, hlc⟩ : ∃ lc : List Loc, lc = [] := ⟨_, rfl⟩
  have X : Stand p l e ({ frames := 0, cells := 0, slots := 0, locals := 0 } : Room) s m #[(.ref aq), (.int (0 : Int32)), (.ref ad), (.int (0 : Int32)), (.int (4 : Int32))] below meth c s₁ lc 0 0 := hlc ▸ Stand.of_body Bd
  have eT : s₁.heap = h0 := by rw [← hh, Bd.state]; rfl
  have N : Fr n0 lc := hlc ▸ Fr.nil n0
  refine own_enter (ef_ci4 m aq (0 : Int32) ad (0 : Int32) (4 : Int32)) ?_
  obtain ⟨T, hT⟩ : ∃ T : State, T = s₁ := ⟨_, rfl⟩
  rw [← hT] at X eT ⊢
  show own_W p e below (own_Post s (Q_ci4 Z aq ad kq kd d0 d1 d2 d3 h0 n0) 0 0) T m 0 #[.val (.ref aq), .val (.int (0 : Int32)), .val (.ref ad), .val (.int (0 : Int32)), .val (.int (4 : Int32)), .unset, .unset] []
  have Kp : Keep h0 h0 [ad] := Keep.refl _ _
  refine own_iconst X hx (0 : Int32) (hb hby own_d_jdk_52_method_21_code_0) (pc' := 1) rfl rfl ?_
  refine own_istore X hx (hb hby own_d_jdk_52_method_21_code_1) (pc' := 3) rfl (Ls' := #[.val (.ref aq), .val (.int (0 : Int32)), .val (.ref ad), .val (.int (0 : Int32)), .val (.int (4 : Int32)), .val (.int (0 : Int32)), .unset]) rfl ?_
  refine own_iload X hx (hb hby own_d_jdk_52_method_21_code_3) (pc' := 5) rfl rfl ?_
  refine own_iload X hx (hb hby own_d_jdk_52_method_21_code_5) (pc' := 7) rfl rfl ?_
  refine own_icmpN X hx (hb hby own_d_jdk_52_method_21_code_7) (pc' := 10) rfl (show (0 : Int32) < (4 : Int32) from (by decide)) ?_
  refine own_aloadN X hx (hb hby own_d_jdk_52_method_21_code_10) (pc' := 11) rfl rfl rfl ?_
  refine own_iloadN X hx (hb hby own_d_jdk_52_method_21_code_11) (pc' := 12) rfl rfl ?_
  refine own_caload X hx hZ eT A_aq (v := (.int d0)) (by decide) rfl (hb hby own_d_jdk_52_method_21_code_12) (pc' := 13) rfl ?_
  refine own_istore X hx (hb hby own_d_jdk_52_method_21_code_13) (pc' := 15) rfl (Ls' := #[.val (.ref aq), .val (.int (0 : Int32)), .val (.ref ad), .val (.int (0 : Int32)), .val (.int (4 : Int32)), .val (.int (0 : Int32)), .val (.int d0)]) rfl ?_
  refine own_iload X hx (hb hby own_d_jdk_52_method_21_code_15) (pc' := 17) rfl rfl ?_
  refine own_sipush X hx (255 : Int32) (hb hby own_d_jdk_52_method_21_code_17) (pc' := 20) rfl rfl ?_
  refine own_icmpY X hx (hb hby own_d_jdk_52_method_21_code_20) (by decide) (pc' := 26) rfl (show ¬ ((255 : Int32) < d0) from hd0) ?_
  refine own_aloadN X hx (hb hby own_d_jdk_52_method_21_code_26) (pc' := 27) rfl rfl rfl ?_
  refine own_iloadN X hx (hb hby own_d_jdk_52_method_21_code_27) (pc' := 28) rfl rfl ?_
  refine own_iload X hx (hb hby own_d_jdk_52_method_21_code_28) (pc' := 30) rfl rfl ?_
  refine own_i2b X hx (hb hby own_d_jdk_52_method_21_code_30) (pc' := 31) rfl ?_
  refine own_bastoreB X hx hZ eT A_ad (by decide) 0 rfl (by show 0 < 4; decide) (hb hby own_d_jdk_52_method_21_code_31) (pc' := 32) rfl ?_
  intro T h1 lc X eT Kq A_adn fN
  have A_aq := A_aq.keep Kq (ninS nqd nin0)
  have Z0 := Nat.le_trans Z0 Kq.1
  have A_ad := A_adn
  have N := fN _ z_ad N
  have Kp := Kp.trans Kq (allS (P := fun x => x ∈ [ad] ∨ h0.size ≤ x) (Or.inl (List.mem_of_getElem? (i := 0) rfl)) all0)
  have A_ad : Arv Z h1 ad _ .byte (4 : Int32) [(.int (nar .byte d0.toInt8.toInt32)), (.int (0 : Int32)), (.int (0 : Int32)), (.int (0 : Int32))] (.int (0 : Int32)) := A_ad
  refine own_iinc X hx (1 : Int32) (hb hby own_d_jdk_52_method_21_code_32) (pc' := 35) rfl rfl rfl (Ls' := #[.val (.ref aq), .val (.int (1 : Int32)), .val (.ref ad), .val (.int (0 : Int32)), .val (.int (4 : Int32)), .val (.int (0 : Int32)), .val (.int d0)]) rfl ?_
  refine own_iinc X hx (1 : Int32) (hb hby own_d_jdk_52_method_21_code_35) (pc' := 38) rfl rfl rfl (Ls' := #[.val (.ref aq), .val (.int (1 : Int32)), .val (.ref ad), .val (.int (1 : Int32)), .val (.int (4 : Int32)), .val (.int (0 : Int32)), .val (.int d0)]) rfl ?_
  refine own_iinc X hx (1 : Int32) (hb hby own_d_jdk_52_method_21_code_38) (pc' := 41) rfl rfl rfl (Ls' := #[.val (.ref aq), .val (.int (1 : Int32)), .val (.ref ad), .val (.int (1 : Int32)), .val (.int (4 : Int32)), .val (.int (1 : Int32)), .val (.int d0)]) rfl ?_
  refine own_goto X hx (hb hby own_d_jdk_52_method_21_code_41) (by decide) (pc' := 3) rfl ?_
  refine own_iload X hx (hb hby own_d_jdk_52_method_21_code_3) (pc' := 5) rfl rfl ?_
  refine own_iload X hx (hb hby own_d_jdk_52_method_21_code_5) (pc' := 7) rfl rfl ?_
  refine own_icmpN X hx (hb hby own_d_jdk_52_method_21_code_7) (pc' := 10) rfl (show (1 : Int32) < (4 : Int32) from (by decide)) ?_
  refine own_aloadN X hx (hb hby own_d_jdk_52_method_21_code_10) (pc' := 11) rfl rfl rfl ?_
  refine own_iloadN X hx (hb hby own_d_jdk_52_method_21_code_11) (pc' := 12) rfl rfl ?_
  refine own_caload X hx hZ eT A_aq (v := (.int d1)) (by decide) rfl (hb hby own_d_jdk_52_method_21_code_12) (pc' := 13) rfl ?_
  refine own_istore X hx (hb hby own_d_jdk_52_method_21_code_13) (pc' := 15) rfl (Ls' := #[.val (.ref aq), .val (.int (1 : Int32)), .val (.ref ad), .val (.int (1 : Int32)), .val (.int (4 : Int32)), .val (.int (1 : Int32)), .val (.int d1)]) rfl ?_
  refine own_iload X hx (hb hby own_d_jdk_52_method_21_code_15) (pc' := 17) rfl rfl ?_
  refine own_sipush X hx (255 : Int32) (hb hby own_d_jdk_52_method_21_code_17) (pc' := 20) rfl rfl ?_
  refine own_icmpY X hx (hb hby own_d_jdk_52_method_21_code_20) (by decide) (pc' := 26) rfl (show ¬ ((255 : Int32) < d1) from hd1) ?_
  refine own_aloadN X hx (hb hby own_d_jdk_52_method_21_code_26) (pc' := 27) rfl rfl rfl ?_
  refine own_iloadN X hx (hb hby own_d_jdk_52_method_21_code_27) (pc' := 28) rfl rfl ?_
  refine own_iload X hx (hb hby own_d_jdk_52_method_21_code_28) (pc' := 30) rfl rfl ?_
  refine own_i2b X hx (hb hby own_d_jdk_52_method_21_code_30) (pc' := 31) rfl ?_
  refine own_bastoreB X hx hZ eT A_ad (by decide) 1 rfl (by show 1 < 4; decide) (hb hby own_d_jdk_52_method_21_code_31) (pc' := 32) rfl ?_
  intro T h2 lc X eT Kq A_adn fN
  have A_aq := A_aq.keep Kq (ninS nqd nin0)
  have Z0 := Nat.le_trans Z0 Kq.1
  have A_ad := A_adn
  have N := fN _ z_ad N
  have Kp := Kp.trans Kq (allS (P := fun x => x ∈ [ad] ∨ h0.size ≤ x) (Or.inl (List.mem_of_getElem? (i := 0) rfl)) all0)
  have A_ad : Arv Z h2 ad _ .byte (4 : Int32) [(.int (nar .byte d0.toInt8.toInt32)), (.int (nar .byte d1.toInt8.toInt32)), (.int (0 : Int32)), (.int (0 : Int32))] (.int (0 : Int32)) := A_ad
  refine own_iinc X hx (1 : Int32) (hb hby own_d_jdk_52_method_21_code_32) (pc' := 35) rfl rfl rfl (Ls' := #[.val (.ref aq), .val (.int (2 : Int32)), .val (.ref ad), .val (.int (1 : Int32)), .val (.int (4 : Int32)), .val (.int (1 : Int32)), .val (.int d1)]) rfl ?_
  refine own_iinc X hx (1 : Int32) (hb hby own_d_jdk_52_method_21_code_35) (pc' := 38) rfl rfl rfl (Ls' := #[.val (.ref aq), .val (.int (2 : Int32)), .val (.ref ad), .val (.int (2 : Int32)), .val (.int (4 : Int32)), .val (.int (1 : Int32)), .val (.int d1)]) rfl ?_
  refine own_iinc X hx (1 : Int32) (hb hby own_d_jdk_52_method_21_code_38) (pc' := 41) rfl rfl rfl (Ls' := #[.val (.ref aq), .val (.int (2 : Int32)), .val (.ref ad), .val (.int (2 : Int32)), .val (.int (4 : Int32)), .val (.int (2 : Int32)), .val (.int d1)]) rfl ?_
  refine own_goto X hx (hb hby own_d_jdk_52_method_21_code_41) (by decide) (pc' := 3) rfl ?_
  refine own_iload X hx (hb hby own_d_jdk_52_method_21_code_3) (pc' := 5) rfl rfl ?_
  refine own_iload X hx (hb hby own_d_jdk_52_method_21_code_5) (pc' := 7) rfl rfl ?_
  refine own_icmpN X hx (hb hby own_d_jdk_52_method_21_code_7) (pc' := 10) rfl (show (2 : Int32) < (4 : Int32) from (by decide)) ?_
  refine own_aloadN X hx (hb hby own_d_jdk_52_method_21_code_10) (pc' := 11) rfl rfl rfl ?_
  refine own_iloadN X hx (hb hby own_d_jdk_52_method_21_code_11) (pc' := 12) rfl rfl ?_
  refine own_caload X hx hZ eT A_aq (v := (.int d2)) (by decide) rfl (hb hby own_d_jdk_52_method_21_code_12) (pc' := 13) rfl ?_
  refine own_istore X hx (hb hby own_d_jdk_52_method_21_code_13) (pc' := 15) rfl (Ls' := #[.val (.ref aq), .val (.int (2 : Int32)), .val (.ref ad), .val (.int (2 : Int32)), .val (.int (4 : Int32)), .val (.int (2 : Int32)), .val (.int d2)]) rfl ?_
  refine own_iload X hx (hb hby own_d_jdk_52_method_21_code_15) (pc' := 17) rfl rfl ?_
  refine own_sipush X hx (255 : Int32) (hb hby own_d_jdk_52_method_21_code_17) (pc' := 20) rfl rfl ?_
  refine own_icmpY X hx (hb hby own_d_jdk_52_method_21_code_20) (by decide) (pc' := 26) rfl (show ¬ ((255 : Int32) < d2) from hd2) ?_
  refine own_aloadN X hx (hb hby own_d_jdk_52_method_21_code_26) (pc' := 27) rfl rfl rfl ?_
  refine own_iloadN X hx (hb hby own_d_jdk_52_method_21_code_27) (pc' := 28) rfl rfl ?_
  refine own_iload X hx (hb hby own_d_jdk_52_method_21_code_28) (pc' := 30) rfl rfl ?_
  refine own_i2b X hx (hb hby own_d_jdk_52_method_21_code_30) (pc' := 31) rfl ?_
  refine own_bastoreB X hx hZ eT A_ad (by decide) 2 rfl (by show 2 < 4; decide) (hb hby own_d_jdk_52_method_21_code_31) (pc' := 32) rfl ?_
  intro T h3 lc X eT Kq A_adn fN
  have A_aq := A_aq.keep Kq (ninS nqd nin0)
  have Z0 := Nat.le_trans Z0 Kq.1
  have A_ad := A_adn
  have N := fN _ z_ad N
  have Kp := Kp.trans Kq (allS (P := fun x => x ∈ [ad] ∨ h0.size ≤ x) (Or.inl (List.mem_of_getElem? (i := 0) rfl)) all0)
  have A_ad : Arv Z h3 ad _ .byte (4 : Int32) [(.int (nar .byte d0.toInt8.toInt32)), (.int (nar .byte d1.toInt8.toInt32)), (.int (nar .byte d2.toInt8.toInt32)), (.int (0 : Int32))] (.int (0 : Int32)) := A_ad
  refine own_iinc X hx (1 : Int32) (hb hby own_d_jdk_52_method_21_code_32) (pc' := 35) rfl rfl rfl (Ls' := #[.val (.ref aq), .val (.int (3 : Int32)), .val (.ref ad), .val (.int (2 : Int32)), .val (.int (4 : Int32)), .val (.int (2 : Int32)), .val (.int d2)]) rfl ?_
  refine own_iinc X hx (1 : Int32) (hb hby own_d_jdk_52_method_21_code_35) (pc' := 38) rfl rfl rfl (Ls' := #[.val (.ref aq), .val (.int (3 : Int32)), .val (.ref ad), .val (.int (3 : Int32)), .val (.int (4 : Int32)), .val (.int (2 : Int32)), .val (.int d2)]) rfl ?_
  refine own_iinc X hx (1 : Int32) (hb hby own_d_jdk_52_method_21_code_38) (pc' := 41) rfl rfl rfl (Ls' := #[.val (.ref aq), .val (.int (3 : Int32)), .val (.ref ad), .val (.int (3 : Int32)), .val (.int (4 : Int32)), .val (.int (3 : Int32)), .val (.int d2)]) rfl ?_
  refine own_goto X hx (hb hby own_d_jdk_52_method_21_code_41) (by decide) (pc' := 3) rfl ?_
  refine own_iload X hx (hb hby own_d_jdk_52_method_21_code_3) (pc' := 5) rfl rfl ?_
  refine own_iload X hx (hb hby own_d_jdk_52_method_21_code_5) (pc' := 7) rfl rfl ?_
  refine own_icmpN X hx (hb hby own_d_jdk_52_method_21_code_7) (pc' := 10) rfl (show (3 : Int32) < (4 : Int32) from (by decide)) ?_
  refine own_aloadN X hx (hb hby own_d_jdk_52_method_21_code_10) (pc' := 11) rfl rfl rfl ?_
  refine own_iloadN X hx (hb hby own_d_jdk_52_method_21_code_11) (pc' := 12) rfl rfl ?_
  refine own_caload X hx hZ eT A_aq (v := (.int d3)) (by decide) rfl (hb hby own_d_jdk_52_method_21_code_12) (pc' := 13) rfl ?_
  refine own_istore X hx (hb hby own_d_jdk_52_method_21_code_13) (pc' := 15) rfl (Ls' := #[.val (.ref aq), .val (.int (3 : Int32)), .val (.ref ad), .val (.int (3 : Int32)), .val (.int (4 : Int32)), .val (.int (3 : Int32)), .val (.int d3)]) rfl ?_
  refine own_iload X hx (hb hby own_d_jdk_52_method_21_code_15) (pc' := 17) rfl rfl ?_
  refine own_sipush X hx (255 : Int32) (hb hby own_d_jdk_52_method_21_code_17) (pc' := 20) rfl rfl ?_
  refine own_icmpY X hx (hb hby own_d_jdk_52_method_21_code_20) (by decide) (pc' := 26) rfl (show ¬ ((255 : Int32) < d3) from hd3) ?_
  refine own_aloadN X hx (hb hby own_d_jdk_52_method_21_code_26) (pc' := 27) rfl rfl rfl ?_
  refine own_iloadN X hx (hb hby own_d_jdk_52_method_21_code_27) (pc' := 28) rfl rfl ?_
  refine own_iload X hx (hb hby own_d_jdk_52_method_21_code_28) (pc' := 30) rfl rfl ?_
  refine own_i2b X hx (hb hby own_d_jdk_52_method_21_code_30) (pc' := 31) rfl ?_
  refine own_bastoreB X hx hZ eT A_ad (by decide) 3 rfl (by show 3 < 4; decide) (hb hby own_d_jdk_52_method_21_code_31) (pc' := 32) rfl ?_
  intro T h4 lc X eT Kq A_adn fN
  have A_aq := A_aq.keep Kq (ninS nqd nin0)
  have Z0 := Nat.le_trans Z0 Kq.1
  have A_ad := A_adn
  have N := fN _ z_ad N
  have Kp := Kp.trans Kq (allS (P := fun x => x ∈ [ad] ∨ h0.size ≤ x) (Or.inl (List.mem_of_getElem? (i := 0) rfl)) all0)
  have A_ad : Arv Z h4 ad _ .byte (4 : Int32) [(.int (nar .byte d0.toInt8.toInt32)), (.int (nar .byte d1.toInt8.toInt32)), (.int (nar .byte d2.toInt8.toInt32)), (.int (nar .byte d3.toInt8.toInt32))] (.int (0 : Int32)) := A_ad
  refine own_iinc X hx (1 : Int32) (hb hby own_d_jdk_52_method_21_code_32) (pc' := 35) rfl rfl rfl (Ls' := #[.val (.ref aq), .val (.int (4 : Int32)), .val (.ref ad), .val (.int (3 : Int32)), .val (.int (4 : Int32)), .val (.int (3 : Int32)), .val (.int d3)]) rfl ?_
  refine own_iinc X hx (1 : Int32) (hb hby own_d_jdk_52_method_21_code_35) (pc' := 38) rfl rfl rfl (Ls' := #[.val (.ref aq), .val (.int (4 : Int32)), .val (.ref ad), .val (.int (4 : Int32)), .val (.int (4 : Int32)), .val (.int (3 : Int32)), .val (.int d3)]) rfl ?_
  refine own_iinc X hx (1 : Int32) (hb hby own_d_jdk_52_method_21_code_38) (pc' := 41) rfl rfl rfl (Ls' := #[.val (.ref aq), .val (.int (4 : Int32)), .val (.ref ad), .val (.int (4 : Int32)), .val (.int (4 : Int32)), .val (.int (4 : Int32)), .val (.int d3)]) rfl ?_
  refine own_goto X hx (hb hby own_d_jdk_52_method_21_code_41) (by decide) (pc' := 3) rfl ?_
  refine own_iload X hx (hb hby own_d_jdk_52_method_21_code_3) (pc' := 5) rfl rfl ?_
  refine own_iload X hx (hb hby own_d_jdk_52_method_21_code_5) (pc' := 7) rfl rfl ?_
  refine own_icmpY X hx (hb hby own_d_jdk_52_method_21_code_7) (by decide) (pc' := 44) rfl (show ¬ ((4 : Int32) < (4 : Int32)) from (by decide)) ?_
  refine own_iload X hx (hb hby own_d_jdk_52_method_21_code_44) (pc' := 46) rfl rfl ?_
  refine own_retI X hx hlk (t := .int) (w' := (.int (4 : Int32))) Bd.returns (hb hby own_d_jdk_52_method_21_code_46) rfl rfl (by simp) (by decide) (by decide) ?_
  rw [eT]
  exact ⟨rfl, N, Kp, A_ad⟩
theorem ef_cc4 (m : MethodId) (x0 : Addr) (x1 : Int32) (x2 : Int32) : entryFrame m #[(.ref x0), (.int x1), (.int x2)] 6 = mkF m 0 #[.val (.ref x0), .val (.int x1), .val (.int x2), .unset, .unset, .unset] [] := by first | (simp [entryFrame, mkF, argsToLocals, Value.category]; done) | rfl
def Q_cc4 (Z : State) (aq : Addr) (kq : ClassId) (d0 d1 d2 d3 : Int32) (h0 : Heap) (n0 : Nat) (v : Option Value) (h : Heap) (L : List Loc) : Prop := ∃ (b : Addr) (kb : ClassId), v = some (.ref b) ∧ Fr n0 L ∧ Keep h0 h [] ∧ h0.size ≤ b ∧ Arv Z h b kb .byte (4 : Int32) [(.int (nar .byte d0.toInt8.toInt32)), (.int (nar .byte d1.toInt8.toInt32)), (.int (nar .byte d2.toInt8.toInt32)), (.int (nar .byte d3.toInt8.toInt32))] (.int (0 : Int32))
set_option maxRecDepth 65536 in
set_option maxHeartbeats 40000000 in
theorem rm_cc4 (l : Launch) (Z : State) (a0 : Array Value) (hw : ∀ d ∈ tables_1, d.before a0 Z = true) (ws : List Jvm.Cond) (aq : Addr) (kq : ClassId) (d0 d1 d2 d3 : Int32) (h0 : Heap) (n0 : Nat) (Z0 : n0 ≤ h0.size) (A_aq : Arv Z h0 aq kq .char (4 : Int32) [(.int d0), (.int d1), (.int d2), (.int d3)] (.int (0 : Int32))) (hd0 : ¬ ((255 : Int32) < d0)) (hd1 : ¬ ((255 : Int32) < d1)) (hd2 : ¬ ((255 : Int32) < d2)) (hd3 : ¬ ((255 : Int32) < d3)) :
    MetFree l (⟨"java/lang/StringUTF16", "compress", "([CII)[B"⟩ : MethodName) (head1 (Jvm.Cond.code (⟨"java/lang/StringUTF16", "compress", "([CII)[B"⟩ : MethodName) jdk_52_method_16_code 6 (some (.array .byte)) :: ws) ({ frames := 1, cells := 1, slots := 4, locals := 18 } : Room)) (fun a U => a = #[(.ref aq), (.int (0 : Int32)), (.int (4 : Int32))] ∧ Z.Warmed39 U.vm ∧ U.heap = h0) (fun _ _ _ _ _ => True) (fun _ U o U' => ∃ v L, o = .returned v ∧ Q_cc4 Z aq kq d0 d1 d2 d3 h0 n0 v U'.heap L ∧ FrameEnd U o U' L ({ frames := 1, cells := 1, slots := 4, locals := 18 } : Room).cells ({ frames := 1, cells := 1, slots := 4, locals := 18 } : Room).slots) := by
  refine MetFree.of_bodySF (plainFor_of_name own_pn_java_lang_StringUTF16) hisR ?_
  intro p e s m args below meth c s₁ Bd hml0 hP hK
  obtain ⟨rfl, hZ, hh⟩ := hP
  have hx := Bd.exec
  have hby := Bd.bytes
  have hml : c.maxLocals = 6 := hml0
  have hown : s.vm.findClass "java/lang/StringUTF16" = some m.cls := findClass_of_methodNamed Bd.named
  have hnm := (name_of_methodNamed Bd.named Bd.method).1
  have hlk := Bd.notSynchronized
  obtain ⟨lc, hlc⟩ : ∃ lc : List Loc, lc = [] := ⟨_, rfl⟩
  have X : Stand p l e ({ frames := 1, cells := 1, slots := 4, locals := 18 } : Room) s m #[(.ref aq), (.int (0 : Int32)), (.int (4 : Int32))] below meth c s₁ lc 0 0 := hlc ▸ Stand.of_body Bd
  have eT : s₁.heap = h0 := by rw [← hh, Bd.state]; rfl
  have N : Fr n0 lc := hlc ▸ Fr.nil n0
  refine own_enter (ef_cc4 m aq (0 : Int32) (4 : Int32)) ?_
  obtain ⟨T, hT⟩ : ∃ T : State, T = s₁ := ⟨_, rfl⟩
  rw [← hT] at X eT ⊢
  show own_W p e below (own_Post s (Q_cc4 Z aq kq d0 d1 d2 d3 h0 n0) 1 4) T m 0 #[.val (.ref aq), .val (.int (0 : Int32)), .val (.int (4 : Int32)), .unset, .unset, .unset] []
  have Kp : Keep h0 h0 [] := Keep.refl _ _
  refine own_iloadN X hx (hb hby own_d_jdk_52_method_16_code_0) (pc' := 1) rfl rfl ?_
  refine own_newarr X hx hZ (own_w hw 29 rfl) eT (hb hby own_d_jdk_52_method_16_code_1) (pc' := 3) rfl (by decide) 4 (by decide) (by decide) (cells' := 1) (slots' := 4) rfl rfl (by decide) (by decide) ?_
  intro T h1 k_b1 b1 X eT E gb1 A_b1
  have lt_aq_b1 : aq < b1 := Nat.lt_of_lt_of_le A_aq.lt (Nat.le_of_eq gb1.symm)
  have ne_aq_b1 : aq ≠ b1 := Nat.ne_of_lt lt_aq_b1
  have z_b1 : n0 ≤ b1 := Nat.le_trans Z0 (Nat.le_of_eq gb1.symm)
  have s_b1 : h0.size ≤ b1 := Nat.le_trans Kp.1 (Nat.le_of_eq gb1.symm)
  have A_aq := A_aq.ext E
  have Z0 := Nat.le_trans Z0 E.1
  have Kp := Kp.ext E
  have A_b1 : Arv Z h1 b1 k_b1 .byte (4 : Int32) [(.int (0 : Int32)), (.int (0 : Int32)), (.int (0 : Int32)), (.int (0 : Int32))] (.int (0 : Int32)) := A_b1.pad (pad_rep [] (.int (0 : Int32)) 4)
  refine own_astoreN X hx (hb hby own_d_jdk_52_method_16_code_3) (pc' := 4) rfl rfl (Ls' := #[.val (.ref aq), .val (.int (0 : Int32)), .val (.int (4 : Int32)), .val (.ref b1), .unset, .unset]) rfl ?_
  refine own_aloadN X hx (hb hby own_d_jdk_52_method_16_code_4) (pc' := 5) rfl rfl rfl ?_
  refine own_iloadN X hx (hb hby own_d_jdk_52_method_16_code_5) (pc' := 6) rfl rfl ?_
  refine own_aloadN X hx (hb hby own_d_jdk_52_method_16_code_6) (pc' := 7) rfl rfl rfl ?_
  refine own_iconst X hx (0 : Int32) (hb hby own_d_jdk_52_method_16_code_7) (pc' := 8) rfl rfl ?_
  refine own_iloadN X hx (hb hby own_d_jdk_52_method_16_code_8) (pc' := 9) rfl rfl ?_
  refine own_callS X hx hZ [(.ref aq), (.int (0 : Int32)), (.ref b1), (.int (0 : Int32)), (.int (4 : Int32))] hown (own_w hw 57 rfl) (own_w hw 58 rfl) (own_w hw 55 rfl) (own_w hw 59 rfl) (by decide) (rm_ci4 l Z a0 hw [] aq b1 _ _ d0 d1 d2 d3 h1 n0 Z0 A_aq A_b1 ne_aq_b1 hd0 hd1 hd2 hd3 z_b1) eT (W := 0) (by decide) (by decide) (cells' := 1) (slots' := 4) rfl rfl (by decide) (by decide) (by rw [hml]; rfl) (lenOf own_pd_285bCI5bBII29I rfl) rfl (S := []) rfl (Nat.le_of_eq rfl) (hb hby own_d_jdk_52_method_16_code_9) (pc' := 12) rfl ?_
  intro v T h2 L lc X eT hq fN
  obtain ⟨rfl, Nq, Kq, B_b1⟩ := hq
  have N := fN _ N Nq
  have A_aq := A_aq.keep Kq (ninS ne_aq_b1 nin0)
  have Z0 := Nat.le_trans Z0 Kq.1
  have Kp := Kp.trans Kq (allS (P := fun x => x ∈ ([] : List Addr) ∨ h0.size ≤ x) (Or.inr s_b1) all0)
  show own_W p e below (own_Post s (Q_cc4 Z aq kq d0 d1 d2 d3 h0 n0) 1 4) T m 12 #[.val (.ref aq), .val (.int (0 : Int32)), .val (.int (4 : Int32)), .val (.ref b1), .unset, .unset] [(.int (4 : Int32))]
  refine own_istore X hx (hb hby own_d_jdk_52_method_16_code_12) (pc' := 14) rfl (Ls' := #[.val (.ref aq), .val (.int (0 : Int32)), .val (.int (4 : Int32)), .val (.ref b1), .val (.int (4 : Int32)), .unset]) rfl ?_
  refine own_iload X hx (hb hby own_d_jdk_52_method_16_code_14) (pc' := 16) rfl rfl ?_
  refine own_iloadN X hx (hb hby own_d_jdk_52_method_16_code_16) (pc' := 17) rfl rfl ?_
  refine own_icmpY X hx (hb hby own_d_jdk_52_method_16_code_17) (by decide) (pc' := 57) rfl (show (4 : Int32) = (4 : Int32) from (by decide)) ?_
  refine own_aloadN X hx (hb hby own_d_jdk_52_method_16_code_57) (pc' := 58) rfl rfl rfl ?_
  refine own_retA X hx hlk Bd.returns (hb hby own_d_jdk_52_method_16_code_58) rfl rfl rfl (by decide) (by decide) ?_
  rw [eT]
  exact ⟨_, _, rfl, N, Kp, s_b1, B_b1⟩
theorem ef_cf4 (m : MethodId) (x0 : Addr) (x1 : Int32) : entryFrame m #[(.ref x0), (.int x1)] 2 = mkF m 0 #[.val (.ref x0), .val (.int x1)] [] := by first | (simp [entryFrame, mkF, argsToLocals, Value.category]; done) | rfl
def Q_cf4 (Z : State) (b : Addr) (h0 : Heap) (n0 : Nat) (v : Option Value) (h : Heap) (L : List Loc) : Prop := v = some (.int (0 : Int32)) ∧ Fr n0 L ∧ h = h0
set_option maxRecDepth 65536 in
set_option maxHeartbeats 40000000 in
theorem rm_cf4 (l : Launch) (Z : State) (a0 : Array Value) (hw : ∀ d ∈ tables_1, d.before a0 Z = true) (ws : List Jvm.Cond) (b : Addr) (h0 : Heap) (n0 : Nat) (Z0 : n0 ≤ h0.size) (k : ClassId) (vs : List Value) (A_b : Arv Z h0 b k .byte (4 : Int32) vs (.int (0 : Int32))) :
    MetFree l (⟨"java/lang/StringUTF16", "coderFromArrayLen", "([BI)B"⟩ : MethodName) (head1 (Jvm.Cond.code (⟨"java/lang/StringUTF16", "coderFromArrayLen", "([BI)B"⟩ : MethodName) jdk_52_method_15_code 2 (some .byte) :: ws) ({ frames := 0, cells := 0, slots := 0, locals := 0 } : Room)) (fun a U => a = #[(.ref b), (.int (4 : Int32))] ∧ Z.Warmed39 U.vm ∧ U.heap = h0) (fun _ _ _ _ _ => True) (fun _ U o U' => ∃ v L, o = .returned v ∧ Q_cf4 Z b h0 n0 v U'.heap L ∧ FrameEnd U o U' L ({ frames := 0, cells := 0, slots := 0, locals := 0 } : Room).cells ({ frames := 0, cells := 0, slots := 0, locals := 0 } : Room).slots) := by
  refine MetFree.of_bodySF (plainFor_of_name own_pn_java_lang_StringUTF16) hisR ?_
  intro p e s m args below meth c s₁ Bd hml0 hP hK
  obtain ⟨rfl, hZ, hh⟩ := hP
  have hx := Bd.exec
  have hby := Bd.bytes
  have hml : c.maxLocals = 2 := hml0
  have hown : s.vm.findClass "java/lang/StringUTF16" = some m.cls := findClass_of_methodNamed Bd.named
  have hnm := (name_of_methodNamed Bd.named Bd.method).1
  have hlk := Bd.notSynchronized
  obtain ⟨lc, hlc⟩ : ∃ lc : List Loc, lc = [] := ⟨_, rfl⟩
  have X : Stand p l e ({ frames := 0, cells := 0, slots := 0, locals := 0 } : Room) s m #[(.ref b), (.int (4 : Int32))] below meth c s₁ lc 0 0 := hlc ▸ Stand.of_body Bd
  have eT : s₁.heap = h0 := by rw [← hh, Bd.state]; rfl
  have N : Fr n0 lc := hlc ▸ Fr.nil n0
  refine own_enter (ef_cf4 m b (4 : Int32)) ?_
  obtain ⟨T, hT⟩ : ∃ T : State, T = s₁ := ⟨_, rfl⟩
  rw [← hT] at X eT ⊢
  show own_W p e below (own_Post s (Q_cf4 Z b h0 n0) 0 0) T m 0 #[.val (.ref b), .val (.int (4 : Int32))] []
  refine own_iloadN X hx (hb hby own_d_jdk_52_method_15_code_0) (pc' := 1) rfl rfl ?_
  refine own_aloadN X hx (hb hby own_d_jdk_52_method_15_code_1) (pc' := 2) rfl rfl rfl ?_
  refine own_arrlen X hx hZ eT A_b (hb hby own_d_jdk_52_method_15_code_2) (pc' := 3) rfl ?_
  refine own_isub X hx (hb hby own_d_jdk_52_method_15_code_3) (pc' := 4) rfl ?_
  refine own_bipush X hx (31 : Int32) (hb hby own_d_jdk_52_method_15_code_4) (pc' := 6) rfl rfl ?_
  refine own_iushr X hx (hb hby own_d_jdk_52_method_15_code_6) (pc' := 7) rfl ?_
  refine own_i2b X hx (hb hby own_d_jdk_52_method_15_code_7) (pc' := 8) rfl ?_
  refine own_retI X hx hlk (t := .byte) (w' := (.int (0 : Int32))) Bd.returns (hb hby own_d_jdk_52_method_15_code_8) rfl rfl (by simp) (by decide) (by decide) ?_
  rw [eT]
  exact ⟨rfl, N, rfl⟩
theorem ef_iv4 (m : MethodId) (x0 : Addr) (x1 : Addr) (x2 : Int32) (x3 : Int32) : entryFrame m #[(.ref x0), (.ref x1), (.int x2), (.int x3), .null] 6 = mkF m 0 #[.val (.ref x0), .val (.ref x1), .val (.int x2), .val (.int x3), .val .null, .unset] [] := by first | (simp [entryFrame, mkF, argsToLocals, Value.category]; done) | rfl
def Q_iv4 (Z : State) (a1 aq : Addr) (kq : ClassId) (cs : Int32) (d0 d1 d2 d3 : Int32) (h0 : Heap) (n0 : Nat) (v : Option Value) (h : Heap) (L : List Loc) : Prop := v = none ∧ Fr n0 L ∧ Keep h0 h [a1] ∧ ∃ (b : Addr) (k : ClassId), h0.size ≤ b ∧ Fld Z h a1 "java/lang/String" "coder" "B" (.int (0 : Int32)) ∧ Fld Z h a1 "java/lang/String" "value" "[B" (.ref b) ∧ Arv Z h b k .byte (4 : Int32) [(.int (nar .byte d0.toInt8.toInt32)), (.int (nar .byte d1.toInt8.toInt32)), (.int (nar .byte d2.toInt8.toInt32)), (.int (nar .byte d3.toInt8.toInt32))] (.int (0 : Int32))
set_option maxRecDepth 65536 in
set_option maxHeartbeats 40000000 in
theorem rm_iv4 (l : Launch) (Z : State) (a0 : Array Value) (hw : ∀ d ∈ tables_1, d.before a0 Z = true) (ws : List Jvm.Cond) (a1 aq : Addr) (kq : ClassId) (cs : Int32) (d0 d1 d2 d3 : Int32) (h0 : Heap) (n0 : Nat) (Z0 : n0 ≤ h0.size) (S_C : Sta Z h0 "java/lang/String" "COMPACT_STRINGS" "Z" (.int cs)) (hcs : ¬ cs = 0) (u1 u2 : Value) (E_a1 : Exa Z h0 a1 "java/lang/String") (F_c : Fld Z h0 a1 "java/lang/String" "coder" "B" u1) (F_v : Fld Z h0 a1 "java/lang/String" "value" "[B" u2) (A_aq : Arv Z h0 aq kq .char (4 : Int32) [(.int d0), (.int d1), (.int d2), (.int d3)] (.int (0 : Int32))) (n1q : a1 ≠ aq) (hd0 : ¬ ((255 : Int32) < d0)) (hd1 : ¬ ((255 : Int32) < d1)) (hd2 : ¬ ((255 : Int32) < d2)) (hd3 : ¬ ((255 : Int32) < d3)) (z_a1 : n0 ≤ a1) :
    MetFree l (⟨"java/lang/String", "<init>", "([CIILjava/lang/Void;)V"⟩ : MethodName) (head1 (Jvm.Cond.code (⟨"java/lang/String", "<init>", "([CIILjava/lang/Void;)V"⟩ : MethodName) jdk_42_method_149_code 6 none :: ws) ({ frames := 2, cells := 1, slots := 4, locals := 35 } : Room)) (fun a U => a = #[(.ref a1), (.ref aq), (.int (0 : Int32)), (.int (4 : Int32)), .null] ∧ Z.Warmed39 U.vm ∧ U.heap = h0) (fun _ _ _ _ _ => True) (fun _ U o U' => ∃ v L, o = .returned v ∧ Q_iv4 Z a1 aq kq cs d0 d1 d2 d3 h0 n0 v U'.heap L ∧ FrameEnd U o U' L ({ frames := 2, cells := 1, slots := 4, locals := 35 } : Room).cells ({ frames := 2, cells := 1, slots := 4, locals := 35 } : Room).slots) := by
  refine MetFree.of_bodySF (plainFor_of_name own_pn_java_lang_String) hisR ?_
  intro p e s m args below meth c s₁ Bd hml0 hP hK
  obtain ⟨rfl, hZ, hh⟩ := hP
  have hx := Bd.exec
  have hby := Bd.bytes
  have hml : c.maxLocals = 6 := hml0
  have hown : s.vm.findClass "java/lang/String" = some m.cls := findClass_of_methodNamed Bd.named
  have hnm := (name_of_methodNamed Bd.named Bd.method).1
  have hlk := Bd.notSynchronized
  obtain ⟨lc, hlc⟩ : ∃ lc : List Loc, lc = [] := ⟨_, rfl⟩
  have X : Stand p l e ({ frames := 2, cells := 1, slots := 4, locals := 35 } : Room) s m #[(.ref a1), (.ref aq), (.int (0 : Int32)), (.int (4 : Int32)), .null] below meth c s₁ lc 0 0 := hlc ▸ Stand.of_body Bd
  have eT : s₁.heap = h0 := by rw [← hh, Bd.state]; rfl
  have N : Fr n0 lc := hlc ▸ Fr.nil n0
  refine own_enter (ef_iv4 m a1 aq (0 : Int32) (4 : Int32)) ?_
  obtain ⟨T, hT⟩ : ∃ T : State, T = s₁ := ⟨_, rfl⟩
  rw [← hT] at X eT ⊢
  show own_W p e below (own_Post s (Q_iv4 Z a1 aq kq cs d0 d1 d2 d3 h0 n0) 1 4) T m 0 #[.val (.ref a1), .val (.ref aq), .val (.int (0 : Int32)), .val (.int (4 : Int32)), .val .null, .unset] []
  have Kp : Keep h0 h0 [a1] := Keep.refl _ _
  refine own_aloadN X hx (hb hby own_d_jdk_42_method_149_code_0) (pc' := 1) rfl rfl rfl ?_
  refine own_initO X hx hZ hown (own_w hw 25 rfl) (own_w hw 26 rfl) (own_w hw 27 rfl) eT (by rw [hml]; rfl) (hb hby own_d_jdk_42_method_149_code_1) (pc' := 4) rfl (by decide) (W := 0) (Nat.le_of_eq rfl) (by decide) ?_
  intro T X eT
  refine own_iloadN X hx (hb hby own_d_jdk_42_method_149_code_4) (pc' := 5) rfl rfl ?_
  refine own_ifY X hx (hb hby own_d_jdk_42_method_149_code_5) (by decide) (pc' := 27) rfl (show ¬ ((4 : Int32) = (0 : Int32)) from (by decide)) ?_
  refine own_getS X hx hZ hown (host := "") (Or.inl (own_w hw 47 rfl)) Via.refl eT S_C (hb hby own_d_jdk_42_method_149_code_27) (pc' := 30) rfl ?_
  intro T X eT
  refine own_ifN X hx (hb hby own_d_jdk_42_method_149_code_30) (pc' := 33) rfl (show ¬ (cs = (0 : Int32)) from hcs) ?_
  refine own_aloadN X hx (hb hby own_d_jdk_42_method_149_code_33) (pc' := 34) rfl rfl rfl ?_
  refine own_iloadN X hx (hb hby own_d_jdk_42_method_149_code_34) (pc' := 35) rfl rfl ?_
  refine own_iloadN X hx (hb hby own_d_jdk_42_method_149_code_35) (pc' := 36) rfl rfl ?_
  refine own_callS X hx hZ [(.ref aq), (.int (0 : Int32)), (.int (4 : Int32))] hown (own_w hw 53 rfl) (own_w hw 54 rfl) (own_w hw 55 rfl) (own_w hw 56 rfl) (by decide) (rm_cc4 l Z a0 hw [] aq kq d0 d1 d2 d3 h0 n0 Z0 A_aq hd0 hd1 hd2 hd3) eT (W := 0) (by decide) (by decide) (cells' := 1) (slots' := 4) rfl rfl (by decide) (by decide) (by rw [hml]; rfl) (lenOf own_pd_285bCII295bB rfl) rfl (S := []) rfl (Nat.le_of_eq rfl) (hb hby own_d_jdk_42_method_149_code_36) (pc' := 39) rfl ?_
  intro v T h1 L lc X eT hq fN
  obtain ⟨bb, kb, rfl, Nq, Kq, hbb, A_bb⟩ := hq
  have N := fN _ N Nq
  have lt_a1_bb : a1 < bb := Nat.lt_of_lt_of_le E_a1.lt hbb
  have ne_a1_bb : a1 ≠ bb := Nat.ne_of_lt lt_a1_bb
  have lt_aq_bb : aq < bb := Nat.lt_of_lt_of_le A_aq.lt hbb
  have ne_aq_bb : aq ≠ bb := Nat.ne_of_lt lt_aq_bb
  have z_bb : n0 ≤ bb := Nat.le_trans Z0 hbb
  have s_bb : h0.size ≤ bb := Nat.le_trans Kp.1 hbb
  have S_C := own_sta_keep S_C Kq ns0
  have E_a1 := E_a1.keep Kq
  have F_c := F_c.keep Kq nin0
  have F_v := F_v.keep Kq nin0
  have A_aq := A_aq.keep Kq nin0
  have Z0 := Nat.le_trans Z0 Kq.1
  have Kp := Kp.trans Kq all0
  show own_W p e below (own_Post s (Q_iv4 Z a1 aq kq cs d0 d1 d2 d3 h0 n0) 1 4) T m 39 #[.val (.ref a1), .val (.ref aq), .val (.int (0 : Int32)), .val (.int (4 : Int32)), .val .null, .unset] [(.ref bb)]
  refine own_astore X hx (hb hby own_d_jdk_42_method_149_code_39) (pc' := 41) rfl rfl (Ls' := #[.val (.ref a1), .val (.ref aq), .val (.int (0 : Int32)), .val (.int (4 : Int32)), .val .null, .val (.ref bb)]) rfl ?_
  refine own_aloadN X hx (hb hby own_d_jdk_42_method_149_code_41) (pc' := 42) rfl rfl rfl ?_
  refine own_aload X hx (hb hby own_d_jdk_42_method_149_code_42) (pc' := 44) rfl rfl rfl ?_
  refine own_iloadN X hx (hb hby own_d_jdk_42_method_149_code_44) (pc' := 45) rfl rfl ?_
  refine own_callS X hx hZ [(.ref bb), (.int (4 : Int32))] hown (own_w hw 60 rfl) (own_w hw 61 rfl) (own_w hw 55 rfl) (own_w hw 62 rfl) (by decide) (rm_cf4 l Z a0 hw [] bb h1 n0 Z0 _ _ A_bb) eT (W := 1) (by decide) (by decide) (cells' := 1) (slots' := 4) rfl rfl (by decide) (by decide) (by rw [hml]; rfl) (lenOf own_pd_285bBI29B rfl) rfl (S := [(.ref a1)]) rfl (Nat.le_of_eq rfl) (hb hby own_d_jdk_42_method_149_code_45) (pc' := 48) rfl ?_
  intro v T h2 L lc X eT hq fN
  obtain ⟨rfl, Nq, hqe⟩ := hq
  have N := fN _ N Nq
  rw [hqe] at eT
  show own_W p e below (own_Post s (Q_iv4 Z a1 aq kq cs d0 d1 d2 d3 h0 n0) 1 4) T m 48 #[.val (.ref a1), .val (.ref aq), .val (.int (0 : Int32)), .val (.int (4 : Int32)), .val .null, .val (.ref bb)] [(.int (0 : Int32)), (.ref a1)]
  refine own_putF X hx hZ hown (own_w hw 35 rfl) Via.refl eT F_c E_a1 (Or.inr ⟨(own_w hw 31 rfl), rfl, hnm⟩) (own_w hw 15 rfl) (ty := .byte) (v' := (.int (0 : Int32))) (by decide) rfl rfl (hb hby own_d_jdk_42_method_149_code_48) (pc' := 51) rfl ?_
  intro T h3 lc X eT Wq fN
  have F_c := F_c.same Wq
  have S_C := S_C.wr Wq
  have E_a1 := E_a1.wr Wq
  have F_v := F_v.other Wq (Or.inr (slot_ne (Or.inr (own_w hw 30 rfl)) (Or.inr (own_w hw 31 rfl)) (by decide) (t := (.array .byte)) (t' := .byte) (by decide) (by decide)))
  have A_aq := A_aq.other Wq (Ne.symm n1q)
  have A_bb := A_bb.other Wq (Ne.symm ne_a1_bb)
  have Z0 := Nat.le_trans Z0 (Keep.of_wr Wq).1
  have N := fN _ z_a1 N
  have Kp := Kp.wr Wq (Or.inl (List.mem_of_getElem? (i := 0) rfl))
  refine own_aloadN X hx (hb hby own_d_jdk_42_method_149_code_51) (pc' := 52) rfl rfl rfl ?_
  refine own_aload X hx (hb hby own_d_jdk_42_method_149_code_52) (pc' := 54) rfl rfl rfl ?_
  refine own_putF X hx hZ hown (own_w hw 34 rfl) Via.refl eT F_v E_a1 (Or.inr ⟨(own_w hw 30 rfl), rfl, hnm⟩) (own_w hw 15 rfl) (ty := (.array .byte)) (v' := (.ref bb)) (by decide) rfl rfl (hb hby own_d_jdk_42_method_149_code_54) (pc' := 57) rfl ?_
  intro T h4 lc X eT Wq fN
  have F_v := F_v.same Wq
  have S_C := S_C.wr Wq
  have E_a1 := E_a1.wr Wq
  have A_aq := A_aq.other Wq (Ne.symm n1q)
  have A_bb := A_bb.other Wq (Ne.symm ne_a1_bb)
  have F_c := F_c.other Wq (Or.inr (slot_ne (Or.inr (own_w hw 31 rfl)) (Or.inr (own_w hw 30 rfl)) (by decide) (t := .byte) (t' := (.array .byte)) (by decide) (by decide)))
  have Z0 := Nat.le_trans Z0 (Keep.of_wr Wq).1
  have N := fN _ z_a1 N
  have Kp := Kp.wr Wq (Or.inl (List.mem_of_getElem? (i := 0) rfl))
  refine own_ret0 X hx hlk Bd.returns (hb hby own_d_jdk_42_method_149_code_57) (by decide) (by decide) ?_
  rw [eT]
  exact ⟨rfl, N, Kp, bb, kb, s_bb, F_c, F_v, A_bb⟩
theorem ef_ic4 (m : MethodId) (x0 : Addr) (x1 : Addr) : entryFrame m #[(.ref x0), (.ref x1)] 2 = mkF m 0 #[.val (.ref x0), .val (.ref x1)] [] := by first | (simp [entryFrame, mkF, argsToLocals, Value.category]; done) | rfl
def Q_ic4 (Z : State) (a1 aq : Addr) (kq : ClassId) (cs : Int32) (d0 d1 d2 d3 : Int32) (h0 : Heap) (n0 : Nat) (v : Option Value) (h : Heap) (L : List Loc) : Prop := v = none ∧ Fr n0 L ∧ Keep h0 h [a1] ∧ ∃ (b : Addr) (k : ClassId), h0.size ≤ b ∧ Fld Z h a1 "java/lang/String" "coder" "B" (.int (0 : Int32)) ∧ Fld Z h a1 "java/lang/String" "value" "[B" (.ref b) ∧ Arv Z h b k .byte (4 : Int32) [(.int (nar .byte d0.toInt8.toInt32)), (.int (nar .byte d1.toInt8.toInt32)), (.int (nar .byte d2.toInt8.toInt32)), (.int (nar .byte d3.toInt8.toInt32))] (.int (0 : Int32))
set_option maxRecDepth 65536 in
set_option maxHeartbeats 40000000 in
theorem rm_ic4 (l : Launch) (Z : State) (a0 : Array Value) (hw : ∀ d ∈ tables_1, d.before a0 Z = true) (ws : List Jvm.Cond) (a1 aq : Addr) (kq : ClassId) (cs : Int32) (d0 d1 d2 d3 : Int32) (h0 : Heap) (n0 : Nat) (Z0 : n0 ≤ h0.size) (S_C : Sta Z h0 "java/lang/String" "COMPACT_STRINGS" "Z" (.int cs)) (hcs : ¬ cs = 0) (u1 u2 : Value) (E_a1 : Exa Z h0 a1 "java/lang/String") (F_c : Fld Z h0 a1 "java/lang/String" "coder" "B" u1) (F_v : Fld Z h0 a1 "java/lang/String" "value" "[B" u2) (A_aq : Arv Z h0 aq kq .char (4 : Int32) [(.int d0), (.int d1), (.int d2), (.int d3)] (.int (0 : Int32))) (n1q : a1 ≠ aq) (hd0 : ¬ ((255 : Int32) < d0)) (hd1 : ¬ ((255 : Int32) < d1)) (hd2 : ¬ ((255 : Int32) < d2)) (hd3 : ¬ ((255 : Int32) < d3)) (z_a1 : n0 ≤ a1) :
    MetFree l (⟨"java/lang/String", "<init>", "([C)V"⟩ : MethodName) (head1 (Jvm.Cond.code (⟨"java/lang/String", "<init>", "([C)V"⟩ : MethodName) jdk_42_method_3_code 2 none :: ws) ({ frames := 3, cells := 1, slots := 4, locals := 52 } : Room)) (fun a U => a = #[(.ref a1), (.ref aq)] ∧ Z.Warmed39 U.vm ∧ U.heap = h0) (fun _ _ _ _ _ => True) (fun _ U o U' => ∃ v L, o = .returned v ∧ Q_ic4 Z a1 aq kq cs d0 d1 d2 d3 h0 n0 v U'.heap L ∧ FrameEnd U o U' L ({ frames := 3, cells := 1, slots := 4, locals := 52 } : Room).cells ({ frames := 3, cells := 1, slots := 4, locals := 52 } : Room).slots) := by
  refine MetFree.of_bodySF (plainFor_of_name own_pn_java_lang_String) hisR ?_
  intro p e s m args below meth c s₁ Bd hml0 hP hK
  obtain ⟨rfl, hZ, hh⟩ := hP
  have hx := Bd.exec
  have hby := Bd.bytes
  have hml : c.maxLocals = 2 := hml0
  have hown : s.vm.findClass "java/lang/String" = some m.cls := findClass_of_methodNamed Bd.named
  have hnm := (name_of_methodNamed Bd.named Bd.method).1
  have hlk := Bd.notSynchronized
  obtain ⟨lc, hlc⟩ : ∃ lc : List Loc, lc = [] := ⟨_, rfl⟩
  have X : Stand p l e ({ frames := 3, cells := 1, slots := 4, locals := 52 } : Room) s m #[(.ref a1), (.ref aq)] below meth c s₁ lc 0 0 := hlc ▸ Stand.of_body Bd
  have eT : s₁.heap = h0 := by rw [← hh, Bd.state]; rfl
  have N : Fr n0 lc := hlc ▸ Fr.nil n0
  refine own_enter (ef_ic4 m a1 aq) ?_
  obtain ⟨T, hT⟩ : ∃ T : State, T = s₁ := ⟨_, rfl⟩
  rw [← hT] at X eT ⊢
  show own_W p e below (own_Post s (Q_ic4 Z a1 aq kq cs d0 d1 d2 d3 h0 n0) 1 4) T m 0 #[.val (.ref a1), .val (.ref aq)] []
  refine own_aloadN X hx (hb hby own_d_jdk_42_method_3_code_0) (pc' := 1) rfl rfl rfl ?_
  refine own_aloadN X hx (hb hby own_d_jdk_42_method_3_code_1) (pc' := 2) rfl rfl rfl ?_
  refine own_iconst X hx (0 : Int32) (hb hby own_d_jdk_42_method_3_code_2) (pc' := 3) rfl rfl ?_
  refine own_aloadN X hx (hb hby own_d_jdk_42_method_3_code_3) (pc' := 4) rfl rfl rfl ?_
  refine own_arrlen X hx hZ eT A_aq (hb hby own_d_jdk_42_method_3_code_4) (pc' := 5) rfl ?_
  refine own_aconst_null X hx (hb hby own_d_jdk_42_method_3_code_5) (pc' := 6) rfl ?_
  refine own_callN X hx hZ a1 [(.ref aq), (.int (0 : Int32)), (.int (4 : Int32)), .null] rfl hown (own_w hw 21 rfl) (own_w hw 22 rfl) (own_w hw 16 rfl) (own_w hw 24 rfl) (by decide) (rm_iv4 l Z a0 hw [] a1 aq kq cs d0 d1 d2 d3 h0 n0 Z0 S_C hcs _ _ E_a1 F_c F_v A_aq n1q hd0 hd1 hd2 hd3 z_a1) eT (W := 0) (by decide) (by decide) (cells' := 1) (slots' := 4) rfl rfl (by decide) (by decide) (by rw [hml]; rfl) (lenOf own_pd_285bCIILjava2flang2fVoid3b29V rfl) rfl (S := []) rfl (Nat.le_of_eq rfl) (hb hby own_d_jdk_42_method_3_code_6) (pc' := 9) rfl ?_
  intro v T h1 L lc X eT hq fN
  obtain ⟨rfl, Nq, Kq, bb, kb, hbb, F_c2, F_v2, A_bb⟩ := hq
  have N := fN _ N Nq
  show own_W p e below (own_Post s (Q_ic4 Z a1 aq kq cs d0 d1 d2 d3 h0 n0) 1 4) T m 9 #[.val (.ref a1), .val (.ref aq)] []
  refine own_ret0 X hx hlk Bd.returns (hb hby own_d_jdk_42_method_3_code_9) (by decide) (by decide) ?_
  rw [eT]
  exact ⟨rfl, N, Kq, bb, kb, hbb, F_c2, F_v2, A_bb⟩
theorem ef_ci5 (m : MethodId) (x0 : Addr) (x1 : Int32) (x2 : Addr) (x3 : Int32) (x4 : Int32) : entryFrame m #[(.ref x0), (.int x1), (.ref x2), (.int x3), (.int x4)] 7 = mkF m 0 #[.val (.ref x0), .val (.int x1), .val (.ref x2), .val (.int x3), .val (.int x4), .unset, .unset] [] := by first | (simp [entryFrame, mkF, argsToLocals, Value.category]; done) | rfl
def Q_ci5 (Z : State) (aq ad : Addr) (kq kd : ClassId) (d0 d1 d2 d3 d4 : Int32) (h0 : Heap) (n0 : Nat) (v : Option Value) (h : Heap) (L : List Loc) : Prop := v = some (.int (5 : Int32)) ∧ Fr n0 L ∧ Keep h0 h [ad] ∧ Arv Z h ad kd .byte (5 : Int32) [(.int (nar .byte d0.toInt8.toInt32)), (.int (nar .byte d1.toInt8.toInt32)), (.int (nar .byte d2.toInt8.toInt32)), (.int (nar .byte d3.toInt8.toInt32)), (.int (nar .byte d4.toInt8.toInt32))] (.int (0 : Int32))
set_option maxRecDepth 65536 in
set_option maxHeartbeats 40000000 in
theorem rm_ci5 (l : Launch) (Z : State) (a0 : Array Value) (hw : ∀ d ∈ tables_1, d.before a0 Z = true) (ws : List Jvm.Cond) (aq ad : Addr) (kq kd : ClassId) (d0 d1 d2 d3 d4 : Int32) (h0 : Heap) (n0 : Nat) (Z0 : n0 ≤ h0.size) (A_aq : Arv Z h0 aq kq .char (5 : Int32) [(.int d0), (.int d1), (.int d2), (.int d3), (.int d4)] (.int (0 : Int32))) (A_ad : Arv Z h0 ad kd .byte (5 : Int32) [(.int (0 : Int32)), (.int (0 : Int32)), (.int (0 : Int32)), (.int (0 : Int32)), (.int (0 : Int32))] (.int (0 : Int32))) (nqd : aq ≠ ad) (hd0 : ¬ ((255 : Int32) < d0)) (hd1 : ¬ ((255 : Int32) < d1)) (hd2 : ¬ ((255 : Int32) < d2)) (hd3 : ¬ ((255 : Int32) < d3)) (hd4 : ¬ ((255 : Int32) < d4)) (z_ad : n0 ≤ ad) :
    MetFree l (⟨"java/lang/StringUTF16", "compress", "([CI[BII)I"⟩ : MethodName) (head1 (Jvm.Cond.code (⟨"java/lang/StringUTF16", "compress", "([CI[BII)I"⟩ : MethodName) jdk_52_method_21_code 7 (some .int) :: ws) ({ frames := 0, cells := 0, slots := 0, locals := 0 } : Room)) (fun a U => a = #[(.ref aq), (.int (0 : Int32)), (.ref ad), (.int (0 : Int32)), (.int (5 : Int32))] ∧ Z.Warmed39 U.vm ∧ U.heap = h0) (fun _ _ _ _ _ => True) (fun _ U o U' => ∃ v L, o = .returned v ∧ Q_ci5 Z aq ad kq kd d0 d1 d2 d3 d4 h0 n0 v U'.heap L ∧ FrameEnd U o U' L ({ frames := 0, cells := 0, slots := 0, locals := 0 } : Room).cells ({ frames := 0, cells := 0, slots := 0, locals := 0 } : Room).slots) := by
  refine MetFree.of_bodySF (plainFor_of_name own_pn_java_lang_StringUTF16) hisR ?_
  intro p e s m args below meth c s₁ Bd hml0 hP hK
  obtain ⟨rfl, hZ, hh⟩ := hP
  have hx := Bd.exec
  have hby := Bd.bytes
  have hml : c.maxLocals = 7 := hml0
  have hown : s.vm.findClass "java/lang/StringUTF16" = some m.cls := findClass_of_methodNamed Bd.named
  have hnm := (name_of_methodNamed Bd.named Bd.method).1
  have hlk := Bd.notSynchronized
  obtain ⟨lc, hlc⟩ : ∃ lc : List Loc, lc = [] := ⟨_, rfl⟩
  have X : Stand p l e ({ frames := 0, cells := 0, slots := 0, locals := 0 } : Room) s m #[(.ref aq), (.int (0 : Int32)), (.ref ad), (.int (0 : Int32)), (.int (5 : Int32))] below meth c s₁ lc 0 0 := hlc ▸ Stand.of_body Bd
  have eT : s₁.heap = h0 := by rw [← hh, Bd.state]; rfl
  have N : Fr n0 lc := hlc ▸ Fr.nil n0
  refine own_enter (ef_ci5 m aq (0 : Int32) ad (0 : Int32) (5 : Int32)) ?_
  obtain ⟨T, hT⟩ : ∃ T : State, T = s₁ := ⟨_, rfl⟩
  rw [← hT] at X eT ⊢
  show own_W p e below (own_Post s (Q_ci5 Z aq ad kq kd d0 d1 d2 d3 d4 h0 n0) 0 0) T m 0 #[.val (.ref aq), .val (.int (0 : Int32)), .val (.ref ad), .val (.int (0 : Int32)), .val (.int (5 : Int32)), .unset, .unset] []
  have Kp : Keep h0 h0 [ad] := Keep.refl _ _
  refine own_iconst X hx (0 : Int32) (hb hby own_d_jdk_52_method_21_code_0) (pc' := 1) rfl rfl ?_
  refine own_istore X hx (hb hby own_d_jdk_52_method_21_code_1) (pc' := 3) rfl (Ls' := #[.val (.ref aq), .val (.int (0 : Int32)), .val (.ref ad), .val (.int (0 : Int32)), .val (.int (5 : Int32)), .val (.int (0 : Int32)), .unset]) rfl ?_
  refine own_iload X hx (hb hby own_d_jdk_52_method_21_code_3) (pc' := 5) rfl rfl ?_
  refine own_iload X hx (hb hby own_d_jdk_52_method_21_code_5) (pc' := 7) rfl rfl ?_
  refine own_icmpN X hx (hb hby own_d_jdk_52_method_21_code_7) (pc' := 10) rfl (show (0 : Int32) < (5 : Int32) from (by decide)) ?_
  refine own_aloadN X hx (hb hby own_d_jdk_52_method_21_code_10) (pc' := 11) rfl rfl rfl ?_
  refine own_iloadN X hx (hb hby own_d_jdk_52_method_21_code_11) (pc' := 12) rfl rfl ?_
  refine own_caload X hx hZ eT A_aq (v := (.int d0)) (by decide) rfl (hb hby own_d_jdk_52_method_21_code_12) (pc' := 13) rfl ?_
  refine own_istore X hx (hb hby own_d_jdk_52_method_21_code_13) (pc' := 15) rfl (Ls' := #[.val (.ref aq), .val (.int (0 : Int32)), .val (.ref ad), .val (.int (0 : Int32)), .val (.int (5 : Int32)), .val (.int (0 : Int32)), .val (.int d0)]) rfl ?_
  refine own_iload X hx (hb hby own_d_jdk_52_method_21_code_15) (pc' := 17) rfl rfl ?_
  refine own_sipush X hx (255 : Int32) (hb hby own_d_jdk_52_method_21_code_17) (pc' := 20) rfl rfl ?_
  refine own_icmpY X hx (hb hby own_d_jdk_52_method_21_code_20) (by decide) (pc' := 26) rfl (show ¬ ((255 : Int32) < d0) from hd0) ?_
  refine own_aloadN X hx (hb hby own_d_jdk_52_method_21_code_26) (pc' := 27) rfl rfl rfl ?_
  refine own_iloadN X hx (hb hby own_d_jdk_52_method_21_code_27) (pc' := 28) rfl rfl ?_
  refine own_iload X hx (hb hby own_d_jdk_52_method_21_code_28) (pc' := 30) rfl rfl ?_
  refine own_i2b X hx (hb hby own_d_jdk_52_method_21_code_30) (pc' := 31) rfl ?_
  refine own_bastoreB X hx hZ eT A_ad (by decide) 0 rfl (by show 0 < 5; decide) (hb hby own_d_jdk_52_method_21_code_31) (pc' := 32) rfl ?_
  intro T h1 lc X eT Kq A_adn fN
  have A_aq := A_aq.keep Kq (ninS nqd nin0)
  have Z0 := Nat.le_trans Z0 Kq.1
  have A_ad := A_adn
  have N := fN _ z_ad N
  have Kp := Kp.trans Kq (allS (P := fun x => x ∈ [ad] ∨ h0.size ≤ x) (Or.inl (List.mem_of_getElem? (i := 0) rfl)) all0)
  have A_ad : Arv Z h1 ad _ .byte (5 : Int32) [(.int (nar .byte d0.toInt8.toInt32)), (.int (0 : Int32)), (.int (0 : Int32)), (.int (0 : Int32)), (.int (0 : Int32))] (.int (0 : Int32)) := A_ad
  refine own_iinc X hx (1 : Int32) (hb hby own_d_jdk_52_method_21_code_32) (pc' := 35) rfl rfl rfl (Ls' := #[.val (.ref aq), .val (.int (1 : Int32)), .val (.ref ad), .val (.int (0 : Int32)), .val (.int (5 : Int32)), .val (.int (0 : Int32)), .val (.int d0)]) rfl ?_
  refine own_iinc X hx (1 : Int32) (hb hby own_d_jdk_52_method_21_code_35) (pc' := 38) rfl rfl rfl (Ls' := #[.val (.ref aq), .val (.int (1 : Int32)), .val (.ref ad), .val (.int (1 : Int32)), .val (.int (5 : Int32)), .val (.int (0 : Int32)), .val (.int d0)]) rfl ?_
  refine own_iinc X hx (1 : Int32) (hb hby own_d_jdk_52_method_21_code_38) (pc' := 41) rfl rfl rfl (Ls' := #[.val (.ref aq), .val (.int (1 : Int32)), .val (.ref ad), .val (.int (1 : Int32)), .val (.int (5 : Int32)), .val (.int (1 : Int32)), .val (.int d0)]) rfl ?_
  refine own_goto X hx (hb hby own_d_jdk_52_method_21_code_41) (by decide) (pc' := 3) rfl ?_
  refine own_iload X hx (hb hby own_d_jdk_52_method_21_code_3) (pc' := 5) rfl rfl ?_
  refine own_iload X hx (hb hby own_d_jdk_52_method_21_code_5) (pc' := 7) rfl rfl ?_
  refine own_icmpN X hx (hb hby own_d_jdk_52_method_21_code_7) (pc' := 10) rfl (show (1 : Int32) < (5 : Int32) from (by decide)) ?_
  refine own_aloadN X hx (hb hby own_d_jdk_52_method_21_code_10) (pc' := 11) rfl rfl rfl ?_
  refine own_iloadN X hx (hb hby own_d_jdk_52_method_21_code_11) (pc' := 12) rfl rfl ?_
  refine own_caload X hx hZ eT A_aq (v := (.int d1)) (by decide) rfl (hb hby own_d_jdk_52_method_21_code_12) (pc' := 13) rfl ?_
  refine own_istore X hx (hb hby own_d_jdk_52_method_21_code_13) (pc' := 15) rfl (Ls' := #[.val (.ref aq), .val (.int (1 : Int32)), .val (.ref ad), .val (.int (1 : Int32)), .val (.int (5 : Int32)), .val (.int (1 : Int32)), .val (.int d1)]) rfl ?_
  refine own_iload X hx (hb hby own_d_jdk_52_method_21_code_15) (pc' := 17) rfl rfl ?_
  refine own_sipush X hx (255 : Int32) (hb hby own_d_jdk_52_method_21_code_17) (pc' := 20) rfl rfl ?_
  refine own_icmpY X hx (hb hby own_d_jdk_52_method_21_code_20) (by decide) (pc' := 26) rfl (show ¬ ((255 : Int32) < d1) from hd1) ?_
  refine own_aloadN X hx (hb hby own_d_jdk_52_method_21_code_26) (pc' := 27) rfl rfl rfl ?_
  refine own_iloadN X hx (hb hby own_d_jdk_52_method_21_code_27) (pc' := 28) rfl rfl ?_
  refine own_iload X hx (hb hby own_d_jdk_52_method_21_code_28) (pc' := 30) rfl rfl ?_
  refine own_i2b X hx (hb hby own_d_jdk_52_method_21_code_30) (pc' := 31) rfl ?_
  refine own_bastoreB X hx hZ eT A_ad (by decide) 1 rfl (by show 1 < 5; decide) (hb hby own_d_jdk_52_method_21_code_31) (pc' := 32) rfl ?_
  intro T h2 lc X eT Kq A_adn fN
  have A_aq := A_aq.keep Kq (ninS nqd nin0)
  have Z0 := Nat.le_trans Z0 Kq.1
  have A_ad := A_adn
  have N := fN _ z_ad N
  have Kp := Kp.trans Kq (allS (P := fun x => x ∈ [ad] ∨ h0.size ≤ x) (Or.inl (List.mem_of_getElem? (i := 0) rfl)) all0)
  have A_ad : Arv Z h2 ad _ .byte (5 : Int32) [(.int (nar .byte d0.toInt8.toInt32)), (.int (nar .byte d1.toInt8.toInt32)), (.int (0 : Int32)), (.int (0 : Int32)), (.int (0 : Int32))] (.int (0 : Int32)) := A_ad
  refine own_iinc X hx (1 : Int32) (hb hby own_d_jdk_52_method_21_code_32) (pc' := 35) rfl rfl rfl (Ls' := #[.val (.ref aq), .val (.int (2 : Int32)), .val (.ref ad), .val (.int (1 : Int32)), .val (.int (5 : Int32)), .val (.int (1 : Int32)), .val (.int d1)]) rfl ?_
  refine own_iinc X hx (1 : Int32) (hb hby own_d_jdk_52_method_21_code_35) (pc' := 38) rfl rfl rfl (Ls' := #[.val (.ref aq), .val (.int (2 : Int32)), .val (.ref ad), .val (.int (2 : Int32)), .val (.int (5 : Int32)), .val (.int (1 : Int32)), .val (.int d1)]) rfl ?_
  refine own_iinc X hx (1 : Int32) (hb hby own_d_jdk_52_method_21_code_38) (pc' := 41) rfl rfl rfl (Ls' := #[.val (.ref aq), .val (.int (2 : Int32)), .val (.ref ad), .val (.int (2 : Int32)), .val (.int (5 : Int32)), .val (.int (2 : Int32)), .val (.int d1)]) rfl ?_
  refine own_goto X hx (hb hby own_d_jdk_52_method_21_code_41) (by decide) (pc' := 3) rfl ?_
  refine own_iload X hx (hb hby own_d_jdk_52_method_21_code_3) (pc' := 5) rfl rfl ?_
  refine own_iload X hx (hb hby own_d_jdk_52_method_21_code_5) (pc' := 7) rfl rfl ?_
  refine own_icmpN X hx (hb hby own_d_jdk_52_method_21_code_7) (pc' := 10) rfl (show (2 : Int32) < (5 : Int32) from (by decide)) ?_
  refine own_aloadN X hx (hb hby own_d_jdk_52_method_21_code_10) (pc' := 11) rfl rfl rfl ?_
  refine own_iloadN X hx (hb hby own_d_jdk_52_method_21_code_11) (pc' := 12) rfl rfl ?_
  refine own_caload X hx hZ eT A_aq (v := (.int d2)) (by decide) rfl (hb hby own_d_jdk_52_method_21_code_12) (pc' := 13) rfl ?_
  refine own_istore X hx (hb hby own_d_jdk_52_method_21_code_13) (pc' := 15) rfl (Ls' := #[.val (.ref aq), .val (.int (2 : Int32)), .val (.ref ad), .val (.int (2 : Int32)), .val (.int (5 : Int32)), .val (.int (2 : Int32)), .val (.int d2)]) rfl ?_
  refine own_iload X hx (hb hby own_d_jdk_52_method_21_code_15) (pc' := 17) rfl rfl ?_
  refine own_sipush X hx (255 : Int32) (hb hby own_d_jdk_52_method_21_code_17) (pc' := 20) rfl rfl ?_
  refine own_icmpY X hx (hb hby own_d_jdk_52_method_21_code_20) (by decide) (pc' := 26) rfl (show ¬ ((255 : Int32) < d2) from hd2) ?_
  refine own_aloadN X hx (hb hby own_d_jdk_52_method_21_code_26) (pc' := 27) rfl rfl rfl ?_
  refine own_iloadN X hx (hb hby own_d_jdk_52_method_21_code_27) (pc' := 28) rfl rfl ?_
  refine own_iload X hx (hb hby own_d_jdk_52_method_21_code_28) (pc' := 30) rfl rfl ?_
  refine own_i2b X hx (hb hby own_d_jdk_52_method_21_code_30) (pc' := 31) rfl ?_
  refine own_bastoreB X hx hZ eT A_ad (by decide) 2 rfl (by show 2 < 5; decide) (hb hby own_d_jdk_52_method_21_code_31) (pc' := 32) rfl ?_
  intro T h3 lc X eT Kq A_adn fN
  have A_aq := A_aq.keep Kq (ninS nqd nin0)
  have Z0 := Nat.le_trans Z0 Kq.1
  have A_ad := A_adn
  have N := fN _ z_ad N
  have Kp := Kp.trans Kq (allS (P := fun x => x ∈ [ad] ∨ h0.size ≤ x) (Or.inl (List.mem_of_getElem? (i := 0) rfl)) all0)
  have A_ad : Arv Z h3 ad _ .byte (5 : Int32) [(.int (nar .byte d0.toInt8.toInt32)), (.int (nar .byte d1.toInt8.toInt32)), (.int (nar .byte d2.toInt8.toInt32)), (.int (0 : Int32)), (.int (0 : Int32))] (.int (0 : Int32)) := A_ad
  refine own_iinc X hx (1 : Int32) (hb hby own_d_jdk_52_method_21_code_32) (pc' := 35) rfl rfl rfl (Ls' := #[.val (.ref aq), .val (.int (3 : Int32)), .val (.ref ad), .val (.int (2 : Int32)), .val (.int (5 : Int32)), .val (.int (2 : Int32)), .val (.int d2)]) rfl ?_
  refine own_iinc X hx (1 : Int32) (hb hby own_d_jdk_52_method_21_code_35) (pc' := 38) rfl rfl rfl (Ls' := #[.val (.ref aq), .val (.int (3 : Int32)), .val (.ref ad), .val (.int (3 : Int32)), .val (.int (5 : Int32)), .val (.int (2 : Int32)), .val (.int d2)]) rfl ?_
  refine own_iinc X hx (1 : Int32) (hb hby own_d_jdk_52_method_21_code_38) (pc' := 41) rfl rfl rfl (Ls' := #[.val (.ref aq), .val (.int (3 : Int32)), .val (.ref ad), .val (.int (3 : Int32)), .val (.int (5 : Int32)), .val (.int (3 : Int32)), .val (.int d2)]) rfl ?_
  refine own_goto X hx (hb hby own_d_jdk_52_method_21_code_41) (by decide) (pc' := 3) rfl ?_
  refine own_iload X hx (hb hby own_d_jdk_52_method_21_code_3) (pc' := 5) rfl rfl ?_
  refine own_iload X hx (hb hby own_d_jdk_52_method_21_code_5) (pc' := 7) rfl rfl ?_
  refine own_icmpN X hx (hb hby own_d_jdk_52_method_21_code_7) (pc' := 10) rfl (show (3 : Int32) < (5 : Int32) from (by decide)) ?_
  refine own_aloadN X hx (hb hby own_d_jdk_52_method_21_code_10) (pc' := 11) rfl rfl rfl ?_
  refine own_iloadN X hx (hb hby own_d_jdk_52_method_21_code_11) (pc' := 12) rfl rfl ?_
  refine own_caload X hx hZ eT A_aq (v := (.int d3)) (by decide) rfl (hb hby own_d_jdk_52_method_21_code_12) (pc' := 13) rfl ?_
  refine own_istore X hx (hb hby own_d_jdk_52_method_21_code_13) (pc' := 15) rfl (Ls' := #[.val (.ref aq), .val (.int (3 : Int32)), .val (.ref ad), .val (.int (3 : Int32)), .val (.int (5 : Int32)), .val (.int (3 : Int32)), .val (.int d3)]) rfl ?_
  refine own_iload X hx (hb hby own_d_jdk_52_method_21_code_15) (pc' := 17) rfl rfl ?_
  refine own_sipush X hx (255 : Int32) (hb hby own_d_jdk_52_method_21_code_17) (pc' := 20) rfl rfl ?_
  refine own_icmpY X hx (hb hby own_d_jdk_52_method_21_code_20) (by decide) (pc' := 26) rfl (show ¬ ((255 : Int32) < d3) from hd3) ?_
  refine own_aloadN X hx (hb hby own_d_jdk_52_method_21_code_26) (pc' := 27) rfl rfl rfl ?_
  refine own_iloadN X hx (hb hby own_d_jdk_52_method_21_code_27) (pc' := 28) rfl rfl ?_
  refine own_iload X hx (hb hby own_d_jdk_52_method_21_code_28) (pc' := 30) rfl rfl ?_
  refine own_i2b X hx (hb hby own_d_jdk_52_method_21_code_30) (pc' := 31) rfl ?_
  refine own_bastoreB X hx hZ eT A_ad (by decide) 3 rfl (by show 3 < 5; decide) (hb hby own_d_jdk_52_method_21_code_31) (pc' := 32) rfl ?_
  intro T h4 lc X eT Kq A_adn fN
  have A_aq := A_aq.keep Kq (ninS nqd nin0)
  have Z0 := Nat.le_trans Z0 Kq.1
  have A_ad := A_adn
  have N := fN _ z_ad N
  have Kp := Kp.trans Kq (allS (P := fun x => x ∈ [ad] ∨ h0.size ≤ x) (Or.inl (List.mem_of_getElem? (i := 0) rfl)) all0)
  have A_ad : Arv Z h4 ad _ .byte (5 : Int32) [(.int (nar .byte d0.toInt8.toInt32)), (.int (nar .byte d1.toInt8.toInt32)), (.int (nar .byte d2.toInt8.toInt32)), (.int (nar .byte d3.toInt8.toInt32)), (.int (0 : Int32))] (.int (0 : Int32)) := A_ad
  refine own_iinc X hx (1 : Int32) (hb hby own_d_jdk_52_method_21_code_32) (pc' := 35) rfl rfl rfl (Ls' := #[.val (.ref aq), .val (.int (4 : Int32)), .val (.ref ad), .val (.int (3 : Int32)), .val (.int (5 : Int32)), .val (.int (3 : Int32)), .val (.int d3)]) rfl ?_
  refine own_iinc X hx (1 : Int32) (hb hby own_d_jdk_52_method_21_code_35) (pc' := 38) rfl rfl rfl (Ls' := #[.val (.ref aq), .val (.int (4 : Int32)), .val (.ref ad), .val (.int (4 : Int32)), .val (.int (5 : Int32)), .val (.int (3 : Int32)), .val (.int d3)]) rfl ?_
  refine own_iinc X hx (1 : Int32) (hb hby own_d_jdk_52_method_21_code_38) (pc' := 41) rfl rfl rfl (Ls' := #[.val (.ref aq), .val (.int (4 : Int32)), .val (.ref ad), .val (.int (4 : Int32)), .val (.int (5 : Int32)), .val (.int (4 : Int32)), .val (.int d3)]) rfl ?_
  refine own_goto X hx (hb hby own_d_jdk_52_method_21_code_41) (by decide) (pc' := 3) rfl ?_
  refine own_iload X hx (hb hby own_d_jdk_52_method_21_code_3) (pc' := 5) rfl rfl ?_
  refine own_iload X hx (hb hby own_d_jdk_52_method_21_code_5) (pc' := 7) rfl rfl ?_
  refine own_icmpN X hx (hb hby own_d_jdk_52_method_21_code_7) (pc' := 10) rfl (show (4 : Int32) < (5 : Int32) from (by decide)) ?_
  refine own_aloadN X hx (hb hby own_d_jdk_52_method_21_code_10) (pc' := 11) rfl rfl rfl ?_
  refine own_iloadN X hx (hb hby own_d_jdk_52_method_21_code_11) (pc' := 12) rfl rfl ?_
  refine own_caload X hx hZ eT A_aq (v := (.int d4)) (by decide) rfl (hb hby own_d_jdk_52_method_21_code_12) (pc' := 13) rfl ?_
  refine own_istore X hx (hb hby own_d_jdk_52_method_21_code_13) (pc' := 15) rfl (Ls' := #[.val (.ref aq), .val (.int (4 : Int32)), .val (.ref ad), .val (.int (4 : Int32)), .val (.int (5 : Int32)), .val (.int (4 : Int32)), .val (.int d4)]) rfl ?_
  refine own_iload X hx (hb hby own_d_jdk_52_method_21_code_15) (pc' := 17) rfl rfl ?_
  refine own_sipush X hx (255 : Int32) (hb hby own_d_jdk_52_method_21_code_17) (pc' := 20) rfl rfl ?_
  refine own_icmpY X hx (hb hby own_d_jdk_52_method_21_code_20) (by decide) (pc' := 26) rfl (show ¬ ((255 : Int32) < d4) from hd4) ?_
  refine own_aloadN X hx (hb hby own_d_jdk_52_method_21_code_26) (pc' := 27) rfl rfl rfl ?_
  refine own_iloadN X hx (hb hby own_d_jdk_52_method_21_code_27) (pc' := 28) rfl rfl ?_
  refine own_iload X hx (hb hby own_d_jdk_52_method_21_code_28) (pc' := 30) rfl rfl ?_
  refine own_i2b X hx (hb hby own_d_jdk_52_method_21_code_30) (pc' := 31) rfl ?_
  refine own_bastoreB X hx hZ eT A_ad (by decide) 4 rfl (by show 4 < 5; decide) (hb hby own_d_jdk_52_method_21_code_31) (pc' := 32) rfl ?_
  intro T h5 lc X eT Kq A_adn fN
  have A_aq := A_aq.keep Kq (ninS nqd nin0)
  have Z0 := Nat.le_trans Z0 Kq.1
  have A_ad := A_adn
  have N := fN _ z_ad N
  have Kp := Kp.trans Kq (allS (P := fun x => x ∈ [ad] ∨ h0.size ≤ x) (Or.inl (List.mem_of_getElem? (i := 0) rfl)) all0)
  have A_ad : Arv Z h5 ad _ .byte (5 : Int32) [(.int (nar .byte d0.toInt8.toInt32)), (.int (nar .byte d1.toInt8.toInt32)), (.int (nar .byte d2.toInt8.toInt32)), (.int (nar .byte d3.toInt8.toInt32)), (.int (nar .byte d4.toInt8.toInt32))] (.int (0 : Int32)) := A_ad
  refine own_iinc X hx (1 : Int32) (hb hby own_d_jdk_52_method_21_code_32) (pc' := 35) rfl rfl rfl (Ls' := #[.val (.ref aq), .val (.int (5 : Int32)), .val (.ref ad), .val (.int (4 : Int32)), .val (.int (5 : Int32)), .val (.int (4 : Int32)), .val (.int d4)]) rfl ?_
  refine own_iinc X hx (1 : Int32) (hb hby own_d_jdk_52_method_21_code_35) (pc' := 38) rfl rfl rfl (Ls' := #[.val (.ref aq), .val (.int (5 : Int32)), .val (.ref ad), .val (.int (5 : Int32)), .val (.int (5 : Int32)), .val (.int (4 : Int32)), .val (.int d4)]) rfl ?_
  refine own_iinc X hx (1 : Int32) (hb hby own_d_jdk_52_method_21_code_38) (pc' := 41) rfl rfl rfl (Ls' := #[.val (.ref aq), .val (.int (5 : Int32)), .val (.ref ad), .val (.int (5 : Int32)), .val (.int (5 : Int32)), .val (.int (5 : Int32)), .val (.int d4)]) rfl ?_
  refine own_goto X hx (hb hby own_d_jdk_52_method_21_code_41) (by decide) (pc' := 3) rfl ?_
  refine own_iload X hx (hb hby own_d_jdk_52_method_21_code_3) (pc' := 5) rfl rfl ?_
  refine own_iload X hx (hb hby own_d_jdk_52_method_21_code_5) (pc' := 7) rfl rfl ?_
  refine own_icmpY X hx (hb hby own_d_jdk_52_method_21_code_7) (by decide) (pc' := 44) rfl (show ¬ ((5 : Int32) < (5 : Int32)) from (by decide)) ?_
  refine own_iload X hx (hb hby own_d_jdk_52_method_21_code_44) (pc' := 46) rfl rfl ?_
  refine own_retI X hx hlk (t := .int) (w' := (.int (5 : Int32))) Bd.returns (hb hby own_d_jdk_52_method_21_code_46) rfl rfl (by simp) (by decide) (by decide) ?_
  rw [eT]
  exact ⟨rfl, N, Kp, A_ad⟩
theorem ef_cc5 (m : MethodId) (x0 : Addr) (x1 : Int32) (x2 : Int32) : entryFrame m #[(.ref x0), (.int x1), (.int x2)] 6 = mkF m 0 #[.val (.ref x0), .val (.int x1), .val (.int x2), .unset, .unset, .unset] [] := by first | (simp [entryFrame, mkF, argsToLocals, Value.category]; done) | rfl
def Q_cc5 (Z : State) (aq : Addr) (kq : ClassId) (d0 d1 d2 d3 d4 : Int32) (h0 : Heap) (n0 : Nat) (v : Option Value) (h : Heap) (L : List Loc) : Prop := ∃ (b : Addr) (kb : ClassId), v = some (.ref b) ∧ Fr n0 L ∧ Keep h0 h [] ∧ h0.size ≤ b ∧ Arv Z h b kb .byte (5 : Int32) [(.int (nar .byte d0.toInt8.toInt32)), (.int (nar .byte d1.toInt8.toInt32)), (.int (nar .byte d2.toInt8.toInt32)), (.int (nar .byte d3.toInt8.toInt32)), (.int (nar .byte d4.toInt8.toInt32))] (.int (0 : Int32))
set_option maxRecDepth 65536 in
set_option maxHeartbeats 40000000 in
theorem rm_cc5 (l : Launch) (Z : State) (a0 : Array Value) (hw : ∀ d ∈ tables_1, d.before a0 Z = true) (ws : List Jvm.Cond) (aq : Addr) (kq : ClassId) (d0 d1 d2 d3 d4 : Int32) (h0 : Heap) (n0 : Nat) (Z0 : n0 ≤ h0.size) (A_aq : Arv Z h0 aq kq .char (5 : Int32) [(.int d0), (.int d1), (.int d2), (.int d3), (.int d4)] (.int (0 : Int32))) (hd0 : ¬ ((255 : Int32) < d0)) (hd1 : ¬ ((255 : Int32) < d1)) (hd2 : ¬ ((255 : Int32) < d2)) (hd3 : ¬ ((255 : Int32) < d3)) (hd4 : ¬ ((255 : Int32) < d4)) :
    MetFree l (⟨"java/lang/StringUTF16", "compress", "([CII)[B"⟩ : MethodName) (head1 (Jvm.Cond.code (⟨"java/lang/StringUTF16", "compress", "([CII)[B"⟩ : MethodName) jdk_52_method_16_code 6 (some (.array .byte)) :: ws) ({ frames := 1, cells := 1, slots := 5, locals := 18 } : Room)) (fun a U => a = #[(.ref aq), (.int (0 : Int32)), (.int (5 : Int32))] ∧ Z.Warmed39 U.vm ∧ U.heap = h0) (fun _ _ _ _ _ => True) (fun _ U o U' => ∃ v L, o = .returned v ∧ Q_cc5 Z aq kq d0 d1 d2 d3 d4 h0 n0 v U'.heap L ∧ FrameEnd U o U' L ({ frames := 1, cells := 1, slots := 5, locals := 18 } : Room).cells ({ frames := 1, cells := 1, slots := 5, locals := 18 } : Room).slots) := by
  refine MetFree.of_bodySF (plainFor_of_name own_pn_java_lang_StringUTF16) hisR ?_
  intro p e s m args below meth c s₁ Bd hml0 hP hK
  obtain ⟨rfl, hZ, hh⟩ := hP
  have hx := Bd.exec
  have hby := Bd.bytes
  have hml : c.maxLocals = 6 := hml0
  have hown : s.vm.findClass "java/lang/StringUTF16" = some m.cls := findClass_of_methodNamed Bd.named
  have hnm := (name_of_methodNamed Bd.named Bd.method).1
  have hlk := Bd.notSynchronized
  obtain ⟨lc, hlc⟩ : ∃ lc : List Loc, lc = [] := ⟨_, rfl⟩
  have X : Stand p l e ({ frames := 1, cells := 1, slots := 5, locals := 18 } : Room) s m #[(.ref aq), (.int (0 : Int32)), (.int (5 : Int32))] below meth c s₁ lc 0 0 := hlc ▸ Stand.of_body Bd
  have eT : s₁.heap = h0 := by rw [← hh, Bd.state]; rfl
  have N : Fr n0 lc := hlc ▸ Fr.nil n0
  refine own_enter (ef_cc5 m aq (0 : Int32) (5 : Int32)) ?_
  obtain ⟨T, hT⟩ : ∃ T : State, T = s₁ := ⟨_, rfl⟩
  rw [← hT] at X eT ⊢
  show own_W p e below (own_Post s (Q_cc5 Z aq kq d0 d1 d2 d3 d4 h0 n0) 1 5) T m 0 #[.val (.ref aq), .val (.int (0 : Int32)), .val (.int (5 : Int32)), .unset, .unset, .unset] []
  have Kp : Keep h0 h0 [] := Keep.refl _ _
  refine own_iloadN X hx (hb hby own_d_jdk_52_method_16_code_0) (pc' := 1) rfl rfl ?_
  refine own_newarr X hx hZ (own_w hw 29 rfl) eT (hb hby own_d_jdk_52_method_16_code_1) (pc' := 3) rfl (by decide) 5 (by decide) (by decide) (cells' := 1) (slots' := 5) rfl rfl (by decide) (by decide) ?_
  intro T h1 k_b1 b1 X eT E gb1 A_b1
  have lt_aq_b1 : aq < b1 := Nat.lt_of_lt_of_le A_aq.lt (Nat.le_of_eq gb1.symm)
  have ne_aq_b1 : aq ≠ b1 := Nat.ne_of_lt lt_aq_b1
  have z_b1 : n0 ≤ b1 := Nat.le_trans Z0 (Nat.le_of_eq gb1.symm)
  have s_b1 : h0.size ≤ b1 := Nat.le_trans Kp.1 (Nat.le_of_eq gb1.symm)
  have A_aq := A_aq.ext E
  have Z0 := Nat.le_trans Z0 E.1
  have Kp := Kp.ext E
  have A_b1 : Arv Z h1 b1 k_b1 .byte (5 : Int32) [(.int (0 : Int32)), (.int (0 : Int32)), (.int (0 : Int32)), (.int (0 : Int32)), (.int (0 : Int32))] (.int (0 : Int32)) := A_b1.pad (pad_rep [] (.int (0 : Int32)) 5)
  refine own_astoreN X hx (hb hby own_d_jdk_52_method_16_code_3) (pc' := 4) rfl rfl (Ls' := #[.val (.ref aq), .val (.int (0 : Int32)), .val (.int (5 : Int32)), .val (.ref b1), .unset, .unset]) rfl ?_
  refine own_aloadN X hx (hb hby own_d_jdk_52_method_16_code_4) (pc' := 5) rfl rfl rfl ?_
  refine own_iloadN X hx (hb hby own_d_jdk_52_method_16_code_5) (pc' := 6) rfl rfl ?_
  refine own_aloadN X hx (hb hby own_d_jdk_52_method_16_code_6) (pc' := 7) rfl rfl rfl ?_
  refine own_iconst X hx (0 : Int32) (hb hby own_d_jdk_52_method_16_code_7) (pc' := 8) rfl rfl ?_
  refine own_iloadN X hx (hb hby own_d_jdk_52_method_16_code_8) (pc' := 9) rfl rfl ?_
  refine own_callS X hx hZ [(.ref aq), (.int (0 : Int32)), (.ref b1), (.int (0 : Int32)), (.int (5 : Int32))] hown (own_w hw 57 rfl) (own_w hw 58 rfl) (own_w hw 55 rfl) (own_w hw 59 rfl) (by decide) (rm_ci5 l Z a0 hw [] aq b1 _ _ d0 d1 d2 d3 d4 h1 n0 Z0 A_aq A_b1 ne_aq_b1 hd0 hd1 hd2 hd3 hd4 z_b1) eT (W := 0) (by decide) (by decide) (cells' := 1) (slots' := 5) rfl rfl (by decide) (by decide) (by rw [hml]; rfl) (lenOf own_pd_285bCI5bBII29I rfl) rfl (S := []) rfl (Nat.le_of_eq rfl) (hb hby own_d_jdk_52_method_16_code_9) (pc' := 12) rfl ?_
  intro v T h2 L lc X eT hq fN
  obtain ⟨rfl, Nq, Kq, B_b1⟩ := hq
  have N := fN _ N Nq
  have A_aq := A_aq.keep Kq (ninS ne_aq_b1 nin0)
  have Z0 := Nat.le_trans Z0 Kq.1
  have Kp := Kp.trans Kq (allS (P := fun x => x ∈ ([] : List Addr) ∨ h0.size ≤ x) (Or.inr s_b1) all0)
  show own_W p e below (own_Post s (Q_cc5 Z aq kq d0 d1 d2 d3 d4 h0 n0) 1 5) T m 12 #[.val (.ref aq), .val (.int (0 : Int32)), .val (.int (5 : Int32)), .val (.ref b1), .unset, .unset] [(.int (5 : Int32))]
  refine own_istore X hx (hb hby own_d_jdk_52_method_16_code_12) (pc' := 14) rfl (Ls' := #[.val (.ref aq), .val (.int (0 : Int32)), .val (.int (5 : Int32)), .val (.ref b1), .val (.int (5 : Int32)), .unset]) rfl ?_
  refine own_iload X hx (hb hby own_d_jdk_52_method_16_code_14) (pc' := 16) rfl rfl ?_
  refine own_iloadN X hx (hb hby own_d_jdk_52_method_16_code_16) (pc' := 17) rfl rfl ?_
  refine own_icmpY X hx (hb hby own_d_jdk_52_method_16_code_17) (by decide) (pc' := 57) rfl (show (5 : Int32) = (5 : Int32) from (by decide)) ?_
  refine own_aloadN X hx (hb hby own_d_jdk_52_method_16_code_57) (pc' := 58) rfl rfl rfl ?_
  refine own_retA X hx hlk Bd.returns (hb hby own_d_jdk_52_method_16_code_58) rfl rfl rfl (by decide) (by decide) ?_
  rw [eT]
  exact ⟨_, _, rfl, N, Kp, s_b1, B_b1⟩
theorem ef_cf5 (m : MethodId) (x0 : Addr) (x1 : Int32) : entryFrame m #[(.ref x0), (.int x1)] 2 = mkF m 0 #[.val (.ref x0), .val (.int x1)] [] := by first | (simp [entryFrame, mkF, argsToLocals, Value.category]; done) | rfl
def Q_cf5 (Z : State) (b : Addr) (h0 : Heap) (n0 : Nat) (v : Option Value) (h : Heap) (L : List Loc) : Prop := v = some (.int (0 : Int32)) ∧ Fr n0 L ∧ h = h0
set_option maxRecDepth 65536 in
set_option maxHeartbeats 40000000 in
theorem rm_cf5 (l : Launch) (Z : State) (a0 : Array Value) (hw : ∀ d ∈ tables_1, d.before a0 Z = true) (ws : List Jvm.Cond) (b : Addr) (h0 : Heap) (n0 : Nat) (Z0 : n0 ≤ h0.size) (k : ClassId) (vs : List Value) (A_b : Arv Z h0 b k .byte (5 : Int32) vs (.int (0 : Int32))) :
    MetFree l (⟨"java/lang/StringUTF16", "coderFromArrayLen", "([BI)B"⟩ : MethodName) (head1 (Jvm.Cond.code (⟨"java/lang/StringUTF16", "coderFromArrayLen", "([BI)B"⟩ : MethodName) jdk_52_method_15_code 2 (some .byte) :: ws) ({ frames := 0, cells := 0, slots := 0, locals := 0 } : Room)) (fun a U => a = #[(.ref b), (.int (5 : Int32))] ∧ Z.Warmed39 U.vm ∧ U.heap = h0) (fun _ _ _ _ _ => True) (fun _ U o U' => ∃ v L, o = .returned v ∧ Q_cf5 Z b h0 n0 v U'.heap L ∧ FrameEnd U o U' L ({ frames := 0, cells := 0, slots := 0, locals := 0 } : Room).cells ({ frames := 0, cells := 0, slots := 0, locals := 0 } : Room).slots) := by
  refine MetFree.of_bodySF (plainFor_of_name own_pn_java_lang_StringUTF16) hisR ?_
  intro p e s m args below meth c s₁ Bd hml0 hP hK
  obtain ⟨rfl, hZ, hh⟩ := hP
  have hx := Bd.exec
  have hby := Bd.bytes
  have hml : c.maxLocals = 2 := hml0
  have hown : s.vm.findClass "java/lang/StringUTF16" = some m.cls := findClass_of_methodNamed Bd.named
  have hnm := (name_of_methodNamed Bd.named Bd.method).1
  have hlk := Bd.notSynchronized
  obtain ⟨lc, hlc⟩ : ∃ lc : List Loc, lc = [] := ⟨_, rfl⟩
  have X : Stand p l e ({ frames := 0, cells := 0, slots := 0, locals := 0 } : Room) s m #[(.ref b), (.int (5 : Int32))] below meth c s₁ lc 0 0 := hlc ▸ Stand.of_body Bd
  have eT : s₁.heap = h0 := by rw [← hh, Bd.state]; rfl
  have N : Fr n0 lc := hlc ▸ Fr.nil n0
  refine own_enter (ef_cf5 m b (5 : Int32)) ?_
  obtain ⟨T, hT⟩ : ∃ T : State, T = s₁ := ⟨_, rfl⟩
  rw [← hT] at X eT ⊢
  show own_W p e below (own_Post s (Q_cf5 Z b h0 n0) 0 0) T m 0 #[.val (.ref b), .val (.int (5 : Int32))] []
  refine own_iloadN X hx (hb hby own_d_jdk_52_method_15_code_0) (pc' := 1) rfl rfl ?_
  refine own_aloadN X hx (hb hby own_d_jdk_52_method_15_code_1) (pc' := 2) rfl rfl rfl ?_
  refine own_arrlen X hx hZ eT A_b (hb hby own_d_jdk_52_method_15_code_2) (pc' := 3) rfl ?_
  refine own_isub X hx (hb hby own_d_jdk_52_method_15_code_3) (pc' := 4) rfl ?_
  refine own_bipush X hx (31 : Int32) (hb hby own_d_jdk_52_method_15_code_4) (pc' := 6) rfl rfl ?_
  refine own_iushr X hx (hb hby own_d_jdk_52_method_15_code_6) (pc' := 7) rfl ?_
  refine own_i2b X hx (hb hby own_d_jdk_52_method_15_code_7) (pc' := 8) rfl ?_
  refine own_retI X hx hlk (t := .byte) (w' := (.int (0 : Int32))) Bd.returns (hb hby own_d_jdk_52_method_15_code_8) rfl rfl (by simp) (by decide) (by decide) ?_
  rw [eT]
  exact ⟨rfl, N, rfl⟩
theorem ef_iv5 (m : MethodId) (x0 : Addr) (x1 : Addr) (x2 : Int32) (x3 : Int32) : entryFrame m #[(.ref x0), (.ref x1), (.int x2), (.int x3), .null] 6 = mkF m 0 #[.val (.ref x0), .val (.ref x1), .val (.int x2), .val (.int x3), .val .null, .unset] [] := by first | (simp [entryFrame, mkF, argsToLocals, Value.category]; done) | rfl
def Q_iv5 (Z : State) (a1 aq : Addr) (kq : ClassId) (cs : Int32) (d0 d1 d2 d3 d4 : Int32) (h0 : Heap) (n0 : Nat) (v : Option Value) (h : Heap) (L : List Loc) : Prop := v = none ∧ Fr n0 L ∧ Keep h0 h [a1] ∧ ∃ (b : Addr) (k : ClassId), h0.size ≤ b ∧ Fld Z h a1 "java/lang/String" "coder" "B" (.int (0 : Int32)) ∧ Fld Z h a1 "java/lang/String" "value" "[B" (.ref b) ∧ Arv Z h b k .byte (5 : Int32) [(.int (nar .byte d0.toInt8.toInt32)), (.int (nar .byte d1.toInt8.toInt32)), (.int (nar .byte d2.toInt8.toInt32)), (.int (nar .byte d3.toInt8.toInt32)), (.int (nar .byte d4.toInt8.toInt32))] (.int (0 : Int32))
set_option maxRecDepth 65536 in
set_option maxHeartbeats 40000000 in
theorem rm_iv5 (l : Launch) (Z : State) (a0 : Array Value) (hw : ∀ d ∈ tables_1, d.before a0 Z = true) (ws : List Jvm.Cond) (a1 aq : Addr) (kq : ClassId) (cs : Int32) (d0 d1 d2 d3 d4 : Int32) (h0 : Heap) (n0 : Nat) (Z0 : n0 ≤ h0.size) (S_C : Sta Z h0 "java/lang/String" "COMPACT_STRINGS" "Z" (.int cs)) (hcs : ¬ cs = 0) (u1 u2 : Value) (E_a1 : Exa Z h0 a1 "java/lang/String") (F_c : Fld Z h0 a1 "java/lang/String" "coder" "B" u1) (F_v : Fld Z h0 a1 "java/lang/String" "value" "[B" u2) (A_aq : Arv Z h0 aq kq .char (5 : Int32) [(.int d0), (.int d1), (.int d2), (.int d3), (.int d4)] (.int (0 : Int32))) (n1q : a1 ≠ aq) (hd0 : ¬ ((255 : Int32) < d0)) (hd1 : ¬ ((255 : Int32) < d1)) (hd2 : ¬ ((255 : Int32) < d2)) (hd3 : ¬ ((255 : Int32) < d3)) (hd4 : ¬ ((255 : Int32) < d4)) (z_a1 : n0 ≤ a1) :
    MetFree l (⟨"java/lang/String", "<init>", "([CIILjava/lang/Void;)V"⟩ : MethodName) (head1 (Jvm.Cond.code (⟨"java/lang/String", "<init>", "([CIILjava/lang/Void;)V"⟩ : MethodName) jdk_42_method_149_code 6 none :: ws) ({ frames := 2, cells := 1, slots := 5, locals := 35 } : Room)) (fun a U => a = #[(.ref a1), (.ref aq), (.int (0 : Int32)), (.int (5 : Int32)), .null] ∧ Z.Warmed39 U.vm ∧ U.heap = h0) (fun _ _ _ _ _ => True) (fun _ U o U' => ∃ v L, o = .returned v ∧ Q_iv5 Z a1 aq kq cs d0 d1 d2 d3 d4 h0 n0 v U'.heap L ∧ FrameEnd U o U' L ({ frames := 2, cells := 1, slots := 5, locals := 35 } : Room).cells ({ frames := 2, cells := 1, slots := 5, locals := 35 } : Room).slots) := by
  refine MetFree.of_bodySF (plainFor_of_name own_pn_java_lang_String) hisR ?_
  intro p e s m args below meth c s₁ Bd hml0 hP hK
  obtain ⟨rfl, hZ, hh⟩ := hP
  have hx := Bd.exec
  have hby := Bd.bytes
  have hml : c.maxLocals = 6 := hml0
  have hown : s.vm.findClass "java/lang/String" = some m.cls := findClass_of_methodNamed Bd.named
  have hnm := (name_of_methodNamed Bd.named Bd.method).1
  have hlk := Bd.notSynchronized
  obtain ⟨lc, hlc⟩ : ∃ lc : List Loc, lc = [] := ⟨_, rfl⟩
  have X : Stand p l e ({ frames := 2, cells := 1, slots := 5, locals := 35 } : Room) s m #[(.ref a1), (.ref aq), (.int (0 : Int32)), (.int (5 : Int32)), .null] below meth c s₁ lc 0 0 := hlc ▸ Stand.of_body Bd
  have eT : s₁.heap = h0 := by rw [← hh, Bd.state]; rfl
  have N : Fr n0 lc := hlc ▸ Fr.nil n0
  refine own_enter (ef_iv5 m a1 aq (0 : Int32) (5 : Int32)) ?_
  obtain ⟨T, hT⟩ : ∃ T : State, T = s₁ := ⟨_, rfl⟩
  rw [← hT] at X eT ⊢
  show own_W p e below (own_Post s (Q_iv5 Z a1 aq kq cs d0 d1 d2 d3 d4 h0 n0) 1 5) T m 0 #[.val (.ref a1), .val (.ref aq), .val (.int (0 : Int32)), .val (.int (5 : Int32)), .val .null, .unset] []
  have Kp : Keep h0 h0 [a1] := Keep.refl _ _
  refine own_aloadN X hx (hb hby own_d_jdk_42_method_149_code_0) (pc' := 1) rfl rfl rfl ?_
  refine own_initO X hx hZ hown (own_w hw 25 rfl) (own_w hw 26 rfl) (own_w hw 27 rfl) eT (by rw [hml]; rfl) (hb hby own_d_jdk_42_method_149_code_1) (pc' := 4) rfl (by decide) (W := 0) (Nat.le_of_eq rfl) (by decide) ?_
  intro T X eT
  refine own_iloadN X hx (hb hby own_d_jdk_42_method_149_code_4) (pc' := 5) rfl rfl ?_
  refine own_ifY X hx (hb hby own_d_jdk_42_method_149_code_5) (by decide) (pc' := 27) rfl (show ¬ ((5 : Int32) = (0 : Int32)) from (by decide)) ?_
  refine own_getS X hx hZ hown (host := "") (Or.inl (own_w hw 47 rfl)) Via.refl eT S_C (hb hby own_d_jdk_42_method_149_code_27) (pc' := 30) rfl ?_
  intro T X eT
  refine own_ifN X hx (hb hby own_d_jdk_42_method_149_code_30) (pc' := 33) rfl (show ¬ (cs = (0 : Int32)) from hcs) ?_
  refine own_aloadN X hx (hb hby own_d_jdk_42_method_149_code_33) (pc' := 34) rfl rfl rfl ?_
  refine own_iloadN X hx (hb hby own_d_jdk_42_method_149_code_34) (pc' := 35) rfl rfl ?_
  refine own_iloadN X hx (hb hby own_d_jdk_42_method_149_code_35) (pc' := 36) rfl rfl ?_
  refine own_callS X hx hZ [(.ref aq), (.int (0 : Int32)), (.int (5 : Int32))] hown (own_w hw 53 rfl) (own_w hw 54 rfl) (own_w hw 55 rfl) (own_w hw 56 rfl) (by decide) (rm_cc5 l Z a0 hw [] aq kq d0 d1 d2 d3 d4 h0 n0 Z0 A_aq hd0 hd1 hd2 hd3 hd4) eT (W := 0) (by decide) (by decide) (cells' := 1) (slots' := 5) rfl rfl (by decide) (by decide) (by rw [hml]; rfl) (lenOf own_pd_285bCII295bB rfl) rfl (S := []) rfl (Nat.le_of_eq rfl) (hb hby own_d_jdk_42_method_149_code_36) (pc' := 39) rfl ?_
  intro v T h1 L lc X eT hq fN
  obtain ⟨bb, kb, rfl, Nq, Kq, hbb, A_bb⟩ := hq
  have N := fN _ N Nq
  have lt_a1_bb : a1 < bb := Nat.lt_of_lt_of_le E_a1.lt hbb
  have ne_a1_bb : a1 ≠ bb := Nat.ne_of_lt lt_a1_bb
  have lt_aq_bb : aq < bb := Nat.lt_of_lt_of_le A_aq.lt hbb
  have ne_aq_bb : aq ≠ bb := Nat.ne_of_lt lt_aq_bb
  have z_bb : n0 ≤ bb := Nat.le_trans Z0 hbb
  have s_bb : h0.size ≤ bb := Nat.le_trans Kp.1 hbb
  have S_C := own_sta_keep S_C Kq ns0
  have E_a1 := E_a1.keep Kq
  have F_c := F_c.keep Kq nin0
  have F_v := F_v.keep Kq nin0
  have A_aq := A_aq.keep Kq nin0
  have Z0 := Nat.le_trans Z0 Kq.1
  have Kp := Kp.trans Kq all0
  show own_W p e below (own_Post s (Q_iv5 Z a1 aq kq cs d0 d1 d2 d3 d4 h0 n0) 1 5) T m 39 #[.val (.ref a1), .val (.ref aq), .val (.int (0 : Int32)), .val (.int (5 : Int32)), .val .null, .unset] [(.ref bb)]
  refine own_astore X hx (hb hby own_d_jdk_42_method_149_code_39) (pc' := 41) rfl rfl (Ls' := #[.val (.ref a1), .val (.ref aq), .val (.int (0 : Int32)), .val (.int (5 : Int32)), .val .null, .val (.ref bb)]) rfl ?_
  refine own_aloadN X hx (hb hby own_d_jdk_42_method_149_code_41) (pc' := 42) rfl rfl rfl ?_
  refine own_aload X hx (hb hby own_d_jdk_42_method_149_code_42) (pc' := 44) rfl rfl rfl ?_
  refine own_iloadN X hx (hb hby own_d_jdk_42_method_149_code_44) (pc' := 45) rfl rfl ?_
  refine own_callS X hx hZ [(.ref bb), (.int (5 : Int32))] hown (own_w hw 60 rfl) (own_w hw 61 rfl) (own_w hw 55 rfl) (own_w hw 62 rfl) (by decide) (rm_cf5 l Z a0 hw [] bb h1 n0 Z0 _ _ A_bb) eT (W := 1) (by decide) (by decide) (cells' := 1) (slots' := 5) rfl rfl (by decide) (by decide) (by rw [hml]; rfl) (lenOf own_pd_285bBI29B rfl) rfl (S := [(.ref a1)]) rfl (Nat.le_of_eq rfl) (hb hby own_d_jdk_42_method_149_code_45) (pc' := 48) rfl ?_
  intro v T h2 L lc X eT hq fN
  obtain ⟨rfl, Nq, hqe⟩ := hq
  have N := fN _ N Nq
  rw [hqe] at eT
  show own_W p e below (own_Post s (Q_iv5 Z a1 aq kq cs d0 d1 d2 d3 d4 h0 n0) 1 5) T m 48 #[.val (.ref a1), .val (.ref aq), .val (.int (0 : Int32)), .val (.int (5 : Int32)), .val .null, .val (.ref bb)] [(.int (0 : Int32)), (.ref a1)]
  refine own_putF X hx hZ hown (own_w hw 35 rfl) Via.refl eT F_c E_a1 (Or.inr ⟨(own_w hw 31 rfl), rfl, hnm⟩) (own_w hw 15 rfl) (ty := .byte) (v' := (.int (0 : Int32))) (by decide) rfl rfl (hb hby own_d_jdk_42_method_149_code_48) (pc' := 51) rfl ?_
  intro T h3 lc X eT Wq fN
  have F_c := F_c.same Wq
  have S_C := S_C.wr Wq
  have E_a1 := E_a1.wr Wq
  have F_v := F_v.other Wq (Or.inr (slot_ne (Or.inr (own_w hw 30 rfl)) (Or.inr (own_w hw 31 rfl)) (by decide) (t := (.array .byte)) (t' := .byte) (by decide) (by decide)))
  have A_aq := A_aq.other Wq (Ne.symm n1q)
  have A_bb := A_bb.other Wq (Ne.symm ne_a1_bb)
  have Z0 := Nat.le_trans Z0 (Keep.of_wr Wq).1
  have N := fN _ z_a1 N
  have Kp := Kp.wr Wq (Or.inl (List.mem_of_getElem? (i := 0) rfl))
  refine own_aloadN X hx (hb hby own_d_jdk_42_method_149_code_51) (pc' := 52) rfl rfl rfl ?_
  refine own_aload X hx (hb hby own_d_jdk_42_method_149_code_52) (pc' := 54) rfl rfl rfl ?_
  refine own_putF X hx hZ hown (own_w hw 34 rfl) Via.refl eT F_v E_a1 (Or.inr ⟨(own_w hw 30 rfl), rfl, hnm⟩) (own_w hw 15 rfl) (ty := (.array .byte)) (v' := (.ref bb)) (by decide) rfl rfl (hb hby own_d_jdk_42_method_149_code_54) (pc' := 57) rfl ?_
  intro T h4 lc X eT Wq fN
  have F_v := F_v.same Wq
  have S_C := S_C.wr Wq
  have E_a1 := E_a1.wr Wq
  have A_aq := A_aq.other Wq (Ne.symm n1q)
  have A_bb := A_bb.other Wq (Ne.symm ne_a1_bb)
  have F_c := F_c.other Wq (Or.inr (slot_ne (Or.inr (own_w hw 31 rfl)) (Or.inr (own_w hw 30 rfl)) (by decide) (t := .byte) (t' := (.array .byte)) (by decide) (by decide)))
  have Z0 := Nat.le_trans Z0 (Keep.of_wr Wq).1
  have N := fN _ z_a1 N
  have Kp := Kp.wr Wq (Or.inl (List.mem_of_getElem? (i := 0) rfl))
  refine own_ret0 X hx hlk Bd.returns (hb hby own_d_jdk_42_method_149_code_57) (by decide) (by decide) ?_
  rw [eT]
  exact ⟨rfl, N, Kp, bb, kb, s_bb, F_c, F_v, A_bb⟩
theorem ef_ic5 (m : MethodId) (x0 : Addr) (x1 : Addr) : entryFrame m #[(.ref x0), (.ref x1)] 2 = mkF m 0 #[.val (.ref x0), .val (.ref x1)] [] := by first | (simp [entryFrame, mkF, argsToLocals, Value.category]; done) | rfl
def Q_ic5 (Z : State) (a1 aq : Addr) (kq : ClassId) (cs : Int32) (d0 d1 d2 d3 d4 : Int32) (h0 : Heap) (n0 : Nat) (v : Option Value) (h : Heap) (L : List Loc) : Prop := v = none ∧ Fr n0 L ∧ Keep h0 h [a1] ∧ ∃ (b : Addr) (k : ClassId), h0.size ≤ b ∧ Fld Z h a1 "java/lang/String" "coder" "B" (.int (0 : Int32)) ∧ Fld Z h a1 "java/lang/String" "value" "[B" (.ref b) ∧ Arv Z h b k .byte (5 : Int32) [(.int (nar .byte d0.toInt8.toInt32)), (.int (nar .byte d1.toInt8.toInt32)), (.int (nar .byte d2.toInt8.toInt32)), (.int (nar .byte d3.toInt8.toInt32)), (.int (nar .byte d4.toInt8.toInt32))] (.int (0 : Int32))
set_option maxRecDepth 65536 in
set_option maxHeartbeats 40000000 in
theorem rm_ic5 (l : Launch) (Z : State) (a0 : Array Value) (hw : ∀ d ∈ tables_1, d.before a0 Z = true) (ws : List Jvm.Cond) (a1 aq : Addr) (kq : ClassId) (cs : Int32) (d0 d1 d2 d3 d4 : Int32) (h0 : Heap) (n0 : Nat) (Z0 : n0 ≤ h0.size) (S_C : Sta Z h0 "java/lang/String" "COMPACT_STRINGS" "Z" (.int cs)) (hcs : ¬ cs = 0) (u1 u2 : Value) (E_a1 : Exa Z h0 a1 "java/lang/String") (F_c : Fld Z h0 a1 "java/lang/String" "coder" "B" u1) (F_v : Fld Z h0 a1 "java/lang/String" "value" "[B" u2) (A_aq : Arv Z h0 aq kq .char (5 : Int32) [(.int d0), (.int d1), (.int d2), (.int d3), (.int d4)] (.int (0 : Int32))) (n1q : a1 ≠ aq) (hd0 : ¬ ((255 : Int32) < d0)) (hd1 : ¬ ((255 : Int32) < d1)) (hd2 : ¬ ((255 : Int32) < d2)) (hd3 : ¬ ((255 : Int32) < d3)) (hd4 : ¬ ((255 : Int32) < d4)) (z_a1 : n0 ≤ a1) :
    MetFree l (⟨"java/lang/String", "<init>", "([C)V"⟩ : MethodName) (head1 (Jvm.Cond.code (⟨"java/lang/String", "<init>", "([C)V"⟩ : MethodName) jdk_42_method_3_code 2 none :: ws) ({ frames := 3, cells := 1, slots := 5, locals := 52 } : Room)) (fun a U => a = #[(.ref a1), (.ref aq)] ∧ Z.Warmed39 U.vm ∧ U.heap = h0) (fun _ _ _ _ _ => True) (fun _ U o U' => ∃ v L, o = .returned v ∧ Q_ic5 Z a1 aq kq cs d0 d1 d2 d3 d4 h0 n0 v U'.heap L ∧ FrameEnd U o U' L ({ frames := 3, cells := 1, slots := 5, locals := 52 } : Room).cells ({ frames := 3, cells := 1, slots := 5, locals := 52 } : Room).slots) := by
  refine MetFree.of_bodySF (plainFor_of_name own_pn_java_lang_String) hisR ?_
  intro p e s m args below meth c s₁ Bd hml0 hP hK
  obtain ⟨rfl, hZ, hh⟩ := hP
  have hx := Bd.exec
  have hby := Bd.bytes
  have hml : c.maxLocals = 2 := hml0
  have hown : s.vm.findClass "java/lang/String" = some m.cls := findClass_of_methodNamed Bd.named
  have hnm := (name_of_methodNamed Bd.named Bd.method).1
  have hlk := Bd.notSynchronized
  obtain ⟨lc, hlc⟩ : ∃ lc : List Loc, lc = [] := ⟨_, rfl⟩
  have X : Stand p l e ({ frames := 3, cells := 1, slots := 5, locals := 52 } : Room) s m #[(.ref a1), (.ref aq)] below meth c s₁ lc 0 0 := hlc ▸ Stand.of_body Bd
  have eT : s₁.heap = h0 := by rw [← hh, Bd.state]; rfl
  have N : Fr n0 lc := hlc ▸ Fr.nil n0
  refine own_enter (ef_ic5 m a1 aq) ?_
  obtain ⟨T, hT⟩ : ∃ T : State, T = s₁ := ⟨_, rfl⟩
  rw [← hT] at X eT ⊢
  show own_W p e below (own_Post s (Q_ic5 Z a1 aq kq cs d0 d1 d2 d3 d4 h0 n0) 1 5) T m 0 #[.val (.ref a1), .val (.ref aq)] []
  refine own_aloadN X hx (hb hby own_d_jdk_42_method_3_code_0) (pc' := 1) rfl rfl rfl ?_
  refine own_aloadN X hx (hb hby own_d_jdk_42_method_3_code_1) (pc' := 2) rfl rfl rfl ?_
  refine own_iconst X hx (0 : Int32) (hb hby own_d_jdk_42_method_3_code_2) (pc' := 3) rfl rfl ?_
  refine own_aloadN X hx (hb hby own_d_jdk_42_method_3_code_3) (pc' := 4) rfl rfl rfl ?_
  refine own_arrlen X hx hZ eT A_aq (hb hby own_d_jdk_42_method_3_code_4) (pc' := 5) rfl ?_
  refine own_aconst_null X hx (hb hby own_d_jdk_42_method_3_code_5) (pc' := 6) rfl ?_
  refine own_callN X hx hZ a1 [(.ref aq), (.int (0 : Int32)), (.int (5 : Int32)), .null] rfl hown (own_w hw 21 rfl) (own_w hw 22 rfl) (own_w hw 16 rfl) (own_w hw 24 rfl) (by decide) (rm_iv5 l Z a0 hw [] a1 aq kq cs d0 d1 d2 d3 d4 h0 n0 Z0 S_C hcs _ _ E_a1 F_c F_v A_aq n1q hd0 hd1 hd2 hd3 hd4 z_a1) eT (W := 0) (by decide) (by decide) (cells' := 1) (slots' := 5) rfl rfl (by decide) (by decide) (by rw [hml]; rfl) (lenOf own_pd_285bCIILjava2flang2fVoid3b29V rfl) rfl (S := []) rfl (Nat.le_of_eq rfl) (hb hby own_d_jdk_42_method_3_code_6) (pc' := 9) rfl ?_
  intro v T h1 L lc X eT hq fN
  obtain ⟨rfl, Nq, Kq, bb, kb, hbb, F_c2, F_v2, A_bb⟩ := hq
  have N := fN _ N Nq
  show own_W p e below (own_Post s (Q_ic5 Z a1 aq kq cs d0 d1 d2 d3 d4 h0 n0) 1 5) T m 9 #[.val (.ref a1), .val (.ref aq)] []
  refine own_ret0 X hx hlk Bd.returns (hb hby own_d_jdk_42_method_3_code_9) (by decide) (by decide) ?_
  rw [eT]
  exact ⟨rfl, N, Kq, bb, kb, hbb, F_c2, F_v2, A_bb⟩
theorem ef_ci6 (m : MethodId) (x0 : Addr) (x1 : Int32) (x2 : Addr) (x3 : Int32) (x4 : Int32) : entryFrame m #[(.ref x0), (.int x1), (.ref x2), (.int x3), (.int x4)] 7 = mkF m 0 #[.val (.ref x0), .val (.int x1), .val (.ref x2), .val (.int x3), .val (.int x4), .unset, .unset] [] := by first | (simp [entryFrame, mkF, argsToLocals, Value.category]; done) | rfl
def Q_ci6 (Z : State) (aq ad : Addr) (kq kd : ClassId) (d0 d1 d2 d3 d4 d5 : Int32) (h0 : Heap) (n0 : Nat) (v : Option Value) (h : Heap) (L : List Loc) : Prop := v = some (.int (6 : Int32)) ∧ Fr n0 L ∧ Keep h0 h [ad] ∧ Arv Z h ad kd .byte (6 : Int32) [(.int (nar .byte d0.toInt8.toInt32)), (.int (nar .byte d1.toInt8.toInt32)), (.int (nar .byte d2.toInt8.toInt32)), (.int (nar .byte d3.toInt8.toInt32)), (.int (nar .byte d4.toInt8.toInt32)), (.int (nar .byte d5.toInt8.toInt32))] (.int (0 : Int32))
set_option maxRecDepth 65536 in
set_option maxHeartbeats 40000000 in
theorem rm_ci6 (l : Launch) (Z : State) (a0 : Array Value) (hw : ∀ d ∈ tables_1, d.before a0 Z = true) (ws : List Jvm.Cond) (aq ad : Addr) (kq kd : ClassId) (d0 d1 d2 d3 d4 d5 : Int32) (h0 : Heap) (n0 : Nat) (Z0 : n0 ≤ h0.size) (A_aq : Arv Z h0 aq kq .char (6 : Int32) [(.int d0), (.int d1), (.int d2), (.int d3), (.int d4), (.int d5)] (.int (0 : Int32))) (A_ad : Arv Z h0 ad kd .byte (6 : Int32) [(.int (0 : Int32)), (.int (0 : Int32)), (.int (0 : Int32)), (.int (0 : Int32)), (.int (0 : Int32)), (.int (0 : Int32))] (.int (0 : Int32))) (nqd : aq ≠ ad) (hd0 : ¬ ((255 : Int32) < d0)) (hd1 : ¬ ((255 : Int32) < d1)) (hd2 : ¬ ((255 : Int32) < d2)) (hd3 : ¬ ((255 : Int32) < d3)) (hd4 : ¬ ((255 : Int32) < d4)) (hd5 : ¬ ((255 : Int32) < d5)) (z_ad : n0 ≤ ad) :
    MetFree l (⟨"java/lang/StringUTF16", "compress", "([CI[BII)I"⟩ : MethodName) (head1 (Jvm.Cond.code (⟨"java/lang/StringUTF16", "compress", "([CI[BII)I"⟩ : MethodName) jdk_52_method_21_code 7 (some .int) :: ws) ({ frames := 0, cells := 0, slots := 0, locals := 0 } : Room)) (fun a U => a = #[(.ref aq), (.int (0 : Int32)), (.ref ad), (.int (0 : Int32)), (.int (6 : Int32))] ∧ Z.Warmed39 U.vm ∧ U.heap = h0) (fun _ _ _ _ _ => True) (fun _ U o U' => ∃ v L, o = .returned v ∧ Q_ci6 Z aq ad kq kd d0 d1 d2 d3 d4 d5 h0 n0 v U'.heap L ∧ FrameEnd U o U' L ({ frames := 0, cells := 0, slots := 0, locals := 0 } : Room).cells ({ frames := 0, cells := 0, slots := 0, locals := 0 } : Room).slots) := by
  refine MetFree.of_bodySF (plainFor_of_name own_pn_java_lang_StringUTF16) hisR ?_
  intro p e s m args below meth c s₁ Bd hml0 hP hK
  obtain ⟨rfl, hZ, hh⟩ := hP
  have hx := Bd.exec
  have hby := Bd.bytes
  have hml : c.maxLocals = 7 := hml0
  have hown : s.vm.findClass "java/lang/StringUTF16" = some m.cls := findClass_of_methodNamed Bd.named
  have hnm := (name_of_methodNamed Bd.named Bd.method).1
  have hlk := Bd.notSynchronized
  obtain ⟨lc, hlc⟩ : ∃ lc : List Loc, lc = [] := ⟨_, rfl⟩
  have X : Stand p l e ({ frames := 0, cells := 0, slots := 0, locals := 0 } : Room) s m #[(.ref aq), (.int (0 : Int32)), (.ref ad), (.int (0 : Int32)), (.int (6 : Int32))] below meth c s₁ lc 0 0 := hlc ▸ Stand.of_body Bd
  have eT : s₁.heap = h0 := by rw [← hh, Bd.state]; rfl
  have N : Fr n0 lc := hlc ▸ Fr.nil n0
  refine own_enter (ef_ci6 m aq (0 : Int32) ad (0 : Int32) (6 : Int32)) ?_
  obtain ⟨T, hT⟩ : ∃ T : State, T = s₁ := ⟨_, rfl⟩
  rw [← hT] at X eT ⊢
  show own_W p e below (own_Post s (Q_ci6 Z aq ad kq kd d0 d1 d2 d3 d4 d5 h0 n0) 0 0) T m 0 #[.val (.ref aq), .val (.int (0 : Int32)), .val (.ref ad), .val (.int (0 : Int32)), .val (.int (6 : Int32)), .unset, .unset] []
  have Kp : Keep h0 h0 [ad] := Keep.refl _ _
  refine own_iconst X hx (0 : Int32) (hb hby own_d_jdk_52_method_21_code_0) (pc' := 1) rfl rfl ?_
  refine own_istore X hx (hb hby own_d_jdk_52_method_21_code_1) (pc' := 3) rfl (Ls' := #[.val (.ref aq), .val (.int (0 : Int32)), .val (.ref ad), .val (.int (0 : Int32)), .val (.int (6 : Int32)), .val (.int (0 : Int32)), .unset]) rfl ?_
  refine own_iload X hx (hb hby own_d_jdk_52_method_21_code_3) (pc' := 5) rfl rfl ?_
  refine own_iload X hx (hb hby own_d_jdk_52_method_21_code_5) (pc' := 7) rfl rfl ?_
  refine own_icmpN X hx (hb hby own_d_jdk_52_method_21_code_7) (pc' := 10) rfl (show (0 : Int32) < (6 : Int32) from (by decide)) ?_
  refine own_aloadN X hx (hb hby own_d_jdk_52_method_21_code_10) (pc' := 11) rfl rfl rfl ?_
  refine own_iloadN X hx (hb hby own_d_jdk_52_method_21_code_11) (pc' := 12) rfl rfl ?_
  refine own_caload X hx hZ eT A_aq (v := (.int d0)) (by decide) rfl (hb hby own_d_jdk_52_method_21_code_12) (pc' := 13) rfl ?_
  refine own_istore X hx (hb hby own_d_jdk_52_method_21_code_13) (pc' := 15) rfl (Ls' := #[.val (.ref aq), .val (.int (0 : Int32)), .val (.ref ad), .val (.int (0 : Int32)), .val (.int (6 : Int32)), .val (.int (0 : Int32)), .val (.int d0)]) rfl ?_
  refine own_iload X hx (hb hby own_d_jdk_52_method_21_code_15) (pc' := 17) rfl rfl ?_
  refine own_sipush X hx (255 : Int32) (hb hby own_d_jdk_52_method_21_code_17) (pc' := 20) rfl rfl ?_
  refine own_icmpY X hx (hb hby own_d_jdk_52_method_21_code_20) (by decide) (pc' := 26) rfl (show ¬ ((255 : Int32) < d0) from hd0) ?_
  refine own_aloadN X hx (hb hby own_d_jdk_52_method_21_code_26) (pc' := 27) rfl rfl rfl ?_
  refine own_iloadN X hx (hb hby own_d_jdk_52_method_21_code_27) (pc' := 28) rfl rfl ?_
  refine own_iload X hx (hb hby own_d_jdk_52_method_21_code_28) (pc' := 30) rfl rfl ?_
  refine own_i2b X hx (hb hby own_d_jdk_52_method_21_code_30) (pc' := 31) rfl ?_
  refine own_bastoreB X hx hZ eT A_ad (by decide) 0 rfl (by show 0 < 6; decide) (hb hby own_d_jdk_52_method_21_code_31) (pc' := 32) rfl ?_
  intro T h1 lc X eT Kq A_adn fN
  have A_aq := A_aq.keep Kq (ninS nqd nin0)
  have Z0 := Nat.le_trans Z0 Kq.1
  have A_ad := A_adn
  have N := fN _ z_ad N
  have Kp := Kp.trans Kq (allS (P := fun x => x ∈ [ad] ∨ h0.size ≤ x) (Or.inl (List.mem_of_getElem? (i := 0) rfl)) all0)
  have A_ad : Arv Z h1 ad _ .byte (6 : Int32) [(.int (nar .byte d0.toInt8.toInt32)), (.int (0 : Int32)), (.int (0 : Int32)), (.int (0 : Int32)), (.int (0 : Int32)), (.int (0 : Int32))] (.int (0 : Int32)) := A_ad
  refine own_iinc X hx (1 : Int32) (hb hby own_d_jdk_52_method_21_code_32) (pc' := 35) rfl rfl rfl (Ls' := #[.val (.ref aq), .val (.int (1 : Int32)), .val (.ref ad), .val (.int (0 : Int32)), .val (.int (6 : Int32)), .val (.int (0 : Int32)), .val (.int d0)]) rfl ?_
  refine own_iinc X hx (1 : Int32) (hb hby own_d_jdk_52_method_21_code_35) (pc' := 38) rfl rfl rfl (Ls' := #[.val (.ref aq), .val (.int (1 : Int32)), .val (.ref ad), .val (.int (1 : Int32)), .val (.int (6 : Int32)), .val (.int (0 : Int32)), .val (.int d0)]) rfl ?_
  refine own_iinc X hx (1 : Int32) (hb hby own_d_jdk_52_method_21_code_38) (pc' := 41) rfl rfl rfl (Ls' := #[.val (.ref aq), .val (.int (1 : Int32)), .val (.ref ad), .val (.int (1 : Int32)), .val (.int (6 : Int32)), .val (.int (1 : Int32)), .val (.int d0)]) rfl ?_
  refine own_goto X hx (hb hby own_d_jdk_52_method_21_code_41) (by decide) (pc' := 3) rfl ?_
  refine own_iload X hx (hb hby own_d_jdk_52_method_21_code_3) (pc' := 5) rfl rfl ?_
  refine own_iload X hx (hb hby own_d_jdk_52_method_21_code_5) (pc' := 7) rfl rfl ?_
  refine own_icmpN X hx (hb hby own_d_jdk_52_method_21_code_7) (pc' := 10) rfl (show (1 : Int32) < (6 : Int32) from (by decide)) ?_
  refine own_aloadN X hx (hb hby own_d_jdk_52_method_21_code_10) (pc' := 11) rfl rfl rfl ?_
  refine own_iloadN X hx (hb hby own_d_jdk_52_method_21_code_11) (pc' := 12) rfl rfl ?_
  refine own_caload X hx hZ eT A_aq (v := (.int d1)) (by decide) rfl (hb hby own_d_jdk_52_method_21_code_12) (pc' := 13) rfl ?_
  refine own_istore X hx (hb hby own_d_jdk_52_method_21_code_13) (pc' := 15) rfl (Ls' := #[.val (.ref aq), .val (.int (1 : Int32)), .val (.ref ad), .val (.int (1 : Int32)), .val (.int (6 : Int32)), .val (.int (1 : Int32)), .val (.int d1)]) rfl ?_
  refine own_iload X hx (hb hby own_d_jdk_52_method_21_code_15) (pc' := 17) rfl rfl ?_
  refine own_sipush X hx (255 : Int32) (hb hby own_d_jdk_52_method_21_code_17) (pc' := 20) rfl rfl ?_
  refine own_icmpY X hx (hb hby own_d_jdk_52_method_21_code_20) (by decide) (pc' := 26) rfl (show ¬ ((255 : Int32) < d1) from hd1) ?_
  refine own_aloadN X hx (hb hby own_d_jdk_52_method_21_code_26) (pc' := 27) rfl rfl rfl ?_
  refine own_iloadN X hx (hb hby own_d_jdk_52_method_21_code_27) (pc' := 28) rfl rfl ?_
  refine own_iload X hx (hb hby own_d_jdk_52_method_21_code_28) (pc' := 30) rfl rfl ?_
  refine own_i2b X hx (hb hby own_d_jdk_52_method_21_code_30) (pc' := 31) rfl ?_
  refine own_bastoreB X hx hZ eT A_ad (by decide) 1 rfl (by show 1 < 6; decide) (hb hby own_d_jdk_52_method_21_code_31) (pc' := 32) rfl ?_
  intro T h2 lc X eT Kq A_adn fN
  have A_aq := A_aq.keep Kq (ninS nqd nin0)
  have Z0 := Nat.le_trans Z0 Kq.1
  have A_ad := A_adn
  have N := fN _ z_ad N
  have Kp := Kp.trans Kq (allS (P := fun x => x ∈ [ad] ∨ h0.size ≤ x) (Or.inl (List.mem_of_getElem? (i := 0) rfl)) all0)
  have A_ad : Arv Z h2 ad _ .byte (6 : Int32) [(.int (nar .byte d0.toInt8.toInt32)), (.int (nar .byte d1.toInt8.toInt32)), (.int (0 : Int32)), (.int (0 : Int32)), (.int (0 : Int32)), (.int (0 : Int32))] (.int (0 : Int32)) := A_ad
  refine own_iinc X hx (1 : Int32) (hb hby own_d_jdk_52_method_21_code_32) (pc' := 35) rfl rfl rfl (Ls' := #[.val (.ref aq), .val (.int (2 : Int32)), .val (.ref ad), .val (.int (1 : Int32)), .val (.int (6 : Int32)), .val (.int (1 : Int32)), .val (.int d1)]) rfl ?_
  refine own_iinc X hx (1 : Int32) (hb hby own_d_jdk_52_method_21_code_35) (pc' := 38) rfl rfl rfl (Ls' := #[.val (.ref aq), .val (.int (2 : Int32)), .val (.ref ad), .val (.int (2 : Int32)), .val (.int (6 : Int32)), .val (.int (1 : Int32)), .val (.int d1)]) rfl ?_
  refine own_iinc X hx (1 : Int32) (hb hby own_d_jdk_52_method_21_code_38) (pc' := 41) rfl rfl rfl (Ls' := #[.val (.ref aq), .val (.int (2 : Int32)), .val (.ref ad), .val (.int (2 : Int32)), .val (.int (6 : Int32)), .val (.int (2 : Int32)), .val (.int d1)]) rfl ?_
  refine own_goto X hx (hb hby own_d_jdk_52_method_21_code_41) (by decide) (pc' := 3) rfl ?_
  refine own_iload X hx (hb hby own_d_jdk_52_method_21_code_3) (pc' := 5) rfl rfl ?_
  refine own_iload X hx (hb hby own_d_jdk_52_method_21_code_5) (pc' := 7) rfl rfl ?_
  refine own_icmpN X hx (hb hby own_d_jdk_52_method_21_code_7) (pc' := 10) rfl (show (2 : Int32) < (6 : Int32) from (by decide)) ?_
  refine own_aloadN X hx (hb hby own_d_jdk_52_method_21_code_10) (pc' := 11) rfl rfl rfl ?_
  refine own_iloadN X hx (hb hby own_d_jdk_52_method_21_code_11) (pc' := 12) rfl rfl ?_
  refine own_caload X hx hZ eT A_aq (v := (.int d2)) (by decide) rfl (hb hby own_d_jdk_52_method_21_code_12) (pc' := 13) rfl ?_
  refine own_istore X hx (hb hby own_d_jdk_52_method_21_code_13) (pc' := 15) rfl (Ls' := #[.val (.ref aq), .val (.int (2 : Int32)), .val (.ref ad), .val (.int (2 : Int32)), .val (.int (6 : Int32)), .val (.int (2 : Int32)), .val (.int d2)]) rfl ?_
  refine own_iload X hx (hb hby own_d_jdk_52_method_21_code_15) (pc' := 17) rfl rfl ?_
  refine own_sipush X hx (255 : Int32) (hb hby own_d_jdk_52_method_21_code_17) (pc' := 20) rfl rfl ?_
  refine own_icmpY X hx (hb hby own_d_jdk_52_method_21_code_20) (by decide) (pc' := 26) rfl (show ¬ ((255 : Int32) < d2) from hd2) ?_
  refine own_aloadN X hx (hb hby own_d_jdk_52_method_21_code_26) (pc' := 27) rfl rfl rfl ?_
  refine own_iloadN X hx (hb hby own_d_jdk_52_method_21_code_27) (pc' := 28) rfl rfl ?_
  refine own_iload X hx (hb hby own_d_jdk_52_method_21_code_28) (pc' := 30) rfl rfl ?_
  refine own_i2b X hx (hb hby own_d_jdk_52_method_21_code_30) (pc' := 31) rfl ?_
  refine own_bastoreB X hx hZ eT A_ad (by decide) 2 rfl (by show 2 < 6; decide) (hb hby own_d_jdk_52_method_21_code_31) (pc' := 32) rfl ?_
  intro T h3 lc X eT Kq A_adn fN
  have A_aq := A_aq.keep Kq (ninS nqd nin0)
  have Z0 := Nat.le_trans Z0 Kq.1
  have A_ad := A_adn
  have N := fN _ z_ad N
  have Kp := Kp.trans Kq (allS (P := fun x => x ∈ [ad] ∨ h0.size ≤ x) (Or.inl (List.mem_of_getElem? (i := 0) rfl)) all0)
  have A_ad : Arv Z h3 ad _ .byte (6 : Int32) [(.int (nar .byte d0.toInt8.toInt32)), (.int (nar .byte d1.toInt8.toInt32)), (.int (nar .byte d2.toInt8.toInt32)), (.int (0 : Int32)), (.int (0 : Int32)), (.int (0 : Int32))] (.int (0 : Int32)) := A_ad
  refine own_iinc X hx (1 : Int32) (hb hby own_d_jdk_52_method_21_code_32) (pc' := 35) rfl rfl rfl (Ls' := #[.val (.ref aq), .val (.int (3 : Int32)), .val (.ref ad), .val (.int (2 : Int32)), .val (.int (6 : Int32)), .val (.int (2 : Int32)), .val (.int d2)]) rfl ?_
  refine own_iinc X hx (1 : Int32) (hb hby own_d_jdk_52_method_21_code_35) (pc' := 38) rfl rfl rfl (Ls' := #[.val (.ref aq), .val (.int (3 : Int32)), .val (.ref ad), .val (.int (3 : Int32)), .val (.int (6 : Int32)), .val (.int (2 : Int32)), .val (.int d2)]) rfl ?_
  refine own_iinc X hx (1 : Int32) (hb hby own_d_jdk_52_method_21_code_38) (pc' := 41) rfl rfl rfl (Ls' := #[.val (.ref aq), .val (.int (3 : Int32)), .val (.ref ad), .val (.int (3 : Int32)), .val (.int (6 : Int32)), .val (.int (3 : Int32)), .val (.int d2)]) rfl ?_
  refine own_goto X hx (hb hby own_d_jdk_52_method_21_code_41) (by decide) (pc' := 3) rfl ?_
  refine own_iload X hx (hb hby own_d_jdk_52_method_21_code_3) (pc' := 5) rfl rfl ?_
  refine own_iload X hx (hb hby own_d_jdk_52_method_21_code_5) (pc' := 7) rfl rfl ?_
  refine own_icmpN X hx (hb hby own_d_jdk_52_method_21_code_7) (pc' := 10) rfl (show (3 : Int32) < (6 : Int32) from (by decide)) ?_
  refine own_aloadN X hx (hb hby own_d_jdk_52_method_21_code_10) (pc' := 11) rfl rfl rfl ?_
  refine own_iloadN X hx (hb hby own_d_jdk_52_method_21_code_11) (pc' := 12) rfl rfl ?_
  refine own_caload X hx hZ eT A_aq (v := (.int d3)) (by decide) rfl (hb hby own_d_jdk_52_method_21_code_12) (pc' := 13) rfl ?_
  refine own_istore X hx (hb hby own_d_jdk_52_method_21_code_13) (pc' := 15) rfl (Ls' := #[.val (.ref aq), .val (.int (3 : Int32)), .val (.ref ad), .val (.int (3 : Int32)), .val (.int (6 : Int32)), .val (.int (3 : Int32)), .val (.int d3)]) rfl ?_
  refine own_iload X hx (hb hby own_d_jdk_52_method_21_code_15) (pc' := 17) rfl rfl ?_
  refine own_sipush X hx (255 : Int32) (hb hby own_d_jdk_52_method_21_code_17) (pc' := 20) rfl rfl ?_
  refine own_icmpY X hx (hb hby own_d_jdk_52_method_21_code_20) (by decide) (pc' := 26) rfl (show ¬ ((255 : Int32) < d3) from hd3) ?_
  refine own_aloadN X hx (hb hby own_d_jdk_52_method_21_code_26) (pc' := 27) rfl rfl rfl ?_
  refine own_iloadN X hx (hb hby own_d_jdk_52_method_21_code_27) (pc' := 28) rfl rfl ?_
  refine own_iload X hx (hb hby own_d_jdk_52_method_21_code_28) (pc' := 30) rfl rfl ?_
  refine own_i2b X hx (hb hby own_d_jdk_52_method_21_code_30) (pc' := 31) rfl ?_
  refine own_bastoreB X hx hZ eT A_ad (by decide) 3 rfl (by show 3 < 6; decide) (hb hby own_d_jdk_52_method_21_code_31) (pc' := 32) rfl ?_
  intro T h4 lc X eT Kq A_adn fN
  have A_aq := A_aq.keep Kq (ninS nqd nin0)
  have Z0 := Nat.le_trans Z0 Kq.1
  have A_ad := A_adn
  have N := fN _ z_ad N
  have Kp := Kp.trans Kq (allS (P := fun x => x ∈ [ad] ∨ h0.size ≤ x) (Or.inl (List.mem_of_getElem? (i := 0) rfl)) all0)
  have A_ad : Arv Z h4 ad _ .byte (6 : Int32) [(.int (nar .byte d0.toInt8.toInt32)), (.int (nar .byte d1.toInt8.toInt32)), (.int (nar .byte d2.toInt8.toInt32)), (.int (nar .byte d3.toInt8.toInt32)), (.int (0 : Int32)), (.int (0 : Int32))] (.int (0 : Int32)) := A_ad
  refine own_iinc X hx (1 : Int32) (hb hby own_d_jdk_52_method_21_code_32) (pc' := 35) rfl rfl rfl (Ls' := #[.val (.ref aq), .val (.int (4 : Int32)), .val (.ref ad), .val (.int (3 : Int32)), .val (.int (6 : Int32)), .val (.int (3 : Int32)), .val (.int d3)]) rfl ?_
  refine own_iinc X hx (1 : Int32) (hb hby own_d_jdk_52_method_21_code_35) (pc' := 38) rfl rfl rfl (Ls' := #[.val (.ref aq), .val (.int (4 : Int32)), .val (.ref ad), .val (.int (4 : Int32)), .val (.int (6 : Int32)), .val (.int (3 : Int32)), .val (.int d3)]) rfl ?_
  refine own_iinc X hx (1 : Int32) (hb hby own_d_jdk_52_method_21_code_38) (pc' := 41) rfl rfl rfl (Ls' := #[.val (.ref aq), .val (.int (4 : Int32)), .val (.ref ad), .val (.int (4 : Int32)), .val (.int (6 : Int32)), .val (.int (4 : Int32)), .val (.int d3)]) rfl ?_
  refine own_goto X hx (hb hby own_d_jdk_52_method_21_code_41) (by decide) (pc' := 3) rfl ?_
  refine own_iload X hx (hb hby own_d_jdk_52_method_21_code_3) (pc' := 5) rfl rfl ?_
  refine own_iload X hx (hb hby own_d_jdk_52_method_21_code_5) (pc' := 7) rfl rfl ?_
  refine own_icmpN X hx (hb hby own_d_jdk_52_method_21_code_7) (pc' := 10) rfl (show (4 : Int32) < (6 : Int32) from (by decide)) ?_
  refine own_aloadN X hx (hb hby own_d_jdk_52_method_21_code_10) (pc' := 11) rfl rfl rfl ?_
  refine own_iloadN X hx (hb hby own_d_jdk_52_method_21_code_11) (pc' := 12) rfl rfl ?_
  refine own_caload X hx hZ eT A_aq (v := (.int d4)) (by decide) rfl (hb hby own_d_jdk_52_method_21_code_12) (pc' := 13) rfl ?_
  refine own_istore X hx (hb hby own_d_jdk_52_method_21_code_13) (pc' := 15) rfl (Ls' := #[.val (.ref aq), .val (.int (4 : Int32)), .val (.ref ad), .val (.int (4 : Int32)), .val (.int (6 : Int32)), .val (.int (4 : Int32)), .val (.int d4)]) rfl ?_
  refine own_iload X hx (hb hby own_d_jdk_52_method_21_code_15) (pc' := 17) rfl rfl ?_
  refine own_sipush X hx (255 : Int32) (hb hby own_d_jdk_52_method_21_code_17) (pc' := 20) rfl rfl ?_
  refine own_icmpY X hx (hb hby own_d_jdk_52_method_21_code_20) (by decide) (pc' := 26) rfl (show ¬ ((255 : Int32) < d4) from hd4) ?_
  refine own_aloadN X hx (hb hby own_d_jdk_52_method_21_code_26) (pc' := 27) rfl rfl rfl ?_
  refine own_iloadN X hx (hb hby own_d_jdk_52_method_21_code_27) (pc' := 28) rfl rfl ?_
  refine own_iload X hx (hb hby own_d_jdk_52_method_21_code_28) (pc' := 30) rfl rfl ?_
  refine own_i2b X hx (hb hby own_d_jdk_52_method_21_code_30) (pc' := 31) rfl ?_
  refine own_bastoreB X hx hZ eT A_ad (by decide) 4 rfl (by show 4 < 6; decide) (hb hby own_d_jdk_52_method_21_code_31) (pc' := 32) rfl ?_
  intro T h5 lc X eT Kq A_adn fN
  have A_aq := A_aq.keep Kq (ninS nqd nin0)
  have Z0 := Nat.le_trans Z0 Kq.1
  have A_ad := A_adn
  have N := fN _ z_ad N
  have Kp := Kp.trans Kq (allS (P := fun x => x ∈ [ad] ∨ h0.size ≤ x) (Or.inl (List.mem_of_getElem? (i := 0) rfl)) all0)
  have A_ad : Arv Z h5 ad _ .byte (6 : Int32) [(.int (nar .byte d0.toInt8.toInt32)), (.int (nar .byte d1.toInt8.toInt32)), (.int (nar .byte d2.toInt8.toInt32)), (.int (nar .byte d3.toInt8.toInt32)), (.int (nar .byte d4.toInt8.toInt32)), (.int (0 : Int32))] (.int (0 : Int32)) := A_ad
  refine own_iinc X hx (1 : Int32) (hb hby own_d_jdk_52_method_21_code_32) (pc' := 35) rfl rfl rfl (Ls' := #[.val (.ref aq), .val (.int (5 : Int32)), .val (.ref ad), .val (.int (4 : Int32)), .val (.int (6 : Int32)), .val (.int (4 : Int32)), .val (.int d4)]) rfl ?_
  refine own_iinc X hx (1 : Int32) (hb hby own_d_jdk_52_method_21_code_35) (pc' := 38) rfl rfl rfl (Ls' := #[.val (.ref aq), .val (.int (5 : Int32)), .val (.ref ad), .val (.int (5 : Int32)), .val (.int (6 : Int32)), .val (.int (4 : Int32)), .val (.int d4)]) rfl ?_
  refine own_iinc X hx (1 : Int32) (hb hby own_d_jdk_52_method_21_code_38) (pc' := 41) rfl rfl rfl (Ls' := #[.val (.ref aq), .val (.int (5 : Int32)), .val (.ref ad), .val (.int (5 : Int32)), .val (.int (6 : Int32)), .val (.int (5 : Int32)), .val (.int d4)]) rfl ?_
  refine own_goto X hx (hb hby own_d_jdk_52_method_21_code_41) (by decide) (pc' := 3) rfl ?_
  refine own_iload X hx (hb hby own_d_jdk_52_method_21_code_3) (pc' := 5) rfl rfl ?_
  refine own_iload X hx (hb hby own_d_jdk_52_method_21_code_5) (pc' := 7) rfl rfl ?_
  refine own_icmpN X hx (hb hby own_d_jdk_52_method_21_code_7) (pc' := 10) rfl (show (5 : Int32) < (6 : Int32) from (by decide)) ?_
  refine own_aloadN X hx (hb hby own_d_jdk_52_method_21_code_10) (pc' := 11) rfl rfl rfl ?_
  refine own_iloadN X hx (hb hby own_d_jdk_52_method_21_code_11) (pc' := 12) rfl rfl ?_
  refine own_caload X hx hZ eT A_aq (v := (.int d5)) (by decide) rfl (hb hby own_d_jdk_52_method_21_code_12) (pc' := 13) rfl ?_
  refine own_istore X hx (hb hby own_d_jdk_52_method_21_code_13) (pc' := 15) rfl (Ls' := #[.val (.ref aq), .val (.int (5 : Int32)), .val (.ref ad), .val (.int (5 : Int32)), .val (.int (6 : Int32)), .val (.int (5 : Int32)), .val (.int d5)]) rfl ?_
  refine own_iload X hx (hb hby own_d_jdk_52_method_21_code_15) (pc' := 17) rfl rfl ?_
  refine own_sipush X hx (255 : Int32) (hb hby own_d_jdk_52_method_21_code_17) (pc' := 20) rfl rfl ?_
  refine own_icmpY X hx (hb hby own_d_jdk_52_method_21_code_20) (by decide) (pc' := 26) rfl (show ¬ ((255 : Int32) < d5) from hd5) ?_
  refine own_aloadN X hx (hb hby own_d_jdk_52_method_21_code_26) (pc' := 27) rfl rfl rfl ?_
  refine own_iloadN X hx (hb hby own_d_jdk_52_method_21_code_27) (pc' := 28) rfl rfl ?_
  refine own_iload X hx (hb hby own_d_jdk_52_method_21_code_28) (pc' := 30) rfl rfl ?_
  refine own_i2b X hx (hb hby own_d_jdk_52_method_21_code_30) (pc' := 31) rfl ?_
  refine own_bastoreB X hx hZ eT A_ad (by decide) 5 rfl (by show 5 < 6; decide) (hb hby own_d_jdk_52_method_21_code_31) (pc' := 32) rfl ?_
  intro T h6 lc X eT Kq A_adn fN
  have A_aq := A_aq.keep Kq (ninS nqd nin0)
  have Z0 := Nat.le_trans Z0 Kq.1
  have A_ad := A_adn
  have N := fN _ z_ad N
  have Kp := Kp.trans Kq (allS (P := fun x => x ∈ [ad] ∨ h0.size ≤ x) (Or.inl (List.mem_of_getElem? (i := 0) rfl)) all0)
  have A_ad : Arv Z h6 ad _ .byte (6 : Int32) [(.int (nar .byte d0.toInt8.toInt32)), (.int (nar .byte d1.toInt8.toInt32)), (.int (nar .byte d2.toInt8.toInt32)), (.int (nar .byte d3.toInt8.toInt32)), (.int (nar .byte d4.toInt8.toInt32)), (.int (nar .byte d5.toInt8.toInt32))] (.int (0 : Int32)) := A_ad
  refine own_iinc X hx (1 : Int32) (hb hby own_d_jdk_52_method_21_code_32) (pc' := 35) rfl rfl rfl (Ls' := #[.val (.ref aq), .val (.int (6 : Int32)), .val (.ref ad), .val (.int (5 : Int32)), .val (.int (6 : Int32)), .val (.int (5 : Int32)), .val (.int d5)]) rfl ?_
  refine own_iinc X hx (1 : Int32) (hb hby own_d_jdk_52_method_21_code_35) (pc' := 38) rfl rfl rfl (Ls' := #[.val (.ref aq), .val (.int (6 : Int32)), .val (.ref ad), .val (.int (6 : Int32)), .val (.int (6 : Int32)), .val (.int (5 : Int32)), .val (.int d5)]) rfl ?_
  refine own_iinc X hx (1 : Int32) (hb hby own_d_jdk_52_method_21_code_38) (pc' := 41) rfl rfl rfl (Ls' := #[.val (.ref aq), .val (.int (6 : Int32)), .val (.ref ad), .val (.int (6 : Int32)), .val (.int (6 : Int32)), .val (.int (6 : Int32)), .val (.int d5)]) rfl ?_
  refine own_goto X hx (hb hby own_d_jdk_52_method_21_code_41) (by decide) (pc' := 3) rfl ?_
  refine own_iload X hx (hb hby own_d_jdk_52_method_21_code_3) (pc' := 5) rfl rfl ?_
  refine own_iload X hx (hb hby own_d_jdk_52_method_21_code_5) (pc' := 7) rfl rfl ?_
  refine own_icmpY X hx (hb hby own_d_jdk_52_method_21_code_7) (by decide) (pc' := 44) rfl (show ¬ ((6 : Int32) < (6 : Int32)) from (by decide)) ?_
  refine own_iload X hx (hb hby own_d_jdk_52_method_21_code_44) (pc' := 46) rfl rfl ?_
  refine own_retI X hx hlk (t := .int) (w' := (.int (6 : Int32))) Bd.returns (hb hby own_d_jdk_52_method_21_code_46) rfl rfl (by simp) (by decide) (by decide) ?_
  rw [eT]
  exact ⟨rfl, N, Kp, A_ad⟩
theorem ef_cc6 (m : MethodId) (x0 : Addr) (x1 : Int32) (x2 : Int32) : entryFrame m #[(.ref x0), (.int x1), (.int x2)] 6 = mkF m 0 #[.val (.ref x0), .val (.int x1), .val (.int x2), .unset, .unset, .unset] [] := by first | (simp [entryFrame, mkF, argsToLocals, Value.category]; done) | rfl
def Q_cc6 (Z : State) (aq : Addr) (kq : ClassId) (d0 d1 d2 d3 d4 d5 : Int32) (h0 : Heap) (n0 : Nat) (v : Option Value) (h : Heap) (L : List Loc) : Prop := ∃ (b : Addr) (kb : ClassId), v = some (.ref b) ∧ Fr n0 L ∧ Keep h0 h [] ∧ h0.size ≤ b ∧ Arv Z h b kb .byte (6 : Int32) [(.int (nar .byte d0.toInt8.toInt32)), (.int (nar .byte d1.toInt8.toInt32)), (.int (nar .byte d2.toInt8.toInt32)), (.int (nar .byte d3.toInt8.toInt32)), (.int (nar .byte d4.toInt8.toInt32)), (.int (nar .byte d5.toInt8.toInt32))] (.int (0 : Int32))
set_option maxRecDepth 65536 in
set_option maxHeartbeats 40000000 in
theorem rm_cc6 (l : Launch) (Z : State) (a0 : Array Value) (hw : ∀ d ∈ tables_1, d.before a0 Z = true) (ws : List Jvm.Cond) (aq : Addr) (kq : ClassId) (d0 d1 d2 d3 d4 d5 : Int32) (h0 : Heap) (n0 : Nat) (Z0 : n0 ≤ h0.size) (A_aq : Arv Z h0 aq kq .char (6 : Int32) [(.int d0), (.int d1), (.int d2), (.int d3), (.int d4), (.int d5)] (.int (0 : Int32))) (hd0 : ¬ ((255 : Int32) < d0)) (hd1 : ¬ ((255 : Int32) < d1)) (hd2 : ¬ ((255 : Int32) < d2)) (hd3 : ¬ ((255 : Int32) < d3)) (hd4 : ¬ ((255 : Int32) < d4)) (hd5 : ¬ ((255 : Int32) < d5)) :
    MetFree l (⟨"java/lang/StringUTF16", "compress", "([CII)[B"⟩ : MethodName) (head1 (Jvm.Cond.code (⟨"java/lang/StringUTF16", "compress", "([CII)[B"⟩ : MethodName) jdk_52_method_16_code 6 (some (.array .byte)) :: ws) ({ frames := 1, cells := 1, slots := 6, locals := 18 } : Room)) (fun a U => a = #[(.ref aq), (.int (0 : Int32)), (.int (6 : Int32))] ∧ Z.Warmed39 U.vm ∧ U.heap = h0) (fun _ _ _ _ _ => True) (fun _ U o U' => ∃ v L, o = .returned v ∧ Q_cc6 Z aq kq d0 d1 d2 d3 d4 d5 h0 n0 v U'.heap L ∧ FrameEnd U o U' L ({ frames := 1, cells := 1, slots := 6, locals := 18 } : Room).cells ({ frames := 1, cells := 1, slots := 6, locals := 18 } : Room).slots) := by
  refine MetFree.of_bodySF (plainFor_of_name own_pn_java_lang_StringUTF16) hisR ?_
  intro p e s m args below meth c s₁ Bd hml0 hP hK
  obtain ⟨rfl, hZ, hh⟩ := hP
  have hx := Bd.exec
  have hby := Bd.bytes
  have hml : c.maxLocals = 6 := hml0
  have hown : s.vm.findClass "java/lang/StringUTF16" = some m.cls := findClass_of_methodNamed Bd.named
  have hnm := (name_of_methodNamed Bd.named Bd.method).1
  have hlk := Bd.notSynchronized
  obtain ⟨lc, hlc⟩ : ∃ lc : List Loc, lc = [] := ⟨_, rfl⟩
  have X : Stand p l e ({ frames := 1, cells := 1, slots := 6, locals := 18 } : Room) s m #[(.ref aq), (.int (0 : Int32)), (.int (6 : Int32))] below meth c s₁ lc 0 0 := hlc ▸ Stand.of_body Bd
  have eT : s₁.heap = h0 := by rw [← hh, Bd.state]; rfl
  have N : Fr n0 lc := hlc ▸ Fr.nil n0
  refine own_enter (ef_cc6 m aq (0 : Int32) (6 : Int32)) ?_
  obtain ⟨T, hT⟩ : ∃ T : State, T = s₁ := ⟨_, rfl⟩
  rw [← hT] at X eT ⊢
  show own_W p e below (own_Post s (Q_cc6 Z aq kq d0 d1 d2 d3 d4 d5 h0 n0) 1 6) T m 0 #[.val (.ref aq), .val (.int (0 : Int32)), .val (.int (6 : Int32)), .unset, .unset, .unset] []
  have Kp : Keep h0 h0 [] := Keep.refl _ _
  refine own_iloadN X hx (hb hby own_d_jdk_52_method_16_code_0) (pc' := 1) rfl rfl ?_
  refine own_newarr X hx hZ (own_w hw 29 rfl) eT (hb hby own_d_jdk_52_method_16_code_1) (pc' := 3) rfl (by decide) 6 (by decide) (by decide) (cells' := 1) (slots' := 6) rfl rfl (by decide) (by decide) ?_
  intro T h1 k_b1 b1 X eT E gb1 A_b1
  have lt_aq_b1 : aq < b1 := Nat.lt_of_lt_of_le A_aq.lt (Nat.le_of_eq gb1.symm)
  have ne_aq_b1 : aq ≠ b1 := Nat.ne_of_lt lt_aq_b1
  have z_b1 : n0 ≤ b1 := Nat.le_trans Z0 (Nat.le_of_eq gb1.symm)
  have s_b1 : h0.size ≤ b1 := Nat.le_trans Kp.1 (Nat.le_of_eq gb1.symm)
  have A_aq := A_aq.ext E
  have Z0 := Nat.le_trans Z0 E.1
  have Kp := Kp.ext E
  have A_b1 : Arv Z h1 b1 k_b1 .byte (6 : Int32) [(.int (0 : Int32)), (.int (0 : Int32)), (.int (0 : Int32)), (.int (0 : Int32)), (.int (0 : Int32)), (.int (0 : Int32))] (.int (0 : Int32)) := A_b1.pad (pad_rep [] (.int (0 : Int32)) 6)
  refine own_astoreN X hx (hb hby own_d_jdk_52_method_16_code_3) (pc' := 4) rfl rfl (Ls' := #[.val (.ref aq), .val (.int (0 : Int32)), .val (.int (6 : Int32)), .val (.ref b1), .unset, .unset]) rfl ?_
  refine own_aloadN X hx (hb hby own_d_jdk_52_method_16_code_4) (pc' := 5) rfl rfl rfl ?_
  refine own_iloadN X hx (hb hby own_d_jdk_52_method_16_code_5) (pc' := 6) rfl rfl ?_
  refine own_aloadN X hx (hb hby own_d_jdk_52_method_16_code_6) (pc' := 7) rfl rfl rfl ?_
  refine own_iconst X hx (0 : Int32) (hb hby own_d_jdk_52_method_16_code_7) (pc' := 8) rfl rfl ?_
  refine own_iloadN X hx (hb hby own_d_jdk_52_method_16_code_8) (pc' := 9) rfl rfl ?_
  refine own_callS X hx hZ [(.ref aq), (.int (0 : Int32)), (.ref b1), (.int (0 : Int32)), (.int (6 : Int32))] hown (own_w hw 57 rfl) (own_w hw 58 rfl) (own_w hw 55 rfl) (own_w hw 59 rfl) (by decide) (rm_ci6 l Z a0 hw [] aq b1 _ _ d0 d1 d2 d3 d4 d5 h1 n0 Z0 A_aq A_b1 ne_aq_b1 hd0 hd1 hd2 hd3 hd4 hd5 z_b1) eT (W := 0) (by decide) (by decide) (cells' := 1) (slots' := 6) rfl rfl (by decide) (by decide) (by rw [hml]; rfl) (lenOf own_pd_285bCI5bBII29I rfl) rfl (S := []) rfl (Nat.le_of_eq rfl) (hb hby own_d_jdk_52_method_16_code_9) (pc' := 12) rfl ?_
  intro v T h2 L lc X eT hq fN
  obtain ⟨rfl, Nq, Kq, B_b1⟩ := hq
  have N := fN _ N Nq
  have A_aq := A_aq.keep Kq (ninS ne_aq_b1 nin0)
  have Z0 := Nat.le_trans Z0 Kq.1
  have Kp := Kp.trans Kq (allS (P := fun x => x ∈ ([] : List Addr) ∨ h0.size ≤ x) (Or.inr s_b1) all0)
  show own_W p e below (own_Post s (Q_cc6 Z aq kq d0 d1 d2 d3 d4 d5 h0 n0) 1 6) T m 12 #[.val (.ref aq), .val (.int (0 : Int32)), .val (.int (6 : Int32)), .val (.ref b1), .unset, .unset] [(.int (6 : Int32))]
  refine own_istore X hx (hb hby own_d_jdk_52_method_16_code_12) (pc' := 14) rfl (Ls' := #[.val (.ref aq), .val (.int (0 : Int32)), .val (.int (6 : Int32)), .val (.ref b1), .val (.int (6 : Int32)), .unset]) rfl ?_
  refine own_iload X hx (hb hby own_d_jdk_52_method_16_code_14) (pc' := 16) rfl rfl ?_
  refine own_iloadN X hx (hb hby own_d_jdk_52_method_16_code_16) (pc' := 17) rfl rfl ?_
  refine own_icmpY X hx (hb hby own_d_jdk_52_method_16_code_17) (by decide) (pc' := 57) rfl (show (6 : Int32) = (6 : Int32) from (by decide)) ?_
  refine own_aloadN X hx (hb hby own_d_jdk_52_method_16_code_57) (pc' := 58) rfl rfl rfl ?_
  refine own_retA X hx hlk Bd.returns (hb hby own_d_jdk_52_method_16_code_58) rfl rfl rfl (by decide) (by decide) ?_
  rw [eT]
  exact ⟨_, _, rfl, N, Kp, s_b1, B_b1⟩
theorem ef_cf6 (m : MethodId) (x0 : Addr) (x1 : Int32) : entryFrame m #[(.ref x0), (.int x1)] 2 = mkF m 0 #[.val (.ref x0), .val (.int x1)] [] := by first | (simp [entryFrame, mkF, argsToLocals, Value.category]; done) | rfl
def Q_cf6 (Z : State) (b : Addr) (h0 : Heap) (n0 : Nat) (v : Option Value) (h : Heap) (L : List Loc) : Prop := v = some (.int (0 : Int32)) ∧ Fr n0 L ∧ h = h0
set_option maxRecDepth 65536 in
set_option maxHeartbeats 40000000 in
theorem rm_cf6 (l : Launch) (Z : State) (a0 : Array Value) (hw : ∀ d ∈ tables_1, d.before a0 Z = true) (ws : List Jvm.Cond) (b : Addr) (h0 : Heap) (n0 : Nat) (Z0 : n0 ≤ h0.size) (k : ClassId) (vs : List Value) (A_b : Arv Z h0 b k .byte (6 : Int32) vs (.int (0 : Int32))) :
    MetFree l (⟨"java/lang/StringUTF16", "coderFromArrayLen", "([BI)B"⟩ : MethodName) (head1 (Jvm.Cond.code (⟨"java/lang/StringUTF16", "coderFromArrayLen", "([BI)B"⟩ : MethodName) jdk_52_method_15_code 2 (some .byte) :: ws) ({ frames := 0, cells := 0, slots := 0, locals := 0 } : Room)) (fun a U => a = #[(.ref b), (.int (6 : Int32))] ∧ Z.Warmed39 U.vm ∧ U.heap = h0) (fun _ _ _ _ _ => True) (fun _ U o U' => ∃ v L, o = .returned v ∧ Q_cf6 Z b h0 n0 v U'.heap L ∧ FrameEnd U o U' L ({ frames := 0, cells := 0, slots := 0, locals := 0 } : Room).cells ({ frames := 0, cells := 0, slots := 0, locals := 0 } : Room).slots) := by
  refine MetFree.of_bodySF (plainFor_of_name own_pn_java_lang_StringUTF16) hisR ?_
  intro p e s m args below meth c s₁ Bd hml0 hP hK
  obtain ⟨rfl, hZ, hh⟩ := hP
  have hx := Bd.exec
  have hby := Bd.bytes
  have hml : c.maxLocals = 2 := hml0
  have hown : s.vm.findClass "java/lang/StringUTF16" = some m.cls := findClass_of_methodNamed Bd.named
  have hnm := (name_of_methodNamed Bd.named Bd.method).1
  have hlk := Bd.notSynchronized
  obtain ⟨lc, hlc⟩ : ∃ lc : List Loc, lc = [] := ⟨_, rfl⟩
  have X : Stand p l e ({ frames := 0, cells := 0, slots := 0, locals := 0 } : Room) s m #[(.ref b), (.int (6 : Int32))] below meth c s₁ lc 0 0 := hlc ▸ Stand.of_body Bd
  have eT : s₁.heap = h0 := by rw [← hh, Bd.state]; rfl
  have N : Fr n0 lc := hlc ▸ Fr.nil n0
  refine own_enter (ef_cf6 m b (6 : Int32)) ?_
  obtain ⟨T, hT⟩ : ∃ T : State, T = s₁ := ⟨_, rfl⟩
  rw [← hT] at X eT ⊢
  show own_W p e below (own_Post s (Q_cf6 Z b h0 n0) 0 0) T m 0 #[.val (.ref b), .val (.int (6 : Int32))] []
  refine own_iloadN X hx (hb hby own_d_jdk_52_method_15_code_0) (pc' := 1) rfl rfl ?_
  refine own_aloadN X hx (hb hby own_d_jdk_52_method_15_code_1) (pc' := 2) rfl rfl rfl ?_
  refine own_arrlen X hx hZ eT A_b (hb hby own_d_jdk_52_method_15_code_2) (pc' := 3) rfl ?_
  refine own_isub X hx (hb hby own_d_jdk_52_method_15_code_3) (pc' := 4) rfl ?_
  refine own_bipush X hx (31 : Int32) (hb hby own_d_jdk_52_method_15_code_4) (pc' := 6) rfl rfl ?_
  refine own_iushr X hx (hb hby own_d_jdk_52_method_15_code_6) (pc' := 7) rfl ?_
  refine own_i2b X hx (hb hby own_d_jdk_52_method_15_code_7) (pc' := 8) rfl ?_
  refine own_retI X hx hlk (t := .byte) (w' := (.int (0 : Int32))) Bd.returns (hb hby own_d_jdk_52_method_15_code_8) rfl rfl (by simp) (by decide) (by decide) ?_
  rw [eT]
  exact ⟨rfl, N, rfl⟩
theorem ef_iv6 (m : MethodId) (x0 : Addr) (x1 : Addr) (x2 : Int32) (x3 : Int32) : entryFrame m #[(.ref x0), (.ref x1), (.int x2), (.int x3), .null] 6 = mkF m 0 #[.val (.ref x0), .val (.ref x1), .val (.int x2), .val (.int x3), .val .null, .unset] [] := by first | (simp [entryFrame, mkF, argsToLocals, Value.category]; done) | rfl
def Q_iv6 (Z : State) (a1 aq : Addr) (kq : ClassId) (cs : Int32) (d0 d1 d2 d3 d4 d5 : Int32) (h0 : Heap) (n0 : Nat) (v : Option Value) (h : Heap) (L : List Loc) : Prop := v = none ∧ Fr n0 L ∧ Keep h0 h [a1] ∧ ∃ (b : Addr) (k : ClassId), h0.size ≤ b ∧ Fld Z h a1 "java/lang/String" "coder" "B" (.int (0 : Int32)) ∧ Fld Z h a1 "java/lang/String" "value" "[B" (.ref b) ∧ Arv Z h b k .byte (6 : Int32) [(.int (nar .byte d0.toInt8.toInt32)), (.int (nar .byte d1.toInt8.toInt32)), (.int (nar .byte d2.toInt8.toInt32)), (.int (nar .byte d3.toInt8.toInt32)), (.int (nar .byte d4.toInt8.toInt32)), (.int (nar .byte d5.toInt8.toInt32))] (.int (0 : Int32))
set_option maxRecDepth 65536 in
set_option maxHeartbeats 40000000 in
theorem rm_iv6 (l : Launch) (Z : State) (a0 : Array Value) (hw : ∀ d ∈ tables_1, d.before a0 Z = true) (ws : List Jvm.Cond) (a1 aq : Addr) (kq : ClassId) (cs : Int32) (d0 d1 d2 d3 d4 d5 : Int32) (h0 : Heap) (n0 : Nat) (Z0 : n0 ≤ h0.size) (S_C : Sta Z h0 "java/lang/String" "COMPACT_STRINGS" "Z" (.int cs)) (hcs : ¬ cs = 0) (u1 u2 : Value) (E_a1 : Exa Z h0 a1 "java/lang/String") (F_c : Fld Z h0 a1 "java/lang/String" "coder" "B" u1) (F_v : Fld Z h0 a1 "java/lang/String" "value" "[B" u2) (A_aq : Arv Z h0 aq kq .char (6 : Int32) [(.int d0), (.int d1), (.int d2), (.int d3), (.int d4), (.int d5)] (.int (0 : Int32))) (n1q : a1 ≠ aq) (hd0 : ¬ ((255 : Int32) < d0)) (hd1 : ¬ ((255 : Int32) < d1)) (hd2 : ¬ ((255 : Int32) < d2)) (hd3 : ¬ ((255 : Int32) < d3)) (hd4 : ¬ ((255 : Int32) < d4)) (hd5 : ¬ ((255 : Int32) < d5)) (z_a1 : n0 ≤ a1) :
    MetFree l (⟨"java/lang/String", "<init>", "([CIILjava/lang/Void;)V"⟩ : MethodName) (head1 (Jvm.Cond.code (⟨"java/lang/String", "<init>", "([CIILjava/lang/Void;)V"⟩ : MethodName) jdk_42_method_149_code 6 none :: ws) ({ frames := 2, cells := 1, slots := 6, locals := 35 } : Room)) (fun a U => a = #[(.ref a1), (.ref aq), (.int (0 : Int32)), (.int (6 : Int32)), .null] ∧ Z.Warmed39 U.vm ∧ U.heap = h0) (fun _ _ _ _ _ => True) (fun _ U o U' => ∃ v L, o = .returned v ∧ Q_iv6 Z a1 aq kq cs d0 d1 d2 d3 d4 d5 h0 n0 v U'.heap L ∧ FrameEnd U o U' L ({ frames := 2, cells := 1, slots := 6, locals := 35 } : Room).cells ({ frames := 2, cells := 1, slots := 6, locals := 35 } : Room).slots) := by
  refine MetFree.of_bodySF (plainFor_of_name own_pn_java_lang_String) hisR ?_
  intro p e s m args below meth c s₁ Bd hml0 hP hK
  obtain ⟨rfl, hZ, hh⟩ := hP
  have hx := Bd.exec
  have hby := Bd.bytes
  have hml : c.maxLocals = 6 := hml0
  have hown : s.vm.findClass "java/lang/String" = some m.cls := findClass_of_methodNamed Bd.named
  have hnm := (name_of_methodNamed Bd.named Bd.method).1
  have hlk := Bd.notSynchronized
  obtain ⟨lc, hlc⟩ : ∃ lc : List Loc, lc = [] := ⟨_, rfl⟩
  have X : Stand p l e ({ frames := 2, cells := 1, slots := 6, locals := 35 } : Room) s m #[(.ref a1), (.ref aq), (.int (0 : Int32)), (.int (6 : Int32)), .null] below meth c s₁ lc 0 0 := hlc ▸ Stand.of_body Bd
  have eT : s₁.heap = h0 := by rw [← hh, Bd.state]; rfl
  have N : Fr n0 lc := hlc ▸ Fr.nil n0
  refine own_enter (ef_iv6 m a1 aq (0 : Int32) (6 : Int32)) ?_
  obtain ⟨T, hT⟩ : ∃ T : State, T = s₁ := ⟨_, rfl⟩
  rw [← hT] at X eT ⊢
  show own_W p e below (own_Post s (Q_iv6 Z a1 aq kq cs d0 d1 d2 d3 d4 d5 h0 n0) 1 6) T m 0 #[.val (.ref a1), .val (.ref aq), .val (.int (0 : Int32)), .val (.int (6 : Int32)), .val .null, .unset] []
  have Kp : Keep h0 h0 [a1] := Keep.refl _ _
  refine own_aloadN X hx (hb hby own_d_jdk_42_method_149_code_0) (pc' := 1) rfl rfl rfl ?_
  refine own_initO X hx hZ hown (own_w hw 25 rfl) (own_w hw 26 rfl) (own_w hw 27 rfl) eT (by rw [hml]; rfl) (hb hby own_d_jdk_42_method_149_code_1) (pc' := 4) rfl (by decide) (W := 0) (Nat.le_of_eq rfl) (by decide) ?_
  intro T X eT
  refine own_iloadN X hx (hb hby own_d_jdk_42_method_149_code_4) (pc' := 5) rfl rfl ?_
  refine own_ifY X hx (hb hby own_d_jdk_42_method_149_code_5) (by decide) (pc' := 27) rfl (show ¬ ((6 : Int32) = (0 : Int32)) from (by decide)) ?_
  refine own_getS X hx hZ hown (host := "") (Or.inl (own_w hw 47 rfl)) Via.refl eT S_C (hb hby own_d_jdk_42_method_149_code_27) (pc' := 30) rfl ?_
  intro T X eT
  refine own_ifN X hx (hb hby own_d_jdk_42_method_149_code_30) (pc' := 33) rfl (show ¬ (cs = (0 : Int32)) from hcs) ?_
  refine own_aloadN X hx (hb hby own_d_jdk_42_method_149_code_33) (pc' := 34) rfl rfl rfl ?_
  refine own_iloadN X hx (hb hby own_d_jdk_42_method_149_code_34) (pc' := 35) rfl rfl ?_
  refine own_iloadN X hx (hb hby own_d_jdk_42_method_149_code_35) (pc' := 36) rfl rfl ?_
  refine own_callS X hx hZ [(.ref aq), (.int (0 : Int32)), (.int (6 : Int32))] hown (own_w hw 53 rfl) (own_w hw 54 rfl) (own_w hw 55 rfl) (own_w hw 56 rfl) (by decide) (rm_cc6 l Z a0 hw [] aq kq d0 d1 d2 d3 d4 d5 h0 n0 Z0 A_aq hd0 hd1 hd2 hd3 hd4 hd5) eT (W := 0) (by decide) (by decide) (cells' := 1) (slots' := 6) rfl rfl (by decide) (by decide) (by rw [hml]; rfl) (lenOf own_pd_285bCII295bB rfl) rfl (S := []) rfl (Nat.le_of_eq rfl) (hb hby own_d_jdk_42_method_149_code_36) (pc' := 39) rfl ?_
  intro v T h1 L lc X eT hq fN
  obtain ⟨bb, kb, rfl, Nq, Kq, hbb, A_bb⟩ := hq
  have N := fN _ N Nq
  have lt_a1_bb : a1 < bb := Nat.lt_of_lt_of_le E_a1.lt hbb
  have ne_a1_bb : a1 ≠ bb := Nat.ne_of_lt lt_a1_bb
  have lt_aq_bb : aq < bb := Nat.lt_of_lt_of_le A_aq.lt hbb
  have ne_aq_bb : aq ≠ bb := Nat.ne_of_lt lt_aq_bb
  have z_bb : n0 ≤ bb := Nat.le_trans Z0 hbb
  have s_bb : h0.size ≤ bb := Nat.le_trans Kp.1 hbb
  have S_C := own_sta_keep S_C Kq ns0
  have E_a1 := E_a1.keep Kq
  have F_c := F_c.keep Kq nin0
  have F_v := F_v.keep Kq nin0
  have A_aq := A_aq.keep Kq nin0
  have Z0 := Nat.le_trans Z0 Kq.1
  have Kp := Kp.trans Kq all0
  show own_W p e below (own_Post s (Q_iv6 Z a1 aq kq cs d0 d1 d2 d3 d4 d5 h0 n0) 1 6) T m 39 #[.val (.ref a1), .val (.ref aq), .val (.int (0 : Int32)), .val (.int (6 : Int32)), .val .null, .unset] [(.ref bb)]
  refine own_astore X hx (hb hby own_d_jdk_42_method_149_code_39) (pc' := 41) rfl rfl (Ls' := #[.val (.ref a1), .val (.ref aq), .val (.int (0 : Int32)), .val (.int (6 : Int32)), .val .null, .val (.ref bb)]) rfl ?_
  refine own_aloadN X hx (hb hby own_d_jdk_42_method_149_code_41) (pc' := 42) rfl rfl rfl ?_
  refine own_aload X hx (hb hby own_d_jdk_42_method_149_code_42) (pc' := 44) rfl rfl rfl ?_
  refine own_iloadN X hx (hb hby own_d_jdk_42_method_149_code_44) (pc' := 45) rfl rfl ?_
  refine own_callS X hx hZ [(.ref bb), (.int (6 : Int32))] hown (own_w hw 60 rfl) (own_w hw 61 rfl) (own_w hw 55 rfl) (own_w hw 62 rfl) (by decide) (rm_cf6 l Z a0 hw [] bb h1 n0 Z0 _ _ A_bb) eT (W := 1) (by decide) (by decide) (cells' := 1) (slots' := 6) rfl rfl (by decide) (by decide) (by rw [hml]; rfl) (lenOf own_pd_285bBI29B rfl) rfl (S := [(.ref a1)]) rfl (Nat.le_of_eq rfl) (hb hby own_d_jdk_42_method_149_code_45) (pc' := 48) rfl ?_
  intro v T h2 L lc X eT hq fN
  obtain ⟨rfl, Nq, hqe⟩ := hq
  have N := fN _ N Nq
  rw [hqe] at eT
  show own_W p e below (own_Post s (Q_iv6 Z a1 aq kq cs d0 d1 d2 d3 d4 d5 h0 n0) 1 6) T m 48 #[.val (.ref a1), .val (.ref aq), .val (.int (0 : Int32)), .val (.int (6 : Int32)), .val .null, .val (.ref bb)] [(.int (0 : Int32)), (.ref a1)]
  refine own_putF X hx hZ hown (own_w hw 35 rfl) Via.refl eT F_c E_a1 (Or.inr ⟨(own_w hw 31 rfl), rfl, hnm⟩) (own_w hw 15 rfl) (ty := .byte) (v' := (.int (0 : Int32))) (by decide) rfl rfl (hb hby own_d_jdk_42_method_149_code_48) (pc' := 51) rfl ?_
  intro T h3 lc X eT Wq fN
  have F_c := F_c.same Wq
  have S_C := S_C.wr Wq
  have E_a1 := E_a1.wr Wq
  have F_v := F_v.other Wq (Or.inr (slot_ne (Or.inr (own_w hw 30 rfl)) (Or.inr (own_w hw 31 rfl)) (by decide) (t := (.array .byte)) (t' := .byte) (by decide) (by decide)))
  have A_aq := A_aq.other Wq (Ne.symm n1q)
  have A_bb := A_bb.other Wq (Ne.symm ne_a1_bb)
  have Z0 := Nat.le_trans Z0 (Keep.of_wr Wq).1
  have N := fN _ z_a1 N
  have Kp := Kp.wr Wq (Or.inl (List.mem_of_getElem? (i := 0) rfl))
  refine own_aloadN X hx (hb hby own_d_jdk_42_method_149_code_51) (pc' := 52) rfl rfl rfl ?_
  refine own_aload X hx (hb hby own_d_jdk_42_method_149_code_52) (pc' := 54) rfl rfl rfl ?_
  refine own_putF X hx hZ hown (own_w hw 34 rfl) Via.refl eT F_v E_a1 (Or.inr ⟨(own_w hw 30 rfl), rfl, hnm⟩) (own_w hw 15 rfl) (ty := (.array .byte)) (v' := (.ref bb)) (by decide) rfl rfl (hb hby own_d_jdk_42_method_149_code_54) (pc' := 57) rfl ?_
  intro T h4 lc X eT Wq fN
  have F_v := F_v.same Wq
  have S_C := S_C.wr Wq
  have E_a1 := E_a1.wr Wq
  have A_aq := A_aq.other Wq (Ne.symm n1q)
  have A_bb := A_bb.other Wq (Ne.symm ne_a1_bb)
  have F_c := F_c.other Wq (Or.inr (slot_ne (Or.inr (own_w hw 31 rfl)) (Or.inr (own_w hw 30 rfl)) (by decide) (t := .byte) (t' := (.array .byte)) (by decide) (by decide)))
  have Z0 := Nat.le_trans Z0 (Keep.of_wr Wq).1
  have N := fN _ z_a1 N
  have Kp := Kp.wr Wq (Or.inl (List.mem_of_getElem? (i := 0) rfl))
  refine own_ret0 X hx hlk Bd.returns (hb hby own_d_jdk_42_method_149_code_57) (by decide) (by decide) ?_
  rw [eT]
  exact ⟨rfl, N, Kp, bb, kb, s_bb, F_c, F_v, A_bb⟩
theorem ef_ic6 (m : MethodId) (x0 : Addr) (x1 : Addr) : entryFrame m #[(.ref x0), (.ref x1)] 2 = mkF m 0 #[.val (.ref x0), .val (.ref x1)] [] := by first | (simp [entryFrame, mkF, argsToLocals, Value.category]; done) | rfl
def Q_ic6 (Z : State) (a1 aq : Addr) (kq : ClassId) (cs : Int32) (d0 d1 d2 d3 d4 d5 : Int32) (h0 : Heap) (n0 : Nat) (v : Option Value) (h : Heap) (L : List Loc) : Prop := v = none ∧ Fr n0 L ∧ Keep h0 h [a1] ∧ ∃ (b : Addr) (k : ClassId), h0.size ≤ b ∧ Fld Z h a1 "java/lang/String" "coder" "B" (.int (0 : Int32)) ∧ Fld Z h a1 "java/lang/String" "value" "[B" (.ref b) ∧ Arv Z h b k .byte (6 : Int32) [(.int (nar .byte d0.toInt8.toInt32)), (.int (nar .byte d1.toInt8.toInt32)), (.int (nar .byte d2.toInt8.toInt32)), (.int (nar .byte d3.toInt8.toInt32)), (.int (nar .byte d4.toInt8.toInt32)), (.int (nar .byte d5.toInt8.toInt32))] (.int (0 : Int32))
set_option maxRecDepth 65536 in
set_option maxHeartbeats 40000000 in
theorem rm_ic6 (l : Launch) (Z : State) (a0 : Array Value) (hw : ∀ d ∈ tables_1, d.before a0 Z = true) (ws : List Jvm.Cond) (a1 aq : Addr) (kq : ClassId) (cs : Int32) (d0 d1 d2 d3 d4 d5 : Int32) (h0 : Heap) (n0 : Nat) (Z0 : n0 ≤ h0.size) (S_C : Sta Z h0 "java/lang/String" "COMPACT_STRINGS" "Z" (.int cs)) (hcs : ¬ cs = 0) (u1 u2 : Value) (E_a1 : Exa Z h0 a1 "java/lang/String") (F_c : Fld Z h0 a1 "java/lang/String" "coder" "B" u1) (F_v : Fld Z h0 a1 "java/lang/String" "value" "[B" u2) (A_aq : Arv Z h0 aq kq .char (6 : Int32) [(.int d0), (.int d1), (.int d2), (.int d3), (.int d4), (.int d5)] (.int (0 : Int32))) (n1q : a1 ≠ aq) (hd0 : ¬ ((255 : Int32) < d0)) (hd1 : ¬ ((255 : Int32) < d1)) (hd2 : ¬ ((255 : Int32) < d2)) (hd3 : ¬ ((255 : Int32) < d3)) (hd4 : ¬ ((255 : Int32) < d4)) (hd5 : ¬ ((255 : Int32) < d5)) (z_a1 : n0 ≤ a1) :
    MetFree l (⟨"java/lang/String", "<init>", "([C)V"⟩ : MethodName) (head1 (Jvm.Cond.code (⟨"java/lang/String", "<init>", "([C)V"⟩ : MethodName) jdk_42_method_3_code 2 none :: ws) ({ frames := 3, cells := 1, slots := 6, locals := 52 } : Room)) (fun a U => a = #[(.ref a1), (.ref aq)] ∧ Z.Warmed39 U.vm ∧ U.heap = h0) (fun _ _ _ _ _ => True) (fun _ U o U' => ∃ v L, o = .returned v ∧ Q_ic6 Z a1 aq kq cs d0 d1 d2 d3 d4 d5 h0 n0 v U'.heap L ∧ FrameEnd U o U' L ({ frames := 3, cells := 1, slots := 6, locals := 52 } : Room).cells ({ frames := 3, cells := 1, slots := 6, locals := 52 } : Room).slots) := by
  refine MetFree.of_bodySF (plainFor_of_name own_pn_java_lang_String) hisR ?_
  intro p e s m args below meth c s₁ Bd hml0 hP hK
  obtain ⟨rfl, hZ, hh⟩ := hP
  have hx := Bd.exec
  have hby := Bd.bytes
  have hml : c.maxLocals = 2 := hml0
  have hown : s.vm.findClass "java/lang/String" = some m.cls := findClass_of_methodNamed Bd.named
  have hnm := (name_of_methodNamed Bd.named Bd.method).1
  have hlk := Bd.notSynchronized
  obtain ⟨lc, hlc⟩ : ∃ lc : List Loc, lc = [] := ⟨_, rfl⟩
  have X : Stand p l e ({ frames := 3, cells := 1, slots := 6, locals := 52 } : Room) s m #[(.ref a1), (.ref aq)] below meth c s₁ lc 0 0 := hlc ▸ Stand.of_body Bd
  have eT : s₁.heap = h0 := by rw [← hh, Bd.state]; rfl
  have N : Fr n0 lc := hlc ▸ Fr.nil n0
  refine own_enter (ef_ic6 m a1 aq) ?_
  obtain ⟨T, hT⟩ : ∃ T : State, T = s₁ := ⟨_, rfl⟩
  rw [← hT] at X eT ⊢
  show own_W p e below (own_Post s (Q_ic6 Z a1 aq kq cs d0 d1 d2 d3 d4 d5 h0 n0) 1 6) T m 0 #[.val (.ref a1), .val (.ref aq)] []
  refine own_aloadN X hx (hb hby own_d_jdk_42_method_3_code_0) (pc' := 1) rfl rfl rfl ?_
  refine own_aloadN X hx (hb hby own_d_jdk_42_method_3_code_1) (pc' := 2) rfl rfl rfl ?_
  refine own_iconst X hx (0 : Int32) (hb hby own_d_jdk_42_method_3_code_2) (pc' := 3) rfl rfl ?_
  refine own_aloadN X hx (hb hby own_d_jdk_42_method_3_code_3) (pc' := 4) rfl rfl rfl ?_
  refine own_arrlen X hx hZ eT A_aq (hb hby own_d_jdk_42_method_3_code_4) (pc' := 5) rfl ?_
  refine own_aconst_null X hx (hb hby own_d_jdk_42_method_3_code_5) (pc' := 6) rfl ?_
  refine own_callN X hx hZ a1 [(.ref aq), (.int (0 : Int32)), (.int (6 : Int32)), .null] rfl hown (own_w hw 21 rfl) (own_w hw 22 rfl) (own_w hw 16 rfl) (own_w hw 24 rfl) (by decide) (rm_iv6 l Z a0 hw [] a1 aq kq cs d0 d1 d2 d3 d4 d5 h0 n0 Z0 S_C hcs _ _ E_a1 F_c F_v A_aq n1q hd0 hd1 hd2 hd3 hd4 hd5 z_a1) eT (W := 0) (by decide) (by decide) (cells' := 1) (slots' := 6) rfl rfl (by decide) (by decide) (by rw [hml]; rfl) (lenOf own_pd_285bCIILjava2flang2fVoid3b29V rfl) rfl (S := []) rfl (Nat.le_of_eq rfl) (hb hby own_d_jdk_42_method_3_code_6) (pc' := 9) rfl ?_
  intro v T h1 L lc X eT hq fN
  obtain ⟨rfl, Nq, Kq, bb, kb, hbb, F_c2, F_v2, A_bb⟩ := hq
  have N := fN _ N Nq
  show own_W p e below (own_Post s (Q_ic6 Z a1 aq kq cs d0 d1 d2 d3 d4 d5 h0 n0) 1 6) T m 9 #[.val (.ref a1), .val (.ref aq)] []
  refine own_ret0 X hx hlk Bd.returns (hb hby own_d_jdk_42_method_3_code_9) (by decide) (by decide) ?_
  rw [eT]
  exact ⟨rfl, N, Kq, bb, kb, hbb, F_c2, F_v2, A_bb⟩
theorem ef_ci7 (m : MethodId) (x0 : Addr) (x1 : Int32) (x2 : Addr) (x3 : Int32) (x4 : Int32) : entryFrame m #[(.ref x0), (.int x1), (.ref x2), (.int x3), (.int x4)] 7 = mkF m 0 #[.val (.ref x0), .val (.int x1), .val (.ref x2), .val (.int x3), .val (.int x4), .unset, .unset] [] := by first | (simp [entryFrame, mkF, argsToLocals, Value.category]; done) | rfl
def Q_ci7 (Z : State) (aq ad : Addr) (kq kd : ClassId) (d0 d1 d2 d3 d4 d5 d6 : Int32) (h0 : Heap) (n0 : Nat) (v : Option Value) (h : Heap) (L : List Loc) : Prop := v = some (.int (7 : Int32)) ∧ Fr n0 L ∧ Keep h0 h [ad] ∧ Arv Z h ad kd .byte (7 : Int32) [(.int (nar .byte d0.toInt8.toInt32)), (.int (nar .byte d1.toInt8.toInt32)), (.int (nar .byte d2.toInt8.toInt32)), (.int (nar .byte d3.toInt8.toInt32)), (.int (nar .byte d4.toInt8.toInt32)), (.int (nar .byte d5.toInt8.toInt32)), (.int (nar .byte d6.toInt8.toInt32))] (.int (0 : Int32))
set_option maxRecDepth 65536 in
set_option maxHeartbeats 40000000 in
theorem rm_ci7 (l : Launch) (Z : State) (a0 : Array Value) (hw : ∀ d ∈ tables_1, d.before a0 Z = true) (ws : List Jvm.Cond) (aq ad : Addr) (kq kd : ClassId) (d0 d1 d2 d3 d4 d5 d6 : Int32) (h0 : Heap) (n0 : Nat) (Z0 : n0 ≤ h0.size) (A_aq : Arv Z h0 aq kq .char (7 : Int32) [(.int d0), (.int d1), (.int d2), (.int d3), (.int d4), (.int d5), (.int d6)] (.int (0 : Int32))) (A_ad : Arv Z h0 ad kd .byte (7 : Int32) [(.int (0 : Int32)), (.int (0 : Int32)), (.int (0 : Int32)), (.int (0 : Int32)), (.int (0 : Int32)), (.int (0 : Int32)), (.int (0 : Int32))] (.int (0 : Int32))) (nqd : aq ≠ ad) (hd0 : ¬ ((255 : Int32) < d0)) (hd1 : ¬ ((255 : Int32) < d1)) (hd2 : ¬ ((255 : Int32) < d2)) (hd3 : ¬ ((255 : Int32) < d3)) (hd4 : ¬ ((255 : Int32) < d4)) (hd5 : ¬ ((255 : Int32) < d5)) (hd6 : ¬ ((255 : Int32) < d6)) (z_ad : n0 ≤ ad) :
    MetFree l (⟨"java/lang/StringUTF16", "compress", "([CI[BII)I"⟩ : MethodName) (head1 (Jvm.Cond.code (⟨"java/lang/StringUTF16", "compress", "([CI[BII)I"⟩ : MethodName) jdk_52_method_21_code 7 (some .int) :: ws) ({ frames := 0, cells := 0, slots := 0, locals := 0 } : Room)) (fun a U => a = #[(.ref aq), (.int (0 : Int32)), (.ref ad), (.int (0 : Int32)), (.int (7 : Int32))] ∧ Z.Warmed39 U.vm ∧ U.heap = h0) (fun _ _ _ _ _ => True) (fun _ U o U' => ∃ v L, o = .returned v ∧ Q_ci7 Z aq ad kq kd d0 d1 d2 d3 d4 d5 d6 h0 n0 v U'.heap L ∧ FrameEnd U o U' L ({ frames := 0, cells := 0, slots := 0, locals := 0 } : Room).cells ({ frames := 0, cells := 0, slots := 0, locals := 0 } : Room).slots) := by
  refine MetFree.of_bodySF (plainFor_of_name own_pn_java_lang_StringUTF16) hisR ?_
  intro p e s m args below meth c s₁ Bd hml0 hP hK
  obtain ⟨rfl, hZ, hh⟩ := hP
  have hx := Bd.exec
  have hby := Bd.bytes
  have hml : c.maxLocals = 7 := hml0
  have hown : s.vm.findClass "java/lang/StringUTF16" = some m.cls := findClass_of_methodNamed Bd.named
  have hnm := (name_of_methodNamed Bd.named Bd.method).1
  have hlk := Bd.notSynchronized
  obtain ⟨lc, hlc⟩ : ∃ lc : List Loc, lc = [] := ⟨_, rfl⟩
  have X : Stand p l e ({ frames := 0, cells := 0, slots := 0, locals := 0 } : Room) s m #[(.ref aq), (.int (0 : Int32)), (.ref ad), (.int (0 : Int32)), (.int (7 : Int32))] below meth c s₁ lc 0 0 := hlc ▸ Stand.of_body Bd
  have eT : s₁.heap = h0 := by rw [← hh, Bd.state]; rfl
  have N : Fr n0 lc := hlc ▸ Fr.nil n0
  refine own_enter (ef_ci7 m aq (0 : Int32) ad (0 : Int32) (7 : Int32)) ?_
  obtain ⟨T, hT⟩ : ∃ T : State, T = s₁ := ⟨_, rfl⟩
  rw [← hT] at X eT ⊢
  show own_W p e below (own_Post s (Q_ci7 Z aq ad kq kd d0 d1 d2 d3 d4 d5 d6 h0 n0) 0 0) T m 0 #[.val (.ref aq), .val (.int (0 : Int32)), .val (.ref ad), .val (.int (0 : Int32)), .val (.int (7 : Int32)), .unset, .unset] []
  have Kp : Keep h0 h0 [ad] := Keep.refl _ _
  refine own_iconst X hx (0 : Int32) (hb hby own_d_jdk_52_method_21_code_0) (pc' := 1) rfl rfl ?_
  refine own_istore X hx (hb hby own_d_jdk_52_method_21_code_1) (pc' := 3) rfl (Ls' := #[.val (.ref aq), .val (.int (0 : Int32)), .val (.ref ad), .val (.int (0 : Int32)), .val (.int (7 : Int32)), .val (.int (0 : Int32)), .unset]) rfl ?_
  refine own_iload X hx (hb hby own_d_jdk_52_method_21_code_3) (pc' := 5) rfl rfl ?_
  refine own_iload X hx (hb hby own_d_jdk_52_method_21_code_5) (pc' := 7) rfl rfl ?_
  refine own_icmpN X hx (hb hby own_d_jdk_52_method_21_code_7) (pc' := 10) rfl (show (0 : Int32) < (7 : Int32) from (by decide)) ?_
  refine own_aloadN X hx (hb hby own_d_jdk_52_method_21_code_10) (pc' := 11) rfl rfl rfl ?_
  refine own_iloadN X hx (hb hby own_d_jdk_52_method_21_code_11) (pc' := 12) rfl rfl ?_
  refine own_caload X hx hZ eT A_aq (v := (.int d0)) (by decide) rfl (hb hby own_d_jdk_52_method_21_code_12) (pc' := 13) rfl ?_
  refine own_istore X hx (hb hby own_d_jdk_52_method_21_code_13) (pc' := 15) rfl (Ls' := #[.val (.ref aq), .val (.int (0 : Int32)), .val (.ref ad), .val (.int (0 : Int32)), .val (.int (7 : Int32)), .val (.int (0 : Int32)), .val (.int d0)]) rfl ?_
  refine own_iload X hx (hb hby own_d_jdk_52_method_21_code_15) (pc' := 17) rfl rfl ?_
  refine own_sipush X hx (255 : Int32) (hb hby own_d_jdk_52_method_21_code_17) (pc' := 20) rfl rfl ?_
  refine own_icmpY X hx (hb hby own_d_jdk_52_method_21_code_20) (by decide) (pc' := 26) rfl (show ¬ ((255 : Int32) < d0) from hd0) ?_
  refine own_aloadN X hx (hb hby own_d_jdk_52_method_21_code_26) (pc' := 27) rfl rfl rfl ?_
  refine own_iloadN X hx (hb hby own_d_jdk_52_method_21_code_27) (pc' := 28) rfl rfl ?_
  refine own_iload X hx (hb hby own_d_jdk_52_method_21_code_28) (pc' := 30) rfl rfl ?_
  refine own_i2b X hx (hb hby own_d_jdk_52_method_21_code_30) (pc' := 31) rfl ?_
  refine own_bastoreB X hx hZ eT A_ad (by decide) 0 rfl (by show 0 < 7; decide) (hb hby own_d_jdk_52_method_21_code_31) (pc' := 32) rfl ?_
  intro T h1 lc X eT Kq A_adn fN
  have A_aq := A_aq.keep Kq (ninS nqd nin0)
  have Z0 := Nat.le_trans Z0 Kq.1
  have A_ad := A_adn
  have N := fN _ z_ad N
  have Kp := Kp.trans Kq (allS (P := fun x => x ∈ [ad] ∨ h0.size ≤ x) (Or.inl (List.mem_of_getElem? (i := 0) rfl)) all0)
  have A_ad : Arv Z h1 ad _ .byte (7 : Int32) [(.int (nar .byte d0.toInt8.toInt32)), (.int (0 : Int32)), (.int (0 : Int32)), (.int (0 : Int32)), (.int (0 : Int32)), (.int (0 : Int32)), (.int (0 : Int32))] (.int (0 : Int32)) := A_ad
  refine own_iinc X hx (1 : Int32) (hb hby own_d_jdk_52_method_21_code_32) (pc' := 35) rfl rfl rfl (Ls' := #[.val (.ref aq), .val (.int (1 : Int32)), .val (.ref ad), .val (.int (0 : Int32)), .val (.int (7 : Int32)), .val (.int (0 : Int32)), .val (.int d0)]) rfl ?_
  refine own_iinc X hx (1 : Int32) (hb hby own_d_jdk_52_method_21_code_35) (pc' := 38) rfl rfl rfl (Ls' := #[.val (.ref aq), .val (.int (1 : Int32)), .val (.ref ad), .val (.int (1 : Int32)), .val (.int (7 : Int32)), .val (.int (0 : Int32)), .val (.int d0)]) rfl ?_
  refine own_iinc X hx (1 : Int32) (hb hby own_d_jdk_52_method_21_code_38) (pc' := 41) rfl rfl rfl (Ls' := #[.val (.ref aq), .val (.int (1 : Int32)), .val (.ref ad), .val (.int (1 : Int32)), .val (.int (7 : Int32)), .val (.int (1 : Int32)), .val (.int d0)]) rfl ?_
  refine own_goto X hx (hb hby own_d_jdk_52_method_21_code_41) (by decide) (pc' := 3) rfl ?_
  refine own_iload X hx (hb hby own_d_jdk_52_method_21_code_3) (pc' := 5) rfl rfl ?_
  refine own_iload X hx (hb hby own_d_jdk_52_method_21_code_5) (pc' := 7) rfl rfl ?_
  refine own_icmpN X hx (hb hby own_d_jdk_52_method_21_code_7) (pc' := 10) rfl (show (1 : Int32) < (7 : Int32) from (by decide)) ?_
  refine own_aloadN X hx (hb hby own_d_jdk_52_method_21_code_10) (pc' := 11) rfl rfl rfl ?_
  refine own_iloadN X hx (hb hby own_d_jdk_52_method_21_code_11) (pc' := 12) rfl rfl ?_
  refine own_caload X hx hZ eT A_aq (v := (.int d1)) (by decide) rfl (hb hby own_d_jdk_52_method_21_code_12) (pc' := 13) rfl ?_
  refine own_istore X hx (hb hby own_d_jdk_52_method_21_code_13) (pc' := 15) rfl (Ls' := #[.val (.ref aq), .val (.int (1 : Int32)), .val (.ref ad), .val (.int (1 : Int32)), .val (.int (7 : Int32)), .val (.int (1 : Int32)), .val (.int d1)]) rfl ?_
  refine own_iload X hx (hb hby own_d_jdk_52_method_21_code_15) (pc' := 17) rfl rfl ?_
  refine own_sipush X hx (255 : Int32) (hb hby own_d_jdk_52_method_21_code_17) (pc' := 20) rfl rfl ?_
  refine own_icmpY X hx (hb hby own_d_jdk_52_method_21_code_20) (by decide) (pc' := 26) rfl (show ¬ ((255 : Int32) < d1) from hd1) ?_
  refine own_aloadN X hx (hb hby own_d_jdk_52_method_21_code_26) (pc' := 27) rfl rfl rfl ?_
  refine own_iloadN X hx (hb hby own_d_jdk_52_method_21_code_27) (pc' := 28) rfl rfl ?_
  refine own_iload X hx (hb hby own_d_jdk_52_method_21_code_28) (pc' := 30) rfl rfl ?_
  refine own_i2b X hx (hb hby own_d_jdk_52_method_21_code_30) (pc' := 31) rfl ?_
  refine own_bastoreB X hx hZ eT A_ad (by decide) 1 rfl (by show 1 < 7; decide) (hb hby own_d_jdk_52_method_21_code_31) (pc' := 32) rfl ?_
  intro T h2 lc X eT Kq A_adn fN
  have A_aq := A_aq.keep Kq (ninS nqd nin0)
  have Z0 := Nat.le_trans Z0 Kq.1
  have A_ad := A_adn
  have N := fN _ z_ad N
  have Kp := Kp.trans Kq (allS (P := fun x => x ∈ [ad] ∨ h0.size ≤ x) (Or.inl (List.mem_of_getElem? (i := 0) rfl)) all0)
  have A_ad : Arv Z h2 ad _ .byte (7 : Int32) [(.int (nar .byte d0.toInt8.toInt32)), (.int (nar .byte d1.toInt8.toInt32)), (.int (0 : Int32)), (.int (0 : Int32)), (.int (0 : Int32)), (.int (0 : Int32)), (.int (0 : Int32))] (.int (0 : Int32)) := A_ad
  refine own_iinc X hx (1 : Int32) (hb hby own_d_jdk_52_method_21_code_32) (pc' := 35) rfl rfl rfl (Ls' := #[.val (.ref aq), .val (.int (2 : Int32)), .val (.ref ad), .val (.int (1 : Int32)), .val (.int (7 : Int32)), .val (.int (1 : Int32)), .val (.int d1)]) rfl ?_
  refine own_iinc X hx (1 : Int32) (hb hby own_d_jdk_52_method_21_code_35) (pc' := 38) rfl rfl rfl (Ls' := #[.val (.ref aq), .val (.int (2 : Int32)), .val (.ref ad), .val (.int (2 : Int32)), .val (.int (7 : Int32)), .val (.int (1 : Int32)), .val (.int d1)]) rfl ?_
  refine own_iinc X hx (1 : Int32) (hb hby own_d_jdk_52_method_21_code_38) (pc' := 41) rfl rfl rfl (Ls' := #[.val (.ref aq), .val (.int (2 : Int32)), .val (.ref ad), .val (.int (2 : Int32)), .val (.int (7 : Int32)), .val (.int (2 : Int32)), .val (.int d1)]) rfl ?_
  refine own_goto X hx (hb hby own_d_jdk_52_method_21_code_41) (by decide) (pc' := 3) rfl ?_
  refine own_iload X hx (hb hby own_d_jdk_52_method_21_code_3) (pc' := 5) rfl rfl ?_
  refine own_iload X hx (hb hby own_d_jdk_52_method_21_code_5) (pc' := 7) rfl rfl ?_
  refine own_icmpN X hx (hb hby own_d_jdk_52_method_21_code_7) (pc' := 10) rfl (show (2 : Int32) < (7 : Int32) from (by decide)) ?_
  refine own_aloadN X hx (hb hby own_d_jdk_52_method_21_code_10) (pc' := 11) rfl rfl rfl ?_
  refine own_iloadN X hx (hb hby own_d_jdk_52_method_21_code_11) (pc' := 12) rfl rfl ?_
  refine own_caload X hx hZ eT A_aq (v := (.int d2)) (by decide) rfl (hb hby own_d_jdk_52_method_21_code_12) (pc' := 13) rfl ?_
  refine own_istore X hx (hb hby own_d_jdk_52_method_21_code_13) (pc' := 15) rfl (Ls' := #[.val (.ref aq), .val (.int (2 : Int32)), .val (.ref ad), .val (.int (2 : Int32)), .val (.int (7 : Int32)), .val (.int (2 : Int32)), .val (.int d2)]) rfl ?_
  refine own_iload X hx (hb hby own_d_jdk_52_method_21_code_15) (pc' := 17) rfl rfl ?_
  refine own_sipush X hx (255 : Int32) (hb hby own_d_jdk_52_method_21_code_17) (pc' := 20) rfl rfl ?_
  refine own_icmpY X hx (hb hby own_d_jdk_52_method_21_code_20) (by decide) (pc' := 26) rfl (show ¬ ((255 : Int32) < d2) from hd2) ?_
  refine own_aloadN X hx (hb hby own_d_jdk_52_method_21_code_26) (pc' := 27) rfl rfl rfl ?_
  refine own_iloadN X hx (hb hby own_d_jdk_52_method_21_code_27) (pc' := 28) rfl rfl ?_
  refine own_iload X hx (hb hby own_d_jdk_52_method_21_code_28) (pc' := 30) rfl rfl ?_
  refine own_i2b X hx (hb hby own_d_jdk_52_method_21_code_30) (pc' := 31) rfl ?_
  refine own_bastoreB X hx hZ eT A_ad (by decide) 2 rfl (by show 2 < 7; decide) (hb hby own_d_jdk_52_method_21_code_31) (pc' := 32) rfl ?_
  intro T h3 lc X eT Kq A_adn fN
  have A_aq := A_aq.keep Kq (ninS nqd nin0)
  have Z0 := Nat.le_trans Z0 Kq.1
  have A_ad := A_adn
  have N := fN _ z_ad N
  have Kp := Kp.trans Kq (allS (P := fun x => x ∈ [ad] ∨ h0.size ≤ x) (Or.inl (List.mem_of_getElem? (i := 0) rfl)) all0)
  have A_ad : Arv Z h3 ad _ .byte (7 : Int32) [(.int (nar .byte d0.toInt8.toInt32)), (.int (nar .byte d1.toInt8.toInt32)), (.int (nar .byte d2.toInt8.toInt32)), (.int (0 : Int32)), (.int (0 : Int32)), (.int (0 : Int32)), (.int (0 : Int32))] (.int (0 : Int32)) := A_ad
  refine own_iinc X hx (1 : Int32) (hb hby own_d_jdk_52_method_21_code_32) (pc' := 35) rfl rfl rfl (Ls' := #[.val (.ref aq), .val (.int (3 : Int32)), .val (.ref ad), .val (.int (2 : Int32)), .val (.int (7 : Int32)), .val (.int (2 : Int32)), .val (.int d2)]) rfl ?_
  refine own_iinc X hx (1 : Int32) (hb hby own_d_jdk_52_method_21_code_35) (pc' := 38) rfl rfl rfl (Ls' := #[.val (.ref aq), .val (.int (3 : Int32)), .val (.ref ad), .val (.int (3 : Int32)), .val (.int (7 : Int32)), .val (.int (2 : Int32)), .val (.int d2)]) rfl ?_
  refine own_iinc X hx (1 : Int32) (hb hby own_d_jdk_52_method_21_code_38) (pc' := 41) rfl rfl rfl (Ls' := #[.val (.ref aq), .val (.int (3 : Int32)), .val (.ref ad), .val (.int (3 : Int32)), .val (.int (7 : Int32)), .val (.int (3 : Int32)), .val (.int d2)]) rfl ?_
  refine own_goto X hx (hb hby own_d_jdk_52_method_21_code_41) (by decide) (pc' := 3) rfl ?_
  refine own_iload X hx (hb hby own_d_jdk_52_method_21_code_3) (pc' := 5) rfl rfl ?_
  refine own_iload X hx (hb hby own_d_jdk_52_method_21_code_5) (pc' := 7) rfl rfl ?_
  refine own_icmpN X hx (hb hby own_d_jdk_52_method_21_code_7) (pc' := 10) rfl (show (3 : Int32) < (7 : Int32) from (by decide)) ?_
  refine own_aloadN X hx (hb hby own_d_jdk_52_method_21_code_10) (pc' := 11) rfl rfl rfl ?_
  refine own_iloadN X hx (hb hby own_d_jdk_52_method_21_code_11) (pc' := 12) rfl rfl ?_
  refine own_caload X hx hZ eT A_aq (v := (.int d3)) (by decide) rfl (hb hby own_d_jdk_52_method_21_code_12) (pc' := 13) rfl ?_
  refine own_istore X hx (hb hby own_d_jdk_52_method_21_code_13) (pc' := 15) rfl (Ls' := #[.val (.ref aq), .val (.int (3 : Int32)), .val (.ref ad), .val (.int (3 : Int32)), .val (.int (7 : Int32)), .val (.int (3 : Int32)), .val (.int d3)]) rfl ?_
  refine own_iload X hx (hb hby own_d_jdk_52_method_21_code_15) (pc' := 17) rfl rfl ?_
  refine own_sipush X hx (255 : Int32) (hb hby own_d_jdk_52_method_21_code_17) (pc' := 20) rfl rfl ?_
  refine own_icmpY X hx (hb hby own_d_jdk_52_method_21_code_20) (by decide) (pc' := 26) rfl (show ¬ ((255 : Int32) < d3) from hd3) ?_
  refine own_aloadN X hx (hb hby own_d_jdk_52_method_21_code_26) (pc' := 27) rfl rfl rfl ?_
  refine own_iloadN X hx (hb hby own_d_jdk_52_method_21_code_27) (pc' := 28) rfl rfl ?_
  refine own_iload X hx (hb hby own_d_jdk_52_method_21_code_28) (pc' := 30) rfl rfl ?_
  refine own_i2b X hx (hb hby own_d_jdk_52_method_21_code_30) (pc' := 31) rfl ?_
  refine own_bastoreB X hx hZ eT A_ad (by decide) 3 rfl (by show 3 < 7; decide) (hb hby own_d_jdk_52_method_21_code_31) (pc' := 32) rfl ?_
  intro T h4 lc X eT Kq A_adn fN
  have A_aq := A_aq.keep Kq (ninS nqd nin0)
  have Z0 := Nat.le_trans Z0 Kq.1
  have A_ad := A_adn
  have N := fN _ z_ad N
  have Kp := Kp.trans Kq (allS (P := fun x => x ∈ [ad] ∨ h0.size ≤ x) (Or.inl (List.mem_of_getElem? (i := 0) rfl)) all0)
  have A_ad : Arv Z h4 ad _ .byte (7 : Int32) [(.int (nar .byte d0.toInt8.toInt32)), (.int (nar .byte d1.toInt8.toInt32)), (.int (nar .byte d2.toInt8.toInt32)), (.int (nar .byte d3.toInt8.toInt32)), (.int (0 : Int32)), (.int (0 : Int32)), (.int (0 : Int32))] (.int (0 : Int32)) := A_ad
  refine own_iinc X hx (1 : Int32) (hb hby own_d_jdk_52_method_21_code_32) (pc' := 35) rfl rfl rfl (Ls' := #[.val (.ref aq), .val (.int (4 : Int32)), .val (.ref ad), .val (.int (3 : Int32)), .val (.int (7 : Int32)), .val (.int (3 : Int32)), .val (.int d3)]) rfl ?_
  refine own_iinc X hx (1 : Int32) (hb hby own_d_jdk_52_method_21_code_35) (pc' := 38) rfl rfl rfl (Ls' := #[.val (.ref aq), .val (.int (4 : Int32)), .val (.ref ad), .val (.int (4 : Int32)), .val (.int (7 : Int32)), .val (.int (3 : Int32)), .val (.int d3)]) rfl ?_
  refine own_iinc X hx (1 : Int32) (hb hby own_d_jdk_52_method_21_code_38) (pc' := 41) rfl rfl rfl (Ls' := #[.val (.ref aq), .val (.int (4 : Int32)), .val (.ref ad), .val (.int (4 : Int32)), .val (.int (7 : Int32)), .val (.int (4 : Int32)), .val (.int d3)]) rfl ?_
  refine own_goto X hx (hb hby own_d_jdk_52_method_21_code_41) (by decide) (pc' := 3) rfl ?_
  refine own_iload X hx (hb hby own_d_jdk_52_method_21_code_3) (pc' := 5) rfl rfl ?_
  refine own_iload X hx (hb hby own_d_jdk_52_method_21_code_5) (pc' := 7) rfl rfl ?_
  refine own_icmpN X hx (hb hby own_d_jdk_52_method_21_code_7) (pc' := 10) rfl (show (4 : Int32) < (7 : Int32) from (by decide)) ?_
  refine own_aloadN X hx (hb hby own_d_jdk_52_method_21_code_10) (pc' := 11) rfl rfl rfl ?_
  refine own_iloadN X hx (hb hby own_d_jdk_52_method_21_code_11) (pc' := 12) rfl rfl ?_
  refine own_caload X hx hZ eT A_aq (v := (.int d4)) (by decide) rfl (hb hby own_d_jdk_52_method_21_code_12) (pc' := 13) rfl ?_
  refine own_istore X hx (hb hby own_d_jdk_52_method_21_code_13) (pc' := 15) rfl (Ls' := #[.val (.ref aq), .val (.int (4 : Int32)), .val (.ref ad), .val (.int (4 : Int32)), .val (.int (7 : Int32)), .val (.int (4 : Int32)), .val (.int d4)]) rfl ?_
  refine own_iload X hx (hb hby own_d_jdk_52_method_21_code_15) (pc' := 17) rfl rfl ?_
  refine own_sipush X hx (255 : Int32) (hb hby own_d_jdk_52_method_21_code_17) (pc' := 20) rfl rfl ?_
  refine own_icmpY X hx (hb hby own_d_jdk_52_method_21_code_20) (by decide) (pc' := 26) rfl (show ¬ ((255 : Int32) < d4) from hd4) ?_
  refine own_aloadN X hx (hb hby own_d_jdk_52_method_21_code_26) (pc' := 27) rfl rfl rfl ?_
  refine own_iloadN X hx (hb hby own_d_jdk_52_method_21_code_27) (pc' := 28) rfl rfl ?_
  refine own_iload X hx (hb hby own_d_jdk_52_method_21_code_28) (pc' := 30) rfl rfl ?_
  refine own_i2b X hx (hb hby own_d_jdk_52_method_21_code_30) (pc' := 31) rfl ?_
  refine own_bastoreB X hx hZ eT A_ad (by decide) 4 rfl (by show 4 < 7; decide) (hb hby own_d_jdk_52_method_21_code_31) (pc' := 32) rfl ?_
  intro T h5 lc X eT Kq A_adn fN
  have A_aq := A_aq.keep Kq (ninS nqd nin0)
  have Z0 := Nat.le_trans Z0 Kq.1
  have A_ad := A_adn
  have N := fN _ z_ad N
  have Kp := Kp.trans Kq (allS (P := fun x => x ∈ [ad] ∨ h0.size ≤ x) (Or.inl (List.mem_of_getElem? (i := 0) rfl)) all0)
  have A_ad : Arv Z h5 ad _ .byte (7 : Int32) [(.int (nar .byte d0.toInt8.toInt32)), (.int (nar .byte d1.toInt8.toInt32)), (.int (nar .byte d2.toInt8.toInt32)), (.int (nar .byte d3.toInt8.toInt32)), (.int (nar .byte d4.toInt8.toInt32)), (.int (0 : Int32)), (.int (0 : Int32))] (.int (0 : Int32)) := A_ad
  refine own_iinc X hx (1 : Int32) (hb hby own_d_jdk_52_method_21_code_32) (pc' := 35) rfl rfl rfl (Ls' := #[.val (.ref aq), .val (.int (5 : Int32)), .val (.ref ad), .val (.int (4 : Int32)), .val (.int (7 : Int32)), .val (.int (4 : Int32)), .val (.int d4)]) rfl ?_
  refine own_iinc X hx (1 : Int32) (hb hby own_d_jdk_52_method_21_code_35) (pc' := 38) rfl rfl rfl (Ls' := #[.val (.ref aq), .val (.int (5 : Int32)), .val (.ref ad), .val (.int (5 : Int32)), .val (.int (7 : Int32)), .val (.int (4 : Int32)), .val (.int d4)]) rfl ?_
  refine own_iinc X hx (1 : Int32) (hb hby own_d_jdk_52_method_21_code_38) (pc' := 41) rfl rfl rfl (Ls' := #[.val (.ref aq), .val (.int (5 : Int32)), .val (.ref ad), .val (.int (5 : Int32)), .val (.int (7 : Int32)), .val (.int (5 : Int32)), .val (.int d4)]) rfl ?_
  refine own_goto X hx (hb hby own_d_jdk_52_method_21_code_41) (by decide) (pc' := 3) rfl ?_
  refine own_iload X hx (hb hby own_d_jdk_52_method_21_code_3) (pc' := 5) rfl rfl ?_
  refine own_iload X hx (hb hby own_d_jdk_52_method_21_code_5) (pc' := 7) rfl rfl ?_
  refine own_icmpN X hx (hb hby own_d_jdk_52_method_21_code_7) (pc' := 10) rfl (show (5 : Int32) < (7 : Int32) from (by decide)) ?_
  refine own_aloadN X hx (hb hby own_d_jdk_52_method_21_code_10) (pc' := 11) rfl rfl rfl ?_
  refine own_iloadN X hx (hb hby own_d_jdk_52_method_21_code_11) (pc' := 12) rfl rfl ?_
  refine own_caload X hx hZ eT A_aq (v := (.int d5)) (by decide) rfl (hb hby own_d_jdk_52_method_21_code_12) (pc' := 13) rfl ?_
  refine own_istore X hx (hb hby own_d_jdk_52_method_21_code_13) (pc' := 15) rfl (Ls' := #[.val (.ref aq), .val (.int (5 : Int32)), .val (.ref ad), .val (.int (5 : Int32)), .val (.int (7 : Int32)), .val (.int (5 : Int32)), .val (.int d5)]) rfl ?_
  refine own_iload X hx (hb hby own_d_jdk_52_method_21_code_15) (pc' := 17) rfl rfl ?_
  refine own_sipush X hx (255 : Int32) (hb hby own_d_jdk_52_method_21_code_17) (pc' := 20) rfl rfl ?_
  refine own_icmpY X hx (hb hby own_d_jdk_52_method_21_code_20) (by decide) (pc' := 26) rfl (show ¬ ((255 : Int32) < d5) from hd5) ?_
  refine own_aloadN X hx (hb hby own_d_jdk_52_method_21_code_26) (pc' := 27) rfl rfl rfl ?_
  refine own_iloadN X hx (hb hby own_d_jdk_52_method_21_code_27) (pc' := 28) rfl rfl ?_
  refine own_iload X hx (hb hby own_d_jdk_52_method_21_code_28) (pc' := 30) rfl rfl ?_
  refine own_i2b X hx (hb hby own_d_jdk_52_method_21_code_30) (pc' := 31) rfl ?_
  refine own_bastoreB X hx hZ eT A_ad (by decide) 5 rfl (by show 5 < 7; decide) (hb hby own_d_jdk_52_method_21_code_31) (pc' := 32) rfl ?_
  intro T h6 lc X eT Kq A_adn fN
  have A_aq := A_aq.keep Kq (ninS nqd nin0)
  have Z0 := Nat.le_trans Z0 Kq.1
  have A_ad := A_adn
  have N := fN _ z_ad N
  have Kp := Kp.trans Kq (allS (P := fun x => x ∈ [ad] ∨ h0.size ≤ x) (Or.inl (List.mem_of_getElem? (i := 0) rfl)) all0)
  have A_ad : Arv Z h6 ad _ .byte (7 : Int32) [(.int (nar .byte d0.toInt8.toInt32)), (.int (nar .byte d1.toInt8.toInt32)), (.int (nar .byte d2.toInt8.toInt32)), (.int (nar .byte d3.toInt8.toInt32)), (.int (nar .byte d4.toInt8.toInt32)), (.int (nar .byte d5.toInt8.toInt32)), (.int (0 : Int32))] (.int (0 : Int32)) := A_ad
  refine own_iinc X hx (1 : Int32) (hb hby own_d_jdk_52_method_21_code_32) (pc' := 35) rfl rfl rfl (Ls' := #[.val (.ref aq), .val (.int (6 : Int32)), .val (.ref ad), .val (.int (5 : Int32)), .val (.int (7 : Int32)), .val (.int (5 : Int32)), .val (.int d5)]) rfl ?_
  refine own_iinc X hx (1 : Int32) (hb hby own_d_jdk_52_method_21_code_35) (pc' := 38) rfl rfl rfl (Ls' := #[.val (.ref aq), .val (.int (6 : Int32)), .val (.ref ad), .val (.int (6 : Int32)), .val (.int (7 : Int32)), .val (.int (5 : Int32)), .val (.int d5)]) rfl ?_
  refine own_iinc X hx (1 : Int32) (hb hby own_d_jdk_52_method_21_code_38) (pc' := 41) rfl rfl rfl (Ls' := #[.val (.ref aq), .val (.int (6 : Int32)), .val (.ref ad), .val (.int (6 : Int32)), .val (.int (7 : Int32)), .val (.int (6 : Int32)), .val (.int d5)]) rfl ?_
  refine own_goto X hx (hb hby own_d_jdk_52_method_21_code_41) (by decide) (pc' := 3) rfl ?_
  refine own_iload X hx (hb hby own_d_jdk_52_method_21_code_3) (pc' := 5) rfl rfl ?_
  refine own_iload X hx (hb hby own_d_jdk_52_method_21_code_5) (pc' := 7) rfl rfl ?_
  refine own_icmpN X hx (hb hby own_d_jdk_52_method_21_code_7) (pc' := 10) rfl (show (6 : Int32) < (7 : Int32) from (by decide)) ?_
  refine own_aloadN X hx (hb hby own_d_jdk_52_method_21_code_10) (pc' := 11) rfl rfl rfl ?_
  refine own_iloadN X hx (hb hby own_d_jdk_52_method_21_code_11) (pc' := 12) rfl rfl ?_
  refine own_caload X hx hZ eT A_aq (v := (.int d6)) (by decide) rfl (hb hby own_d_jdk_52_method_21_code_12) (pc' := 13) rfl ?_
  refine own_istore X hx (hb hby own_d_jdk_52_method_21_code_13) (pc' := 15) rfl (Ls' := #[.val (.ref aq), .val (.int (6 : Int32)), .val (.ref ad), .val (.int (6 : Int32)), .val (.int (7 : Int32)), .val (.int (6 : Int32)), .val (.int d6)]) rfl ?_
  refine own_iload X hx (hb hby own_d_jdk_52_method_21_code_15) (pc' := 17) rfl rfl ?_
  refine own_sipush X hx (255 : Int32) (hb hby own_d_jdk_52_method_21_code_17) (pc' := 20) rfl rfl ?_
  refine own_icmpY X hx (hb hby own_d_jdk_52_method_21_code_20) (by decide) (pc' := 26) rfl (show ¬ ((255 : Int32) < d6) from hd6) ?_
  refine own_aloadN X hx (hb hby own_d_jdk_52_method_21_code_26) (pc' := 27) rfl rfl rfl ?_
  refine own_iloadN X hx (hb hby own_d_jdk_52_method_21_code_27) (pc' := 28) rfl rfl ?_
  refine own_iload X hx (hb hby own_d_jdk_52_method_21_code_28) (pc' := 30) rfl rfl ?_
  refine own_i2b X hx (hb hby own_d_jdk_52_method_21_code_30) (pc' := 31) rfl ?_
  refine own_bastoreB X hx hZ eT A_ad (by decide) 6 rfl (by show 6 < 7; decide) (hb hby own_d_jdk_52_method_21_code_31) (pc' := 32) rfl ?_
  intro T h7 lc X eT Kq A_adn fN
  have A_aq := A_aq.keep Kq (ninS nqd nin0)
  have Z0 := Nat.le_trans Z0 Kq.1
  have A_ad := A_adn
  have N := fN _ z_ad N
  have Kp := Kp.trans Kq (allS (P := fun x => x ∈ [ad] ∨ h0.size ≤ x) (Or.inl (List.mem_of_getElem? (i := 0) rfl)) all0)
  have A_ad : Arv Z h7 ad _ .byte (7 : Int32) [(.int (nar .byte d0.toInt8.toInt32)), (.int (nar .byte d1.toInt8.toInt32)), (.int (nar .byte d2.toInt8.toInt32)), (.int (nar .byte d3.toInt8.toInt32)), (.int (nar .byte d4.toInt8.toInt32)), (.int (nar .byte d5.toInt8.toInt32)), (.int (nar .byte d6.toInt8.toInt32))] (.int (0 : Int32)) := A_ad
  refine own_iinc X hx (1 : Int32) (hb hby own_d_jdk_52_method_21_code_32) (pc' := 35) rfl rfl rfl (Ls' := #[.val (.ref aq), .val (.int (7 : Int32)), .val (.ref ad), .val (.int (6 : Int32)), .val (.int (7 : Int32)), .val (.int (6 : Int32)), .val (.int d6)]) rfl ?_
  refine own_iinc X hx (1 : Int32) (hb hby own_d_jdk_52_method_21_code_35) (pc' := 38) rfl rfl rfl (Ls' := #[.val (.ref aq), .val (.int (7 : Int32)), .val (.ref ad), .val (.int (7 : Int32)), .val (.int (7 : Int32)), .val (.int (6 : Int32)), .val (.int d6)]) rfl ?_
  refine own_iinc X hx (1 : Int32) (hb hby own_d_jdk_52_method_21_code_38) (pc' := 41) rfl rfl rfl (Ls' := #[.val (.ref aq), .val (.int (7 : Int32)), .val (.ref ad), .val (.int (7 : Int32)), .val (.int (7 : Int32)), .val (.int (7 : Int32)), .val (.int d6)]) rfl ?_
  refine own_goto X hx (hb hby own_d_jdk_52_method_21_code_41) (by decide) (pc' := 3) rfl ?_
  refine own_iload X hx (hb hby own_d_jdk_52_method_21_code_3) (pc' := 5) rfl rfl ?_
  refine own_iload X hx (hb hby own_d_jdk_52_method_21_code_5) (pc' := 7) rfl rfl ?_
  refine own_icmpY X hx (hb hby own_d_jdk_52_method_21_code_7) (by decide) (pc' := 44) rfl (show ¬ ((7 : Int32) < (7 : Int32)) from (by decide)) ?_
  refine own_iload X hx (hb hby own_d_jdk_52_method_21_code_44) (pc' := 46) rfl rfl ?_
  refine own_retI X hx hlk (t := .int) (w' := (.int (7 : Int32))) Bd.returns (hb hby own_d_jdk_52_method_21_code_46) rfl rfl (by simp) (by decide) (by decide) ?_
  rw [eT]
  exact ⟨rfl, N, Kp, A_ad⟩
theorem ef_cc7 (m : MethodId) (x0 : Addr) (x1 : Int32) (x2 : Int32) : entryFrame m #[(.ref x0), (.int x1), (.int x2)] 6 = mkF m 0 #[.val (.ref x0), .val (.int x1), .val (.int x2), .unset, .unset, .unset] [] := by first | (simp [entryFrame, mkF, argsToLocals, Value.category]; done) | rfl
def Q_cc7 (Z : State) (aq : Addr) (kq : ClassId) (d0 d1 d2 d3 d4 d5 d6 : Int32) (h0 : Heap) (n0 : Nat) (v : Option Value) (h : Heap) (L : List Loc) : Prop := ∃ (b : Addr) (kb : ClassId), v = some (.ref b) ∧ Fr n0 L ∧ Keep h0 h [] ∧ h0.size ≤ b ∧ Arv Z h b kb .byte (7 : Int32) [(.int (nar .byte d0.toInt8.toInt32)), (.int (nar .byte d1.toInt8.toInt32)), (.int (nar .byte d2.toInt8.toInt32)), (.int (nar .byte d3.toInt8.toInt32)), (.int (nar .byte d4.toInt8.toInt32)), (.int (nar .byte d5.toInt8.toInt32)), (.int (nar .byte d6.toInt8.toInt32))] (.int (0 : Int32))
set_option maxRecDepth 65536 in
set_option maxHeartbeats 40000000 in
theorem rm_cc7 (l : Launch) (Z : State) (a0 : Array Value) (hw : ∀ d ∈ tables_1, d.before a0 Z = true) (ws : List Jvm.Cond) (aq : Addr) (kq : ClassId) (d0 d1 d2 d3 d4 d5 d6 : Int32) (h0 : Heap) (n0 : Nat) (Z0 : n0 ≤ h0.size) (A_aq : Arv Z h0 aq kq .char (7 : Int32) [(.int d0), (.int d1), (.int d2), (.int d3), (.int d4), (.int d5), (.int d6)] (.int (0 : Int32))) (hd0 : ¬ ((255 : Int32) < d0)) (hd1 : ¬ ((255 : Int32) < d1)) (hd2 : ¬ ((255 : Int32) < d2)) (hd3 : ¬ ((255 : Int32) < d3)) (hd4 : ¬ ((255 : Int32) < d4)) (hd5 : ¬ ((255 : Int32) < d5)) (hd6 : ¬ ((255 : Int32) < d6)) :
    MetFree l (⟨"java/lang/StringUTF16", "compress", "([CII)[B"⟩ : MethodName) (head1 (Jvm.Cond.code (⟨"java/lang/StringUTF16", "compress", "([CII)[B"⟩ : MethodName) jdk_52_method_16_code 6 (some (.array .byte)) :: ws) ({ frames := 1, cells := 1, slots := 7, locals := 18 } : Room)) (fun a U => a = #[(.ref aq), (.int (0 : Int32)), (.int (7 : Int32))] ∧ Z.Warmed39 U.vm ∧ U.heap = h0) (fun _ _ _ _ _ => True) (fun _ U o U' => ∃ v L, o = .returned v ∧ Q_cc7 Z aq kq d0 d1 d2 d3 d4 d5 d6 h0 n0 v U'.heap L ∧ FrameEnd U o U' L ({ frames := 1, cells := 1, slots := 7, locals := 18 } : Room).cells ({ frames := 1, cells := 1, slots := 7, locals := 18 } : Room).slots) := by
  refine MetFree.of_bodySF (plainFor_of_name own_pn_java_lang_StringUTF16) hisR ?_
  intro p e s m args below meth c s₁ Bd hml0 hP hK
  obtain ⟨rfl, hZ, hh⟩ := hP
  have hx := Bd.exec
  have hby := Bd.bytes
  have hml : c.maxLocals = 6 := hml0
  have hown : s.vm.findClass "java/lang/StringUTF16" = some m.cls := findClass_of_methodNamed Bd.named
  have hnm := (name_of_methodNamed Bd.named Bd.method).1
  have hlk := Bd.notSynchronized
  obtain ⟨lc, hlc⟩ : ∃ lc : List Loc, lc = [] := ⟨_, rfl⟩
  have X : Stand p l e ({ frames := 1, cells := 1, slots := 7, locals := 18 } : Room) s m #[(.ref aq), (.int (0 : Int32)), (.int (7 : Int32))] below meth c s₁ lc 0 0 := hlc ▸ Stand.of_body Bd
  have eT : s₁.heap = h0 := by rw [← hh, Bd.state]; rfl
  have N : Fr n0 lc := hlc ▸ Fr.nil n0
  refine own_enter (ef_cc7 m aq (0 : Int32) (7 : Int32)) ?_
  obtain ⟨T, hT⟩ : ∃ T : State, T = s₁ := ⟨_, rfl⟩
  rw [← hT] at X eT ⊢
  show own_W p e below (own_Post s (Q_cc7 Z aq kq d0 d1 d2 d3 d4 d5 d6 h0 n0) 1 7) T m 0 #[.val (.ref aq), .val (.int (0 : Int32)), .val (.int (7 : Int32)), .unset, .unset, .unset] []
  have Kp : Keep h0 h0 [] := Keep.refl _ _
  refine own_iloadN X hx (hb hby own_d_jdk_52_method_16_code_0) (pc' := 1) rfl rfl ?_
  refine own_newarr X hx hZ (own_w hw 29 rfl) eT (hb hby own_d_jdk_52_method_16_code_1) (pc' := 3) rfl (by decide) 7 (by decide) (by decide) (cells' := 1) (slots' := 7) rfl rfl (by decide) (by decide) ?_
  intro T h1 k_b1 b1 X eT E gb1 A_b1
  have lt_aq_b1 : aq < b1 := Nat.lt_of_lt_of_le A_aq.lt (Nat.le_of_eq gb1.symm)
  have ne_aq_b1 : aq ≠ b1 := Nat.ne_of_lt lt_aq_b1
  have z_b1 : n0 ≤ b1 := Nat.le_trans Z0 (Nat.le_of_eq gb1.symm)
  have s_b1 : h0.size ≤ b1 := Nat.le_trans Kp.1 (Nat.le_of_eq gb1.symm)
  have A_aq := A_aq.ext E
  have Z0 := Nat.le_trans Z0 E.1
  have Kp := Kp.ext E
  have A_b1 : Arv Z h1 b1 k_b1 .byte (7 : Int32) [(.int (0 : Int32)), (.int (0 : Int32)), (.int (0 : Int32)), (.int (0 : Int32)), (.int (0 : Int32)), (.int (0 : Int32)), (.int (0 : Int32))] (.int (0 : Int32)) := A_b1.pad (pad_rep [] (.int (0 : Int32)) 7)
  refine own_astoreN X hx (hb hby own_d_jdk_52_method_16_code_3) (pc' := 4) rfl rfl (Ls' := #[.val (.ref aq), .val (.int (0 : Int32)), .val (.int (7 : Int32)), .val (.ref b1), .unset, .unset]) rfl ?_
  refine own_aloadN X hx (hb hby own_d_jdk_52_method_16_code_4) (pc' := 5) rfl rfl rfl ?_
  refine own_iloadN X hx (hb hby own_d_jdk_52_method_16_code_5) (pc' := 6) rfl rfl ?_
  refine own_aloadN X hx (hb hby own_d_jdk_52_method_16_code_6) (pc' := 7) rfl rfl rfl ?_
  refine own_iconst X hx (0 : Int32) (hb hby own_d_jdk_52_method_16_code_7) (pc' := 8) rfl rfl ?_
  refine own_iloadN X hx (hb hby own_d_jdk_52_method_16_code_8) (pc' := 9) rfl rfl ?_
  refine own_callS X hx hZ [(.ref aq), (.int (0 : Int32)), (.ref b1), (.int (0 : Int32)), (.int (7 : Int32))] hown (own_w hw 57 rfl) (own_w hw 58 rfl) (own_w hw 55 rfl) (own_w hw 59 rfl) (by decide) (rm_ci7 l Z a0 hw [] aq b1 _ _ d0 d1 d2 d3 d4 d5 d6 h1 n0 Z0 A_aq A_b1 ne_aq_b1 hd0 hd1 hd2 hd3 hd4 hd5 hd6 z_b1) eT (W := 0) (by decide) (by decide) (cells' := 1) (slots' := 7) rfl rfl (by decide) (by decide) (by rw [hml]; rfl) (lenOf own_pd_285bCI5bBII29I rfl) rfl (S := []) rfl (Nat.le_of_eq rfl) (hb hby own_d_jdk_52_method_16_code_9) (pc' := 12) rfl ?_
  intro v T h2 L lc X eT hq fN
  obtain ⟨rfl, Nq, Kq, B_b1⟩ := hq
  have N := fN _ N Nq
  have A_aq := A_aq.keep Kq (ninS ne_aq_b1 nin0)
  have Z0 := Nat.le_trans Z0 Kq.1
  have Kp := Kp.trans Kq (allS (P := fun x => x ∈ ([] : List Addr) ∨ h0.size ≤ x) (Or.inr s_b1) all0)
  show own_W p e below (own_Post s (Q_cc7 Z aq kq d0 d1 d2 d3 d4 d5 d6 h0 n0) 1 7) T m 12 #[.val (.ref aq), .val (.int (0 : Int32)), .val (.int (7 : Int32)), .val (.ref b1), .unset, .unset] [(.int (7 : Int32))]
  refine own_istore X hx (hb hby own_d_jdk_52_method_16_code_12) (pc' := 14) rfl (Ls' := #[.val (.ref aq), .val (.int (0 : Int32)), .val (.int (7 : Int32)), .val (.ref b1), .val (.int (7 : Int32)), .unset]) rfl ?_
  refine own_iload X hx (hb hby own_d_jdk_52_method_16_code_14) (pc' := 16) rfl rfl ?_
  refine own_iloadN X hx (hb hby own_d_jdk_52_method_16_code_16) (pc' := 17) rfl rfl ?_
  refine own_icmpY X hx (hb hby own_d_jdk_52_method_16_code_17) (by decide) (pc' := 57) rfl (show (7 : Int32) = (7 : Int32) from (by decide)) ?_
  refine own_aloadN X hx (hb hby own_d_jdk_52_method_16_code_57) (pc' := 58) rfl rfl rfl ?_
  refine own_retA X hx hlk Bd.returns (hb hby own_d_jdk_52_method_16_code_58) rfl rfl rfl (by decide) (by decide) ?_
  rw [eT]
  exact ⟨_, _, rfl, N, Kp, s_b1, B_b1⟩
theorem ef_cf7 (m : MethodId) (x0 : Addr) (x1 : Int32) : entryFrame m #[(.ref x0), (.int x1)] 2 = mkF m 0 #[.val (.ref x0), .val (.int x1)] [] := by first | (simp [entryFrame, mkF, argsToLocals, Value.category]; done) | rfl
def Q_cf7 (Z : State) (b : Addr) (h0 : Heap) (n0 : Nat) (v : Option Value) (h : Heap) (L : List Loc) : Prop := v = some (.int (0 : Int32)) ∧ Fr n0 L ∧ h = h0
set_option maxRecDepth 65536 in
set_option maxHeartbeats 40000000 in
theorem rm_cf7 (l : Launch) (Z : State) (a0 : Array Value) (hw : ∀ d ∈ tables_1, d.before a0 Z = true) (ws : List Jvm.Cond) (b : Addr) (h0 : Heap) (n0 : Nat) (Z0 : n0 ≤ h0.size) (k : ClassId) (vs : List Value) (A_b : Arv Z h0 b k .byte (7 : Int32) vs (.int (0 : Int32))) :
    MetFree l (⟨"java/lang/StringUTF16", "coderFromArrayLen", "([BI)B"⟩ : MethodName) (head1 (Jvm.Cond.code (⟨"java/lang/StringUTF16", "coderFromArrayLen", "([BI)B"⟩ : MethodName) jdk_52_method_15_code 2 (some .byte) :: ws) ({ frames := 0, cells := 0, slots := 0, locals := 0 } : Room)) (fun a U => a = #[(.ref b), (.int (7 : Int32))] ∧ Z.Warmed39 U.vm ∧ U.heap = h0) (fun _ _ _ _ _ => True) (fun _ U o U' => ∃ v L, o = .returned v ∧ Q_cf7 Z b h0 n0 v U'.heap L ∧ FrameEnd U o U' L ({ frames := 0, cells := 0, slots := 0, locals := 0 } : Room).cells ({ frames := 0, cells := 0, slots := 0, locals := 0 } : Room).slots) := by
  refine MetFree.of_bodySF (plainFor_of_name own_pn_java_lang_StringUTF16) hisR ?_
  intro p e s m args below meth c s₁ Bd hml0 hP hK
  obtain ⟨rfl, hZ, hh⟩ := hP
  have hx := Bd.exec
  have hby := Bd.bytes
  have hml : c.maxLocals = 2 := hml0
  have hown : s.vm.findClass "java/lang/StringUTF16" = some m.cls := findClass_of_methodNamed Bd.named
  have hnm := (name_of_methodNamed Bd.named Bd.method).1
  have hlk := Bd.notSynchronized
  obtain ⟨lc, hlc⟩ : ∃ lc : List Loc, lc = [] := ⟨_, rfl⟩
  have X : Stand p l e ({ frames := 0, cells := 0, slots := 0, locals := 0 } : Room) s m #[(.ref b), (.int (7 : Int32))] below meth c s₁ lc 0 0 := hlc ▸ Stand.of_body Bd
  have eT : s₁.heap = h0 := by rw [← hh, Bd.state]; rfl
  have N : Fr n0 lc := hlc ▸ Fr.nil n0
  refine own_enter (ef_cf7 m b (7 : Int32)) ?_
  obtain ⟨T, hT⟩ : ∃ T : State, T = s₁ := ⟨_, rfl⟩
  rw [← hT] at X eT ⊢
  show own_W p e below (own_Post s (Q_cf7 Z b h0 n0) 0 0) T m 0 #[.val (.ref b), .val (.int (7 : Int32))] []
  refine own_iloadN X hx (hb hby own_d_jdk_52_method_15_code_0) (pc' := 1) rfl rfl ?_
  refine own_aloadN X hx (hb hby own_d_jdk_52_method_15_code_1) (pc' := 2) rfl rfl rfl ?_
  refine own_arrlen X hx hZ eT A_b (hb hby own_d_jdk_52_method_15_code_2) (pc' := 3) rfl ?_
  refine own_isub X hx (hb hby own_d_jdk_52_method_15_code_3) (pc' := 4) rfl ?_
  refine own_bipush X hx (31 : Int32) (hb hby own_d_jdk_52_method_15_code_4) (pc' := 6) rfl rfl ?_
  refine own_iushr X hx (hb hby own_d_jdk_52_method_15_code_6) (pc' := 7) rfl ?_
  refine own_i2b X hx (hb hby own_d_jdk_52_method_15_code_7) (pc' := 8) rfl ?_
  refine own_retI X hx hlk (t := .byte) (w' := (.int (0 : Int32))) Bd.returns (hb hby own_d_jdk_52_method_15_code_8) rfl rfl (by simp) (by decide) (by decide) ?_
  rw [eT]
  exact ⟨rfl, N, rfl⟩
theorem ef_iv7 (m : MethodId) (x0 : Addr) (x1 : Addr) (x2 : Int32) (x3 : Int32) : entryFrame m #[(.ref x0), (.ref x1), (.int x2), (.int x3), .null] 6 = mkF m 0 #[.val (.ref x0), .val (.ref x1), .val (.int x2), .val (.int x3), .val .null, .unset] [] := by first | (simp [entryFrame, mkF, argsToLocals, Value.category]; done) | rfl
def Q_iv7 (Z : State) (a1 aq : Addr) (kq : ClassId) (cs : Int32) (d0 d1 d2 d3 d4 d5 d6 : Int32) (h0 : Heap) (n0 : Nat) (v : Option Value) (h : Heap) (L : List Loc) : Prop := v = none ∧ Fr n0 L ∧ Keep h0 h [a1] ∧ ∃ (b : Addr) (k : ClassId), h0.size ≤ b ∧ Fld Z h a1 "java/lang/String" "coder" "B" (.int (0 : Int32)) ∧ Fld Z h a1 "java/lang/String" "value" "[B" (.ref b) ∧ Arv Z h b k .byte (7 : Int32) [(.int (nar .byte d0.toInt8.toInt32)), (.int (nar .byte d1.toInt8.toInt32)), (.int (nar .byte d2.toInt8.toInt32)), (.int (nar .byte d3.toInt8.toInt32)), (.int (nar .byte d4.toInt8.toInt32)), (.int (nar .byte d5.toInt8.toInt32)), (.int (nar .byte d6.toInt8.toInt32))] (.int (0 : Int32))
set_option maxRecDepth 65536 in
set_option maxHeartbeats 40000000 in
theorem rm_iv7 (l : Launch) (Z : State) (a0 : Array Value) (hw : ∀ d ∈ tables_1, d.before a0 Z = true) (ws : List Jvm.Cond) (a1 aq : Addr) (kq : ClassId) (cs : Int32) (d0 d1 d2 d3 d4 d5 d6 : Int32) (h0 : Heap) (n0 : Nat) (Z0 : n0 ≤ h0.size) (S_C : Sta Z h0 "java/lang/String" "COMPACT_STRINGS" "Z" (.int cs)) (hcs : ¬ cs = 0) (u1 u2 : Value) (E_a1 : Exa Z h0 a1 "java/lang/String") (F_c : Fld Z h0 a1 "java/lang/String" "coder" "B" u1) (F_v : Fld Z h0 a1 "java/lang/String" "value" "[B" u2) (A_aq : Arv Z h0 aq kq .char (7 : Int32) [(.int d0), (.int d1), (.int d2), (.int d3), (.int d4), (.int d5), (.int d6)] (.int (0 : Int32))) (n1q : a1 ≠ aq) (hd0 : ¬ ((255 : Int32) < d0)) (hd1 : ¬ ((255 : Int32) < d1)) (hd2 : ¬ ((255 : Int32) < d2)) (hd3 : ¬ ((255 : Int32) < d3)) (hd4 : ¬ ((255 : Int32) < d4)) (hd5 : ¬ ((255 : Int32) < d5)) (hd6 : ¬ ((255 : Int32) < d6)) (z_a1 : n0 ≤ a1) :
    MetFree l (⟨"java/lang/String", "<init>", "([CIILjava/lang/Void;)V"⟩ : MethodName) (head1 (Jvm.Cond.code (⟨"java/lang/String", "<init>", "([CIILjava/lang/Void;)V"⟩ : MethodName) jdk_42_method_149_code 6 none :: ws) ({ frames := 2, cells := 1, slots := 7, locals := 35 } : Room)) (fun a U => a = #[(.ref a1), (.ref aq), (.int (0 : Int32)), (.int (7 : Int32)), .null] ∧ Z.Warmed39 U.vm ∧ U.heap = h0) (fun _ _ _ _ _ => True) (fun _ U o U' => ∃ v L, o = .returned v ∧ Q_iv7 Z a1 aq kq cs d0 d1 d2 d3 d4 d5 d6 h0 n0 v U'.heap L ∧ FrameEnd U o U' L ({ frames := 2, cells := 1, slots := 7, locals := 35 } : Room).cells ({ frames := 2, cells := 1, slots := 7, locals := 35 } : Room).slots) := by
  refine MetFree.of_bodySF (plainFor_of_name own_pn_java_lang_String) hisR ?_
  intro p e s m args below meth c s₁ Bd hml0 hP hK
  obtain ⟨rfl, hZ, hh⟩ := hP
  have hx := Bd.exec
  have hby := Bd.bytes
  have hml : c.maxLocals = 6 := hml0
  have hown : s.vm.findClass "java/lang/String" = some m.cls := findClass_of_methodNamed Bd.named
  have hnm := (name_of_methodNamed Bd.named Bd.method).1
  have hlk := Bd.notSynchronized
  obtain ⟨lc, hlc⟩ : ∃ lc : List Loc, lc = [] := ⟨_, rfl⟩
  have X : Stand p l e ({ frames := 2, cells := 1, slots := 7, locals := 35 } : Room) s m #[(.ref a1), (.ref aq), (.int (0 : Int32)), (.int (7 : Int32)), .null] below meth c s₁ lc 0 0 := hlc ▸ Stand.of_body Bd
  have eT : s₁.heap = h0 := by rw [← hh, Bd.state]; rfl
  have N : Fr n0 lc := hlc ▸ Fr.nil n0
  refine own_enter (ef_iv7 m a1 aq (0 : Int32) (7 : Int32)) ?_
  obtain ⟨T, hT⟩ : ∃ T : State, T = s₁ := ⟨_, rfl⟩
  rw [← hT] at X eT ⊢
  show own_W p e below (own_Post s (Q_iv7 Z a1 aq kq cs d0 d1 d2 d3 d4 d5 d6 h0 n0) 1 7) T m 0 #[.val (.ref a1), .val (.ref aq), .val (.int (0 : Int32)), .val (.int (7 : Int32)), .val .null, .unset] []
  have Kp : Keep h0 h0 [a1] := Keep.refl _ _
  refine own_aloadN X hx (hb hby own_d_jdk_42_method_149_code_0) (pc' := 1) rfl rfl rfl ?_
  refine own_initO X hx hZ hown (own_w hw 25 rfl) (own_w hw 26 rfl) (own_w hw 27 rfl) eT (by rw [hml]; rfl) (hb hby own_d_jdk_42_method_149_code_1) (pc' := 4) rfl (by decide) (W := 0) (Nat.le_of_eq rfl) (by decide) ?_
  intro T X eT
  refine own_iloadN X hx (hb hby own_d_jdk_42_method_149_code_4) (pc' := 5) rfl rfl ?_
  refine own_ifY X hx (hb hby own_d_jdk_42_method_149_code_5) (by decide) (pc' := 27) rfl (show ¬ ((7 : Int32) = (0 : Int32)) from (by decide)) ?_
  refine own_getS X hx hZ hown (host := "") (Or.inl (own_w hw 47 rfl)) Via.refl eT S_C (hb hby own_d_jdk_42_method_149_code_27) (pc' := 30) rfl ?_
  intro T X eT
  refine own_ifN X hx (hb hby own_d_jdk_42_method_149_code_30) (pc' := 33) rfl (show ¬ (cs = (0 : Int32)) from hcs) ?_
  refine own_aloadN X hx (hb hby own_d_jdk_42_method_149_code_33) (pc' := 34) rfl rfl rfl ?_
  refine own_iloadN X hx (hb hby own_d_jdk_42_method_149_code_34) (pc' := 35) rfl rfl ?_
  refine own_iloadN X hx (hb hby own_d_jdk_42_method_149_code_35) (pc' := 36) rfl rfl ?_
  refine own_callS X hx hZ [(.ref aq), (.int (0 : Int32)), (.int (7 : Int32))] hown (own_w hw 53 rfl) (own_w hw 54 rfl) (own_w hw 55 rfl) (own_w hw 56 rfl) (by decide) (rm_cc7 l Z a0 hw [] aq kq d0 d1 d2 d3 d4 d5 d6 h0 n0 Z0 A_aq hd0 hd1 hd2 hd3 hd4 hd5 hd6) eT (W := 0) (by decide) (by decide) (cells' := 1) (slots' := 7) rfl rfl (by decide) (by decide) (by rw [hml]; rfl) (lenOf own_pd_285bCII295bB rfl) rfl (S := []) rfl (Nat.le_of_eq rfl) (hb hby own_d_jdk_42_method_149_code_36) (pc' := 39) rfl ?_
  intro v T h1 L lc X eT hq fN
  obtain ⟨bb, kb, rfl, Nq, Kq, hbb, A_bb⟩ := hq
  have N := fN _ N Nq
  have lt_a1_bb : a1 < bb := Nat.lt_of_lt_of_le E_a1.lt hbb
  have ne_a1_bb : a1 ≠ bb := Nat.ne_of_lt lt_a1_bb
  have lt_aq_bb : aq < bb := Nat.lt_of_lt_of_le A_aq.lt hbb
  have ne_aq_bb : aq ≠ bb := Nat.ne_of_lt lt_aq_bb
  have z_bb : n0 ≤ bb := Nat.le_trans Z0 hbb
  have s_bb : h0.size ≤ bb := Nat.le_trans Kp.1 hbb
  have S_C := own_sta_keep S_C Kq ns0
  have E_a1 := E_a1.keep Kq
  have F_c := F_c.keep Kq nin0
  have F_v := F_v.keep Kq nin0
  have A_aq := A_aq.keep Kq nin0
  have Z0 := Nat.le_trans Z0 Kq.1
  have Kp := Kp.trans Kq all0
  show own_W p e below (own_Post s (Q_iv7 Z a1 aq kq cs d0 d1 d2 d3 d4 d5 d6 h0 n0) 1 7) T m 39 #[.val (.ref a1), .val (.ref aq), .val (.int (0 : Int32)), .val (.int (7 : Int32)), .val .null, .unset] [(.ref bb)]
  refine own_astore X hx (hb hby own_d_jdk_42_method_149_code_39) (pc' := 41) rfl rfl (Ls' := #[.val (.ref a1), .val (.ref aq), .val (.int (0 : Int32)), .val (.int (7 : Int32)), .val .null, .val (.ref bb)]) rfl ?_
  refine own_aloadN X hx (hb hby own_d_jdk_42_method_149_code_41) (pc' := 42) rfl rfl rfl ?_
  refine own_aload X hx (hb hby own_d_jdk_42_method_149_code_42) (pc' := 44) rfl rfl rfl ?_
  refine own_iloadN X hx (hb hby own_d_jdk_42_method_149_code_44) (pc' := 45) rfl rfl ?_
  refine own_callS X hx hZ [(.ref bb), (.int (7 : Int32))] hown (own_w hw 60 rfl) (own_w hw 61 rfl) (own_w hw 55 rfl) (own_w hw 62 rfl) (by decide) (rm_cf7 l Z a0 hw [] bb h1 n0 Z0 _ _ A_bb) eT (W := 1) (by decide) (by decide) (cells' := 1) (slots' := 7) rfl rfl (by decide) (by decide) (by rw [hml]; rfl) (lenOf own_pd_285bBI29B rfl) rfl (S := [(.ref a1)]) rfl (Nat.le_of_eq rfl) (hb hby own_d_jdk_42_method_149_code_45) (pc' := 48) rfl ?_
  intro v T h2 L lc X eT hq fN
  obtain ⟨rfl, Nq, hqe⟩ := hq
  have N := fN _ N Nq
  rw [hqe] at eT
  show own_W p e below (own_Post s (Q_iv7 Z a1 aq kq cs d0 d1 d2 d3 d4 d5 d6 h0 n0) 1 7) T m 48 #[.val (.ref a1), .val (.ref aq), .val (.int (0 : Int32)), .val (.int (7 : Int32)), .val .null, .val (.ref bb)] [(.int (0 : Int32)), (.ref a1)]
  refine own_putF X hx hZ hown (own_w hw 35 rfl) Via.refl eT F_c E_a1 (Or.inr ⟨(own_w hw 31 rfl), rfl, hnm⟩) (own_w hw 15 rfl) (ty := .byte) (v' := (.int (0 : Int32))) (by decide) rfl rfl (hb hby own_d_jdk_42_method_149_code_48) (pc' := 51) rfl ?_
  intro T h3 lc X eT Wq fN
  have F_c := F_c.same Wq
  have S_C := S_C.wr Wq
  have E_a1 := E_a1.wr Wq
  have F_v := F_v.other Wq (Or.inr (slot_ne (Or.inr (own_w hw 30 rfl)) (Or.inr (own_w hw 31 rfl)) (by decide) (t := (.array .byte)) (t' := .byte) (by decide) (by decide)))
  have A_aq := A_aq.other Wq (Ne.symm n1q)
  have A_bb := A_bb.other Wq (Ne.symm ne_a1_bb)
  have Z0 := Nat.le_trans Z0 (Keep.of_wr Wq).1
  have N := fN _ z_a1 N
  have Kp := Kp.wr Wq (Or.inl (List.mem_of_getElem? (i := 0) rfl))
  refine own_aloadN X hx (hb hby own_d_jdk_42_method_149_code_51) (pc' := 52) rfl rfl rfl ?_
  refine own_aload X hx (hb hby own_d_jdk_42_method_149_code_52) (pc' := 54) rfl rfl rfl ?_
  refine own_putF X hx hZ hown (own_w hw 34 rfl) Via.refl eT F_v E_a1 (Or.inr ⟨(own_w hw 30 rfl), rfl, hnm⟩) (own_w hw 15 rfl) (ty := (.array .byte)) (v' := (.ref bb)) (by decide) rfl rfl (hb hby own_d_jdk_42_method_149_code_54) (pc' := 57) rfl ?_
  intro T h4 lc X eT Wq fN
  have F_v := F_v.same Wq
  have S_C := S_C.wr Wq
  have E_a1 := E_a1.wr Wq
  have A_aq := A_aq.other Wq (Ne.symm n1q)
  have A_bb := A_bb.other Wq (Ne.symm ne_a1_bb)
  have F_c := F_c.other Wq (Or.inr (slot_ne (Or.inr (own_w hw 31 rfl)) (Or.inr (own_w hw 30 rfl)) (by decide) (t := .byte) (t' := (.array .byte)) (by decide) (by decide)))
  have Z0 := Nat.le_trans Z0 (Keep.of_wr Wq).1
  have N := fN _ z_a1 N
  have Kp := Kp.wr Wq (Or.inl (List.mem_of_getElem? (i := 0) rfl))
  refine own_ret0 X hx hlk Bd.returns (hb hby own_d_jdk_42_method_149_code_57) (by decide) (by decide) ?_
  rw [eT]
  exact ⟨rfl, N, Kp, bb, kb, s_bb, F_c, F_v, A_bb⟩
theorem ef_ic7 (m : MethodId) (x0 : Addr) (x1 : Addr) : entryFrame m #[(.ref x0), (.ref x1)] 2 = mkF m 0 #[.val (.ref x0), .val (.ref x1)] [] := by first | (simp [entryFrame, mkF, argsToLocals, Value.category]; done) | rfl
def Q_ic7 (Z : State) (a1 aq : Addr) (kq : ClassId) (cs : Int32) (d0 d1 d2 d3 d4 d5 d6 : Int32) (h0 : Heap) (n0 : Nat) (v : Option Value) (h : Heap) (L : List Loc) : Prop := v = none ∧ Fr n0 L ∧ Keep h0 h [a1] ∧ ∃ (b : Addr) (k : ClassId), h0.size ≤ b ∧ Fld Z h a1 "java/lang/String" "coder" "B" (.int (0 : Int32)) ∧ Fld Z h a1 "java/lang/String" "value" "[B" (.ref b) ∧ Arv Z h b k .byte (7 : Int32) [(.int (nar .byte d0.toInt8.toInt32)), (.int (nar .byte d1.toInt8.toInt32)), (.int (nar .byte d2.toInt8.toInt32)), (.int (nar .byte d3.toInt8.toInt32)), (.int (nar .byte d4.toInt8.toInt32)), (.int (nar .byte d5.toInt8.toInt32)), (.int (nar .byte d6.toInt8.toInt32))] (.int (0 : Int32))
set_option maxRecDepth 65536 in
set_option maxHeartbeats 40000000 in
theorem rm_ic7 (l : Launch) (Z : State) (a0 : Array Value) (hw : ∀ d ∈ tables_1, d.before a0 Z = true) (ws : List Jvm.Cond) (a1 aq : Addr) (kq : ClassId) (cs : Int32) (d0 d1 d2 d3 d4 d5 d6 : Int32) (h0 : Heap) (n0 : Nat) (Z0 : n0 ≤ h0.size) (S_C : Sta Z h0 "java/lang/String" "COMPACT_STRINGS" "Z" (.int cs)) (hcs : ¬ cs = 0) (u1 u2 : Value) (E_a1 : Exa Z h0 a1 "java/lang/String") (F_c : Fld Z h0 a1 "java/lang/String" "coder" "B" u1) (F_v : Fld Z h0 a1 "java/lang/String" "value" "[B" u2) (A_aq : Arv Z h0 aq kq .char (7 : Int32) [(.int d0), (.int d1), (.int d2), (.int d3), (.int d4), (.int d5), (.int d6)] (.int (0 : Int32))) (n1q : a1 ≠ aq) (hd0 : ¬ ((255 : Int32) < d0)) (hd1 : ¬ ((255 : Int32) < d1)) (hd2 : ¬ ((255 : Int32) < d2)) (hd3 : ¬ ((255 : Int32) < d3)) (hd4 : ¬ ((255 : Int32) < d4)) (hd5 : ¬ ((255 : Int32) < d5)) (hd6 : ¬ ((255 : Int32) < d6)) (z_a1 : n0 ≤ a1) :
    MetFree l (⟨"java/lang/String", "<init>", "([C)V"⟩ : MethodName) (head1 (Jvm.Cond.code (⟨"java/lang/String", "<init>", "([C)V"⟩ : MethodName) jdk_42_method_3_code 2 none :: ws) ({ frames := 3, cells := 1, slots := 7, locals := 52 } : Room)) (fun a U => a = #[(.ref a1), (.ref aq)] ∧ Z.Warmed39 U.vm ∧ U.heap = h0) (fun _ _ _ _ _ => True) (fun _ U o U' => ∃ v L, o = .returned v ∧ Q_ic7 Z a1 aq kq cs d0 d1 d2 d3 d4 d5 d6 h0 n0 v U'.heap L ∧ FrameEnd U o U' L ({ frames := 3, cells := 1, slots := 7, locals := 52 } : Room).cells ({ frames := 3, cells := 1, slots := 7, locals := 52 } : Room).slots) := by
  refine MetFree.of_bodySF (plainFor_of_name own_pn_java_lang_String) hisR ?_
  intro p e s m args below meth c s₁ Bd hml0 hP hK
  obtain ⟨rfl, hZ, hh⟩ := hP
  have hx := Bd.exec
  have hby := Bd.bytes
  have hml : c.maxLocals = 2 := hml0
  have hown : s.vm.findClass "java/lang/String" = some m.cls := findClass_of_methodNamed Bd.named
  have hnm := (name_of_methodNamed Bd.named Bd.method).1
  have hlk := Bd.notSynchronized
  obtain ⟨lc, hlc⟩ : ∃ lc : List Loc, lc = [] := ⟨_, rfl⟩
  have X : Stand p l e ({ frames := 3, cells := 1, slots := 7, locals := 52 } : Room) s m #[(.ref a1), (.ref aq)] below meth c s₁ lc 0 0 := hlc ▸ Stand.of_body Bd
  have eT : s₁.heap = h0 := by rw [← hh, Bd.state]; rfl
  have N : Fr n0 lc := hlc ▸ Fr.nil n0
  refine own_enter (ef_ic7 m a1 aq) ?_
  obtain ⟨T, hT⟩ : ∃ T : State, T = s₁ := ⟨_, rfl⟩
  rw [← hT] at X eT ⊢
  show own_W p e below (own_Post s (Q_ic7 Z a1 aq kq cs d0 d1 d2 d3 d4 d5 d6 h0 n0) 1 7) T m 0 #[.val (.ref a1), .val (.ref aq)] []
  refine own_aloadN X hx (hb hby own_d_jdk_42_method_3_code_0) (pc' := 1) rfl rfl rfl ?_
  refine own_aloadN X hx (hb hby own_d_jdk_42_method_3_code_1) (pc' := 2) rfl rfl rfl ?_
  refine own_iconst X hx (0 : Int32) (hb hby own_d_jdk_42_method_3_code_2) (pc' := 3) rfl rfl ?_
  refine own_aloadN X hx (hb hby own_d_jdk_42_method_3_code_3) (pc' := 4) rfl rfl rfl ?_
  refine own_arrlen X hx hZ eT A_aq (hb hby own_d_jdk_42_method_3_code_4) (pc' := 5) rfl ?_
  refine own_aconst_null X hx (hb hby own_d_jdk_42_method_3_code_5) (pc' := 6) rfl ?_
  refine own_callN X hx hZ a1 [(.ref aq), (.int (0 : Int32)), (.int (7 : Int32)), .null] rfl hown (own_w hw 21 rfl) (own_w hw 22 rfl) (own_w hw 16 rfl) (own_w hw 24 rfl) (by decide) (rm_iv7 l Z a0 hw [] a1 aq kq cs d0 d1 d2 d3 d4 d5 d6 h0 n0 Z0 S_C hcs _ _ E_a1 F_c F_v A_aq n1q hd0 hd1 hd2 hd3 hd4 hd5 hd6 z_a1) eT (W := 0) (by decide) (by decide) (cells' := 1) (slots' := 7) rfl rfl (by decide) (by decide) (by rw [hml]; rfl) (lenOf own_pd_285bCIILjava2flang2fVoid3b29V rfl) rfl (S := []) rfl (Nat.le_of_eq rfl) (hb hby own_d_jdk_42_method_3_code_6) (pc' := 9) rfl ?_
  intro v T h1 L lc X eT hq fN
  obtain ⟨rfl, Nq, Kq, bb, kb, hbb, F_c2, F_v2, A_bb⟩ := hq
  have N := fN _ N Nq
  show own_W p e below (own_Post s (Q_ic7 Z a1 aq kq cs d0 d1 d2 d3 d4 d5 d6 h0 n0) 1 7) T m 9 #[.val (.ref a1), .val (.ref aq)] []
  refine own_ret0 X hx hlk Bd.returns (hb hby own_d_jdk_42_method_3_code_9) (by decide) (by decide) ?_
  rw [eT]
  exact ⟨rfl, N, Kq, bb, kb, hbb, F_c2, F_v2, A_bb⟩
theorem own_d_method_5_code_0 : decode method_5_code 0 = .ok (.iload_n 0, 1) := by decide +kernel
theorem own_d_method_5_code_1 : decode method_5_code 1 = .ok (.ifCond .ne 14, 3) := by decide +kernel
theorem own_d_method_5_code_4 : decode method_5_code 4 = .ok (.new 19, 3) := by decide +kernel
theorem own_d_method_5_code_7 : decode method_5_code 7 = .ok (.dup, 1) := by decide +kernel
theorem own_d_method_5_code_8 : decode method_5_code 8 = .ok (.iconst 0, 1) := by decide +kernel
theorem own_d_method_5_code_9 : decode method_5_code 9 = .ok (.newarray .char, 2) := by decide +kernel
theorem own_d_method_5_code_11 : decode method_5_code 11 = .ok (.invokespecial 21, 3) := by decide +kernel
theorem own_pd_285bC29V : parseMethodDescriptor "([C)V" = some ⟨[(.array .char)], none⟩ := by decide +kernel
theorem own_d_method_5_code_14 : decode method_5_code 14 = .ok (.areturn, 1) := by decide +kernel
theorem ef_mk0 (m : MethodId) (x0 : Int32) (x1 : Int32) (x2 : Int32) (x3 : Int32) (x4 : Int32) (x5 : Int32) (x6 : Int32) (x7 : Int32) : entryFrame m #[(.int x0), (.int x1), (.int x2), (.int x3), (.int x4), (.int x5), (.int x6), (.int x7)] 8 = mkF m 0 #[.val (.int x0), .val (.int x1), .val (.int x2), .val (.int x3), .val (.int x4), .val (.int x5), .val (.int x6), .val (.int x7)] [] := by first | (simp [entryFrame, mkF, argsToLocals, Value.category]; done) | rfl
def Q_mk0 (Z : State) (cs d0 d1 d2 d3 d4 d5 d6 : Int32) (h0 : Heap) (n0 : Nat) (v : Option Value) (h : Heap) (L : List Loc) : Prop := ∃ (a b : Addr) (k : ClassId), v = some (.ref a) ∧ Fr n0 L ∧ Keep h0 h [] ∧ Exa Z h a "java/lang/String" ∧ Fld Z h a "java/lang/String" "coder" "B" (.int (0 : Int32)) ∧ Fld Z h a "java/lang/String" "value" "[B" (.ref b) ∧ Arv Z h b k .byte (0 : Int32) [] (.int (0 : Int32))
set_option maxRecDepth 65536 in
set_option maxHeartbeats 40000000 in
theorem rm_mk0 (l : Launch) (Z : State) (a0 : Array Value) (hw : ∀ d ∈ tables_1, d.before a0 Z = true) (hEL : EW Z a0 own_EL) (ws : List Jvm.Cond) (cs d0 d1 d2 d3 d4 d5 d6 : Int32) (h0 : Heap) (n0 : Nat) (Z0 : n0 ≤ h0.size) (S_C : Sta Z h0 "java/lang/String" "COMPACT_STRINGS" "Z" (.int cs)) (hcs : ¬ cs = 0) (bd0 : own_lat8 d0) (bd1 : own_lat8 d1) (bd2 : own_lat8 d2) (bd3 : own_lat8 d3) (bd4 : own_lat8 d4) (bd5 : own_lat8 d5) (bd6 : own_lat8 d6) :
    MetFree l (⟨"com/example/bleeper/bleeper/cli/ArgumentsAsksForHelpPinLaw", "make", "(ICCCCCCC)Ljava/lang/String;"⟩ : MethodName) (head1 (Jvm.Cond.code (⟨"com/example/bleeper/bleeper/cli/ArgumentsAsksForHelpPinLaw", "make", "(ICCCCCCC)Ljava/lang/String;"⟩ : MethodName) method_5_code 8 (some (.object "java/lang/String")) :: ws) ({ frames := 3, cells := 6, slots := 12, locals := 43 } : Room)) (fun a U => a = #[(.int (0 : Int32)), (.int d0), (.int d1), (.int d2), (.int d3), (.int d4), (.int d5), (.int d6)] ∧ Z.Warmed39 U.vm ∧ U.heap = h0 ∧ CHv Z own_EL U.vm h0) (fun _ _ _ _ _ => True) (fun _ U o U' => ∃ v L, o = .returned v ∧ Q_mk0 Z cs d0 d1 d2 d3 d4 d5 d6 h0 n0 v U'.heap L ∧ CHr Z own_EL U.vm U.heap U'.vm U'.heap ∧ ReturnedEndW U o U' L ({ frames := 3, cells := 6, slots := 12, locals := 43 } : Room).cells ({ frames := 3, cells := 6, slots := 12, locals := 43 } : Room).slots) := by
  refine MetFree.of_bodySF (plainFor_of_name own_pn_com_example_bleeper_bleeper_cli_ArgumentsAsksForHelpPinLaw) hisR ?_
  intro p e s m args below meth c s₁ Bd hml0 hP hK
  obtain ⟨rfl, hZ, hh, H⟩ := hP
  have hx := Bd.exec
  have hby := Bd.bytes
  have hml : c.maxLocals = 8 := hml0
  have hown : s.vm.findClass "com/example/bleeper/bleeper/cli/ArgumentsAsksForHelpPinLaw" = some m.cls := findClass_of_methodNamed Bd.named
  have hnm := (name_of_methodNamed Bd.named Bd.method).1
  have hlk := Bd.notSynchronized
  obtain ⟨lc, hlc⟩ : ∃ lc : List Loc, lc = [] := ⟨_, rfl⟩
  have X : Stand p l e ({ frames := 3, cells := 6, slots := 12, locals := 43 } : Room) s m #[(.int (0 : Int32)), (.int d0), (.int d1), (.int d2), (.int d3), (.int d4), (.int d5), (.int d6)] below meth c s₁ lc 0 0 := hlc ▸ Stand.of_body Bd
  have eT : s₁.heap = h0 := by rw [← hh, Bd.state]; rfl
  have N : Fr n0 lc := hlc ▸ Fr.nil n0
  obtain ⟨vm0, hvm⟩ : ∃ v : Vm, v = s.vm := ⟨_, rfl⟩
  have X : Stand p l e ({ frames := 3, cells := 6, slots := 12, locals := 43 } : Room) (s.setVm vm0) m #[(.int (0 : Int32)), (.int d0), (.int d1), (.int d2), (.int d3), (.int d4), (.int d5), (.int d6)] below meth c s₁ lc 0 0 := by rw [hvm]; exact X
  have hZ : Z.Warmed39 (s.setVm vm0).vm := by rw [hvm]; exact hZ
  have hown : (s.setVm vm0).vm.findClass "com/example/bleeper/bleeper/cli/ArgumentsAsksForHelpPinLaw" = some m.cls := by rw [hvm]; exact hown
  have hS : s.Since vm0 h0.size := by rw [hvm]; exact (State.WarmedH.refl s).since _
  have hk : h0.size ≤ h0.size := Nat.le_refl _
  have CR : CHr Z own_EL s.vm h0 vm0 h0 := by rw [hvm]; exact CHr.refl H
  have H : CHv Z own_EL vm0 h0 := by rw [hvm]; exact H
  refine own_enterS (ef_mk0 m (0 : Int32) d0 d1 d2 d3 d4 d5 d6) ?_
  obtain ⟨T, hT⟩ : ∃ T : State, T = s₁ := ⟨_, rfl⟩
  rw [← hT] at X eT ⊢
  show own_W p e below (own_PostS Z own_EL s (Q_mk0 Z cs d0 d1 d2 d3 d4 d5 d6 h0 n0) 6 12) T m 0 #[.val (.int (0 : Int32)), .val (.int d0), .val (.int d1), .val (.int d2), .val (.int d3), .val (.int d4), .val (.int d5), .val (.int d6)] []
  have Kp : Keep h0 h0 [] := Keep.refl _ _
  refine own_iloadN X hx (hb hby own_d_method_5_code_0) (pc' := 1) rfl rfl ?_
  refine own_ifN X hx (hb hby own_d_method_5_code_1) (pc' := 4) rfl (show (0 : Int32) = (0 : Int32) from (by decide)) ?_
  refine own_new X hx hZ hown (own_w hw 14 rfl) (own_w hw 15 rfl) (own_w hw 16 rfl) eT (hb hby own_d_method_5_code_4) (pc' := 7) rfl (cells' := 1) (slots' := 4) rfl rfl (by decide) (by decide) ?_
  intro T h1 b1 X eT E gb1 E_b1 Db1
  have z_b1 : n0 ≤ b1 := Nat.le_trans Z0 (Nat.le_of_eq gb1.symm)
  have s_b1 : h0.size ≤ b1 := Nat.le_trans Kp.1 (Nat.le_of_eq gb1.symm)
  have S_b1 : Safe Z own_EL vm0 h0 b1 := Safe.new (Nat.le_of_eq gb1.symm)
  have S_b1 := S_b1.ext E H
  have CR := CR.trans (CHr.ext E H)
  have H := H.ext E
  have hk := Nat.le_trans hk E.1
  have S_C := S_C.ext E
  have Z0 := Nat.le_trans Z0 E.1
  have Kp := Kp.ext E
  have F_value_b1 : Fld Z h1 b1 "java/lang/String" "value" "[B" .null := Db1 (Or.inr (own_w hw 30 rfl)) (ty := (.array .byte)) (by decide)
  have F_coder_b1 : Fld Z h1 b1 "java/lang/String" "coder" "B" (.int (0 : Int32)) := Db1 (Or.inr (own_w hw 31 rfl)) (ty := .byte) (by decide)
  refine own_dup X hx (hb hby own_d_method_5_code_7) (pc' := 8) rfl rfl ?_
  refine own_iconst X hx (0 : Int32) (hb hby own_d_method_5_code_8) (pc' := 9) rfl rfl ?_
  refine own_newarr X hx hZ (own_w hw 17 rfl) eT (hb hby own_d_method_5_code_9) (pc' := 11) rfl (by decide) 0 (by decide) (by decide) (cells' := 2) (slots' := 4) rfl rfl (by decide) (by decide) ?_
  intro T h2 k_b2 b2 X eT E gb2 A_b2
  have lt_b1_b2 : b1 < b2 := Nat.lt_of_lt_of_le E_b1.lt (Nat.le_of_eq gb2.symm)
  have ne_b1_b2 : b1 ≠ b2 := Nat.ne_of_lt lt_b1_b2
  have z_b2 : n0 ≤ b2 := Nat.le_trans Z0 (Nat.le_of_eq gb2.symm)
  have s_b2 : h0.size ≤ b2 := Nat.le_trans Kp.1 (Nat.le_of_eq gb2.symm)
  have S_b1 := S_b1.ext E H
  have CR := CR.trans (CHr.ext E H)
  have H := H.ext E
  have hk := Nat.le_trans hk E.1
  have S_C := S_C.ext E
  have E_b1 := E_b1.ext E
  have F_value_b1 := F_value_b1.ext E
  have F_coder_b1 := F_coder_b1.ext E
  have Z0 := Nat.le_trans Z0 E.1
  have Kp := Kp.ext E
  have A_b2 : Arv Z h2 b2 k_b2 .char (0 : Int32) [] (.int (0 : Int32)) := A_b2.pad (pad_rep [] (.int (0 : Int32)) 0)
  refine own_callNS X hx hZ b1 [(.ref b2)] rfl hown (own_w hw 18 rfl) (own_w hw 19 rfl) (own_w hw 16 rfl) (own_w hw 20 rfl) (by decide) (rm_ic0 l Z a0 hw hEL [] b1 b2 h2 n0 Z0 _ E_b1 F_coder_b1 F_value_b1 z_b1 _ _ A_b2) eT hS hk hEL H (W := 1) (by decide) (by decide) (cells' := 6) (slots' := 12) rfl rfl (by decide) (by decide) (by rw [hml]; rfl) (lenOf own_pd_285bC29V rfl) rfl (S := [(.ref b1)]) rfl (Nat.le_of_eq rfl) (hb hby own_d_method_5_code_11) (pc' := 14) rfl ?_
  intro v T h3 L lc vm0 k1 X eT hS hk hZ hown CQ hq fN
  obtain ⟨rfl, Nq, Kq, bb, kb, F_c, F_v, A_bb⟩ := hq
  have N := fN _ N Nq
  have Kp := Kp.trans Kq (allS (P := fun x => x ∈ ([] : List Addr) ∨ h0.size ≤ x) (Or.inr s_b1) all0)
  have S_b1 := CQ.safe E_b1.lt S_b1
  have CR := CR.trans CQ
  have H := CQ.1
  have S_C := own_sta_keep S_C Kq (nsS (own_ns_exa E_b1) ns0)
  have E_b1 := E_b1.keep Kq
  have A_b2 := A_b2.keep Kq (ninS (Ne.symm ne_b1_b2) nin0)
  have Z0 := Nat.le_trans Z0 Kq.1
  show own_W p e below (own_PostS Z own_EL s (Q_mk0 Z cs d0 d1 d2 d3 d4 d5 d6 h0 n0) 6 12) T m 14 #[.val (.int (0 : Int32)), .val (.int d0), .val (.int d1), .val (.int d2), .val (.int d3), .val (.int d4), .val (.int d5), .val (.int d6)] [(.ref b1)]
  refine own_retAS X hx hlk hZ eT hh hS hk hEL H CR Bd.returns (hb hby own_d_method_5_code_14) rfl rfl rfl (by decide) (by decide) ?_
  rw [eT]
  exact ⟨b1, bb, kb, rfl, N, Kp, E_b1, F_c, F_v, A_bb⟩
theorem own_d_method_5_code_15 : decode method_5_code 15 = .ok (.iload_n 0, 1) := by decide +kernel
theorem own_d_method_5_code_16 : decode method_5_code 16 = .ok (.iconst 1, 1) := by decide +kernel
theorem own_d_method_5_code_17 : decode method_5_code 17 = .ok (.if_icmp .ne 18, 3) := by decide +kernel
theorem own_d_method_5_code_20 : decode method_5_code 20 = .ok (.new 19, 3) := by decide +kernel
theorem own_d_method_5_code_23 : decode method_5_code 23 = .ok (.dup, 1) := by decide +kernel
theorem own_d_method_5_code_24 : decode method_5_code 24 = .ok (.iconst 1, 1) := by decide +kernel
theorem own_d_method_5_code_25 : decode method_5_code 25 = .ok (.newarray .char, 2) := by decide +kernel
theorem own_d_method_5_code_27 : decode method_5_code 27 = .ok (.dup, 1) := by decide +kernel
theorem own_d_method_5_code_28 : decode method_5_code 28 = .ok (.iconst 0, 1) := by decide +kernel
theorem own_d_method_5_code_29 : decode method_5_code 29 = .ok (.iload_n 1, 1) := by decide +kernel
theorem own_d_method_5_code_30 : decode method_5_code 30 = .ok (.castore, 1) := by decide +kernel
theorem own_d_method_5_code_31 : decode method_5_code 31 = .ok (.invokespecial 21, 3) := by decide +kernel
theorem own_d_method_5_code_34 : decode method_5_code 34 = .ok (.areturn, 1) := by decide +kernel
theorem ef_mk1 (m : MethodId) (x0 : Int32) (x1 : Int32) (x2 : Int32) (x3 : Int32) (x4 : Int32) (x5 : Int32) (x6 : Int32) (x7 : Int32) : entryFrame m #[(.int x0), (.int x1), (.int x2), (.int x3), (.int x4), (.int x5), (.int x6), (.int x7)] 8 = mkF m 0 #[.val (.int x0), .val (.int x1), .val (.int x2), .val (.int x3), .val (.int x4), .val (.int x5), .val (.int x6), .val (.int x7)] [] := by first | (simp [entryFrame, mkF, argsToLocals, Value.category]; done) | rfl
def Q_mk1 (Z : State) (cs d0 d1 d2 d3 d4 d5 d6 : Int32) (h0 : Heap) (n0 : Nat) (v : Option Value) (h : Heap) (L : List Loc) : Prop := ∃ (a b : Addr) (k : ClassId), v = some (.ref a) ∧ Fr n0 L ∧ Keep h0 h [] ∧ Exa Z h a "java/lang/String" ∧ Fld Z h a "java/lang/String" "coder" "B" (.int (0 : Int32)) ∧ Fld Z h a "java/lang/String" "value" "[B" (.ref b) ∧ Arv Z h b k .byte (1 : Int32) [(.int (nar .byte d0.toInt8.toInt32))] (.int (0 : Int32))
set_option maxRecDepth 65536 in
set_option maxHeartbeats 40000000 in
theorem rm_mk1 (l : Launch) (Z : State) (a0 : Array Value) (hw : ∀ d ∈ tables_1, d.before a0 Z = true) (hEL : EW Z a0 own_EL) (ws : List Jvm.Cond) (cs d0 d1 d2 d3 d4 d5 d6 : Int32) (h0 : Heap) (n0 : Nat) (Z0 : n0 ≤ h0.size) (S_C : Sta Z h0 "java/lang/String" "COMPACT_STRINGS" "Z" (.int cs)) (hcs : ¬ cs = 0) (bd0 : own_lat8 d0) (bd1 : own_lat8 d1) (bd2 : own_lat8 d2) (bd3 : own_lat8 d3) (bd4 : own_lat8 d4) (bd5 : own_lat8 d5) (bd6 : own_lat8 d6) :
    MetFree l (⟨"com/example/bleeper/bleeper/cli/ArgumentsAsksForHelpPinLaw", "make", "(ICCCCCCC)Ljava/lang/String;"⟩ : MethodName) (head1 (Jvm.Cond.code (⟨"com/example/bleeper/bleeper/cli/ArgumentsAsksForHelpPinLaw", "make", "(ICCCCCCC)Ljava/lang/String;"⟩ : MethodName) method_5_code 8 (some (.object "java/lang/String")) :: ws) ({ frames := 4, cells := 3, slots := 6, locals := 66 } : Room)) (fun a U => a = #[(.int (1 : Int32)), (.int d0), (.int d1), (.int d2), (.int d3), (.int d4), (.int d5), (.int d6)] ∧ Z.Warmed39 U.vm ∧ U.heap = h0 ∧ CHv Z own_EL U.vm h0) (fun _ _ _ _ _ => True) (fun _ U o U' => ∃ v L, o = .returned v ∧ Q_mk1 Z cs d0 d1 d2 d3 d4 d5 d6 h0 n0 v U'.heap L ∧ CHr Z own_EL U.vm U.heap U'.vm U'.heap ∧ ReturnedEndW U o U' L ({ frames := 4, cells := 3, slots := 6, locals := 66 } : Room).cells ({ frames := 4, cells := 3, slots := 6, locals := 66 } : Room).slots) := by
  refine MetFree.of_bodySF (plainFor_of_name own_pn_com_example_bleeper_bleeper_cli_ArgumentsAsksForHelpPinLaw) hisR ?_
  intro p e s m args below meth c s₁ Bd hml0 hP hK
  obtain ⟨rfl, hZ, hh, H⟩ := hP
  have hx := Bd.exec
  have hby := Bd.bytes
  have hml : c.maxLocals = 8 := hml0
  have hown : s.vm.findClass "com/example/bleeper/bleeper/cli/ArgumentsAsksForHelpPinLaw" = some m.cls := findClass_of_methodNamed Bd.named
  have hnm := (name_of_methodNamed Bd.named Bd.method).1
  have hlk := Bd.notSynchronized
  obtain ⟨lc, hlc⟩ : ∃ lc : List Loc, lc = [] := ⟨_, rfl⟩
  have X : Stand p l e ({ frames := 4, cells := 3, slots := 6, locals := 66 } : Room) s m #[(.int (1 : Int32)), (.int d0), (.int d1), (.int d2), (.int d3), (.int d4), (.int d5), (.int d6)] below meth c s₁ lc 0 0 := hlc ▸ Stand.of_body Bd
  have eT : s₁.heap = h0 := by rw [← hh, Bd.state]; rfl
  have N : Fr n0 lc := hlc ▸ Fr.nil n0
  obtain ⟨vm0, hvm⟩ : ∃ v : Vm, v = s.vm := ⟨_, rfl⟩
  have X : Stand p l e ({ frames := 4, cells := 3, slots := 6, locals := 66 } : Room) (s.setVm vm0) m #[(.int (1 : Int32)), (.int d0), (.int d1), (.int d2), (.int d3), (.int d4), (.int d5), (.int d6)] below meth c s₁ lc 0 0 := by rw [hvm]; exact X
  have hZ : Z.Warmed39 (s.setVm vm0).vm := by rw [hvm]; exact hZ
  have hown : (s.setVm vm0).vm.findClass "com/example/bleeper/bleeper/cli/ArgumentsAsksForHelpPinLaw" = some m.cls := by rw [hvm]; exact hown
  have hS : s.Since vm0 h0.size := by rw [hvm]; exact (State.WarmedH.refl s).since _
  have hk : h0.size ≤ h0.size := Nat.le_refl _
  have CR : CHr Z own_EL s.vm h0 vm0 h0 := by rw [hvm]; exact CHr.refl H
  have H : CHv Z own_EL vm0 h0 := by rw [hvm]; exact H
  refine own_enterS (ef_mk1 m (1 : Int32) d0 d1 d2 d3 d4 d5 d6) ?_
  obtain ⟨T, hT⟩ : ∃ T : State, T = s₁ := ⟨_, rfl⟩
  rw [← hT] at X eT ⊢
  show own_W p e below (own_PostS Z own_EL s (Q_mk1 Z cs d0 d1 d2 d3 d4 d5 d6 h0 n0) 3 6) T m 0 #[.val (.int (1 : Int32)), .val (.int d0), .val (.int d1), .val (.int d2), .val (.int d3), .val (.int d4), .val (.int d5), .val (.int d6)] []
  have Kp : Keep h0 h0 [] := Keep.refl _ _
  refine own_iloadN X hx (hb hby own_d_method_5_code_0) (pc' := 1) rfl rfl ?_
  refine own_ifY X hx (hb hby own_d_method_5_code_1) (by decide) (pc' := 15) rfl (show ¬ ((1 : Int32) = (0 : Int32)) from (by decide)) ?_
  refine own_iloadN X hx (hb hby own_d_method_5_code_15) (pc' := 16) rfl rfl ?_
  refine own_iconst X hx (1 : Int32) (hb hby own_d_method_5_code_16) (pc' := 17) rfl rfl ?_
  refine own_icmpN X hx (hb hby own_d_method_5_code_17) (pc' := 20) rfl (show (1 : Int32) = (1 : Int32) from (by decide)) ?_
  refine own_new X hx hZ hown (own_w hw 14 rfl) (own_w hw 15 rfl) (own_w hw 16 rfl) eT (hb hby own_d_method_5_code_20) (pc' := 23) rfl (cells' := 1) (slots' := 4) rfl rfl (by decide) (by decide) ?_
  intro T h1 b1 X eT E gb1 E_b1 Db1
  have z_b1 : n0 ≤ b1 := Nat.le_trans Z0 (Nat.le_of_eq gb1.symm)
  have s_b1 : h0.size ≤ b1 := Nat.le_trans Kp.1 (Nat.le_of_eq gb1.symm)
  have S_b1 : Safe Z own_EL vm0 h0 b1 := Safe.new (Nat.le_of_eq gb1.symm)
  have S_b1 := S_b1.ext E H
  have CR := CR.trans (CHr.ext E H)
  have H := H.ext E
  have hk := Nat.le_trans hk E.1
  have S_C := S_C.ext E
  have Z0 := Nat.le_trans Z0 E.1
  have Kp := Kp.ext E
  have F_value_b1 : Fld Z h1 b1 "java/lang/String" "value" "[B" .null := Db1 (Or.inr (own_w hw 30 rfl)) (ty := (.array .byte)) (by decide)
  have F_coder_b1 : Fld Z h1 b1 "java/lang/String" "coder" "B" (.int (0 : Int32)) := Db1 (Or.inr (own_w hw 31 rfl)) (ty := .byte) (by decide)
  refine own_dup X hx (hb hby own_d_method_5_code_23) (pc' := 24) rfl rfl ?_
  refine own_iconst X hx (1 : Int32) (hb hby own_d_method_5_code_24) (pc' := 25) rfl rfl ?_
  refine own_newarr X hx hZ (own_w hw 17 rfl) eT (hb hby own_d_method_5_code_25) (pc' := 27) rfl (by decide) 1 (by decide) (by decide) (cells' := 2) (slots' := 5) rfl rfl (by decide) (by decide) ?_
  intro T h2 k_b2 b2 X eT E gb2 A_b2
  have lt_b1_b2 : b1 < b2 := Nat.lt_of_lt_of_le E_b1.lt (Nat.le_of_eq gb2.symm)
  have ne_b1_b2 : b1 ≠ b2 := Nat.ne_of_lt lt_b1_b2
  have z_b2 : n0 ≤ b2 := Nat.le_trans Z0 (Nat.le_of_eq gb2.symm)
  have s_b2 : h0.size ≤ b2 := Nat.le_trans Kp.1 (Nat.le_of_eq gb2.symm)
  have S_b1 := S_b1.ext E H
  have CR := CR.trans (CHr.ext E H)
  have H := H.ext E
  have hk := Nat.le_trans hk E.1
  have S_C := S_C.ext E
  have E_b1 := E_b1.ext E
  have F_value_b1 := F_value_b1.ext E
  have F_coder_b1 := F_coder_b1.ext E
  have Z0 := Nat.le_trans Z0 E.1
  have Kp := Kp.ext E
  have A_b2 : Arv Z h2 b2 k_b2 .char (1 : Int32) [(.int (0 : Int32))] (.int (0 : Int32)) := A_b2.pad (pad_rep [] (.int (0 : Int32)) 1)
  refine own_dup X hx (hb hby own_d_method_5_code_27) (pc' := 28) rfl rfl ?_
  refine own_iconst X hx (0 : Int32) (hb hby own_d_method_5_code_28) (pc' := 29) rfl rfl ?_
  refine own_iloadN X hx (hb hby own_d_method_5_code_29) (pc' := 30) rfl rfl ?_
  refine own_castore X hx hZ eT A_b2 (by decide) 0 rfl (by show 0 < 1; decide) (hb hby own_d_method_5_code_30) (pc' := 31) rfl ?_
  intro T h3 lc X eT Kq A_b2n fN
  have hsf : ∀ x ∈ ([b2] : List Addr), Safe Z own_EL vm0 h2 x := (sfS (Safe.arv hZ.alike A_b2 (by decide)) sf0)
  have S_b1 := S_b1.keep Kq hsf H
  have CR := CR.trans (CHr.keep Kq hsf H)
  have H := H.keep Kq hsf
  have hk := Nat.le_trans hk Kq.1
  have S_C := own_sta_keep S_C Kq (nsS (own_ns_arv A_b2) ns0)
  have E_b1 := E_b1.keep Kq
  have F_value_b1 := F_value_b1.keep Kq (ninS ne_b1_b2 nin0)
  have F_coder_b1 := F_coder_b1.keep Kq (ninS ne_b1_b2 nin0)
  have Z0 := Nat.le_trans Z0 Kq.1
  have A_b2 := A_b2n
  have N := fN _ z_b2 N
  have Kp := Kp.trans Kq (allS (P := fun x => x ∈ [] ∨ h0.size ≤ x) (Or.inr s_b2) all0)
  rw [own_nc bd0] at A_b2
  have A_b2 : Arv Z h3 b2 _ .char (1 : Int32) [(.int d0)] (.int (0 : Int32)) := A_b2
  refine own_callN X hx hZ b1 [(.ref b2)] rfl hown (own_w hw 18 rfl) (own_w hw 19 rfl) (own_w hw 16 rfl) (own_w hw 20 rfl) (by decide) (rm_ic1 l Z a0 hw [] b1 b2 _ cs d0 h3 n0 Z0 S_C hcs _ _ E_b1 F_coder_b1 F_value_b1 A_b2 ne_b1_b2 (own_le bd0) z_b1) eT (W := 1) (by decide) (by decide) (cells' := 3) (slots' := 6) rfl rfl (by decide) (by decide) (by rw [hml]; rfl) (lenOf own_pd_285bC29V rfl) rfl (S := [(.ref b1)]) rfl (Nat.le_of_eq rfl) (hb hby own_d_method_5_code_31) (pc' := 34) rfl ?_
  intro v T h4 L lc X eT hq fN
  obtain ⟨rfl, Nq, Kq, bb, kb, hbb, F_c, F_v, A_bb⟩ := hq
  have N := fN _ N Nq
  have Kp := Kp.trans Kq (allS (P := fun x => x ∈ ([] : List Addr) ∨ h0.size ≤ x) (Or.inr s_b1) all0)
  have lt_b1_bb : b1 < bb := Nat.lt_of_lt_of_le E_b1.lt hbb
  have ne_b1_bb : b1 ≠ bb := Nat.ne_of_lt lt_b1_bb
  have lt_b2_bb : b2 < bb := Nat.lt_of_lt_of_le A_b2.lt hbb
  have ne_b2_bb : b2 ≠ bb := Nat.ne_of_lt lt_b2_bb
  have hsf : ∀ x ∈ ([b1] : List Addr), Safe Z own_EL vm0 h3 x := (sfS S_b1 sf0)
  have S_b1 := S_b1.keep Kq hsf H
  have CR := CR.trans (CHr.keep Kq hsf H)
  have H := H.keep Kq hsf
  have hk := Nat.le_trans hk Kq.1
  have S_C := own_sta_keep S_C Kq (nsS (own_ns_exa E_b1) ns0)
  have E_b1 := E_b1.keep Kq
  have A_b2 := A_b2.keep Kq (ninS (Ne.symm ne_b1_b2) nin0)
  have Z0 := Nat.le_trans Z0 Kq.1
  show own_W p e below (own_PostS Z own_EL s (Q_mk1 Z cs d0 d1 d2 d3 d4 d5 d6 h0 n0) 3 6) T m 34 #[.val (.int (1 : Int32)), .val (.int d0), .val (.int d1), .val (.int d2), .val (.int d3), .val (.int d4), .val (.int d5), .val (.int d6)] [(.ref b1)]
  refine own_retAS X hx hlk hZ eT hh hS hk hEL H CR Bd.returns (hb hby own_d_method_5_code_34) rfl rfl rfl (by decide) (by decide) ?_
  rw [eT]
  exact ⟨b1, bb, kb, rfl, N, Kp, E_b1, F_c, F_v, A_bb⟩
theorem own_d_method_5_code_35 : decode method_5_code 35 = .ok (.iload_n 0, 1) := by decide +kernel
theorem own_d_method_5_code_36 : decode method_5_code 36 = .ok (.iconst 2, 1) := by decide +kernel
theorem own_d_method_5_code_37 : decode method_5_code 37 = .ok (.if_icmp .ne 22, 3) := by decide +kernel
theorem own_d_method_5_code_40 : decode method_5_code 40 = .ok (.new 19, 3) := by decide +kernel
theorem own_d_method_5_code_43 : decode method_5_code 43 = .ok (.dup, 1) := by decide +kernel
theorem own_d_method_5_code_44 : decode method_5_code 44 = .ok (.iconst 2, 1) := by decide +kernel
theorem own_d_method_5_code_45 : decode method_5_code 45 = .ok (.newarray .char, 2) := by decide +kernel
theorem own_d_method_5_code_47 : decode method_5_code 47 = .ok (.dup, 1) := by decide +kernel
theorem own_d_method_5_code_48 : decode method_5_code 48 = .ok (.iconst 0, 1) := by decide +kernel
theorem own_d_method_5_code_49 : decode method_5_code 49 = .ok (.iload_n 1, 1) := by decide +kernel
theorem own_d_method_5_code_50 : decode method_5_code 50 = .ok (.castore, 1) := by decide +kernel
theorem own_d_method_5_code_51 : decode method_5_code 51 = .ok (.dup, 1) := by decide +kernel
theorem own_d_method_5_code_52 : decode method_5_code 52 = .ok (.iconst 1, 1) := by decide +kernel
theorem own_d_method_5_code_53 : decode method_5_code 53 = .ok (.iload_n 2, 1) := by decide +kernel
theorem own_d_method_5_code_54 : decode method_5_code 54 = .ok (.castore, 1) := by decide +kernel
theorem own_d_method_5_code_55 : decode method_5_code 55 = .ok (.invokespecial 21, 3) := by decide +kernel
theorem own_d_method_5_code_58 : decode method_5_code 58 = .ok (.areturn, 1) := by decide +kernel
theorem ef_mk2 (m : MethodId) (x0 : Int32) (x1 : Int32) (x2 : Int32) (x3 : Int32) (x4 : Int32) (x5 : Int32) (x6 : Int32) (x7 : Int32) : entryFrame m #[(.int x0), (.int x1), (.int x2), (.int x3), (.int x4), (.int x5), (.int x6), (.int x7)] 8 = mkF m 0 #[.val (.int x0), .val (.int x1), .val (.int x2), .val (.int x3), .val (.int x4), .val (.int x5), .val (.int x6), .val (.int x7)] [] := by first | (simp [entryFrame, mkF, argsToLocals, Value.category]; done) | rfl
def Q_mk2 (Z : State) (cs d0 d1 d2 d3 d4 d5 d6 : Int32) (h0 : Heap) (n0 : Nat) (v : Option Value) (h : Heap) (L : List Loc) : Prop := ∃ (a b : Addr) (k : ClassId), v = some (.ref a) ∧ Fr n0 L ∧ Keep h0 h [] ∧ Exa Z h a "java/lang/String" ∧ Fld Z h a "java/lang/String" "coder" "B" (.int (0 : Int32)) ∧ Fld Z h a "java/lang/String" "value" "[B" (.ref b) ∧ Arv Z h b k .byte (2 : Int32) [(.int (nar .byte d0.toInt8.toInt32)), (.int (nar .byte d1.toInt8.toInt32))] (.int (0 : Int32))
set_option maxRecDepth 65536 in
set_option maxHeartbeats 40000000 in
theorem rm_mk2 (l : Launch) (Z : State) (a0 : Array Value) (hw : ∀ d ∈ tables_1, d.before a0 Z = true) (hEL : EW Z a0 own_EL) (ws : List Jvm.Cond) (cs d0 d1 d2 d3 d4 d5 d6 : Int32) (h0 : Heap) (n0 : Nat) (Z0 : n0 ≤ h0.size) (S_C : Sta Z h0 "java/lang/String" "COMPACT_STRINGS" "Z" (.int cs)) (hcs : ¬ cs = 0) (bd0 : own_lat8 d0) (bd1 : own_lat8 d1) (bd2 : own_lat8 d2) (bd3 : own_lat8 d3) (bd4 : own_lat8 d4) (bd5 : own_lat8 d5) (bd6 : own_lat8 d6) :
    MetFree l (⟨"com/example/bleeper/bleeper/cli/ArgumentsAsksForHelpPinLaw", "make", "(ICCCCCCC)Ljava/lang/String;"⟩ : MethodName) (head1 (Jvm.Cond.code (⟨"com/example/bleeper/bleeper/cli/ArgumentsAsksForHelpPinLaw", "make", "(ICCCCCCC)Ljava/lang/String;"⟩ : MethodName) method_5_code 8 (some (.object "java/lang/String")) :: ws) ({ frames := 4, cells := 3, slots := 8, locals := 66 } : Room)) (fun a U => a = #[(.int (2 : Int32)), (.int d0), (.int d1), (.int d2), (.int d3), (.int d4), (.int d5), (.int d6)] ∧ Z.Warmed39 U.vm ∧ U.heap = h0 ∧ CHv Z own_EL U.vm h0) (fun _ _ _ _ _ => True) (fun _ U o U' => ∃ v L, o = .returned v ∧ Q_mk2 Z cs d0 d1 d2 d3 d4 d5 d6 h0 n0 v U'.heap L ∧ CHr Z own_EL U.vm U.heap U'.vm U'.heap ∧ ReturnedEndW U o U' L ({ frames := 4, cells := 3, slots := 8, locals := 66 } : Room).cells ({ frames := 4, cells := 3, slots := 8, locals := 66 } : Room).slots) := by
  refine MetFree.of_bodySF (plainFor_of_name own_pn_com_example_bleeper_bleeper_cli_ArgumentsAsksForHelpPinLaw) hisR ?_
  intro p e s m args below meth c s₁ Bd hml0 hP hK
  obtain ⟨rfl, hZ, hh, H⟩ := hP
  have hx := Bd.exec
  have hby := Bd.bytes
  have hml : c.maxLocals = 8 := hml0
  have hown : s.vm.findClass "com/example/bleeper/bleeper/cli/ArgumentsAsksForHelpPinLaw" = some m.cls := findClass_of_methodNamed Bd.named
  have hnm := (name_of_methodNamed Bd.named Bd.method).1
  have hlk := Bd.notSynchronized
  obtain ⟨lc, hlc⟩ : ∃ lc : List Loc, lc = [] := ⟨_, rfl⟩
  have X : Stand p l e ({ frames := 4, cells := 3, slots := 8, locals := 66 } : Room) s m #[(.int (2 : Int32)), (.int d0), (.int d1), (.int d2), (.int d3), (.int d4), (.int d5), (.int d6)] below meth c s₁ lc 0 0 := hlc ▸ Stand.of_body Bd
  have eT : s₁.heap = h0 := by rw [← hh, Bd.state]; rfl
  have N : Fr n0 lc := hlc ▸ Fr.nil n0
  obtain ⟨vm0, hvm⟩ : ∃ v : Vm, v = s.vm := ⟨_, rfl⟩
  have X : Stand p l e ({ frames := 4, cells := 3, slots := 8, locals := 66 } : Room) (s.setVm vm0) m #[(.int (2 : Int32)), (.int d0), (.int d1), (.int d2), (.int d3), (.int d4), (.int d5), (.int d6)] below meth c s₁ lc 0 0 := by rw [hvm]; exact X
  have hZ : Z.Warmed39 (s.setVm vm0).vm := by rw [hvm]; exact hZ
  have hown : (s.setVm vm0).vm.findClass "com/example/bleeper/bleeper/cli/ArgumentsAsksForHelpPinLaw" = some m.cls := by rw [hvm]; exact hown
  have hS : s.Since vm0 h0.size := by rw [hvm]; exact (State.WarmedH.refl s).since _
  have hk : h0.size ≤ h0.size := Nat.le_refl _
  have CR : CHr Z own_EL s.vm h0 vm0 h0 := by rw [hvm]; exact CHr.refl H
  have H : CHv Z own_EL vm0 h0 := by rw [hvm]; exact H
  refine own_enterS (ef_mk2 m (2 : Int32) d0 d1 d2 d3 d4 d5 d6) ?_
  obtain ⟨T, hT⟩ : ∃ T : State, T = s₁ := ⟨_, rfl⟩
  rw [← hT] at X eT ⊢
  show own_W p e below (own_PostS Z own_EL s (Q_mk2 Z cs d0 d1 d2 d3 d4 d5 d6 h0 n0) 3 8) T m 0 #[.val (.int (2 : Int32)), .val (.int d0), .val (.int d1), .val (.int d2), .val (.int d3), .val (.int d4), .val (.int d5), .val (.int d6)] []
  have Kp : Keep h0 h0 [] := Keep.refl _ _
  refine own_iloadN X hx (hb hby own_d_method_5_code_0) (pc' := 1) rfl rfl ?_
  refine own_ifY X hx (hb hby own_d_method_5_code_1) (by decide) (pc' := 15) rfl (show ¬ ((2 : Int32) = (0 : Int32)) from (by decide)) ?_
  refine own_iloadN X hx (hb hby own_d_method_5_code_15) (pc' := 16) rfl rfl ?_
  refine own_iconst X hx (1 : Int32) (hb hby own_d_method_5_code_16) (pc' := 17) rfl rfl ?_
  refine own_icmpY X hx (hb hby own_d_method_5_code_17) (by decide) (pc' := 35) rfl (show ¬ ((2 : Int32) = (1 : Int32)) from (by decide)) ?_
  refine own_iloadN X hx (hb hby own_d_method_5_code_35) (pc' := 36) rfl rfl ?_
  refine own_iconst X hx (2 : Int32) (hb hby own_d_method_5_code_36) (pc' := 37) rfl rfl ?_
  refine own_icmpN X hx (hb hby own_d_method_5_code_37) (pc' := 40) rfl (show (2 : Int32) = (2 : Int32) from (by decide)) ?_
  refine own_new X hx hZ hown (own_w hw 14 rfl) (own_w hw 15 rfl) (own_w hw 16 rfl) eT (hb hby own_d_method_5_code_40) (pc' := 43) rfl (cells' := 1) (slots' := 4) rfl rfl (by decide) (by decide) ?_
  intro T h1 b1 X eT E gb1 E_b1 Db1
  have z_b1 : n0 ≤ b1 := Nat.le_trans Z0 (Nat.le_of_eq gb1.symm)
  have s_b1 : h0.size ≤ b1 := Nat.le_trans Kp.1 (Nat.le_of_eq gb1.symm)
  have S_b1 : Safe Z own_EL vm0 h0 b1 := Safe.new (Nat.le_of_eq gb1.symm)
  have S_b1 := S_b1.ext E H
  have CR := CR.trans (CHr.ext E H)
  have H := H.ext E
  have hk := Nat.le_trans hk E.1
  have S_C := S_C.ext E
  have Z0 := Nat.le_trans Z0 E.1
  have Kp := Kp.ext E
  have F_value_b1 : Fld Z h1 b1 "java/lang/String" "value" "[B" .null := Db1 (Or.inr (own_w hw 30 rfl)) (ty := (.array .byte)) (by decide)
  have F_coder_b1 : Fld Z h1 b1 "java/lang/String" "coder" "B" (.int (0 : Int32)) := Db1 (Or.inr (own_w hw 31 rfl)) (ty := .byte) (by decide)
  refine own_dup X hx (hb hby own_d_method_5_code_43) (pc' := 44) rfl rfl ?_
  refine own_iconst X hx (2 : Int32) (hb hby own_d_method_5_code_44) (pc' := 45) rfl rfl ?_
  refine own_newarr X hx hZ (own_w hw 17 rfl) eT (hb hby own_d_method_5_code_45) (pc' := 47) rfl (by decide) 2 (by decide) (by decide) (cells' := 2) (slots' := 6) rfl rfl (by decide) (by decide) ?_
  intro T h2 k_b2 b2 X eT E gb2 A_b2
  have lt_b1_b2 : b1 < b2 := Nat.lt_of_lt_of_le E_b1.lt (Nat.le_of_eq gb2.symm)
  have ne_b1_b2 : b1 ≠ b2 := Nat.ne_of_lt lt_b1_b2
  have z_b2 : n0 ≤ b2 := Nat.le_trans Z0 (Nat.le_of_eq gb2.symm)
  have s_b2 : h0.size ≤ b2 := Nat.le_trans Kp.1 (Nat.le_of_eq gb2.symm)
  have S_b1 := S_b1.ext E H
  have CR := CR.trans (CHr.ext E H)
  have H := H.ext E
  have hk := Nat.le_trans hk E.1
  have S_C := S_C.ext E
  have E_b1 := E_b1.ext E
  have F_value_b1 := F_value_b1.ext E
  have F_coder_b1 := F_coder_b1.ext E
  have Z0 := Nat.le_trans Z0 E.1
  have Kp := Kp.ext E
  have A_b2 : Arv Z h2 b2 k_b2 .char (2 : Int32) [(.int (0 : Int32)), (.int (0 : Int32))] (.int (0 : Int32)) := A_b2.pad (pad_rep [] (.int (0 : Int32)) 2)
  refine own_dup X hx (hb hby own_d_method_5_code_47) (pc' := 48) rfl rfl ?_
  refine own_iconst X hx (0 : Int32) (hb hby own_d_method_5_code_48) (pc' := 49) rfl rfl ?_
  refine own_iloadN X hx (hb hby own_d_method_5_code_49) (pc' := 50) rfl rfl ?_
  refine own_castore X hx hZ eT A_b2 (by decide) 0 rfl (by show 0 < 2; decide) (hb hby own_d_method_5_code_50) (pc' := 51) rfl ?_
  intro T h3 lc X eT Kq A_b2n fN
  have hsf : ∀ x ∈ ([b2] : List Addr), Safe Z own_EL vm0 h2 x := (sfS (Safe.arv hZ.alike A_b2 (by decide)) sf0)
  have S_b1 := S_b1.keep Kq hsf H
  have CR := CR.trans (CHr.keep Kq hsf H)
  have H := H.keep Kq hsf
  have hk := Nat.le_trans hk Kq.1
  have S_C := own_sta_keep S_C Kq (nsS (own_ns_arv A_b2) ns0)
  have E_b1 := E_b1.keep Kq
  have F_value_b1 := F_value_b1.keep Kq (ninS ne_b1_b2 nin0)
  have F_coder_b1 := F_coder_b1.keep Kq (ninS ne_b1_b2 nin0)
  have Z0 := Nat.le_trans Z0 Kq.1
  have A_b2 := A_b2n
  have N := fN _ z_b2 N
  have Kp := Kp.trans Kq (allS (P := fun x => x ∈ [] ∨ h0.size ≤ x) (Or.inr s_b2) all0)
  rw [own_nc bd0] at A_b2
  have A_b2 : Arv Z h3 b2 _ .char (2 : Int32) [(.int d0), (.int (0 : Int32))] (.int (0 : Int32)) := A_b2
  refine own_dup X hx (hb hby own_d_method_5_code_51) (pc' := 52) rfl rfl ?_
  refine own_iconst X hx (1 : Int32) (hb hby own_d_method_5_code_52) (pc' := 53) rfl rfl ?_
  refine own_iloadN X hx (hb hby own_d_method_5_code_53) (pc' := 54) rfl rfl ?_
  refine own_castore X hx hZ eT A_b2 (by decide) 1 rfl (by show 1 < 2; decide) (hb hby own_d_method_5_code_54) (pc' := 55) rfl ?_
  intro T h4 lc X eT Kq A_b2n fN
  have hsf : ∀ x ∈ ([b2] : List Addr), Safe Z own_EL vm0 h3 x := (sfS (Safe.arv hZ.alike A_b2 (by decide)) sf0)
  have S_b1 := S_b1.keep Kq hsf H
  have CR := CR.trans (CHr.keep Kq hsf H)
  have H := H.keep Kq hsf
  have hk := Nat.le_trans hk Kq.1
  have S_C := own_sta_keep S_C Kq (nsS (own_ns_arv A_b2) ns0)
  have E_b1 := E_b1.keep Kq
  have F_value_b1 := F_value_b1.keep Kq (ninS ne_b1_b2 nin0)
  have F_coder_b1 := F_coder_b1.keep Kq (ninS ne_b1_b2 nin0)
  have Z0 := Nat.le_trans Z0 Kq.1
  have A_b2 := A_b2n
  have N := fN _ z_b2 N
  have Kp := Kp.trans Kq (allS (P := fun x => x ∈ [] ∨ h0.size ≤ x) (Or.inr s_b2) all0)
  rw [own_nc bd1] at A_b2
  have A_b2 : Arv Z h4 b2 _ .char (2 : Int32) [(.int d0), (.int d1)] (.int (0 : Int32)) := A_b2
  refine own_callN X hx hZ b1 [(.ref b2)] rfl hown (own_w hw 18 rfl) (own_w hw 19 rfl) (own_w hw 16 rfl) (own_w hw 20 rfl) (by decide) (rm_ic2 l Z a0 hw [] b1 b2 _ cs d0 d1 h4 n0 Z0 S_C hcs _ _ E_b1 F_coder_b1 F_value_b1 A_b2 ne_b1_b2 (own_le bd0) (own_le bd1) z_b1) eT (W := 1) (by decide) (by decide) (cells' := 3) (slots' := 8) rfl rfl (by decide) (by decide) (by rw [hml]; rfl) (lenOf own_pd_285bC29V rfl) rfl (S := [(.ref b1)]) rfl (Nat.le_of_eq rfl) (hb hby own_d_method_5_code_55) (pc' := 58) rfl ?_
  intro v T h5 L lc X eT hq fN
  obtain ⟨rfl, Nq, Kq, bb, kb, hbb, F_c, F_v, A_bb⟩ := hq
  have N := fN _ N Nq
  have Kp := Kp.trans Kq (allS (P := fun x => x ∈ ([] : List Addr) ∨ h0.size ≤ x) (Or.inr s_b1) all0)
  have lt_b1_bb : b1 < bb := Nat.lt_of_lt_of_le E_b1.lt hbb
  have ne_b1_bb : b1 ≠ bb := Nat.ne_of_lt lt_b1_bb
  have lt_b2_bb : b2 < bb := Nat.lt_of_lt_of_le A_b2.lt hbb
  have ne_b2_bb : b2 ≠ bb := Nat.ne_of_lt lt_b2_bb
  have hsf : ∀ x ∈ ([b1] : List Addr), Safe Z own_EL vm0 h4 x := (sfS S_b1 sf0)
  have S_b1 := S_b1.keep Kq hsf H
  have CR := CR.trans (CHr.keep Kq hsf H)
  have H := H.keep Kq hsf
  have hk := Nat.le_trans hk Kq.1
  have S_C := own_sta_keep S_C Kq (nsS (own_ns_exa E_b1) ns0)
  have E_b1 := E_b1.keep Kq
  have A_b2 := A_b2.keep Kq (ninS (Ne.symm ne_b1_b2) nin0)
  have Z0 := Nat.le_trans Z0 Kq.1
  show own_W p e below (own_PostS Z own_EL s (Q_mk2 Z cs d0 d1 d2 d3 d4 d5 d6 h0 n0) 3 8) T m 58 #[.val (.int (2 : Int32)), .val (.int d0), .val (.int d1), .val (.int d2), .val (.int d3), .val (.int d4), .val (.int d5), .val (.int d6)] [(.ref b1)]
  refine own_retAS X hx hlk hZ eT hh hS hk hEL H CR Bd.returns (hb hby own_d_method_5_code_58) rfl rfl rfl (by decide) (by decide) ?_
  rw [eT]
  exact ⟨b1, bb, kb, rfl, N, Kp, E_b1, F_c, F_v, A_bb⟩
theorem own_d_method_5_code_59 : decode method_5_code 59 = .ok (.iload_n 0, 1) := by decide +kernel
theorem own_d_method_5_code_60 : decode method_5_code 60 = .ok (.iconst 3, 1) := by decide +kernel
theorem own_d_method_5_code_61 : decode method_5_code 61 = .ok (.if_icmp .ne 26, 3) := by decide +kernel
theorem own_d_method_5_code_64 : decode method_5_code 64 = .ok (.new 19, 3) := by decide +kernel
theorem own_d_method_5_code_67 : decode method_5_code 67 = .ok (.dup, 1) := by decide +kernel
theorem own_d_method_5_code_68 : decode method_5_code 68 = .ok (.iconst 3, 1) := by decide +kernel
theorem own_d_method_5_code_69 : decode method_5_code 69 = .ok (.newarray .char, 2) := by decide +kernel
theorem own_d_method_5_code_71 : decode method_5_code 71 = .ok (.dup, 1) := by decide +kernel
theorem own_d_method_5_code_72 : decode method_5_code 72 = .ok (.iconst 0, 1) := by decide +kernel
theorem own_d_method_5_code_73 : decode method_5_code 73 = .ok (.iload_n 1, 1) := by decide +kernel
theorem own_d_method_5_code_74 : decode method_5_code 74 = .ok (.castore, 1) := by decide +kernel
theorem own_d_method_5_code_75 : decode method_5_code 75 = .ok (.dup, 1) := by decide +kernel
theorem own_d_method_5_code_76 : decode method_5_code 76 = .ok (.iconst 1, 1) := by decide +kernel
theorem own_d_method_5_code_77 : decode method_5_code 77 = .ok (.iload_n 2, 1) := by decide +kernel
theorem own_d_method_5_code_78 : decode method_5_code 78 = .ok (.castore, 1) := by decide +kernel
theorem own_d_method_5_code_79 : decode method_5_code 79 = .ok (.dup, 1) := by decide +kernel
theorem own_d_method_5_code_80 : decode method_5_code 80 = .ok (.iconst 2, 1) := by decide +kernel
theorem own_d_method_5_code_81 : decode method_5_code 81 = .ok (.iload_n 3, 1) := by decide +kernel
theorem own_d_method_5_code_82 : decode method_5_code 82 = .ok (.castore, 1) := by decide +kernel
theorem own_d_method_5_code_83 : decode method_5_code 83 = .ok (.invokespecial 21, 3) := by decide +kernel
theorem own_d_method_5_code_86 : decode method_5_code 86 = .ok (.areturn, 1) := by decide +kernel
theorem ef_mk3 (m : MethodId) (x0 : Int32) (x1 : Int32) (x2 : Int32) (x3 : Int32) (x4 : Int32) (x5 : Int32) (x6 : Int32) (x7 : Int32) : entryFrame m #[(.int x0), (.int x1), (.int x2), (.int x3), (.int x4), (.int x5), (.int x6), (.int x7)] 8 = mkF m 0 #[.val (.int x0), .val (.int x1), .val (.int x2), .val (.int x3), .val (.int x4), .val (.int x5), .val (.int x6), .val (.int x7)] [] := by first | (simp [entryFrame, mkF, argsToLocals, Value.category]; done) | rfl
def Q_mk3 (Z : State) (cs d0 d1 d2 d3 d4 d5 d6 : Int32) (h0 : Heap) (n0 : Nat) (v : Option Value) (h : Heap) (L : List Loc) : Prop := ∃ (a b : Addr) (k : ClassId), v = some (.ref a) ∧ Fr n0 L ∧ Keep h0 h [] ∧ Exa Z h a "java/lang/String" ∧ Fld Z h a "java/lang/String" "coder" "B" (.int (0 : Int32)) ∧ Fld Z h a "java/lang/String" "value" "[B" (.ref b) ∧ Arv Z h b k .byte (3 : Int32) [(.int (nar .byte d0.toInt8.toInt32)), (.int (nar .byte d1.toInt8.toInt32)), (.int (nar .byte d2.toInt8.toInt32))] (.int (0 : Int32))
set_option maxRecDepth 65536 in
set_option maxHeartbeats 40000000 in
theorem rm_mk3 (l : Launch) (Z : State) (a0 : Array Value) (hw : ∀ d ∈ tables_1, d.before a0 Z = true) (hEL : EW Z a0 own_EL) (ws : List Jvm.Cond) (cs d0 d1 d2 d3 d4 d5 d6 : Int32) (h0 : Heap) (n0 : Nat) (Z0 : n0 ≤ h0.size) (S_C : Sta Z h0 "java/lang/String" "COMPACT_STRINGS" "Z" (.int cs)) (hcs : ¬ cs = 0) (bd0 : own_lat8 d0) (bd1 : own_lat8 d1) (bd2 : own_lat8 d2) (bd3 : own_lat8 d3) (bd4 : own_lat8 d4) (bd5 : own_lat8 d5) (bd6 : own_lat8 d6) :
    MetFree l (⟨"com/example/bleeper/bleeper/cli/ArgumentsAsksForHelpPinLaw", "make", "(ICCCCCCC)Ljava/lang/String;"⟩ : MethodName) (head1 (Jvm.Cond.code (⟨"com/example/bleeper/bleeper/cli/ArgumentsAsksForHelpPinLaw", "make", "(ICCCCCCC)Ljava/lang/String;"⟩ : MethodName) method_5_code 8 (some (.object "java/lang/String")) :: ws) ({ frames := 4, cells := 3, slots := 10, locals := 66 } : Room)) (fun a U => a = #[(.int (3 : Int32)), (.int d0), (.int d1), (.int d2), (.int d3), (.int d4), (.int d5), (.int d6)] ∧ Z.Warmed39 U.vm ∧ U.heap = h0 ∧ CHv Z own_EL U.vm h0) (fun _ _ _ _ _ => True) (fun _ U o U' => ∃ v L, o = .returned v ∧ Q_mk3 Z cs d0 d1 d2 d3 d4 d5 d6 h0 n0 v U'.heap L ∧ CHr Z own_EL U.vm U.heap U'.vm U'.heap ∧ ReturnedEndW U o U' L ({ frames := 4, cells := 3, slots := 10, locals := 66 } : Room).cells ({ frames := 4, cells := 3, slots := 10, locals := 66 } : Room).slots) := by
  refine MetFree.of_bodySF (plainFor_of_name own_pn_com_example_bleeper_bleeper_cli_ArgumentsAsksForHelpPinLaw) hisR ?_
  intro p e s m args below meth c s₁ Bd hml0 hP hK
  obtain ⟨rfl, hZ, hh, H⟩ := hP
  have hx := Bd.exec
  have hby := Bd.bytes
  have hml : c.maxLocals = 8 := hml0
  have hown : s.vm.findClass "com/example/bleeper/bleeper/cli/ArgumentsAsksForHelpPinLaw" = some m.cls := findClass_of_methodNamed Bd.named
  have hnm := (name_of_methodNamed Bd.named Bd.method).1
  have hlk := Bd.notSynchronized
  obtain ⟨lc, hlc⟩ : ∃ lc : List Loc, lc = [] := ⟨_, rfl⟩
  have X : Stand p l e ({ frames := 4, cells := 3, slots := 10, locals := 66 } : Room) s m #[(.int (3 : Int32)), (.int d0), (.int d1), (.int d2), (.int d3), (.int d4), (.int d5), (.int d6)] below meth c s₁ lc 0 0 := hlc ▸ Stand.of_body Bd
  have eT : s₁.heap = h0 := by rw [← hh, Bd.state]; rfl
  have N : Fr n0 lc := hlc ▸ Fr.nil n0
  obtain ⟨vm0, hvm⟩ : ∃ v : Vm, v = s.vm := ⟨_, rfl⟩
  have X : Stand p l e ({ frames := 4, cells := 3, slots := 10, locals := 66 } : Room) (s.setVm vm0) m #[(.int (3 : Int32)), (.int d0), (.int d1), (.int d2), (.int d3), (.int d4), (.int d5), (.int d6)] below meth c s₁ lc 0 0 := by rw [hvm]; exact X
  have hZ : Z.Warmed39 (s.setVm vm0).vm := by rw [hvm]; exact hZ
  have hown : (s.setVm vm0).vm.findClass "com/example/bleeper/bleeper/cli/ArgumentsAsksForHelpPinLaw" = some m.cls := by rw [hvm]; exact hown
  have hS : s.Since vm0 h0.size := by rw [hvm]; exact (State.WarmedH.refl s).since _
  have hk : h0.size ≤ h0.size := Nat.le_refl _
  have CR : CHr Z own_EL s.vm h0 vm0 h0 := by rw [hvm]; exact CHr.refl H
  have H : CHv Z own_EL vm0 h0 := by rw [hvm]; exact H
  refine own_enterS (ef_mk3 m (3 : Int32) d0 d1 d2 d3 d4 d5 d6) ?_
  obtain ⟨T, hT⟩ : ∃ T : State, T = s₁ := ⟨_, rfl⟩
  rw [← hT] at X eT ⊢
  show own_W p e below (own_PostS Z own_EL s (Q_mk3 Z cs d0 d1 d2 d3 d4 d5 d6 h0 n0) 3 10) T m 0 #[.val (.int (3 : Int32)), .val (.int d0), .val (.int d1), .val (.int d2), .val (.int d3), .val (.int d4), .val (.int d5), .val (.int d6)] []
  have Kp : Keep h0 h0 [] := Keep.refl _ _
  refine own_iloadN X hx (hb hby own_d_method_5_code_0) (pc' := 1) rfl rfl ?_
  refine own_ifY X hx (hb hby own_d_method_5_code_1) (by decide) (pc' := 15) rfl (show ¬ ((3 : Int32) = (0 : Int32)) from (by decide)) ?_
  refine own_iloadN X hx (hb hby own_d_method_5_code_15) (pc' := 16) rfl rfl ?_
  refine own_iconst X hx (1 : Int32) (hb hby own_d_method_5_code_16) (pc' := 17) rfl rfl ?_
  refine own_icmpY X hx (hb hby own_d_method_5_code_17) (by decide) (pc' := 35) rfl (show ¬ ((3 : Int32) = (1 : Int32)) from (by decide)) ?_
  refine own_iloadN X hx (hb hby own_d_method_5_code_35) (pc' := 36) rfl rfl ?_
  refine own_iconst X hx (2 : Int32) (hb hby own_d_method_5_code_36) (pc' := 37) rfl rfl ?_
  refine own_icmpY X hx (hb hby own_d_method_5_code_37) (by decide) (pc' := 59) rfl (show ¬ ((3 : Int32) = (2 : Int32)) from (by decide)) ?_
  refine own_iloadN X hx (hb hby own_d_method_5_code_59) (pc' := 60) rfl rfl ?_
  refine own_iconst X hx (3 : Int32) (hb hby own_d_method_5_code_60) (pc' := 61) rfl rfl ?_
  refine own_icmpN X hx (hb hby own_d_method_5_code_61) (pc' := 64) rfl (show (3 : Int32) = (3 : Int32) from (by decide)) ?_
  refine own_new X hx hZ hown (own_w hw 14 rfl) (own_w hw 15 rfl) (own_w hw 16 rfl) eT (hb hby own_d_method_5_code_64) (pc' := 67) rfl (cells' := 1) (slots' := 4) rfl rfl (by decide) (by decide) ?_
  intro T h1 b1 X eT E gb1 E_b1 Db1
  have z_b1 : n0 ≤ b1 := Nat.le_trans Z0 (Nat.le_of_eq gb1.symm)
  have s_b1 : h0.size ≤ b1 := Nat.le_trans Kp.1 (Nat.le_of_eq gb1.symm)
  have S_b1 : Safe Z own_EL vm0 h0 b1 := Safe.new (Nat.le_of_eq gb1.symm)
  have S_b1 := S_b1.ext E H
  have CR := CR.trans (CHr.ext E H)
  have H := H.ext E
  have hk := Nat.le_trans hk E.1
  have S_C := S_C.ext E
  have Z0 := Nat.le_trans Z0 E.1
  have Kp := Kp.ext E
  have F_value_b1 : Fld Z h1 b1 "java/lang/String" "value" "[B" .null := Db1 (Or.inr (own_w hw 30 rfl)) (ty := (.array .byte)) (by decide)
  have F_coder_b1 : Fld Z h1 b1 "java/lang/String" "coder" "B" (.int (0 : Int32)) := Db1 (Or.inr (own_w hw 31 rfl)) (ty := .byte) (by decide)
  refine own_dup X hx (hb hby own_d_method_5_code_67) (pc' := 68) rfl rfl ?_
  refine own_iconst X hx (3 : Int32) (hb hby own_d_method_5_code_68) (pc' := 69) rfl rfl ?_
  refine own_newarr X hx hZ (own_w hw 17 rfl) eT (hb hby own_d_method_5_code_69) (pc' := 71) rfl (by decide) 3 (by decide) (by decide) (cells' := 2) (slots' := 7) rfl rfl (by decide) (by decide) ?_
  intro T h2 k_b2 b2 X eT E gb2 A_b2
  have lt_b1_b2 : b1 < b2 := Nat.lt_of_lt_of_le E_b1.lt (Nat.le_of_eq gb2.symm)
  have ne_b1_b2 : b1 ≠ b2 := Nat.ne_of_lt lt_b1_b2
  have z_b2 : n0 ≤ b2 := Nat.le_trans Z0 (Nat.le_of_eq gb2.symm)
  have s_b2 : h0.size ≤ b2 := Nat.le_trans Kp.1 (Nat.le_of_eq gb2.symm)
  have S_b1 := S_b1.ext E H
  have CR := CR.trans (CHr.ext E H)
  have H := H.ext E
  have hk := Nat.le_trans hk E.1
  have S_C := S_C.ext E
  have E_b1 := E_b1.ext E
  have F_value_b1 := F_value_b1.ext E
  have F_coder_b1 := F_coder_b1.ext E
  have Z0 := Nat.le_trans Z0 E.1
  have Kp := Kp.ext E
  have A_b2 : Arv Z h2 b2 k_b2 .char (3 : Int32) [(.int (0 : Int32)), (.int (0 : Int32)), (.int (0 : Int32))] (.int (0 : Int32)) := A_b2.pad (pad_rep [] (.int (0 : Int32)) 3)
  refine own_dup X hx (hb hby own_d_method_5_code_71) (pc' := 72) rfl rfl ?_
  refine own_iconst X hx (0 : Int32) (hb hby own_d_method_5_code_72) (pc' := 73) rfl rfl ?_
  refine own_iloadN X hx (hb hby own_d_method_5_code_73) (pc' := 74) rfl rfl ?_
  refine own_castore X hx hZ eT A_b2 (by decide) 0 rfl (by show 0 < 3; decide) (hb hby own_d_method_5_code_74) (pc' := 75) rfl ?_
  intro T h3 lc X eT Kq A_b2n fN
  have hsf : ∀ x ∈ ([b2] : List Addr), Safe Z own_EL vm0 h2 x := (sfS (Safe.arv hZ.alike A_b2 (by decide)) sf0)
  have S_b1 := S_b1.keep Kq hsf H
  have CR := CR.trans (CHr.keep Kq hsf H)
  have H := H.keep Kq hsf
  have hk := Nat.le_trans hk Kq.1
  have S_C := own_sta_keep S_C Kq (nsS (own_ns_arv A_b2) ns0)
  have E_b1 := E_b1.keep Kq
  have F_value_b1 := F_value_b1.keep Kq (ninS ne_b1_b2 nin0)
  have F_coder_b1 := F_coder_b1.keep Kq (ninS ne_b1_b2 nin0)
  have Z0 := Nat.le_trans Z0 Kq.1
  have A_b2 := A_b2n
  have N := fN _ z_b2 N
  have Kp := Kp.trans Kq (allS (P := fun x => x ∈ [] ∨ h0.size ≤ x) (Or.inr s_b2) all0)
  rw [own_nc bd0] at A_b2
  have A_b2 : Arv Z h3 b2 _ .char (3 : Int32) [(.int d0), (.int (0 : Int32)), (.int (0 : Int32))] (.int (0 : Int32)) := A_b2
  refine own_dup X hx (hb hby own_d_method_5_code_75) (pc' := 76) rfl rfl ?_
  refine own_iconst X hx (1 : Int32) (hb hby own_d_method_5_code_76) (pc' := 77) rfl rfl ?_
  refine own_iloadN X hx (hb hby own_d_method_5_code_77) (pc' := 78) rfl rfl ?_
  refine own_castore X hx hZ eT A_b2 (by decide) 1 rfl (by show 1 < 3; decide) (hb hby own_d_method_5_code_78) (pc' := 79) rfl ?_
  intro T h4 lc X eT Kq A_b2n fN
  have hsf : ∀ x ∈ ([b2] : List Addr), Safe Z own_EL vm0 h3 x := (sfS (Safe.arv hZ.alike A_b2 (by decide)) sf0)
  have S_b1 := S_b1.keep Kq hsf H
  have CR := CR.trans (CHr.keep Kq hsf H)
  have H := H.keep Kq hsf
  have hk := Nat.le_trans hk Kq.1
  have S_C := own_sta_keep S_C Kq (nsS (own_ns_arv A_b2) ns0)
  have E_b1 := E_b1.keep Kq
  have F_value_b1 := F_value_b1.keep Kq (ninS ne_b1_b2 nin0)
  have F_coder_b1 := F_coder_b1.keep Kq (ninS ne_b1_b2 nin0)
  have Z0 := Nat.le_trans Z0 Kq.1
  have A_b2 := A_b2n
  have N := fN _ z_b2 N
  have Kp := Kp.trans Kq (allS (P := fun x => x ∈ [] ∨ h0.size ≤ x) (Or.inr s_b2) all0)
  rw [own_nc bd1] at A_b2
  have A_b2 : Arv Z h4 b2 _ .char (3 : Int32) [(.int d0), (.int d1), (.int (0 : Int32))] (.int (0 : Int32)) := A_b2
  refine own_dup X hx (hb hby own_d_method_5_code_79) (pc' := 80) rfl rfl ?_
  refine own_iconst X hx (2 : Int32) (hb hby own_d_method_5_code_80) (pc' := 81) rfl rfl ?_
  refine own_iloadN X hx (hb hby own_d_method_5_code_81) (pc' := 82) rfl rfl ?_
  refine own_castore X hx hZ eT A_b2 (by decide) 2 rfl (by show 2 < 3; decide) (hb hby own_d_method_5_code_82) (pc' := 83) rfl ?_
  intro T h5 lc X eT Kq A_b2n fN
  have hsf : ∀ x ∈ ([b2] : List Addr), Safe Z own_EL vm0 h4 x := (sfS (Safe.arv hZ.alike A_b2 (by decide)) sf0)
  have S_b1 := S_b1.keep Kq hsf H
  have CR := CR.trans (CHr.keep Kq hsf H)
  have H := H.keep Kq hsf
  have hk := Nat.le_trans hk Kq.1
  have S_C := own_sta_keep S_C Kq (nsS (own_ns_arv A_b2) ns0)
  have E_b1 := E_b1.keep Kq
  have F_value_b1 := F_value_b1.keep Kq (ninS ne_b1_b2 nin0)
  have F_coder_b1 := F_coder_b1.keep Kq (ninS ne_b1_b2 nin0)
  have Z0 := Nat.le_trans Z0 Kq.1
  have A_b2 := A_b2n
  have N := fN _ z_b2 N
  have Kp := Kp.trans Kq (allS (P := fun x => x ∈ [] ∨ h0.size ≤ x) (Or.inr s_b2) all0)
  rw [own_nc bd2] at A_b2
  have A_b2 : Arv Z h5 b2 _ .char (3 : Int32) [(.int d0), (.int d1), (.int d2)] (.int (0 : Int32)) := A_b2
  refine own_callN X hx hZ b1 [(.ref b2)] rfl hown (own_w hw 18 rfl) (own_w hw 19 rfl) (own_w hw 16 rfl) (own_w hw 20 rfl) (by decide) (rm_ic3 l Z a0 hw [] b1 b2 _ cs d0 d1 d2 h5 n0 Z0 S_C hcs _ _ E_b1 F_coder_b1 F_value_b1 A_b2 ne_b1_b2 (own_le bd0) (own_le bd1) (own_le bd2) z_b1) eT (W := 1) (by decide) (by decide) (cells' := 3) (slots' := 10) rfl rfl (by decide) (by decide) (by rw [hml]; rfl) (lenOf own_pd_285bC29V rfl) rfl (S := [(.ref b1)]) rfl (Nat.le_of_eq rfl) (hb hby own_d_method_5_code_83) (pc' := 86) rfl ?_
  intro v T h6 L lc X eT hq fN
  obtain ⟨rfl, Nq, Kq, bb, kb, hbb, F_c, F_v, A_bb⟩ := hq
  have N := fN _ N Nq
  have Kp := Kp.trans Kq (allS (P := fun x => x ∈ ([] : List Addr) ∨ h0.size ≤ x) (Or.inr s_b1) all0)
  have lt_b1_bb : b1 < bb := Nat.lt_of_lt_of_le E_b1.lt hbb
  have ne_b1_bb : b1 ≠ bb := Nat.ne_of_lt lt_b1_bb
  have lt_b2_bb : b2 < bb := Nat.lt_of_lt_of_le A_b2.lt hbb
  have ne_b2_bb : b2 ≠ bb := Nat.ne_of_lt lt_b2_bb
  have hsf : ∀ x ∈ ([b1] : List Addr), Safe Z own_EL vm0 h5 x := (sfS S_b1 sf0)
  have S_b1 := S_b1.keep Kq hsf H
  have CR := CR.trans (CHr.keep Kq hsf H)
  have H := H.keep Kq hsf
  have hk := Nat.le_trans hk Kq.1
  have S_C := own_sta_keep S_C Kq (nsS (own_ns_exa E_b1) ns0)
  have E_b1 := E_b1.keep Kq
  have A_b2 := A_b2.keep Kq (ninS (Ne.symm ne_b1_b2) nin0)
  have Z0 := Nat.le_trans Z0 Kq.1
  show own_W p e below (own_PostS Z own_EL s (Q_mk3 Z cs d0 d1 d2 d3 d4 d5 d6 h0 n0) 3 10) T m 86 #[.val (.int (3 : Int32)), .val (.int d0), .val (.int d1), .val (.int d2), .val (.int d3), .val (.int d4), .val (.int d5), .val (.int d6)] [(.ref b1)]
  refine own_retAS X hx hlk hZ eT hh hS hk hEL H CR Bd.returns (hb hby own_d_method_5_code_86) rfl rfl rfl (by decide) (by decide) ?_
  rw [eT]
  exact ⟨b1, bb, kb, rfl, N, Kp, E_b1, F_c, F_v, A_bb⟩
theorem own_d_method_5_code_87 : decode method_5_code 87 = .ok (.iload_n 0, 1) := by decide +kernel
theorem own_d_method_5_code_88 : decode method_5_code 88 = .ok (.iconst 4, 1) := by decide +kernel
theorem own_d_method_5_code_89 : decode method_5_code 89 = .ok (.if_icmp .ne 31, 3) := by decide +kernel
theorem own_d_method_5_code_92 : decode method_5_code 92 = .ok (.new 19, 3) := by decide +kernel
theorem own_d_method_5_code_95 : decode method_5_code 95 = .ok (.dup, 1) := by decide +kernel
theorem own_d_method_5_code_96 : decode method_5_code 96 = .ok (.iconst 4, 1) := by decide +kernel
theorem own_d_method_5_code_97 : decode method_5_code 97 = .ok (.newarray .char, 2) := by decide +kernel
theorem own_d_method_5_code_99 : decode method_5_code 99 = .ok (.dup, 1) := by decide +kernel
theorem own_d_method_5_code_100 : decode method_5_code 100 = .ok (.iconst 0, 1) := by decide +kernel
theorem own_d_method_5_code_101 : decode method_5_code 101 = .ok (.iload_n 1, 1) := by decide +kernel
theorem own_d_method_5_code_102 : decode method_5_code 102 = .ok (.castore, 1) := by decide +kernel
theorem own_d_method_5_code_103 : decode method_5_code 103 = .ok (.dup, 1) := by decide +kernel
theorem own_d_method_5_code_104 : decode method_5_code 104 = .ok (.iconst 1, 1) := by decide +kernel
theorem own_d_method_5_code_105 : decode method_5_code 105 = .ok (.iload_n 2, 1) := by decide +kernel
theorem own_d_method_5_code_106 : decode method_5_code 106 = .ok (.castore, 1) := by decide +kernel
theorem own_d_method_5_code_107 : decode method_5_code 107 = .ok (.dup, 1) := by decide +kernel
theorem own_d_method_5_code_108 : decode method_5_code 108 = .ok (.iconst 2, 1) := by decide +kernel
theorem own_d_method_5_code_109 : decode method_5_code 109 = .ok (.iload_n 3, 1) := by decide +kernel
theorem own_d_method_5_code_110 : decode method_5_code 110 = .ok (.castore, 1) := by decide +kernel
theorem own_d_method_5_code_111 : decode method_5_code 111 = .ok (.dup, 1) := by decide +kernel
theorem own_d_method_5_code_112 : decode method_5_code 112 = .ok (.iconst 3, 1) := by decide +kernel
theorem own_d_method_5_code_113 : decode method_5_code 113 = .ok (.iload 4, 2) := by decide +kernel
theorem own_d_method_5_code_115 : decode method_5_code 115 = .ok (.castore, 1) := by decide +kernel
theorem own_d_method_5_code_116 : decode method_5_code 116 = .ok (.invokespecial 21, 3) := by decide +kernel
theorem own_d_method_5_code_119 : decode method_5_code 119 = .ok (.areturn, 1) := by decide +kernel
theorem ef_mk4 (m : MethodId) (x0 : Int32) (x1 : Int32) (x2 : Int32) (x3 : Int32) (x4 : Int32) (x5 : Int32) (x6 : Int32) (x7 : Int32) : entryFrame m #[(.int x0), (.int x1), (.int x2), (.int x3), (.int x4), (.int x5), (.int x6), (.int x7)] 8 = mkF m 0 #[.val (.int x0), .val (.int x1), .val (.int x2), .val (.int x3), .val (.int x4), .val (.int x5), .val (.int x6), .val (.int x7)] [] := by first | (simp [entryFrame, mkF, argsToLocals, Value.category]; done) | rfl
def Q_mk4 (Z : State) (cs d0 d1 d2 d3 d4 d5 d6 : Int32) (h0 : Heap) (n0 : Nat) (v : Option Value) (h : Heap) (L : List Loc) : Prop := ∃ (a b : Addr) (k : ClassId), v = some (.ref a) ∧ Fr n0 L ∧ Keep h0 h [] ∧ Exa Z h a "java/lang/String" ∧ Fld Z h a "java/lang/String" "coder" "B" (.int (0 : Int32)) ∧ Fld Z h a "java/lang/String" "value" "[B" (.ref b) ∧ Arv Z h b k .byte (4 : Int32) [(.int (nar .byte d0.toInt8.toInt32)), (.int (nar .byte d1.toInt8.toInt32)), (.int (nar .byte d2.toInt8.toInt32)), (.int (nar .byte d3.toInt8.toInt32))] (.int (0 : Int32))
set_option maxRecDepth 65536 in
set_option maxHeartbeats 40000000 in
theorem rm_mk4 (l : Launch) (Z : State) (a0 : Array Value) (hw : ∀ d ∈ tables_1, d.before a0 Z = true) (hEL : EW Z a0 own_EL) (ws : List Jvm.Cond) (cs d0 d1 d2 d3 d4 d5 d6 : Int32) (h0 : Heap) (n0 : Nat) (Z0 : n0 ≤ h0.size) (S_C : Sta Z h0 "java/lang/String" "COMPACT_STRINGS" "Z" (.int cs)) (hcs : ¬ cs = 0) (bd0 : own_lat8 d0) (bd1 : own_lat8 d1) (bd2 : own_lat8 d2) (bd3 : own_lat8 d3) (bd4 : own_lat8 d4) (bd5 : own_lat8 d5) (bd6 : own_lat8 d6) :
    MetFree l (⟨"com/example/bleeper/bleeper/cli/ArgumentsAsksForHelpPinLaw", "make", "(ICCCCCCC)Ljava/lang/String;"⟩ : MethodName) (head1 (Jvm.Cond.code (⟨"com/example/bleeper/bleeper/cli/ArgumentsAsksForHelpPinLaw", "make", "(ICCCCCCC)Ljava/lang/String;"⟩ : MethodName) method_5_code 8 (some (.object "java/lang/String")) :: ws) ({ frames := 4, cells := 3, slots := 12, locals := 66 } : Room)) (fun a U => a = #[(.int (4 : Int32)), (.int d0), (.int d1), (.int d2), (.int d3), (.int d4), (.int d5), (.int d6)] ∧ Z.Warmed39 U.vm ∧ U.heap = h0 ∧ CHv Z own_EL U.vm h0) (fun _ _ _ _ _ => True) (fun _ U o U' => ∃ v L, o = .returned v ∧ Q_mk4 Z cs d0 d1 d2 d3 d4 d5 d6 h0 n0 v U'.heap L ∧ CHr Z own_EL U.vm U.heap U'.vm U'.heap ∧ ReturnedEndW U o U' L ({ frames := 4, cells := 3, slots := 12, locals := 66 } : Room).cells ({ frames := 4, cells := 3, slots := 12, locals := 66 } : Room).slots) := by
  refine MetFree.of_bodySF (plainFor_of_name own_pn_com_example_bleeper_bleeper_cli_ArgumentsAsksForHelpPinLaw) hisR ?_
  intro p e s m args below meth c s₁ Bd hml0 hP hK
  obtain ⟨rfl, hZ, hh, H⟩ := hP
  have hx := Bd.exec
  have hby := Bd.bytes
  have hml : c.maxLocals = 8 := hml0
  have hown : s.vm.findClass "com/example/bleeper/bleeper/cli/ArgumentsAsksForHelpPinLaw" = some m.cls := findClass_of_methodNamed Bd.named
  have hnm := (name_of_methodNamed Bd.named Bd.method).1
  have hlk := Bd.notSynchronized
  obtain ⟨lc, hlc⟩ : ∃ lc : List Loc, lc = [] := ⟨_, rfl⟩
  have X : Stand p l e ({ frames := 4, cells := 3, slots := 12, locals := 66 } : Room) s m #[(.int (4 : Int32)), (.int d0), (.int d1), (.int d2), (.int d3), (.int d4), (.int d5), (.int d6)] below meth c s₁ lc 0 0 := hlc ▸ Stand.of_body Bd
  have eT : s₁.heap = h0 := by rw [← hh, Bd.state]; rfl
  have N : Fr n0 lc := hlc ▸ Fr.nil n0
  obtain ⟨vm0, hvm⟩ : ∃ v : Vm, v = s.vm := ⟨_, rfl⟩
  have X : Stand p l e ({ frames := 4, cells := 3, slots := 12, locals := 66 } : Room) (s.setVm vm0) m #[(.int (4 : Int32)), (.int d0), (.int d1), (.int d2), (.int d3), (.int d4), (.int d5), (.int d6)] below meth c s₁ lc 0 0 := by rw [hvm]; exact X
  have hZ : Z.Warmed39 (s.setVm vm0).vm := by rw [hvm]; exact hZ
  have hown : (s.setVm vm0).vm.findClass "com/example/bleeper/bleeper/cli/ArgumentsAsksForHelpPinLaw" = some m.cls := by rw [hvm]; exact hown
  have hS : s.Since vm0 h0.size := by rw [hvm]; exact (State.WarmedH.refl s).since _
  have hk : h0.size ≤ h0.size := Nat.le_refl _
  have CR : CHr Z own_EL s.vm h0 vm0 h0 := by rw [hvm]; exact CHr.refl H
  have H : CHv Z own_EL vm0 h0 := by rw [hvm]; exact H
  refine own_enterS (ef_mk4 m (4 : Int32) d0 d1 d2 d3 d4 d5 d6) ?_
  obtain ⟨T, hT⟩ : ∃ T : State, T = s₁ := ⟨_, rfl⟩
  rw [← hT] at X eT ⊢
  show own_W p e below (own_PostS Z own_EL s (Q_mk4 Z cs d0 d1 d2 d3 d4 d5 d6 h0 n0) 3 12) T m 0 #[.val (.int (4 : Int32)), .val (.int d0), .val (.int d1), .val (.int d2), .val (.int d3), .val (.int d4), .val (.int d5), .val (.int d6)] []
  have Kp : Keep h0 h0 [] := Keep.refl _ _
  refine own_iloadN X hx (hb hby own_d_method_5_code_0) (pc' := 1) rfl rfl ?_
  refine own_ifY X hx (hb hby own_d_method_5_code_1) (by decide) (pc' := 15) rfl (show ¬ ((4 : Int32) = (0 : Int32)) from (by decide)) ?_
  refine own_iloadN X hx (hb hby own_d_method_5_code_15) (pc' := 16) rfl rfl ?_
  refine own_iconst X hx (1 : Int32) (hb hby own_d_method_5_code_16) (pc' := 17) rfl rfl ?_
  refine own_icmpY X hx (hb hby own_d_method_5_code_17) (by decide) (pc' := 35) rfl (show ¬ ((4 : Int32) = (1 : Int32)) from (by decide)) ?_
  refine own_iloadN X hx (hb hby own_d_method_5_code_35) (pc' := 36) rfl rfl ?_
  refine own_iconst X hx (2 : Int32) (hb hby own_d_method_5_code_36) (pc' := 37) rfl rfl ?_
  refine own_icmpY X hx (hb hby own_d_method_5_code_37) (by decide) (pc' := 59) rfl (show ¬ ((4 : Int32) = (2 : Int32)) from (by decide)) ?_
  refine own_iloadN X hx (hb hby own_d_method_5_code_59) (pc' := 60) rfl rfl ?_
  refine own_iconst X hx (3 : Int32) (hb hby own_d_method_5_code_60) (pc' := 61) rfl rfl ?_
  refine own_icmpY X hx (hb hby own_d_method_5_code_61) (by decide) (pc' := 87) rfl (show ¬ ((4 : Int32) = (3 : Int32)) from (by decide)) ?_
  refine own_iloadN X hx (hb hby own_d_method_5_code_87) (pc' := 88) rfl rfl ?_
  refine own_iconst X hx (4 : Int32) (hb hby own_d_method_5_code_88) (pc' := 89) rfl rfl ?_
  refine own_icmpN X hx (hb hby own_d_method_5_code_89) (pc' := 92) rfl (show (4 : Int32) = (4 : Int32) from (by decide)) ?_
  refine own_new X hx hZ hown (own_w hw 14 rfl) (own_w hw 15 rfl) (own_w hw 16 rfl) eT (hb hby own_d_method_5_code_92) (pc' := 95) rfl (cells' := 1) (slots' := 4) rfl rfl (by decide) (by decide) ?_
  intro T h1 b1 X eT E gb1 E_b1 Db1
  have z_b1 : n0 ≤ b1 := Nat.le_trans Z0 (Nat.le_of_eq gb1.symm)
  have s_b1 : h0.size ≤ b1 := Nat.le_trans Kp.1 (Nat.le_of_eq gb1.symm)
  have S_b1 : Safe Z own_EL vm0 h0 b1 := Safe.new (Nat.le_of_eq gb1.symm)
  have S_b1 := S_b1.ext E H
  have CR := CR.trans (CHr.ext E H)
  have H := H.ext E
  have hk := Nat.le_trans hk E.1
  have S_C := S_C.ext E
  have Z0 := Nat.le_trans Z0 E.1
  have Kp := Kp.ext E
  have F_value_b1 : Fld Z h1 b1 "java/lang/String" "value" "[B" .null := Db1 (Or.inr (own_w hw 30 rfl)) (ty := (.array .byte)) (by decide)
  have F_coder_b1 : Fld Z h1 b1 "java/lang/String" "coder" "B" (.int (0 : Int32)) := Db1 (Or.inr (own_w hw 31 rfl)) (ty := .byte) (by decide)
  refine own_dup X hx (hb hby own_d_method_5_code_95) (pc' := 96) rfl rfl ?_
  refine own_iconst X hx (4 : Int32) (hb hby own_d_method_5_code_96) (pc' := 97) rfl rfl ?_
  refine own_newarr X hx hZ (own_w hw 17 rfl) eT (hb hby own_d_method_5_code_97) (pc' := 99) rfl (by decide) 4 (by decide) (by decide) (cells' := 2) (slots' := 8) rfl rfl (by decide) (by decide) ?_
  intro T h2 k_b2 b2 X eT E gb2 A_b2
  have lt_b1_b2 : b1 < b2 := Nat.lt_of_lt_of_le E_b1.lt (Nat.le_of_eq gb2.symm)
  have ne_b1_b2 : b1 ≠ b2 := Nat.ne_of_lt lt_b1_b2
  have z_b2 : n0 ≤ b2 := Nat.le_trans Z0 (Nat.le_of_eq gb2.symm)
  have s_b2 : h0.size ≤ b2 := Nat.le_trans Kp.1 (Nat.le_of_eq gb2.symm)
  have S_b1 := S_b1.ext E H
  have CR := CR.trans (CHr.ext E H)
  have H := H.ext E
  have hk := Nat.le_trans hk E.1
  have S_C := S_C.ext E
  have E_b1 := E_b1.ext E
  have F_value_b1 := F_value_b1.ext E
  have F_coder_b1 := F_coder_b1.ext E
  have Z0 := Nat.le_trans Z0 E.1
  have Kp := Kp.ext E
  have A_b2 : Arv Z h2 b2 k_b2 .char (4 : Int32) [(.int (0 : Int32)), (.int (0 : Int32)), (.int (0 : Int32)), (.int (0 : Int32))] (.int (0 : Int32)) := A_b2.pad (pad_rep [] (.int (0 : Int32)) 4)
  refine own_dup X hx (hb hby own_d_method_5_code_99) (pc' := 100) rfl rfl ?_
  refine own_iconst X hx (0 : Int32) (hb hby own_d_method_5_code_100) (pc' := 101) rfl rfl ?_
  refine own_iloadN X hx (hb hby own_d_method_5_code_101) (pc' := 102) rfl rfl ?_
  refine own_castore X hx hZ eT A_b2 (by decide) 0 rfl (by show 0 < 4; decide) (hb hby own_d_method_5_code_102) (pc' := 103) rfl ?_
  intro T h3 lc X eT Kq A_b2n fN
  have hsf : ∀ x ∈ ([b2] : List Addr), Safe Z own_EL vm0 h2 x := (sfS (Safe.arv hZ.alike A_b2 (by decide)) sf0)
  have S_b1 := S_b1.keep Kq hsf H
  have CR := CR.trans (CHr.keep Kq hsf H)
  have H := H.keep Kq hsf
  have hk := Nat.le_trans hk Kq.1
  have S_C := own_sta_keep S_C Kq (nsS (own_ns_arv A_b2) ns0)
  have E_b1 := E_b1.keep Kq
  have F_value_b1 := F_value_b1.keep Kq (ninS ne_b1_b2 nin0)
  have F_coder_b1 := F_coder_b1.keep Kq (ninS ne_b1_b2 nin0)
  have Z0 := Nat.le_trans Z0 Kq.1
  have A_b2 := A_b2n
  have N := fN _ z_b2 N
  have Kp := Kp.trans Kq (allS (P := fun x => x ∈ [] ∨ h0.size ≤ x) (Or.inr s_b2) all0)
  rw [own_nc bd0] at A_b2
  have A_b2 : Arv Z h3 b2 _ .char (4 : Int32) [(.int d0), (.int (0 : Int32)), (.int (0 : Int32)), (.int (0 : Int32))] (.int (0 : Int32)) := A_b2
  refine own_dup X hx (hb hby own_d_method_5_code_103) (pc' := 104) rfl rfl ?_
  refine own_iconst X hx (1 : Int32) (hb hby own_d_method_5_code_104) (pc' := 105) rfl rfl ?_
  refine own_iloadN X hx (hb hby own_d_method_5_code_105) (pc' := 106) rfl rfl ?_
  refine own_castore X hx hZ eT A_b2 (by decide) 1 rfl (by show 1 < 4; decide) (hb hby own_d_method_5_code_106) (pc' := 107) rfl ?_
  intro T h4 lc X eT Kq A_b2n fN
  have hsf : ∀ x ∈ ([b2] : List Addr), Safe Z own_EL vm0 h3 x := (sfS (Safe.arv hZ.alike A_b2 (by decide)) sf0)
  have S_b1 := S_b1.keep Kq hsf H
  have CR := CR.trans (CHr.keep Kq hsf H)
  have H := H.keep Kq hsf
  have hk := Nat.le_trans hk Kq.1
  have S_C := own_sta_keep S_C Kq (nsS (own_ns_arv A_b2) ns0)
  have E_b1 := E_b1.keep Kq
  have F_value_b1 := F_value_b1.keep Kq (ninS ne_b1_b2 nin0)
  have F_coder_b1 := F_coder_b1.keep Kq (ninS ne_b1_b2 nin0)
  have Z0 := Nat.le_trans Z0 Kq.1
  have A_b2 := A_b2n
  have N := fN _ z_b2 N
  have Kp := Kp.trans Kq (allS (P := fun x => x ∈ [] ∨ h0.size ≤ x) (Or.inr s_b2) all0)
  rw [own_nc bd1] at A_b2
  have A_b2 : Arv Z h4 b2 _ .char (4 : Int32) [(.int d0), (.int d1), (.int (0 : Int32)), (.int (0 : Int32))] (.int (0 : Int32)) := A_b2
  refine own_dup X hx (hb hby own_d_method_5_code_107) (pc' := 108) rfl rfl ?_
  refine own_iconst X hx (2 : Int32) (hb hby own_d_method_5_code_108) (pc' := 109) rfl rfl ?_
  refine own_iloadN X hx (hb hby own_d_method_5_code_109) (pc' := 110) rfl rfl ?_
  refine own_castore X hx hZ eT A_b2 (by decide) 2 rfl (by show 2 < 4; decide) (hb hby own_d_method_5_code_110) (pc' := 111) rfl ?_
  intro T h5 lc X eT Kq A_b2n fN
  have hsf : ∀ x ∈ ([b2] : List Addr), Safe Z own_EL vm0 h4 x := (sfS (Safe.arv hZ.alike A_b2 (by decide)) sf0)
  have S_b1 := S_b1.keep Kq hsf H
  have CR := CR.trans (CHr.keep Kq hsf H)
  have H := H.keep Kq hsf
  have hk := Nat.le_trans hk Kq.1
  have S_C := own_sta_keep S_C Kq (nsS (own_ns_arv A_b2) ns0)
  have E_b1 := E_b1.keep Kq
  have F_value_b1 := F_value_b1.keep Kq (ninS ne_b1_b2 nin0)
  have F_coder_b1 := F_coder_b1.keep Kq (ninS ne_b1_b2 nin0)
  have Z0 := Nat.le_trans Z0 Kq.1
  have A_b2 := A_b2n
  have N := fN _ z_b2 N
  have Kp := Kp.trans Kq (allS (P := fun x => x ∈ [] ∨ h0.size ≤ x) (Or.inr s_b2) all0)
  rw [own_nc bd2] at A_b2
  have A_b2 : Arv Z h5 b2 _ .char (4 : Int32) [(.int d0), (.int d1), (.int d2), (.int (0 : Int32))] (.int (0 : Int32)) := A_b2
  refine own_dup X hx (hb hby own_d_method_5_code_111) (pc' := 112) rfl rfl ?_
  refine own_iconst X hx (3 : Int32) (hb hby own_d_method_5_code_112) (pc' := 113) rfl rfl ?_
  refine own_iload X hx (hb hby own_d_method_5_code_113) (pc' := 115) rfl rfl ?_
  refine own_castore X hx hZ eT A_b2 (by decide) 3 rfl (by show 3 < 4; decide) (hb hby own_d_method_5_code_115) (pc' := 116) rfl ?_
  intro T h6 lc X eT Kq A_b2n fN
  have hsf : ∀ x ∈ ([b2] : List Addr), Safe Z own_EL vm0 h5 x := (sfS (Safe.arv hZ.alike A_b2 (by decide)) sf0)
  have S_b1 := S_b1.keep Kq hsf H
  have CR := CR.trans (CHr.keep Kq hsf H)
  have H := H.keep Kq hsf
  have hk := Nat.le_trans hk Kq.1
  have S_C := own_sta_keep S_C Kq (nsS (own_ns_arv A_b2) ns0)
  have E_b1 := E_b1.keep Kq
  have F_value_b1 := F_value_b1.keep Kq (ninS ne_b1_b2 nin0)
  have F_coder_b1 := F_coder_b1.keep Kq (ninS ne_b1_b2 nin0)
  have Z0 := Nat.le_trans Z0 Kq.1
  have A_b2 := A_b2n
  have N := fN _ z_b2 N
  have Kp := Kp.trans Kq (allS (P := fun x => x ∈ [] ∨ h0.size ≤ x) (Or.inr s_b2) all0)
  rw [own_nc bd3] at A_b2
  have A_b2 : Arv Z h6 b2 _ .char (4 : Int32) [(.int d0), (.int d1), (.int d2), (.int d3)] (.int (0 : Int32)) := A_b2
  refine own_callN X hx hZ b1 [(.ref b2)] rfl hown (own_w hw 18 rfl) (own_w hw 19 rfl) (own_w hw 16 rfl) (own_w hw 20 rfl) (by decide) (rm_ic4 l Z a0 hw [] b1 b2 _ cs d0 d1 d2 d3 h6 n0 Z0 S_C hcs _ _ E_b1 F_coder_b1 F_value_b1 A_b2 ne_b1_b2 (own_le bd0) (own_le bd1) (own_le bd2) (own_le bd3) z_b1) eT (W := 1) (by decide) (by decide) (cells' := 3) (slots' := 12) rfl rfl (by decide) (by decide) (by rw [hml]; rfl) (lenOf own_pd_285bC29V rfl) rfl (S := [(.ref b1)]) rfl (Nat.le_of_eq rfl) (hb hby own_d_method_5_code_116) (pc' := 119) rfl ?_
  intro v T h7 L lc X eT hq fN
  obtain ⟨rfl, Nq, Kq, bb, kb, hbb, F_c, F_v, A_bb⟩ := hq
  have N := fN _ N Nq
  have Kp := Kp.trans Kq (allS (P := fun x => x ∈ ([] : List Addr) ∨ h0.size ≤ x) (Or.inr s_b1) all0)
  have lt_b1_bb : b1 < bb := Nat.lt_of_lt_of_le E_b1.lt hbb
  have ne_b1_bb : b1 ≠ bb := Nat.ne_of_lt lt_b1_bb
  have lt_b2_bb : b2 < bb := Nat.lt_of_lt_of_le A_b2.lt hbb
  have ne_b2_bb : b2 ≠ bb := Nat.ne_of_lt lt_b2_bb
  have hsf : ∀ x ∈ ([b1] : List Addr), Safe Z own_EL vm0 h6 x := (sfS S_b1 sf0)
  have S_b1 := S_b1.keep Kq hsf H
  have CR := CR.trans (CHr.keep Kq hsf H)
  have H := H.keep Kq hsf
  have hk := Nat.le_trans hk Kq.1
  have S_C := own_sta_keep S_C Kq (nsS (own_ns_exa E_b1) ns0)
  have E_b1 := E_b1.keep Kq
  have A_b2 := A_b2.keep Kq (ninS (Ne.symm ne_b1_b2) nin0)
  have Z0 := Nat.le_trans Z0 Kq.1
  show own_W p e below (own_PostS Z own_EL s (Q_mk4 Z cs d0 d1 d2 d3 d4 d5 d6 h0 n0) 3 12) T m 119 #[.val (.int (4 : Int32)), .val (.int d0), .val (.int d1), .val (.int d2), .val (.int d3), .val (.int d4), .val (.int d5), .val (.int d6)] [(.ref b1)]
  refine own_retAS X hx hlk hZ eT hh hS hk hEL H CR Bd.returns (hb hby own_d_method_5_code_119) rfl rfl rfl (by decide) (by decide) ?_
  rw [eT]
  exact ⟨b1, bb, kb, rfl, N, Kp, E_b1, F_c, F_v, A_bb⟩
theorem own_d_method_5_code_120 : decode method_5_code 120 = .ok (.iload_n 0, 1) := by decide +kernel
theorem own_d_method_5_code_121 : decode method_5_code 121 = .ok (.iconst 5, 1) := by decide +kernel
theorem own_d_method_5_code_122 : decode method_5_code 122 = .ok (.if_icmp .ne 36, 3) := by decide +kernel
theorem own_d_method_5_code_125 : decode method_5_code 125 = .ok (.new 19, 3) := by decide +kernel
theorem own_d_method_5_code_128 : decode method_5_code 128 = .ok (.dup, 1) := by decide +kernel
theorem own_d_method_5_code_129 : decode method_5_code 129 = .ok (.iconst 5, 1) := by decide +kernel
theorem own_d_method_5_code_130 : decode method_5_code 130 = .ok (.newarray .char, 2) := by decide +kernel
theorem own_d_method_5_code_132 : decode method_5_code 132 = .ok (.dup, 1) := by decide +kernel
theorem own_d_method_5_code_133 : decode method_5_code 133 = .ok (.iconst 0, 1) := by decide +kernel
theorem own_d_method_5_code_134 : decode method_5_code 134 = .ok (.iload_n 1, 1) := by decide +kernel
theorem own_d_method_5_code_135 : decode method_5_code 135 = .ok (.castore, 1) := by decide +kernel
theorem own_d_method_5_code_136 : decode method_5_code 136 = .ok (.dup, 1) := by decide +kernel
theorem own_d_method_5_code_137 : decode method_5_code 137 = .ok (.iconst 1, 1) := by decide +kernel
theorem own_d_method_5_code_138 : decode method_5_code 138 = .ok (.iload_n 2, 1) := by decide +kernel
theorem own_d_method_5_code_139 : decode method_5_code 139 = .ok (.castore, 1) := by decide +kernel
theorem own_d_method_5_code_140 : decode method_5_code 140 = .ok (.dup, 1) := by decide +kernel
theorem own_d_method_5_code_141 : decode method_5_code 141 = .ok (.iconst 2, 1) := by decide +kernel
theorem own_d_method_5_code_142 : decode method_5_code 142 = .ok (.iload_n 3, 1) := by decide +kernel
theorem own_d_method_5_code_143 : decode method_5_code 143 = .ok (.castore, 1) := by decide +kernel
theorem own_d_method_5_code_144 : decode method_5_code 144 = .ok (.dup, 1) := by decide +kernel
theorem own_d_method_5_code_145 : decode method_5_code 145 = .ok (.iconst 3, 1) := by decide +kernel
theorem own_d_method_5_code_146 : decode method_5_code 146 = .ok (.iload 4, 2) := by decide +kernel
theorem own_d_method_5_code_148 : decode method_5_code 148 = .ok (.castore, 1) := by decide +kernel
theorem own_d_method_5_code_149 : decode method_5_code 149 = .ok (.dup, 1) := by decide +kernel
theorem own_d_method_5_code_150 : decode method_5_code 150 = .ok (.iconst 4, 1) := by decide +kernel
theorem own_d_method_5_code_151 : decode method_5_code 151 = .ok (.iload 5, 2) := by decide +kernel
theorem own_d_method_5_code_153 : decode method_5_code 153 = .ok (.castore, 1) := by decide +kernel
theorem own_d_method_5_code_154 : decode method_5_code 154 = .ok (.invokespecial 21, 3) := by decide +kernel
theorem own_d_method_5_code_157 : decode method_5_code 157 = .ok (.areturn, 1) := by decide +kernel
theorem ef_mk5 (m : MethodId) (x0 : Int32) (x1 : Int32) (x2 : Int32) (x3 : Int32) (x4 : Int32) (x5 : Int32) (x6 : Int32) (x7 : Int32) : entryFrame m #[(.int x0), (.int x1), (.int x2), (.int x3), (.int x4), (.int x5), (.int x6), (.int x7)] 8 = mkF m 0 #[.val (.int x0), .val (.int x1), .val (.int x2), .val (.int x3), .val (.int x4), .val (.int x5), .val (.int x6), .val (.int x7)] [] := by first | (simp [entryFrame, mkF, argsToLocals, Value.category]; done) | rfl
def Q_mk5 (Z : State) (cs d0 d1 d2 d3 d4 d5 d6 : Int32) (h0 : Heap) (n0 : Nat) (v : Option Value) (h : Heap) (L : List Loc) : Prop := ∃ (a b : Addr) (k : ClassId), v = some (.ref a) ∧ Fr n0 L ∧ Keep h0 h [] ∧ Exa Z h a "java/lang/String" ∧ Fld Z h a "java/lang/String" "coder" "B" (.int (0 : Int32)) ∧ Fld Z h a "java/lang/String" "value" "[B" (.ref b) ∧ Arv Z h b k .byte (5 : Int32) [(.int (nar .byte d0.toInt8.toInt32)), (.int (nar .byte d1.toInt8.toInt32)), (.int (nar .byte d2.toInt8.toInt32)), (.int (nar .byte d3.toInt8.toInt32)), (.int (nar .byte d4.toInt8.toInt32))] (.int (0 : Int32))
set_option maxRecDepth 65536 in
set_option maxHeartbeats 40000000 in
theorem rm_mk5 (l : Launch) (Z : State) (a0 : Array Value) (hw : ∀ d ∈ tables_1, d.before a0 Z = true) (hEL : EW Z a0 own_EL) (ws : List Jvm.Cond) (cs d0 d1 d2 d3 d4 d5 d6 : Int32) (h0 : Heap) (n0 : Nat) (Z0 : n0 ≤ h0.size) (S_C : Sta Z h0 "java/lang/String" "COMPACT_STRINGS" "Z" (.int cs)) (hcs : ¬ cs = 0) (bd0 : own_lat8 d0) (bd1 : own_lat8 d1) (bd2 : own_lat8 d2) (bd3 : own_lat8 d3) (bd4 : own_lat8 d4) (bd5 : own_lat8 d5) (bd6 : own_lat8 d6) :
    MetFree l (⟨"com/example/bleeper/bleeper/cli/ArgumentsAsksForHelpPinLaw", "make", "(ICCCCCCC)Ljava/lang/String;"⟩ : MethodName) (head1 (Jvm.Cond.code (⟨"com/example/bleeper/bleeper/cli/ArgumentsAsksForHelpPinLaw", "make", "(ICCCCCCC)Ljava/lang/String;"⟩ : MethodName) method_5_code 8 (some (.object "java/lang/String")) :: ws) ({ frames := 4, cells := 3, slots := 14, locals := 66 } : Room)) (fun a U => a = #[(.int (5 : Int32)), (.int d0), (.int d1), (.int d2), (.int d3), (.int d4), (.int d5), (.int d6)] ∧ Z.Warmed39 U.vm ∧ U.heap = h0 ∧ CHv Z own_EL U.vm h0) (fun _ _ _ _ _ => True) (fun _ U o U' => ∃ v L, o = .returned v ∧ Q_mk5 Z cs d0 d1 d2 d3 d4 d5 d6 h0 n0 v U'.heap L ∧ CHr Z own_EL U.vm U.heap U'.vm U'.heap ∧ ReturnedEndW U o U' L ({ frames := 4, cells := 3, slots := 14, locals := 66 } : Room).cells ({ frames := 4, cells := 3, slots := 14, locals := 66 } : Room).slots) := by
  refine MetFree.of_bodySF (plainFor_of_name own_pn_com_example_bleeper_bleeper_cli_ArgumentsAsksForHelpPinLaw) hisR ?_
  intro p e s m args below meth c s₁ Bd hml0 hP hK
  obtain ⟨rfl, hZ, hh, H⟩ := hP
  have hx := Bd.exec
  have hby := Bd.bytes
  have hml : c.maxLocals = 8 := hml0
  have hown : s.vm.findClass "com/example/bleeper/bleeper/cli/ArgumentsAsksForHelpPinLaw" = some m.cls := findClass_of_methodNamed Bd.named
  have hnm := (name_of_methodNamed Bd.named Bd.method).1
  have hlk := Bd.notSynchronized
  obtain ⟨lc, hlc⟩ : ∃ lc : List Loc, lc = [] := ⟨_, rfl⟩
  have X : Stand p l e ({ frames := 4, cells := 3, slots := 14, locals := 66 } : Room) s m #[(.int (5 : Int32)), (.int d0), (.int d1), (.int d2), (.int d3), (.int d4), (.int d5), (.int d6)] below meth c s₁ lc 0 0 := hlc ▸ Stand.of_body Bd
  have eT : s₁.heap = h0 := by rw [← hh, Bd.state]; rfl
  have N : Fr n0 lc := hlc ▸ Fr.nil n0
  obtain ⟨vm0, hvm⟩ : ∃ v : Vm, v = s.vm := ⟨_, rfl⟩
  have X : Stand p l e ({ frames := 4, cells := 3, slots := 14, locals := 66 } : Room) (s.setVm vm0) m #[(.int (5 : Int32)), (.int d0), (.int d1), (.int d2), (.int d3), (.int d4), (.int d5), (.int d6)] below meth c s₁ lc 0 0 := by rw [hvm]; exact X
  have hZ : Z.Warmed39 (s.setVm vm0).vm := by rw [hvm]; exact hZ
  have hown : (s.setVm vm0).vm.findClass "com/example/bleeper/bleeper/cli/ArgumentsAsksForHelpPinLaw" = some m.cls := by rw [hvm]; exact hown
  have hS : s.Since vm0 h0.size := by rw [hvm]; exact (State.WarmedH.refl s).since _
  have hk : h0.size ≤ h0.size := Nat.le_refl _
  have CR : CHr Z own_EL s.vm h0 vm0 h0 := by rw [hvm]; exact CHr.refl H
  have H : CHv Z own_EL vm0 h0 := by rw [hvm]; exact H
  refine own_enterS (ef_mk5 m (5 : Int32) d0 d1 d2 d3 d4 d5 d6) ?_
  obtain ⟨T, hT⟩ : ∃ T : State, T = s₁ := ⟨_, rfl⟩
  rw [← hT] at X eT ⊢
  show own_W p e below (own_PostS Z own_EL s (Q_mk5 Z cs d0 d1 d2 d3 d4 d5 d6 h0 n0) 3 14) T m 0 #[.val (.int (5 : Int32)), .val (.int d0), .val (.int d1), .val (.int d2), .val (.int d3), .val (.int d4), .val (.int d5), .val (.int d6)] []
  have Kp : Keep h0 h0 [] := Keep.refl _ _
  refine own_iloadN X hx (hb hby own_d_method_5_code_0) (pc' := 1) rfl rfl ?_
  refine own_ifY X hx (hb hby own_d_method_5_code_1) (by decide) (pc' := 15) rfl (show ¬ ((5 : Int32) = (0 : Int32)) from (by decide)) ?_
  refine own_iloadN X hx (hb hby own_d_method_5_code_15) (pc' := 16) rfl rfl ?_
  refine own_iconst X hx (1 : Int32) (hb hby own_d_method_5_code_16) (pc' := 17) rfl rfl ?_
  refine own_icmpY X hx (hb hby own_d_method_5_code_17) (by decide) (pc' := 35) rfl (show ¬ ((5 : Int32) = (1 : Int32)) from (by decide)) ?_
  refine own_iloadN X hx (hb hby own_d_method_5_code_35) (pc' := 36) rfl rfl ?_
  refine own_iconst X hx (2 : Int32) (hb hby own_d_method_5_code_36) (pc' := 37) rfl rfl ?_
  refine own_icmpY X hx (hb hby own_d_method_5_code_37) (by decide) (pc' := 59) rfl (show ¬ ((5 : Int32) = (2 : Int32)) from (by decide)) ?_
  refine own_iloadN X hx (hb hby own_d_method_5_code_59) (pc' := 60) rfl rfl ?_
  refine own_iconst X hx (3 : Int32) (hb hby own_d_method_5_code_60) (pc' := 61) rfl rfl ?_
  refine own_icmpY X hx (hb hby own_d_method_5_code_61) (by decide) (pc' := 87) rfl (show ¬ ((5 : Int32) = (3 : Int32)) from (by decide)) ?_
  refine own_iloadN X hx (hb hby own_d_method_5_code_87) (pc' := 88) rfl rfl ?_
  refine own_iconst X hx (4 : Int32) (hb hby own_d_method_5_code_88) (pc' := 89) rfl rfl ?_
  refine own_icmpY X hx (hb hby own_d_method_5_code_89) (by decide) (pc' := 120) rfl (show ¬ ((5 : Int32) = (4 : Int32)) from (by decide)) ?_
  refine own_iloadN X hx (hb hby own_d_method_5_code_120) (pc' := 121) rfl rfl ?_
  refine own_iconst X hx (5 : Int32) (hb hby own_d_method_5_code_121) (pc' := 122) rfl rfl ?_
  refine own_icmpN X hx (hb hby own_d_method_5_code_122) (pc' := 125) rfl (show (5 : Int32) = (5 : Int32) from (by decide)) ?_
  refine own_new X hx hZ hown (own_w hw 14 rfl) (own_w hw 15 rfl) (own_w hw 16 rfl) eT (hb hby own_d_method_5_code_125) (pc' := 128) rfl (cells' := 1) (slots' := 4) rfl rfl (by decide) (by decide) ?_
  intro T h1 b1 X eT E gb1 E_b1 Db1
  have z_b1 : n0 ≤ b1 := Nat.le_trans Z0 (Nat.le_of_eq gb1.symm)
  have s_b1 : h0.size ≤ b1 := Nat.le_trans Kp.1 (Nat.le_of_eq gb1.symm)
  have S_b1 : Safe Z own_EL vm0 h0 b1 := Safe.new (Nat.le_of_eq gb1.symm)
  have S_b1 := S_b1.ext E H
  have CR := CR.trans (CHr.ext E H)
  have H := H.ext E
  have hk := Nat.le_trans hk E.1
  have S_C := S_C.ext E
  have Z0 := Nat.le_trans Z0 E.1
  have Kp := Kp.ext E
  have F_value_b1 : Fld Z h1 b1 "java/lang/String" "value" "[B" .null := Db1 (Or.inr (own_w hw 30 rfl)) (ty := (.array .byte)) (by decide)
  have F_coder_b1 : Fld Z h1 b1 "java/lang/String" "coder" "B" (.int (0 : Int32)) := Db1 (Or.inr (own_w hw 31 rfl)) (ty := .byte) (by decide)
  refine own_dup X hx (hb hby own_d_method_5_code_128) (pc' := 129) rfl rfl ?_
  refine own_iconst X hx (5 : Int32) (hb hby own_d_method_5_code_129) (pc' := 130) rfl rfl ?_
  refine own_newarr X hx hZ (own_w hw 17 rfl) eT (hb hby own_d_method_5_code_130) (pc' := 132) rfl (by decide) 5 (by decide) (by decide) (cells' := 2) (slots' := 9) rfl rfl (by decide) (by decide) ?_
  intro T h2 k_b2 b2 X eT E gb2 A_b2
  have lt_b1_b2 : b1 < b2 := Nat.lt_of_lt_of_le E_b1.lt (Nat.le_of_eq gb2.symm)
  have ne_b1_b2 : b1 ≠ b2 := Nat.ne_of_lt lt_b1_b2
  have z_b2 : n0 ≤ b2 := Nat.le_trans Z0 (Nat.le_of_eq gb2.symm)
  have s_b2 : h0.size ≤ b2 := Nat.le_trans Kp.1 (Nat.le_of_eq gb2.symm)
  have S_b1 := S_b1.ext E H
  have CR := CR.trans (CHr.ext E H)
  have H := H.ext E
  have hk := Nat.le_trans hk E.1
  have S_C := S_C.ext E
  have E_b1 := E_b1.ext E
  have F_value_b1 := F_value_b1.ext E
  have F_coder_b1 := F_coder_b1.ext E
  have Z0 := Nat.le_trans Z0 E.1
  have Kp := Kp.ext E
  have A_b2 : Arv Z h2 b2 k_b2 .char (5 : Int32) [(.int (0 : Int32)), (.int (0 : Int32)), (.int (0 : Int32)), (.int (0 : Int32)), (.int (0 : Int32))] (.int (0 : Int32)) := A_b2.pad (pad_rep [] (.int (0 : Int32)) 5)
  refine own_dup X hx (hb hby own_d_method_5_code_132) (pc' := 133) rfl rfl ?_
  refine own_iconst X hx (0 : Int32) (hb hby own_d_method_5_code_133) (pc' := 134) rfl rfl ?_
  refine own_iloadN X hx (hb hby own_d_method_5_code_134) (pc' := 135) rfl rfl ?_
  refine own_castore X hx hZ eT A_b2 (by decide) 0 rfl (by show 0 < 5; decide) (hb hby own_d_method_5_code_135) (pc' := 136) rfl ?_
  intro T h3 lc X eT Kq A_b2n fN
  have hsf : ∀ x ∈ ([b2] : List Addr), Safe Z own_EL vm0 h2 x := (sfS (Safe.arv hZ.alike A_b2 (by decide)) sf0)
  have S_b1 := S_b1.keep Kq hsf H
  have CR := CR.trans (CHr.keep Kq hsf H)
  have H := H.keep Kq hsf
  have hk := Nat.le_trans hk Kq.1
  have S_C := own_sta_keep S_C Kq (nsS (own_ns_arv A_b2) ns0)
  have E_b1 := E_b1.keep Kq
  have F_value_b1 := F_value_b1.keep Kq (ninS ne_b1_b2 nin0)
  have F_coder_b1 := F_coder_b1.keep Kq (ninS ne_b1_b2 nin0)
  have Z0 := Nat.le_trans Z0 Kq.1
  have A_b2 := A_b2n
  have N := fN _ z_b2 N
  have Kp := Kp.trans Kq (allS (P := fun x => x ∈ [] ∨ h0.size ≤ x) (Or.inr s_b2) all0)
  rw [own_nc bd0] at A_b2
  have A_b2 : Arv Z h3 b2 _ .char (5 : Int32) [(.int d0), (.int (0 : Int32)), (.int (0 : Int32)), (.int (0 : Int32)), (.int (0 : Int32))] (.int (0 : Int32)) := A_b2
  refine own_dup X hx (hb hby own_d_method_5_code_136) (pc' := 137) rfl rfl ?_
  refine own_iconst X hx (1 : Int32) (hb hby own_d_method_5_code_137) (pc' := 138) rfl rfl ?_
  refine own_iloadN X hx (hb hby own_d_method_5_code_138) (pc' := 139) rfl rfl ?_
  refine own_castore X hx hZ eT A_b2 (by decide) 1 rfl (by show 1 < 5; decide) (hb hby own_d_method_5_code_139) (pc' := 140) rfl ?_
  intro T h4 lc X eT Kq A_b2n fN
  have hsf : ∀ x ∈ ([b2] : List Addr), Safe Z own_EL vm0 h3 x := (sfS (Safe.arv hZ.alike A_b2 (by decide)) sf0)
  have S_b1 := S_b1.keep Kq hsf H
  have CR := CR.trans (CHr.keep Kq hsf H)
  have H := H.keep Kq hsf
  have hk := Nat.le_trans hk Kq.1
  have S_C := own_sta_keep S_C Kq (nsS (own_ns_arv A_b2) ns0)
  have E_b1 := E_b1.keep Kq
  have F_value_b1 := F_value_b1.keep Kq (ninS ne_b1_b2 nin0)
  have F_coder_b1 := F_coder_b1.keep Kq (ninS ne_b1_b2 nin0)
  have Z0 := Nat.le_trans Z0 Kq.1
  have A_b2 := A_b2n
  have N := fN _ z_b2 N
  have Kp := Kp.trans Kq (allS (P := fun x => x ∈ [] ∨ h0.size ≤ x) (Or.inr s_b2) all0)
  rw [own_nc bd1] at A_b2
  have A_b2 : Arv Z h4 b2 _ .char (5 : Int32) [(.int d0), (.int d1), (.int (0 : Int32)), (.int (0 : Int32)), (.int (0 : Int32))] (.int (0 : Int32)) := A_b2
  refine own_dup X hx (hb hby own_d_method_5_code_140) (pc' := 141) rfl rfl ?_
  refine own_iconst X hx (2 : Int32) (hb hby own_d_method_5_code_141) (pc' := 142) rfl rfl ?_
  refine own_iloadN X hx (hb hby own_d_method_5_code_142) (pc' := 143) rfl rfl ?_
  refine own_castore X hx hZ eT A_b2 (by decide) 2 rfl (by show 2 < 5; decide) (hb hby own_d_method_5_code_143) (pc' := 144) rfl ?_
  intro T h5 lc X eT Kq A_b2n fN
  have hsf : ∀ x ∈ ([b2] : List Addr), Safe Z own_EL vm0 h4 x := (sfS (Safe.arv hZ.alike A_b2 (by decide)) sf0)
  have S_b1 := S_b1.keep Kq hsf H
  have CR := CR.trans (CHr.keep Kq hsf H)
  have H := H.keep Kq hsf
  have hk := Nat.le_trans hk Kq.1
  have S_C := own_sta_keep S_C Kq (nsS (own_ns_arv A_b2) ns0)
  have E_b1 := E_b1.keep Kq
  have F_value_b1 := F_value_b1.keep Kq (ninS ne_b1_b2 nin0)
  have F_coder_b1 := F_coder_b1.keep Kq (ninS ne_b1_b2 nin0)
  have Z0 := Nat.le_trans Z0 Kq.1
  have A_b2 := A_b2n
  have N := fN _ z_b2 N
  have Kp := Kp.trans Kq (allS (P := fun x => x ∈ [] ∨ h0.size ≤ x) (Or.inr s_b2) all0)
  rw [own_nc bd2] at A_b2
  have A_b2 : Arv Z h5 b2 _ .char (5 : Int32) [(.int d0), (.int d1), (.int d2), (.int (0 : Int32)), (.int (0 : Int32))] (.int (0 : Int32)) := A_b2
  refine own_dup X hx (hb hby own_d_method_5_code_144) (pc' := 145) rfl rfl ?_
  refine own_iconst X hx (3 : Int32) (hb hby own_d_method_5_code_145) (pc' := 146) rfl rfl ?_
  refine own_iload X hx (hb hby own_d_method_5_code_146) (pc' := 148) rfl rfl ?_
  refine own_castore X hx hZ eT A_b2 (by decide) 3 rfl (by show 3 < 5; decide) (hb hby own_d_method_5_code_148) (pc' := 149) rfl ?_
  intro T h6 lc X eT Kq A_b2n fN
  have hsf : ∀ x ∈ ([b2] : List Addr), Safe Z own_EL vm0 h5 x := (sfS (Safe.arv hZ.alike A_b2 (by decide)) sf0)
  have S_b1 := S_b1.keep Kq hsf H
  have CR := CR.trans (CHr.keep Kq hsf H)
  have H := H.keep Kq hsf
  have hk := Nat.le_trans hk Kq.1
  have S_C := own_sta_keep S_C Kq (nsS (own_ns_arv A_b2) ns0)
  have E_b1 := E_b1.keep Kq
  have F_value_b1 := F_value_b1.keep Kq (ninS ne_b1_b2 nin0)
  have F_coder_b1 := F_coder_b1.keep Kq (ninS ne_b1_b2 nin0)
  have Z0 := Nat.le_trans Z0 Kq.1
  have A_b2 := A_b2n
  have N := fN _ z_b2 N
  have Kp := Kp.trans Kq (allS (P := fun x => x ∈ [] ∨ h0.size ≤ x) (Or.inr s_b2) all0)
  rw [own_nc bd3] at A_b2
  have A_b2 : Arv Z h6 b2 _ .char (5 : Int32) [(.int d0), (.int d1), (.int d2), (.int d3), (.int (0 : Int32))] (.int (0 : Int32)) := A_b2
  refine own_dup X hx (hb hby own_d_method_5_code_149) (pc' := 150) rfl rfl ?_
  refine own_iconst X hx (4 : Int32) (hb hby own_d_method_5_code_150) (pc' := 151) rfl rfl ?_
  refine own_iload X hx (hb hby own_d_method_5_code_151) (pc' := 153) rfl rfl ?_
  refine own_castore X hx hZ eT A_b2 (by decide) 4 rfl (by show 4 < 5; decide) (hb hby own_d_method_5_code_153) (pc' := 154) rfl ?_
  intro T h7 lc X eT Kq A_b2n fN
  have hsf : ∀ x ∈ ([b2] : List Addr), Safe Z own_EL vm0 h6 x := (sfS (Safe.arv hZ.alike A_b2 (by decide)) sf0)
  have S_b1 := S_b1.keep Kq hsf H
  have CR := CR.trans (CHr.keep Kq hsf H)
  have H := H.keep Kq hsf
  have hk := Nat.le_trans hk Kq.1
  have S_C := own_sta_keep S_C Kq (nsS (own_ns_arv A_b2) ns0)
  have E_b1 := E_b1.keep Kq
  have F_value_b1 := F_value_b1.keep Kq (ninS ne_b1_b2 nin0)
  have F_coder_b1 := F_coder_b1.keep Kq (ninS ne_b1_b2 nin0)
  have Z0 := Nat.le_trans Z0 Kq.1
  have A_b2 := A_b2n
  have N := fN _ z_b2 N
  have Kp := Kp.trans Kq (allS (P := fun x => x ∈ [] ∨ h0.size ≤ x) (Or.inr s_b2) all0)
  rw [own_nc bd4] at A_b2
  have A_b2 : Arv Z h7 b2 _ .char (5 : Int32) [(.int d0), (.int d1), (.int d2), (.int d3), (.int d4)] (.int (0 : Int32)) := A_b2
  refine own_callN X hx hZ b1 [(.ref b2)] rfl hown (own_w hw 18 rfl) (own_w hw 19 rfl) (own_w hw 16 rfl) (own_w hw 20 rfl) (by decide) (rm_ic5 l Z a0 hw [] b1 b2 _ cs d0 d1 d2 d3 d4 h7 n0 Z0 S_C hcs _ _ E_b1 F_coder_b1 F_value_b1 A_b2 ne_b1_b2 (own_le bd0) (own_le bd1) (own_le bd2) (own_le bd3) (own_le bd4) z_b1) eT (W := 1) (by decide) (by decide) (cells' := 3) (slots' := 14) rfl rfl (by decide) (by decide) (by rw [hml]; rfl) (lenOf own_pd_285bC29V rfl) rfl (S := [(.ref b1)]) rfl (Nat.le_of_eq rfl) (hb hby own_d_method_5_code_154) (pc' := 157) rfl ?_
  intro v T h8 L lc X eT hq fN
  obtain ⟨rfl, Nq, Kq, bb, kb, hbb, F_c, F_v, A_bb⟩ := hq
  have N := fN _ N Nq
  have Kp := Kp.trans Kq (allS (P := fun x => x ∈ ([] : List Addr) ∨ h0.size ≤ x) (Or.inr s_b1) all0)
  have lt_b1_bb : b1 < bb := Nat.lt_of_lt_of_le E_b1.lt hbb
  have ne_b1_bb : b1 ≠ bb := Nat.ne_of_lt lt_b1_bb
  have lt_b2_bb : b2 < bb := Nat.lt_of_lt_of_le A_b2.lt hbb
  have ne_b2_bb : b2 ≠ bb := Nat.ne_of_lt lt_b2_bb
  have hsf : ∀ x ∈ ([b1] : List Addr), Safe Z own_EL vm0 h7 x := (sfS S_b1 sf0)
  have S_b1 := S_b1.keep Kq hsf H
  have CR := CR.trans (CHr.keep Kq hsf H)
  have H := H.keep Kq hsf
  have hk := Nat.le_trans hk Kq.1
  have S_C := own_sta_keep S_C Kq (nsS (own_ns_exa E_b1) ns0)
  have E_b1 := E_b1.keep Kq
  have A_b2 := A_b2.keep Kq (ninS (Ne.symm ne_b1_b2) nin0)
  have Z0 := Nat.le_trans Z0 Kq.1
  show own_W p e below (own_PostS Z own_EL s (Q_mk5 Z cs d0 d1 d2 d3 d4 d5 d6 h0 n0) 3 14) T m 157 #[.val (.int (5 : Int32)), .val (.int d0), .val (.int d1), .val (.int d2), .val (.int d3), .val (.int d4), .val (.int d5), .val (.int d6)] [(.ref b1)]
  refine own_retAS X hx hlk hZ eT hh hS hk hEL H CR Bd.returns (hb hby own_d_method_5_code_157) rfl rfl rfl (by decide) (by decide) ?_
  rw [eT]
  exact ⟨b1, bb, kb, rfl, N, Kp, E_b1, F_c, F_v, A_bb⟩
theorem own_d_method_5_code_158 : decode method_5_code 158 = .ok (.iload_n 0, 1) := by decide +kernel
theorem own_d_method_5_code_159 : decode method_5_code 159 = .ok (.bipush 6, 2) := by decide +kernel
theorem own_d_method_5_code_161 : decode method_5_code 161 = .ok (.if_icmp .ne 42, 3) := by decide +kernel
theorem own_d_method_5_code_164 : decode method_5_code 164 = .ok (.new 19, 3) := by decide +kernel
theorem own_d_method_5_code_167 : decode method_5_code 167 = .ok (.dup, 1) := by decide +kernel
theorem own_d_method_5_code_168 : decode method_5_code 168 = .ok (.bipush 6, 2) := by decide +kernel
theorem own_d_method_5_code_170 : decode method_5_code 170 = .ok (.newarray .char, 2) := by decide +kernel
theorem own_d_method_5_code_172 : decode method_5_code 172 = .ok (.dup, 1) := by decide +kernel
theorem own_d_method_5_code_173 : decode method_5_code 173 = .ok (.iconst 0, 1) := by decide +kernel
theorem own_d_method_5_code_174 : decode method_5_code 174 = .ok (.iload_n 1, 1) := by decide +kernel
theorem own_d_method_5_code_175 : decode method_5_code 175 = .ok (.castore, 1) := by decide +kernel
theorem own_d_method_5_code_176 : decode method_5_code 176 = .ok (.dup, 1) := by decide +kernel
theorem own_d_method_5_code_177 : decode method_5_code 177 = .ok (.iconst 1, 1) := by decide +kernel
theorem own_d_method_5_code_178 : decode method_5_code 178 = .ok (.iload_n 2, 1) := by decide +kernel
theorem own_d_method_5_code_179 : decode method_5_code 179 = .ok (.castore, 1) := by decide +kernel
theorem own_d_method_5_code_180 : decode method_5_code 180 = .ok (.dup, 1) := by decide +kernel
theorem own_d_method_5_code_181 : decode method_5_code 181 = .ok (.iconst 2, 1) := by decide +kernel
theorem own_d_method_5_code_182 : decode method_5_code 182 = .ok (.iload_n 3, 1) := by decide +kernel
theorem own_d_method_5_code_183 : decode method_5_code 183 = .ok (.castore, 1) := by decide +kernel
theorem own_d_method_5_code_184 : decode method_5_code 184 = .ok (.dup, 1) := by decide +kernel
theorem own_d_method_5_code_185 : decode method_5_code 185 = .ok (.iconst 3, 1) := by decide +kernel
theorem own_d_method_5_code_186 : decode method_5_code 186 = .ok (.iload 4, 2) := by decide +kernel
theorem own_d_method_5_code_188 : decode method_5_code 188 = .ok (.castore, 1) := by decide +kernel
theorem own_d_method_5_code_189 : decode method_5_code 189 = .ok (.dup, 1) := by decide +kernel
theorem own_d_method_5_code_190 : decode method_5_code 190 = .ok (.iconst 4, 1) := by decide +kernel
theorem own_d_method_5_code_191 : decode method_5_code 191 = .ok (.iload 5, 2) := by decide +kernel
theorem own_d_method_5_code_193 : decode method_5_code 193 = .ok (.castore, 1) := by decide +kernel
theorem own_d_method_5_code_194 : decode method_5_code 194 = .ok (.dup, 1) := by decide +kernel
theorem own_d_method_5_code_195 : decode method_5_code 195 = .ok (.iconst 5, 1) := by decide +kernel
theorem own_d_method_5_code_196 : decode method_5_code 196 = .ok (.iload 6, 2) := by decide +kernel
theorem own_d_method_5_code_198 : decode method_5_code 198 = .ok (.castore, 1) := by decide +kernel
theorem own_d_method_5_code_199 : decode method_5_code 199 = .ok (.invokespecial 21, 3) := by decide +kernel
theorem own_d_method_5_code_202 : decode method_5_code 202 = .ok (.areturn, 1) := by decide +kernel
theorem ef_mk6 (m : MethodId) (x0 : Int32) (x1 : Int32) (x2 : Int32) (x3 : Int32) (x4 : Int32) (x5 : Int32) (x6 : Int32) (x7 : Int32) : entryFrame m #[(.int x0), (.int x1), (.int x2), (.int x3), (.int x4), (.int x5), (.int x6), (.int x7)] 8 = mkF m 0 #[.val (.int x0), .val (.int x1), .val (.int x2), .val (.int x3), .val (.int x4), .val (.int x5), .val (.int x6), .val (.int x7)] [] := by first | (simp [entryFrame, mkF, argsToLocals, Value.category]; done) | rfl
def Q_mk6 (Z : State) (cs d0 d1 d2 d3 d4 d5 d6 : Int32) (h0 : Heap) (n0 : Nat) (v : Option Value) (h : Heap) (L : List Loc) : Prop := ∃ (a b : Addr) (k : ClassId), v = some (.ref a) ∧ Fr n0 L ∧ Keep h0 h [] ∧ Exa Z h a "java/lang/String" ∧ Fld Z h a "java/lang/String" "coder" "B" (.int (0 : Int32)) ∧ Fld Z h a "java/lang/String" "value" "[B" (.ref b) ∧ Arv Z h b k .byte (6 : Int32) [(.int (nar .byte d0.toInt8.toInt32)), (.int (nar .byte d1.toInt8.toInt32)), (.int (nar .byte d2.toInt8.toInt32)), (.int (nar .byte d3.toInt8.toInt32)), (.int (nar .byte d4.toInt8.toInt32)), (.int (nar .byte d5.toInt8.toInt32))] (.int (0 : Int32))
set_option maxRecDepth 65536 in
set_option maxHeartbeats 40000000 in
theorem rm_mk6 (l : Launch) (Z : State) (a0 : Array Value) (hw : ∀ d ∈ tables_1, d.before a0 Z = true) (hEL : EW Z a0 own_EL) (ws : List Jvm.Cond) (cs d0 d1 d2 d3 d4 d5 d6 : Int32) (h0 : Heap) (n0 : Nat) (Z0 : n0 ≤ h0.size) (S_C : Sta Z h0 "java/lang/String" "COMPACT_STRINGS" "Z" (.int cs)) (hcs : ¬ cs = 0) (bd0 : own_lat8 d0) (bd1 : own_lat8 d1) (bd2 : own_lat8 d2) (bd3 : own_lat8 d3) (bd4 : own_lat8 d4) (bd5 : own_lat8 d5) (bd6 : own_lat8 d6) :
    MetFree l (⟨"com/example/bleeper/bleeper/cli/ArgumentsAsksForHelpPinLaw", "make", "(ICCCCCCC)Ljava/lang/String;"⟩ : MethodName) (head1 (Jvm.Cond.code (⟨"com/example/bleeper/bleeper/cli/ArgumentsAsksForHelpPinLaw", "make", "(ICCCCCCC)Ljava/lang/String;"⟩ : MethodName) method_5_code 8 (some (.object "java/lang/String")) :: ws) ({ frames := 4, cells := 3, slots := 16, locals := 66 } : Room)) (fun a U => a = #[(.int (6 : Int32)), (.int d0), (.int d1), (.int d2), (.int d3), (.int d4), (.int d5), (.int d6)] ∧ Z.Warmed39 U.vm ∧ U.heap = h0 ∧ CHv Z own_EL U.vm h0) (fun _ _ _ _ _ => True) (fun _ U o U' => ∃ v L, o = .returned v ∧ Q_mk6 Z cs d0 d1 d2 d3 d4 d5 d6 h0 n0 v U'.heap L ∧ CHr Z own_EL U.vm U.heap U'.vm U'.heap ∧ ReturnedEndW U o U' L ({ frames := 4, cells := 3, slots := 16, locals := 66 } : Room).cells ({ frames := 4, cells := 3, slots := 16, locals := 66 } : Room).slots) := by
  refine MetFree.of_bodySF (plainFor_of_name own_pn_com_example_bleeper_bleeper_cli_ArgumentsAsksForHelpPinLaw) hisR ?_
  intro p e s m args below meth c s₁ Bd hml0 hP hK
  obtain ⟨rfl, hZ, hh, H⟩ := hP
  have hx := Bd.exec
  have hby := Bd.bytes
  have hml : c.maxLocals = 8 := hml0
  have hown : s.vm.findClass "com/example/bleeper/bleeper/cli/ArgumentsAsksForHelpPinLaw" = some m.cls := findClass_of_methodNamed Bd.named
  have hnm := (name_of_methodNamed Bd.named Bd.method).1
  have hlk := Bd.notSynchronized
  obtain ⟨lc, hlc⟩ : ∃ lc : List Loc, lc = [] := ⟨_, rfl⟩
  have X : Stand p l e ({ frames := 4, cells := 3, slots := 16, locals := 66 } : Room) s m #[(.int (6 : Int32)), (.int d0), (.int d1), (.int d2), (.int d3), (.int d4), (.int d5), (.int d6)] below meth c s₁ lc 0 0 := hlc ▸ Stand.of_body Bd
  have eT : s₁.heap = h0 := by rw [← hh, Bd.state]; rfl
  have N : Fr n0 lc := hlc ▸ Fr.nil n0
  obtain ⟨vm0, hvm⟩ : ∃ v : Vm, v = s.vm := ⟨_, rfl⟩
  have X : Stand p l e ({ frames := 4, cells := 3, slots := 16, locals := 66 } : Room) (s.setVm vm0) m #[(.int (6 : Int32)), (.int d0), (.int d1), (.int d2), (.int d3), (.int d4), (.int d5), (.int d6)] below meth c s₁ lc 0 0 := by rw [hvm]; exact X
  have hZ : Z.Warmed39 (s.setVm vm0).vm := by rw [hvm]; exact hZ
  have hown : (s.setVm vm0).vm.findClass "com/example/bleeper/bleeper/cli/ArgumentsAsksForHelpPinLaw" = some m.cls := by rw [hvm]; exact hown
  have hS : s.Since vm0 h0.size := by rw [hvm]; exact (State.WarmedH.refl s).since _
  have hk : h0.size ≤ h0.size := Nat.le_refl _
  have CR : CHr Z own_EL s.vm h0 vm0 h0 := by rw [hvm]; exact CHr.refl H
  have H : CHv Z own_EL vm0 h0 := by rw [hvm]; exact H
  refine own_enterS (ef_mk6 m (6 : Int32) d0 d1 d2 d3 d4 d5 d6) ?_
  obtain ⟨T, hT⟩ : ∃ T : State, T = s₁ := ⟨_, rfl⟩
  rw [← hT] at X eT ⊢
  show own_W p e below (own_PostS Z own_EL s (Q_mk6 Z cs d0 d1 d2 d3 d4 d5 d6 h0 n0) 3 16) T m 0 #[.val (.int (6 : Int32)), .val (.int d0), .val (.int d1), .val (.int d2), .val (.int d3), .val (.int d4), .val (.int d5), .val (.int d6)] []
  have Kp : Keep h0 h0 [] := Keep.refl _ _
  refine own_iloadN X hx (hb hby own_d_method_5_code_0) (pc' := 1) rfl rfl ?_
  refine own_ifY X hx (hb hby own_d_method_5_code_1) (by decide) (pc' := 15) rfl (show ¬ ((6 : Int32) = (0 : Int32)) from (by decide)) ?_
  refine own_iloadN X hx (hb hby own_d_method_5_code_15) (pc' := 16) rfl rfl ?_
  refine own_iconst X hx (1 : Int32) (hb hby own_d_method_5_code_16) (pc' := 17) rfl rfl ?_
  refine own_icmpY X hx (hb hby own_d_method_5_code_17) (by decide) (pc' := 35) rfl (show ¬ ((6 : Int32) = (1 : Int32)) from (by decide)) ?_
  refine own_iloadN X hx (hb hby own_d_method_5_code_35) (pc' := 36) rfl rfl ?_
  refine own_iconst X hx (2 : Int32) (hb hby own_d_method_5_code_36) (pc' := 37) rfl rfl ?_
  refine own_icmpY X hx (hb hby own_d_method_5_code_37) (by decide) (pc' := 59) rfl (show ¬ ((6 : Int32) = (2 : Int32)) from (by decide)) ?_
  refine own_iloadN X hx (hb hby own_d_method_5_code_59) (pc' := 60) rfl rfl ?_
  refine own_iconst X hx (3 : Int32) (hb hby own_d_method_5_code_60) (pc' := 61) rfl rfl ?_
  refine own_icmpY X hx (hb hby own_d_method_5_code_61) (by decide) (pc' := 87) rfl (show ¬ ((6 : Int32) = (3 : Int32)) from (by decide)) ?_
  refine own_iloadN X hx (hb hby own_d_method_5_code_87) (pc' := 88) rfl rfl ?_
  refine own_iconst X hx (4 : Int32) (hb hby own_d_method_5_code_88) (pc' := 89) rfl rfl ?_
  refine own_icmpY X hx (hb hby own_d_method_5_code_89) (by decide) (pc' := 120) rfl (show ¬ ((6 : Int32) = (4 : Int32)) from (by decide)) ?_
  refine own_iloadN X hx (hb hby own_d_method_5_code_120) (pc' := 121) rfl rfl ?_
  refine own_iconst X hx (5 : Int32) (hb hby own_d_method_5_code_121) (pc' := 122) rfl rfl ?_
  refine own_icmpY X hx (hb hby own_d_method_5_code_122) (by decide) (pc' := 158) rfl (show ¬ ((6 : Int32) = (5 : Int32)) from (by decide)) ?_
  refine own_iloadN X hx (hb hby own_d_method_5_code_158) (pc' := 159) rfl rfl ?_
  refine own_bipush X hx (6 : Int32) (hb hby own_d_method_5_code_159) (pc' := 161) rfl rfl ?_
  refine own_icmpN X hx (hb hby own_d_method_5_code_161) (pc' := 164) rfl (show (6 : Int32) = (6 : Int32) from (by decide)) ?_
  refine own_new X hx hZ hown (own_w hw 14 rfl) (own_w hw 15 rfl) (own_w hw 16 rfl) eT (hb hby own_d_method_5_code_164) (pc' := 167) rfl (cells' := 1) (slots' := 4) rfl rfl (by decide) (by decide) ?_
  intro T h1 b1 X eT E gb1 E_b1 Db1
  have z_b1 : n0 ≤ b1 := Nat.le_trans Z0 (Nat.le_of_eq gb1.symm)
  have s_b1 : h0.size ≤ b1 := Nat.le_trans Kp.1 (Nat.le_of_eq gb1.symm)
  have S_b1 : Safe Z own_EL vm0 h0 b1 := Safe.new (Nat.le_of_eq gb1.symm)
  have S_b1 := S_b1.ext E H
  have CR := CR.trans (CHr.ext E H)
  have H := H.ext E
  have hk := Nat.le_trans hk E.1
  have S_C := S_C.ext E
  have Z0 := Nat.le_trans Z0 E.1
  have Kp := Kp.ext E
  have F_value_b1 : Fld Z h1 b1 "java/lang/String" "value" "[B" .null := Db1 (Or.inr (own_w hw 30 rfl)) (ty := (.array .byte)) (by decide)
  have F_coder_b1 : Fld Z h1 b1 "java/lang/String" "coder" "B" (.int (0 : Int32)) := Db1 (Or.inr (own_w hw 31 rfl)) (ty := .byte) (by decide)
  refine own_dup X hx (hb hby own_d_method_5_code_167) (pc' := 168) rfl rfl ?_
  refine own_bipush X hx (6 : Int32) (hb hby own_d_method_5_code_168) (pc' := 170) rfl rfl ?_
  refine own_newarr X hx hZ (own_w hw 17 rfl) eT (hb hby own_d_method_5_code_170) (pc' := 172) rfl (by decide) 6 (by decide) (by decide) (cells' := 2) (slots' := 10) rfl rfl (by decide) (by decide) ?_
  intro T h2 k_b2 b2 X eT E gb2 A_b2
  have lt_b1_b2 : b1 < b2 := Nat.lt_of_lt_of_le E_b1.lt (Nat.le_of_eq gb2.symm)
  have ne_b1_b2 : b1 ≠ b2 := Nat.ne_of_lt lt_b1_b2
  have z_b2 : n0 ≤ b2 := Nat.le_trans Z0 (Nat.le_of_eq gb2.symm)
  have s_b2 : h0.size ≤ b2 := Nat.le_trans Kp.1 (Nat.le_of_eq gb2.symm)
  have S_b1 := S_b1.ext E H
  have CR := CR.trans (CHr.ext E H)
  have H := H.ext E
  have hk := Nat.le_trans hk E.1
  have S_C := S_C.ext E
  have E_b1 := E_b1.ext E
  have F_value_b1 := F_value_b1.ext E
  have F_coder_b1 := F_coder_b1.ext E
  have Z0 := Nat.le_trans Z0 E.1
  have Kp := Kp.ext E
  have A_b2 : Arv Z h2 b2 k_b2 .char (6 : Int32) [(.int (0 : Int32)), (.int (0 : Int32)), (.int (0 : Int32)), (.int (0 : Int32)), (.int (0 : Int32)), (.int (0 : Int32))] (.int (0 : Int32)) := A_b2.pad (pad_rep [] (.int (0 : Int32)) 6)
  refine own_dup X hx (hb hby own_d_method_5_code_172) (pc' := 173) rfl rfl ?_
  refine own_iconst X hx (0 : Int32) (hb hby own_d_method_5_code_173) (pc' := 174) rfl rfl ?_
  refine own_iloadN X hx (hb hby own_d_method_5_code_174) (pc' := 175) rfl rfl ?_
  refine own_castore X hx hZ eT A_b2 (by decide) 0 rfl (by show 0 < 6; decide) (hb hby own_d_method_5_code_175) (pc' := 176) rfl ?_
  intro T h3 lc X eT Kq A_b2n fN
  have hsf : ∀ x ∈ ([b2] : List Addr), Safe Z own_EL vm0 h2 x := (sfS (Safe.arv hZ.alike A_b2 (by decide)) sf0)
  have S_b1 := S_b1.keep Kq hsf H
  have CR := CR.trans (CHr.keep Kq hsf H)
  have H := H.keep Kq hsf
  have hk := Nat.le_trans hk Kq.1
  have S_C := own_sta_keep S_C Kq (nsS (own_ns_arv A_b2) ns0)
  have E_b1 := E_b1.keep Kq
  have F_value_b1 := F_value_b1.keep Kq (ninS ne_b1_b2 nin0)
  have F_coder_b1 := F_coder_b1.keep Kq (ninS ne_b1_b2 nin0)
  have Z0 := Nat.le_trans Z0 Kq.1
  have A_b2 := A_b2n
  have N := fN _ z_b2 N
  have Kp := Kp.trans Kq (allS (P := fun x => x ∈ [] ∨ h0.size ≤ x) (Or.inr s_b2) all0)
  rw [own_nc bd0] at A_b2
  have A_b2 : Arv Z h3 b2 _ .char (6 : Int32) [(.int d0), (.int (0 : Int32)), (.int (0 : Int32)), (.int (0 : Int32)), (.int (0 : Int32)), (.int (0 : Int32))] (.int (0 : Int32)) := A_b2
  refine own_dup X hx (hb hby own_d_method_5_code_176) (pc' := 177) rfl rfl ?_
  refine own_iconst X hx (1 : Int32) (hb hby own_d_method_5_code_177) (pc' := 178) rfl rfl ?_
  refine own_iloadN X hx (hb hby own_d_method_5_code_178) (pc' := 179) rfl rfl ?_
  refine own_castore X hx hZ eT A_b2 (by decide) 1 rfl (by show 1 < 6; decide) (hb hby own_d_method_5_code_179) (pc' := 180) rfl ?_
  intro T h4 lc X eT Kq A_b2n fN
  have hsf : ∀ x ∈ ([b2] : List Addr), Safe Z own_EL vm0 h3 x := (sfS (Safe.arv hZ.alike A_b2 (by decide)) sf0)
  have S_b1 := S_b1.keep Kq hsf H
  have CR := CR.trans (CHr.keep Kq hsf H)
  have H := H.keep Kq hsf
  have hk := Nat.le_trans hk Kq.1
  have S_C := own_sta_keep S_C Kq (nsS (own_ns_arv A_b2) ns0)
  have E_b1 := E_b1.keep Kq
  have F_value_b1 := F_value_b1.keep Kq (ninS ne_b1_b2 nin0)
  have F_coder_b1 := F_coder_b1.keep Kq (ninS ne_b1_b2 nin0)
  have Z0 := Nat.le_trans Z0 Kq.1
  have A_b2 := A_b2n
  have N := fN _ z_b2 N
  have Kp := Kp.trans Kq (allS (P := fun x => x ∈ [] ∨ h0.size ≤ x) (Or.inr s_b2) all0)
  rw [own_nc bd1] at A_b2
  have A_b2 : Arv Z h4 b2 _ .char (6 : Int32) [(.int d0), (.int d1), (.int (0 : Int32)), (.int (0 : Int32)), (.int (0 : Int32)), (.int (0 : Int32))] (.int (0 : Int32)) := A_b2
  refine own_dup X hx (hb hby own_d_method_5_code_180) (pc' := 181) rfl rfl ?_
  refine own_iconst X hx (2 : Int32) (hb hby own_d_method_5_code_181) (pc' := 182) rfl rfl ?_
  refine own_iloadN X hx (hb hby own_d_method_5_code_182) (pc' := 183) rfl rfl ?_
  refine own_castore X hx hZ eT A_b2 (by decide) 2 rfl (by show 2 < 6; decide) (hb hby own_d_method_5_code_183) (pc' := 184) rfl ?_
  intro T h5 lc X eT Kq A_b2n fN
  have hsf : ∀ x ∈ ([b2] : List Addr), Safe Z own_EL vm0 h4 x := (sfS (Safe.arv hZ.alike A_b2 (by decide)) sf0)
  have S_b1 := S_b1.keep Kq hsf H
  have CR := CR.trans (CHr.keep Kq hsf H)
  have H := H.keep Kq hsf
  have hk := Nat.le_trans hk Kq.1
  have S_C := own_sta_keep S_C Kq (nsS (own_ns_arv A_b2) ns0)
  have E_b1 := E_b1.keep Kq
  have F_value_b1 := F_value_b1.keep Kq (ninS ne_b1_b2 nin0)
  have F_coder_b1 := F_coder_b1.keep Kq (ninS ne_b1_b2 nin0)
  have Z0 := Nat.le_trans Z0 Kq.1
  have A_b2 := A_b2n
  have N := fN _ z_b2 N
  have Kp := Kp.trans Kq (allS (P := fun x => x ∈ [] ∨ h0.size ≤ x) (Or.inr s_b2) all0)
  rw [own_nc bd2] at A_b2
  have A_b2 : Arv Z h5 b2 _ .char (6 : Int32) [(.int d0), (.int d1), (.int d2), (.int (0 : Int32)), (.int (0 : Int32)), (.int (0 : Int32))] (.int (0 : Int32)) := A_b2
  refine own_dup X hx (hb hby own_d_method_5_code_184) (pc' := 185) rfl rfl ?_
  refine own_iconst X hx (3 : Int32) (hb hby own_d_method_5_code_185) (pc' := 186) rfl rfl ?_
  refine own_iload X hx (hb hby own_d_method_5_code_186) (pc' := 188) rfl rfl ?_
  refine own_castore X hx hZ eT A_b2 (by decide) 3 rfl (by show 3 < 6; decide) (hb hby own_d_method_5_code_188) (pc' := 189) rfl ?_
  intro T h6 lc X eT Kq A_b2n fN
  have hsf : ∀ x ∈ ([b2] : List Addr), Safe Z own_EL vm0 h5 x := (sfS (Safe.arv hZ.alike A_b2 (by decide)) sf0)
  have S_b1 := S_b1.keep Kq hsf H
  have CR := CR.trans (CHr.keep Kq hsf H)
  have H := H.keep Kq hsf
  have hk := Nat.le_trans hk Kq.1
  have S_C := own_sta_keep S_C Kq (nsS (own_ns_arv A_b2) ns0)
  have E_b1 := E_b1.keep Kq
  have F_value_b1 := F_value_b1.keep Kq (ninS ne_b1_b2 nin0)
  have F_coder_b1 := F_coder_b1.keep Kq (ninS ne_b1_b2 nin0)
  have Z0 := Nat.le_trans Z0 Kq.1
  have A_b2 := A_b2n
  have N := fN _ z_b2 N
  have Kp := Kp.trans Kq (allS (P := fun x => x ∈ [] ∨ h0.size ≤ x) (Or.inr s_b2) all0)
  rw [own_nc bd3] at A_b2
  have A_b2 : Arv Z h6 b2 _ .char (6 : Int32) [(.int d0), (.int d1), (.int d2), (.int d3), (.int (0 : Int32)), (.int (0 : Int32))] (.int (0 : Int32)) := A_b2
  refine own_dup X hx (hb hby own_d_method_5_code_189) (pc' := 190) rfl rfl ?_
  refine own_iconst X hx (4 : Int32) (hb hby own_d_method_5_code_190) (pc' := 191) rfl rfl ?_
  refine own_iload X hx (hb hby own_d_method_5_code_191) (pc' := 193) rfl rfl ?_
  refine own_castore X hx hZ eT A_b2 (by decide) 4 rfl (by show 4 < 6; decide) (hb hby own_d_method_5_code_193) (pc' := 194) rfl ?_
  intro T h7 lc X eT Kq A_b2n fN
  have hsf : ∀ x ∈ ([b2] : List Addr), Safe Z own_EL vm0 h6 x := (sfS (Safe.arv hZ.alike A_b2 (by decide)) sf0)
  have S_b1 := S_b1.keep Kq hsf H
  have CR := CR.trans (CHr.keep Kq hsf H)
  have H := H.keep Kq hsf
  have hk := Nat.le_trans hk Kq.1
  have S_C := own_sta_keep S_C Kq (nsS (own_ns_arv A_b2) ns0)
  have E_b1 := E_b1.keep Kq
  have F_value_b1 := F_value_b1.keep Kq (ninS ne_b1_b2 nin0)
  have F_coder_b1 := F_coder_b1.keep Kq (ninS ne_b1_b2 nin0)
  have Z0 := Nat.le_trans Z0 Kq.1
  have A_b2 := A_b2n
  have N := fN _ z_b2 N
  have Kp := Kp.trans Kq (allS (P := fun x => x ∈ [] ∨ h0.size ≤ x) (Or.inr s_b2) all0)
  rw [own_nc bd4] at A_b2
  have A_b2 : Arv Z h7 b2 _ .char (6 : Int32) [(.int d0), (.int d1), (.int d2), (.int d3), (.int d4), (.int (0 : Int32))] (.int (0 : Int32)) := A_b2
  refine own_dup X hx (hb hby own_d_method_5_code_194) (pc' := 195) rfl rfl ?_
  refine own_iconst X hx (5 : Int32) (hb hby own_d_method_5_code_195) (pc' := 196) rfl rfl ?_
  refine own_iload X hx (hb hby own_d_method_5_code_196) (pc' := 198) rfl rfl ?_
  refine own_castore X hx hZ eT A_b2 (by decide) 5 rfl (by show 5 < 6; decide) (hb hby own_d_method_5_code_198) (pc' := 199) rfl ?_
  intro T h8 lc X eT Kq A_b2n fN
  have hsf : ∀ x ∈ ([b2] : List Addr), Safe Z own_EL vm0 h7 x := (sfS (Safe.arv hZ.alike A_b2 (by decide)) sf0)
  have S_b1 := S_b1.keep Kq hsf H
  have CR := CR.trans (CHr.keep Kq hsf H)
  have H := H.keep Kq hsf
  have hk := Nat.le_trans hk Kq.1
  have S_C := own_sta_keep S_C Kq (nsS (own_ns_arv A_b2) ns0)
  have E_b1 := E_b1.keep Kq
  have F_value_b1 := F_value_b1.keep Kq (ninS ne_b1_b2 nin0)
  have F_coder_b1 := F_coder_b1.keep Kq (ninS ne_b1_b2 nin0)
  have Z0 := Nat.le_trans Z0 Kq.1
  have A_b2 := A_b2n
  have N := fN _ z_b2 N
  have Kp := Kp.trans Kq (allS (P := fun x => x ∈ [] ∨ h0.size ≤ x) (Or.inr s_b2) all0)
  rw [own_nc bd5] at A_b2
  have A_b2 : Arv Z h8 b2 _ .char (6 : Int32) [(.int d0), (.int d1), (.int d2), (.int d3), (.int d4), (.int d5)] (.int (0 : Int32)) := A_b2
  refine own_callN X hx hZ b1 [(.ref b2)] rfl hown (own_w hw 18 rfl) (own_w hw 19 rfl) (own_w hw 16 rfl) (own_w hw 20 rfl) (by decide) (rm_ic6 l Z a0 hw [] b1 b2 _ cs d0 d1 d2 d3 d4 d5 h8 n0 Z0 S_C hcs _ _ E_b1 F_coder_b1 F_value_b1 A_b2 ne_b1_b2 (own_le bd0) (own_le bd1) (own_le bd2) (own_le bd3) (own_le bd4) (own_le bd5) z_b1) eT (W := 1) (by decide) (by decide) (cells' := 3) (slots' := 16) rfl rfl (by decide) (by decide) (by rw [hml]; rfl) (lenOf own_pd_285bC29V rfl) rfl (S := [(.ref b1)]) rfl (Nat.le_of_eq rfl) (hb hby own_d_method_5_code_199) (pc' := 202) rfl ?_
  intro v T h9 L lc X eT hq fN
  obtain ⟨rfl, Nq, Kq, bb, kb, hbb, F_c, F_v, A_bb⟩ := hq
  have N := fN _ N Nq
  have Kp := Kp.trans Kq (allS (P := fun x => x ∈ ([] : List Addr) ∨ h0.size ≤ x) (Or.inr s_b1) all0)
  have lt_b1_bb : b1 < bb := Nat.lt_of_lt_of_le E_b1.lt hbb
  have ne_b1_bb : b1 ≠ bb := Nat.ne_of_lt lt_b1_bb
  have lt_b2_bb : b2 < bb := Nat.lt_of_lt_of_le A_b2.lt hbb
  have ne_b2_bb : b2 ≠ bb := Nat.ne_of_lt lt_b2_bb
  have hsf : ∀ x ∈ ([b1] : List Addr), Safe Z own_EL vm0 h8 x := (sfS S_b1 sf0)
  have S_b1 := S_b1.keep Kq hsf H
  have CR := CR.trans (CHr.keep Kq hsf H)
  have H := H.keep Kq hsf
  have hk := Nat.le_trans hk Kq.1
  have S_C := own_sta_keep S_C Kq (nsS (own_ns_exa E_b1) ns0)
  have E_b1 := E_b1.keep Kq
  have A_b2 := A_b2.keep Kq (ninS (Ne.symm ne_b1_b2) nin0)
  have Z0 := Nat.le_trans Z0 Kq.1
  show own_W p e below (own_PostS Z own_EL s (Q_mk6 Z cs d0 d1 d2 d3 d4 d5 d6 h0 n0) 3 16) T m 202 #[.val (.int (6 : Int32)), .val (.int d0), .val (.int d1), .val (.int d2), .val (.int d3), .val (.int d4), .val (.int d5), .val (.int d6)] [(.ref b1)]
  refine own_retAS X hx hlk hZ eT hh hS hk hEL H CR Bd.returns (hb hby own_d_method_5_code_202) rfl rfl rfl (by decide) (by decide) ?_
  rw [eT]
  exact ⟨b1, bb, kb, rfl, N, Kp, E_b1, F_c, F_v, A_bb⟩
theorem own_d_method_5_code_203 : decode method_5_code 203 = .ok (.new 19, 3) := by decide +kernel
theorem own_d_method_5_code_206 : decode method_5_code 206 = .ok (.dup, 1) := by decide +kernel
theorem own_d_method_5_code_207 : decode method_5_code 207 = .ok (.bipush 7, 2) := by decide +kernel
theorem own_d_method_5_code_209 : decode method_5_code 209 = .ok (.newarray .char, 2) := by decide +kernel
theorem own_d_method_5_code_211 : decode method_5_code 211 = .ok (.dup, 1) := by decide +kernel
theorem own_d_method_5_code_212 : decode method_5_code 212 = .ok (.iconst 0, 1) := by decide +kernel
theorem own_d_method_5_code_213 : decode method_5_code 213 = .ok (.iload_n 1, 1) := by decide +kernel
theorem own_d_method_5_code_214 : decode method_5_code 214 = .ok (.castore, 1) := by decide +kernel
theorem own_d_method_5_code_215 : decode method_5_code 215 = .ok (.dup, 1) := by decide +kernel
theorem own_d_method_5_code_216 : decode method_5_code 216 = .ok (.iconst 1, 1) := by decide +kernel
theorem own_d_method_5_code_217 : decode method_5_code 217 = .ok (.iload_n 2, 1) := by decide +kernel
theorem own_d_method_5_code_218 : decode method_5_code 218 = .ok (.castore, 1) := by decide +kernel
theorem own_d_method_5_code_219 : decode method_5_code 219 = .ok (.dup, 1) := by decide +kernel
theorem own_d_method_5_code_220 : decode method_5_code 220 = .ok (.iconst 2, 1) := by decide +kernel
theorem own_d_method_5_code_221 : decode method_5_code 221 = .ok (.iload_n 3, 1) := by decide +kernel
theorem own_d_method_5_code_222 : decode method_5_code 222 = .ok (.castore, 1) := by decide +kernel
theorem own_d_method_5_code_223 : decode method_5_code 223 = .ok (.dup, 1) := by decide +kernel
theorem own_d_method_5_code_224 : decode method_5_code 224 = .ok (.iconst 3, 1) := by decide +kernel
theorem own_d_method_5_code_225 : decode method_5_code 225 = .ok (.iload 4, 2) := by decide +kernel
theorem own_d_method_5_code_227 : decode method_5_code 227 = .ok (.castore, 1) := by decide +kernel
theorem own_d_method_5_code_228 : decode method_5_code 228 = .ok (.dup, 1) := by decide +kernel
theorem own_d_method_5_code_229 : decode method_5_code 229 = .ok (.iconst 4, 1) := by decide +kernel
theorem own_d_method_5_code_230 : decode method_5_code 230 = .ok (.iload 5, 2) := by decide +kernel
theorem own_d_method_5_code_232 : decode method_5_code 232 = .ok (.castore, 1) := by decide +kernel
theorem own_d_method_5_code_233 : decode method_5_code 233 = .ok (.dup, 1) := by decide +kernel
theorem own_d_method_5_code_234 : decode method_5_code 234 = .ok (.iconst 5, 1) := by decide +kernel
theorem own_d_method_5_code_235 : decode method_5_code 235 = .ok (.iload 6, 2) := by decide +kernel
theorem own_d_method_5_code_237 : decode method_5_code 237 = .ok (.castore, 1) := by decide +kernel
theorem own_d_method_5_code_238 : decode method_5_code 238 = .ok (.dup, 1) := by decide +kernel
theorem own_d_method_5_code_239 : decode method_5_code 239 = .ok (.bipush 6, 2) := by decide +kernel
theorem own_d_method_5_code_241 : decode method_5_code 241 = .ok (.iload 7, 2) := by decide +kernel
theorem own_d_method_5_code_243 : decode method_5_code 243 = .ok (.castore, 1) := by decide +kernel
theorem own_d_method_5_code_244 : decode method_5_code 244 = .ok (.invokespecial 21, 3) := by decide +kernel
theorem own_d_method_5_code_247 : decode method_5_code 247 = .ok (.areturn, 1) := by decide +kernel
theorem ef_mk7 (m : MethodId) (x0 : Int32) (x1 : Int32) (x2 : Int32) (x3 : Int32) (x4 : Int32) (x5 : Int32) (x6 : Int32) (x7 : Int32) : entryFrame m #[(.int x0), (.int x1), (.int x2), (.int x3), (.int x4), (.int x5), (.int x6), (.int x7)] 8 = mkF m 0 #[.val (.int x0), .val (.int x1), .val (.int x2), .val (.int x3), .val (.int x4), .val (.int x5), .val (.int x6), .val (.int x7)] [] := by first | (simp [entryFrame, mkF, argsToLocals, Value.category]; done) | rfl
def Q_mk7 (Z : State) (cs d0 d1 d2 d3 d4 d5 d6 : Int32) (h0 : Heap) (n0 : Nat) (v : Option Value) (h : Heap) (L : List Loc) : Prop := ∃ (a b : Addr) (k : ClassId), v = some (.ref a) ∧ Fr n0 L ∧ Keep h0 h [] ∧ Exa Z h a "java/lang/String" ∧ Fld Z h a "java/lang/String" "coder" "B" (.int (0 : Int32)) ∧ Fld Z h a "java/lang/String" "value" "[B" (.ref b) ∧ Arv Z h b k .byte (7 : Int32) [(.int (nar .byte d0.toInt8.toInt32)), (.int (nar .byte d1.toInt8.toInt32)), (.int (nar .byte d2.toInt8.toInt32)), (.int (nar .byte d3.toInt8.toInt32)), (.int (nar .byte d4.toInt8.toInt32)), (.int (nar .byte d5.toInt8.toInt32)), (.int (nar .byte d6.toInt8.toInt32))] (.int (0 : Int32))
set_option maxRecDepth 65536 in
set_option maxHeartbeats 40000000 in
theorem rm_mk7 (l : Launch) (Z : State) (a0 : Array Value) (hw : ∀ d ∈ tables_1, d.before a0 Z = true) (hEL : EW Z a0 own_EL) (ws : List Jvm.Cond) (cs d0 d1 d2 d3 d4 d5 d6 : Int32) (h0 : Heap) (n0 : Nat) (Z0 : n0 ≤ h0.size) (S_C : Sta Z h0 "java/lang/String" "COMPACT_STRINGS" "Z" (.int cs)) (hcs : ¬ cs = 0) (bd0 : own_lat8 d0) (bd1 : own_lat8 d1) (bd2 : own_lat8 d2) (bd3 : own_lat8 d3) (bd4 : own_lat8 d4) (bd5 : own_lat8 d5) (bd6 : own_lat8 d6) :
    MetFree l (⟨"com/example/bleeper/bleeper/cli/ArgumentsAsksForHelpPinLaw", "make", "(ICCCCCCC)Ljava/lang/String;"⟩ : MethodName) (head1 (Jvm.Cond.code (⟨"com/example/bleeper/bleeper/cli/ArgumentsAsksForHelpPinLaw", "make", "(ICCCCCCC)Ljava/lang/String;"⟩ : MethodName) method_5_code 8 (some (.object "java/lang/String")) :: ws) ({ frames := 4, cells := 3, slots := 18, locals := 66 } : Room)) (fun a U => a = #[(.int (7 : Int32)), (.int d0), (.int d1), (.int d2), (.int d3), (.int d4), (.int d5), (.int d6)] ∧ Z.Warmed39 U.vm ∧ U.heap = h0 ∧ CHv Z own_EL U.vm h0) (fun _ _ _ _ _ => True) (fun _ U o U' => ∃ v L, o = .returned v ∧ Q_mk7 Z cs d0 d1 d2 d3 d4 d5 d6 h0 n0 v U'.heap L ∧ CHr Z own_EL U.vm U.heap U'.vm U'.heap ∧ ReturnedEndW U o U' L ({ frames := 4, cells := 3, slots := 18, locals := 66 } : Room).cells ({ frames := 4, cells := 3, slots := 18, locals := 66 } : Room).slots) := by
  refine MetFree.of_bodySF (plainFor_of_name own_pn_com_example_bleeper_bleeper_cli_ArgumentsAsksForHelpPinLaw) hisR ?_
  intro p e s m args below meth c s₁ Bd hml0 hP hK
  obtain ⟨rfl, hZ, hh, H⟩ := hP
  have hx := Bd.exec
  have hby := Bd.bytes
  have hml : c.maxLocals = 8 := hml0
  have hown : s.vm.findClass "com/example/bleeper/bleeper/cli/ArgumentsAsksForHelpPinLaw" = some m.cls := findClass_of_methodNamed Bd.named
  have hnm := (name_of_methodNamed Bd.named Bd.method).1
  have hlk := Bd.notSynchronized
  obtain ⟨lc, hlc⟩ : ∃ lc : List Loc, lc = [] := ⟨_, rfl⟩
  have X : Stand p l e ({ frames := 4, cells := 3, slots := 18, locals := 66 } : Room) s m #[(.int (7 : Int32)), (.int d0), (.int d1), (.int d2), (.int d3), (.int d4), (.int d5), (.int d6)] below meth c s₁ lc 0 0 := hlc ▸ Stand.of_body Bd
  have eT : s₁.heap = h0 := by rw [← hh, Bd.state]; rfl
  have N : Fr n0 lc := hlc ▸ Fr.nil n0
  obtain ⟨vm0, hvm⟩ : ∃ v : Vm, v = s.vm := ⟨_, rfl⟩
  have X : Stand p l e ({ frames := 4, cells := 3, slots := 18, locals := 66 } : Room) (s.setVm vm0) m #[(.int (7 : Int32)), (.int d0), (.int d1), (.int d2), (.int d3), (.int d4), (.int d5), (.int d6)] below meth c s₁ lc 0 0 := by rw [hvm]; exact X
  have hZ : Z.Warmed39 (s.setVm vm0).vm := by rw [hvm]; exact hZ
  have hown : (s.setVm vm0).vm.findClass "com/example/bleeper/bleeper/cli/ArgumentsAsksForHelpPinLaw" = some m.cls := by rw [hvm]; exact hown
  have hS : s.Since vm0 h0.size := by rw [hvm]; exact (State.WarmedH.refl s).since _
  have hk : h0.size ≤ h0.size := Nat.le_refl _
  have CR : CHr Z own_EL s.vm h0 vm0 h0 := by rw [hvm]; exact CHr.refl H
  have H : CHv Z own_EL vm0 h0 := by rw [hvm]; exact H
  refine own_enterS (ef_mk7 m (7 : Int32) d0 d1 d2 d3 d4 d5 d6) ?_
  obtain ⟨T, hT⟩ : ∃ T : State, T = s₁ := ⟨_, rfl⟩
  rw [← hT] at X eT ⊢
  show own_W p e below (own_PostS Z own_EL s (Q_mk7 Z cs d0 d1 d2 d3 d4 d5 d6 h0 n0) 3 18) T m 0 #[.val (.int (7 : Int32)), .val (.int d0), .val (.int d1), .val (.int d2), .val (.int d3), .val (.int d4), .val (.int d5), .val (.int d6)] []
  have Kp : Keep h0 h0 [] := Keep.refl _ _
  refine own_iloadN X hx (hb hby own_d_method_5_code_0) (pc' := 1) rfl rfl ?_
  refine own_ifY X hx (hb hby own_d_method_5_code_1) (by decide) (pc' := 15) rfl (show ¬ ((7 : Int32) = (0 : Int32)) from (by decide)) ?_
  refine own_iloadN X hx (hb hby own_d_method_5_code_15) (pc' := 16) rfl rfl ?_
  refine own_iconst X hx (1 : Int32) (hb hby own_d_method_5_code_16) (pc' := 17) rfl rfl ?_
  refine own_icmpY X hx (hb hby own_d_method_5_code_17) (by decide) (pc' := 35) rfl (show ¬ ((7 : Int32) = (1 : Int32)) from (by decide)) ?_
  refine own_iloadN X hx (hb hby own_d_method_5_code_35) (pc' := 36) rfl rfl ?_
  refine own_iconst X hx (2 : Int32) (hb hby own_d_method_5_code_36) (pc' := 37) rfl rfl ?_
  refine own_icmpY X hx (hb hby own_d_method_5_code_37) (by decide) (pc' := 59) rfl (show ¬ ((7 : Int32) = (2 : Int32)) from (by decide)) ?_
  refine own_iloadN X hx (hb hby own_d_method_5_code_59) (pc' := 60) rfl rfl ?_
  refine own_iconst X hx (3 : Int32) (hb hby own_d_method_5_code_60) (pc' := 61) rfl rfl ?_
  refine own_icmpY X hx (hb hby own_d_method_5_code_61) (by decide) (pc' := 87) rfl (show ¬ ((7 : Int32) = (3 : Int32)) from (by decide)) ?_
  refine own_iloadN X hx (hb hby own_d_method_5_code_87) (pc' := 88) rfl rfl ?_
  refine own_iconst X hx (4 : Int32) (hb hby own_d_method_5_code_88) (pc' := 89) rfl rfl ?_
  refine own_icmpY X hx (hb hby own_d_method_5_code_89) (by decide) (pc' := 120) rfl (show ¬ ((7 : Int32) = (4 : Int32)) from (by decide)) ?_
  refine own_iloadN X hx (hb hby own_d_method_5_code_120) (pc' := 121) rfl rfl ?_
  refine own_iconst X hx (5 : Int32) (hb hby own_d_method_5_code_121) (pc' := 122) rfl rfl ?_
  refine own_icmpY X hx (hb hby own_d_method_5_code_122) (by decide) (pc' := 158) rfl (show ¬ ((7 : Int32) = (5 : Int32)) from (by decide)) ?_
  refine own_iloadN X hx (hb hby own_d_method_5_code_158) (pc' := 159) rfl rfl ?_
  refine own_bipush X hx (6 : Int32) (hb hby own_d_method_5_code_159) (pc' := 161) rfl rfl ?_
  refine own_icmpY X hx (hb hby own_d_method_5_code_161) (by decide) (pc' := 203) rfl (show ¬ ((7 : Int32) = (6 : Int32)) from (by decide)) ?_
  refine own_new X hx hZ hown (own_w hw 14 rfl) (own_w hw 15 rfl) (own_w hw 16 rfl) eT (hb hby own_d_method_5_code_203) (pc' := 206) rfl (cells' := 1) (slots' := 4) rfl rfl (by decide) (by decide) ?_
  intro T h1 b1 X eT E gb1 E_b1 Db1
  have z_b1 : n0 ≤ b1 := Nat.le_trans Z0 (Nat.le_of_eq gb1.symm)
  have s_b1 : h0.size ≤ b1 := Nat.le_trans Kp.1 (Nat.le_of_eq gb1.symm)
  have S_b1 : Safe Z own_EL vm0 h0 b1 := Safe.new (Nat.le_of_eq gb1.symm)
  have S_b1 := S_b1.ext E H
  have CR := CR.trans (CHr.ext E H)
  have H := H.ext E
  have hk := Nat.le_trans hk E.1
  have S_C := S_C.ext E
  have Z0 := Nat.le_trans Z0 E.1
  have Kp := Kp.ext E
  have F_value_b1 : Fld Z h1 b1 "java/lang/String" "value" "[B" .null := Db1 (Or.inr (own_w hw 30 rfl)) (ty := (.array .byte)) (by decide)
  have F_coder_b1 : Fld Z h1 b1 "java/lang/String" "coder" "B" (.int (0 : Int32)) := Db1 (Or.inr (own_w hw 31 rfl)) (ty := .byte) (by decide)
  refine own_dup X hx (hb hby own_d_method_5_code_206) (pc' := 207) rfl rfl ?_
  refine own_bipush X hx (7 : Int32) (hb hby own_d_method_5_code_207) (pc' := 209) rfl rfl ?_
  refine own_newarr X hx hZ (own_w hw 17 rfl) eT (hb hby own_d_method_5_code_209) (pc' := 211) rfl (by decide) 7 (by decide) (by decide) (cells' := 2) (slots' := 11) rfl rfl (by decide) (by decide) ?_
  intro T h2 k_b2 b2 X eT E gb2 A_b2
  have lt_b1_b2 : b1 < b2 := Nat.lt_of_lt_of_le E_b1.lt (Nat.le_of_eq gb2.symm)
  have ne_b1_b2 : b1 ≠ b2 := Nat.ne_of_lt lt_b1_b2
  have z_b2 : n0 ≤ b2 := Nat.le_trans Z0 (Nat.le_of_eq gb2.symm)
  have s_b2 : h0.size ≤ b2 := Nat.le_trans Kp.1 (Nat.le_of_eq gb2.symm)
  have S_b1 := S_b1.ext E H
  have CR := CR.trans (CHr.ext E H)
  have H := H.ext E
  have hk := Nat.le_trans hk E.1
  have S_C := S_C.ext E
  have E_b1 := E_b1.ext E
  have F_value_b1 := F_value_b1.ext E
  have F_coder_b1 := F_coder_b1.ext E
  have Z0 := Nat.le_trans Z0 E.1
  have Kp := Kp.ext E
  have A_b2 : Arv Z h2 b2 k_b2 .char (7 : Int32) [(.int (0 : Int32)), (.int (0 : Int32)), (.int (0 : Int32)), (.int (0 : Int32)), (.int (0 : Int32)), (.int (0 : Int32)), (.int (0 : Int32))] (.int (0 : Int32)) := A_b2.pad (pad_rep [] (.int (0 : Int32)) 7)
  refine own_dup X hx (hb hby own_d_method_5_code_211) (pc' := 212) rfl rfl ?_
  refine own_iconst X hx (0 : Int32) (hb hby own_d_method_5_code_212) (pc' := 213) rfl rfl ?_
  refine own_iloadN X hx (hb hby own_d_method_5_code_213) (pc' := 214) rfl rfl ?_
  refine own_castore X hx hZ eT A_b2 (by decide) 0 rfl (by show 0 < 7; decide) (hb hby own_d_method_5_code_214) (pc' := 215) rfl ?_
  intro T h3 lc X eT Kq A_b2n fN
  have hsf : ∀ x ∈ ([b2] : List Addr), Safe Z own_EL vm0 h2 x := (sfS (Safe.arv hZ.alike A_b2 (by decide)) sf0)
  have S_b1 := S_b1.keep Kq hsf H
  have CR := CR.trans (CHr.keep Kq hsf H)
  have H := H.keep Kq hsf
  have hk := Nat.le_trans hk Kq.1
  have S_C := own_sta_keep S_C Kq (nsS (own_ns_arv A_b2) ns0)
  have E_b1 := E_b1.keep Kq
  have F_value_b1 := F_value_b1.keep Kq (ninS ne_b1_b2 nin0)
  have F_coder_b1 := F_coder_b1.keep Kq (ninS ne_b1_b2 nin0)
  have Z0 := Nat.le_trans Z0 Kq.1
  have A_b2 := A_b2n
  have N := fN _ z_b2 N
  have Kp := Kp.trans Kq (allS (P := fun x => x ∈ [] ∨ h0.size ≤ x) (Or.inr s_b2) all0)
  rw [own_nc bd0] at A_b2
  have A_b2 : Arv Z h3 b2 _ .char (7 : Int32) [(.int d0), (.int (0 : Int32)), (.int (0 : Int32)), (.int (0 : Int32)), (.int (0 : Int32)), (.int (0 : Int32)), (.int (0 : Int32))] (.int (0 : Int32)) := A_b2
  refine own_dup X hx (hb hby own_d_method_5_code_215) (pc' := 216) rfl rfl ?_
  refine own_iconst X hx (1 : Int32) (hb hby own_d_method_5_code_216) (pc' := 217) rfl rfl ?_
  refine own_iloadN X hx (hb hby own_d_method_5_code_217) (pc' := 218) rfl rfl ?_
  refine own_castore X hx hZ eT A_b2 (by decide) 1 rfl (by show 1 < 7; decide) (hb hby own_d_method_5_code_218) (pc' := 219) rfl ?_
  intro T h4 lc X eT Kq A_b2n fN
  have hsf : ∀ x ∈ ([b2] : List Addr), Safe Z own_EL vm0 h3 x := (sfS (Safe.arv hZ.alike A_b2 (by decide)) sf0)
  have S_b1 := S_b1.keep Kq hsf H
  have CR := CR.trans (CHr.keep Kq hsf H)
  have H := H.keep Kq hsf
  have hk := Nat.le_trans hk Kq.1
  have S_C := own_sta_keep S_C Kq (nsS (own_ns_arv A_b2) ns0)
  have E_b1 := E_b1.keep Kq
  have F_value_b1 := F_value_b1.keep Kq (ninS ne_b1_b2 nin0)
  have F_coder_b1 := F_coder_b1.keep Kq (ninS ne_b1_b2 nin0)
  have Z0 := Nat.le_trans Z0 Kq.1
  have A_b2 := A_b2n
  have N := fN _ z_b2 N
  have Kp := Kp.trans Kq (allS (P := fun x => x ∈ [] ∨ h0.size ≤ x) (Or.inr s_b2) all0)
  rw [own_nc bd1] at A_b2
  have A_b2 : Arv Z h4 b2 _ .char (7 : Int32) [(.int d0), (.int d1), (.int (0 : Int32)), (.int (0 : Int32)), (.int (0 : Int32)), (.int (0 : Int32)), (.int (0 : Int32))] (.int (0 : Int32)) := A_b2
  refine own_dup X hx (hb hby own_d_method_5_code_219) (pc' := 220) rfl rfl ?_
  refine own_iconst X hx (2 : Int32) (hb hby own_d_method_5_code_220) (pc' := 221) rfl rfl ?_
  refine own_iloadN X hx (hb hby own_d_method_5_code_221) (pc' := 222) rfl rfl ?_
  refine own_castore X hx hZ eT A_b2 (by decide) 2 rfl (by show 2 < 7; decide) (hb hby own_d_method_5_code_222) (pc' := 223) rfl ?_
  intro T h5 lc X eT Kq A_b2n fN
  have hsf : ∀ x ∈ ([b2] : List Addr), Safe Z own_EL vm0 h4 x := (sfS (Safe.arv hZ.alike A_b2 (by decide)) sf0)
  have S_b1 := S_b1.keep Kq hsf H
  have CR := CR.trans (CHr.keep Kq hsf H)
  have H := H.keep Kq hsf
  have hk := Nat.le_trans hk Kq.1
  have S_C := own_sta_keep S_C Kq (nsS (own_ns_arv A_b2) ns0)
  have E_b1 := E_b1.keep Kq
  have F_value_b1 := F_value_b1.keep Kq (ninS ne_b1_b2 nin0)
  have F_coder_b1 := F_coder_b1.keep Kq (ninS ne_b1_b2 nin0)
  have Z0 := Nat.le_trans Z0 Kq.1
  have A_b2 := A_b2n
  have N := fN _ z_b2 N
  have Kp := Kp.trans Kq (allS (P := fun x => x ∈ [] ∨ h0.size ≤ x) (Or.inr s_b2) all0)
  rw [own_nc bd2] at A_b2
  have A_b2 : Arv Z h5 b2 _ .char (7 : Int32) [(.int d0), (.int d1), (.int d2), (.int (0 : Int32)), (.int (0 : Int32)), (.int (0 : Int32)), (.int (0 : Int32))] (.int (0 : Int32)) := A_b2
  refine own_dup X hx (hb hby own_d_method_5_code_223) (pc' := 224) rfl rfl ?_
  refine own_iconst X hx (3 : Int32) (hb hby own_d_method_5_code_224) (pc' := 225) rfl rfl ?_
  refine own_iload X hx (hb hby own_d_method_5_code_225) (pc' := 227) rfl rfl ?_
  refine own_castore X hx hZ eT A_b2 (by decide) 3 rfl (by show 3 < 7; decide) (hb hby own_d_method_5_code_227) (pc' := 228) rfl ?_
  intro T h6 lc X eT Kq A_b2n fN
  have hsf : ∀ x ∈ ([b2] : List Addr), Safe Z own_EL vm0 h5 x := (sfS (Safe.arv hZ.alike A_b2 (by decide)) sf0)
  have S_b1 := S_b1.keep Kq hsf H
  have CR := CR.trans (CHr.keep Kq hsf H)
  have H := H.keep Kq hsf
  have hk := Nat.le_trans hk Kq.1
  have S_C := own_sta_keep S_C Kq (nsS (own_ns_arv A_b2) ns0)
  have E_b1 := E_b1.keep Kq
  have F_value_b1 := F_value_b1.keep Kq (ninS ne_b1_b2 nin0)
  have F_coder_b1 := F_coder_b1.keep Kq (ninS ne_b1_b2 nin0)
  have Z0 := Nat.le_trans Z0 Kq.1
  have A_b2 := A_b2n
  have N := fN _ z_b2 N
  have Kp := Kp.trans Kq (allS (P := fun x => x ∈ [] ∨ h0.size ≤ x) (Or.inr s_b2) all0)
  rw [own_nc bd3] at A_b2
  have A_b2 : Arv Z h6 b2 _ .char (7 : Int32) [(.int d0), (.int d1), (.int d2), (.int d3), (.int (0 : Int32)), (.int (0 : Int32)), (.int (0 : Int32))] (.int (0 : Int32)) := A_b2
  refine own_dup X hx (hb hby own_d_method_5_code_228) (pc' := 229) rfl rfl ?_
  refine own_iconst X hx (4 : Int32) (hb hby own_d_method_5_code_229) (pc' := 230) rfl rfl ?_
  refine own_iload X hx (hb hby own_d_method_5_code_230) (pc' := 232) rfl rfl ?_
  refine own_castore X hx hZ eT A_b2 (by decide) 4 rfl (by show 4 < 7; decide) (hb hby own_d_method_5_code_232) (pc' := 233) rfl ?_
  intro T h7 lc X eT Kq A_b2n fN
  have hsf : ∀ x ∈ ([b2] : List Addr), Safe Z own_EL vm0 h6 x := (sfS (Safe.arv hZ.alike A_b2 (by decide)) sf0)
  have S_b1 := S_b1.keep Kq hsf H
  have CR := CR.trans (CHr.keep Kq hsf H)
  have H := H.keep Kq hsf
  have hk := Nat.le_trans hk Kq.1
  have S_C := own_sta_keep S_C Kq (nsS (own_ns_arv A_b2) ns0)
  have E_b1 := E_b1.keep Kq
  have F_value_b1 := F_value_b1.keep Kq (ninS ne_b1_b2 nin0)
  have F_coder_b1 := F_coder_b1.keep Kq (ninS ne_b1_b2 nin0)
  have Z0 := Nat.le_trans Z0 Kq.1
  have A_b2 := A_b2n
  have N := fN _ z_b2 N
  have Kp := Kp.trans Kq (allS (P := fun x => x ∈ [] ∨ h0.size ≤ x) (Or.inr s_b2) all0)
  rw [own_nc bd4] at A_b2
  have A_b2 : Arv Z h7 b2 _ .char (7 : Int32) [(.int d0), (.int d1), (.int d2), (.int d3), (.int d4), (.int (0 : Int32)), (.int (0 : Int32))] (.int (0 : Int32)) := A_b2
  refine own_dup X hx (hb hby own_d_method_5_code_233) (pc' := 234) rfl rfl ?_
  refine own_iconst X hx (5 : Int32) (hb hby own_d_method_5_code_234) (pc' := 235) rfl rfl ?_
  refine own_iload X hx (hb hby own_d_method_5_code_235) (pc' := 237) rfl rfl ?_
  refine own_castore X hx hZ eT A_b2 (by decide) 5 rfl (by show 5 < 7; decide) (hb hby own_d_method_5_code_237) (pc' := 238) rfl ?_
  intro T h8 lc X eT Kq A_b2n fN
  have hsf : ∀ x ∈ ([b2] : List Addr), Safe Z own_EL vm0 h7 x := (sfS (Safe.arv hZ.alike A_b2 (by decide)) sf0)
  have S_b1 := S_b1.keep Kq hsf H
  have CR := CR.trans (CHr.keep Kq hsf H)
  have H := H.keep Kq hsf
  have hk := Nat.le_trans hk Kq.1
  have S_C := own_sta_keep S_C Kq (nsS (own_ns_arv A_b2) ns0)
  have E_b1 := E_b1.keep Kq
  have F_value_b1 := F_value_b1.keep Kq (ninS ne_b1_b2 nin0)
  have F_coder_b1 := F_coder_b1.keep Kq (ninS ne_b1_b2 nin0)
  have Z0 := Nat.le_trans Z0 Kq.1
  have A_b2 := A_b2n
  have N := fN _ z_b2 N
  have Kp := Kp.trans Kq (allS (P := fun x => x ∈ [] ∨ h0.size ≤ x) (Or.inr s_b2) all0)
  rw [own_nc bd5] at A_b2
  have A_b2 : Arv Z h8 b2 _ .char (7 : Int32) [(.int d0), (.int d1), (.int d2), (.int d3), (.int d4), (.int d5), (.int (0 : Int32))] (.int (0 : Int32)) := A_b2
  refine own_dup X hx (hb hby own_d_method_5_code_238) (pc' := 239) rfl rfl ?_
  refine own_bipush X hx (6 : Int32) (hb hby own_d_method_5_code_239) (pc' := 241) rfl rfl ?_
  refine own_iload X hx (hb hby own_d_method_5_code_241) (pc' := 243) rfl rfl ?_
  refine own_castore X hx hZ eT A_b2 (by decide) 6 rfl (by show 6 < 7; decide) (hb hby own_d_method_5_code_243) (pc' := 244) rfl ?_
  intro T h9 lc X eT Kq A_b2n fN
  have hsf : ∀ x ∈ ([b2] : List Addr), Safe Z own_EL vm0 h8 x := (sfS (Safe.arv hZ.alike A_b2 (by decide)) sf0)
  have S_b1 := S_b1.keep Kq hsf H
  have CR := CR.trans (CHr.keep Kq hsf H)
  have H := H.keep Kq hsf
  have hk := Nat.le_trans hk Kq.1
  have S_C := own_sta_keep S_C Kq (nsS (own_ns_arv A_b2) ns0)
  have E_b1 := E_b1.keep Kq
  have F_value_b1 := F_value_b1.keep Kq (ninS ne_b1_b2 nin0)
  have F_coder_b1 := F_coder_b1.keep Kq (ninS ne_b1_b2 nin0)
  have Z0 := Nat.le_trans Z0 Kq.1
  have A_b2 := A_b2n
  have N := fN _ z_b2 N
  have Kp := Kp.trans Kq (allS (P := fun x => x ∈ [] ∨ h0.size ≤ x) (Or.inr s_b2) all0)
  rw [own_nc bd6] at A_b2
  have A_b2 : Arv Z h9 b2 _ .char (7 : Int32) [(.int d0), (.int d1), (.int d2), (.int d3), (.int d4), (.int d5), (.int d6)] (.int (0 : Int32)) := A_b2
  refine own_callN X hx hZ b1 [(.ref b2)] rfl hown (own_w hw 18 rfl) (own_w hw 19 rfl) (own_w hw 16 rfl) (own_w hw 20 rfl) (by decide) (rm_ic7 l Z a0 hw [] b1 b2 _ cs d0 d1 d2 d3 d4 d5 d6 h9 n0 Z0 S_C hcs _ _ E_b1 F_coder_b1 F_value_b1 A_b2 ne_b1_b2 (own_le bd0) (own_le bd1) (own_le bd2) (own_le bd3) (own_le bd4) (own_le bd5) (own_le bd6) z_b1) eT (W := 1) (by decide) (by decide) (cells' := 3) (slots' := 18) rfl rfl (by decide) (by decide) (by rw [hml]; rfl) (lenOf own_pd_285bC29V rfl) rfl (S := [(.ref b1)]) rfl (Nat.le_of_eq rfl) (hb hby own_d_method_5_code_244) (pc' := 247) rfl ?_
  intro v T h10 L lc X eT hq fN
  obtain ⟨rfl, Nq, Kq, bb, kb, hbb, F_c, F_v, A_bb⟩ := hq
  have N := fN _ N Nq
  have Kp := Kp.trans Kq (allS (P := fun x => x ∈ ([] : List Addr) ∨ h0.size ≤ x) (Or.inr s_b1) all0)
  have lt_b1_bb : b1 < bb := Nat.lt_of_lt_of_le E_b1.lt hbb
  have ne_b1_bb : b1 ≠ bb := Nat.ne_of_lt lt_b1_bb
  have lt_b2_bb : b2 < bb := Nat.lt_of_lt_of_le A_b2.lt hbb
  have ne_b2_bb : b2 ≠ bb := Nat.ne_of_lt lt_b2_bb
  have hsf : ∀ x ∈ ([b1] : List Addr), Safe Z own_EL vm0 h9 x := (sfS S_b1 sf0)
  have S_b1 := S_b1.keep Kq hsf H
  have CR := CR.trans (CHr.keep Kq hsf H)
  have H := H.keep Kq hsf
  have hk := Nat.le_trans hk Kq.1
  have S_C := own_sta_keep S_C Kq (nsS (own_ns_exa E_b1) ns0)
  have E_b1 := E_b1.keep Kq
  have A_b2 := A_b2.keep Kq (ninS (Ne.symm ne_b1_b2) nin0)
  have Z0 := Nat.le_trans Z0 Kq.1
  show own_W p e below (own_PostS Z own_EL s (Q_mk7 Z cs d0 d1 d2 d3 d4 d5 d6 h0 n0) 3 18) T m 247 #[.val (.int (7 : Int32)), .val (.int d0), .val (.int d1), .val (.int d2), .val (.int d3), .val (.int d4), .val (.int d5), .val (.int d6)] [(.ref b1)]
  refine own_retAS X hx hlk hZ eT hh hS hk hEL H CR Bd.returns (hb hby own_d_method_5_code_247) rfl rfl rfl (by decide) (by decide) ?_
  rw [eT]
  exact ⟨b1, bb, kb, rfl, N, Kp, E_b1, F_c, F_v, A_bb⟩
theorem own_d_jdk_43_method_13_code_0 : decode jdk_43_method_13_code 0 = .ok (.aload_n 0, 1) := by decide +kernel
theorem own_d_jdk_43_method_13_code_1 : decode jdk_43_method_13_code 1 = .ok (.arraylength, 1) := by decide +kernel
theorem own_d_jdk_43_method_13_code_2 : decode jdk_43_method_13_code 2 = .ok (.aload_n 1, 1) := by decide +kernel
theorem own_d_jdk_43_method_13_code_3 : decode jdk_43_method_13_code 3 = .ok (.arraylength, 1) := by decide +kernel
theorem own_d_jdk_43_method_13_code_4 : decode jdk_43_method_13_code 4 = .ok (.if_icmp .ne 30, 3) := by decide +kernel
theorem own_d_jdk_43_method_13_code_34 : decode jdk_43_method_13_code 34 = .ok (.iconst 0, 1) := by decide +kernel
theorem own_d_jdk_43_method_13_code_35 : decode jdk_43_method_13_code 35 = .ok (.ireturn, 1) := by decide +kernel
theorem own_pn_java_lang_StringLatin1 : plainName "java/lang/StringLatin1" = true := by first | (simp [plainName, overriddenIn]; done) | decide +kernel
theorem ef_lq0_6 (m : MethodId) (x0 : Addr) (x1 : Addr) : entryFrame m #[(.ref x0), (.ref x1)] 3 = mkF m 0 #[.val (.ref x0), .val (.ref x1), .unset] [] := by first | (simp [entryFrame, mkF, argsToLocals, Value.category]; done) | rfl
def Q_lq0_6 (Z : State) (b1 b2 : Addr)  (h0 : Heap) (n0 : Nat) (v : Option Value) (h : Heap) (L : List Loc) : Prop := v = some (.int (0 : Int32)) ∧ Fr n0 L ∧ h = h0
set_option maxRecDepth 65536 in
set_option maxHeartbeats 40000000 in
theorem rm_lq0_6 (l : Launch) (Z : State) (a0 : Array Value) (hw : ∀ d ∈ tables_1, d.before a0 Z = true) (ws : List Jvm.Cond) (b1 b2 : Addr)  (h0 : Heap) (n0 : Nat) (Z0 : n0 ≤ h0.size) (k1 k2 : ClassId) (A_1 : Arv Z h0 b1 k1 .byte (0 : Int32) [] (.int (0 : Int32))) (A_2 : Arv Z h0 b2 k2 .byte (6 : Int32) [(.int (45 : Int32)), (.int (45 : Int32)), (.int (104 : Int32)), (.int (101 : Int32)), (.int (108 : Int32)), (.int (112 : Int32))] (.int (0 : Int32))) :
    MetFree l (⟨"java/lang/StringLatin1", "equals", "([B[B)Z"⟩ : MethodName) (head1 (Jvm.Cond.code (⟨"java/lang/StringLatin1", "equals", "([B[B)Z"⟩ : MethodName) jdk_43_method_13_code 3 (some .boolean) :: ws) ({ frames := 0, cells := 0, slots := 0, locals := 0 } : Room)) (fun a U => a = #[(.ref b1), (.ref b2)] ∧ Z.Warmed39 U.vm ∧ U.heap = h0) (fun _ _ _ _ _ => True) (fun _ U o U' => ∃ v L, o = .returned v ∧ Q_lq0_6 Z b1 b2 h0 n0 v U'.heap L ∧ FrameEnd U o U' L ({ frames := 0, cells := 0, slots := 0, locals := 0 } : Room).cells ({ frames := 0, cells := 0, slots := 0, locals := 0 } : Room).slots) := by
  refine MetFree.of_bodySF (plainFor_of_name own_pn_java_lang_StringLatin1) hisR ?_
  intro p e s m args below meth c s₁ Bd hml0 hP hK
  obtain ⟨rfl, hZ, hh⟩ := hP
  have hx := Bd.exec
  have hby := Bd.bytes
  have hml : c.maxLocals = 3 := hml0
  have hown : s.vm.findClass "java/lang/StringLatin1" = some m.cls := findClass_of_methodNamed Bd.named
  have hnm := (name_of_methodNamed Bd.named Bd.method).1
  have hlk := Bd.notSynchronized
  obtain ⟨lc, hlc⟩ : ∃ lc : List Loc, lc = [] := ⟨_, rfl⟩
  have X : Stand p l e ({ frames := 0, cells := 0, slots := 0, locals := 0 } : Room) s m #[(.ref b1), (.ref b2)] below meth c s₁ lc 0 0 := hlc ▸ Stand.of_body Bd
  have eT : s₁.heap = h0 := by rw [← hh, Bd.state]; rfl
  have N : Fr n0 lc := hlc ▸ Fr.nil n0
  refine own_enter (ef_lq0_6 m b1 b2) ?_
  obtain ⟨T, hT⟩ : ∃ T : State, T = s₁ := ⟨_, rfl⟩
  rw [← hT] at X eT ⊢
  show own_W p e below (own_Post s (Q_lq0_6 Z b1 b2 h0 n0) 0 0) T m 0 #[.val (.ref b1), .val (.ref b2), .unset] []
  refine own_aloadN X hx (hb hby own_d_jdk_43_method_13_code_0) (pc' := 1) rfl rfl rfl ?_
  refine own_arrlen X hx hZ eT A_1 (hb hby own_d_jdk_43_method_13_code_1) (pc' := 2) rfl ?_
  refine own_aloadN X hx (hb hby own_d_jdk_43_method_13_code_2) (pc' := 3) rfl rfl rfl ?_
  refine own_arrlen X hx hZ eT A_2 (hb hby own_d_jdk_43_method_13_code_3) (pc' := 4) rfl ?_
  refine own_icmpY X hx (hb hby own_d_jdk_43_method_13_code_4) (by decide) (pc' := 34) rfl (show ¬ ((0 : Int32) = (6 : Int32)) from (by decide)) ?_
  refine own_iconst X hx (0 : Int32) (hb hby own_d_jdk_43_method_13_code_34) (pc' := 35) rfl rfl ?_
  refine own_retI X hx hlk (t := .boolean) (w' := (.int (0 : Int32))) Bd.returns (hb hby own_d_jdk_43_method_13_code_35) rfl rfl (by simp) (by decide) (by decide) ?_
  rw [eT]
  exact ⟨rfl, N, rfl⟩
theorem own_d_jdk_42_method_66_code_0 : decode jdk_42_method_66_code 0 = .ok (.aload_n 0, 1) := by decide +kernel
theorem own_d_jdk_42_method_66_code_1 : decode jdk_42_method_66_code 1 = .ok (.aload_n 1, 1) := by decide +kernel
theorem own_d_jdk_42_method_66_code_2 : decode jdk_42_method_66_code 2 = .ok (.if_acmp .ne 5, 3) := by decide +kernel
theorem own_d_jdk_42_method_66_code_7 : decode jdk_42_method_66_code 7 = .ok (.aload_n 1, 1) := by decide +kernel
theorem own_d_jdk_42_method_66_code_8 : decode jdk_42_method_66_code 8 = .ok (.instanceof 10, 3) := by decide +kernel
theorem own_d_jdk_42_method_66_code_11 : decode jdk_42_method_66_code 11 = .ok (.ifCond .eq 43, 3) := by decide +kernel
theorem own_d_jdk_42_method_66_code_14 : decode jdk_42_method_66_code 14 = .ok (.aload_n 1, 1) := by decide +kernel
theorem own_d_jdk_42_method_66_code_15 : decode jdk_42_method_66_code 15 = .ok (.checkcast 10, 3) := by decide +kernel
theorem own_d_jdk_42_method_66_code_18 : decode jdk_42_method_66_code 18 = .ok (.astore_n 2, 1) := by decide +kernel
theorem own_d_jdk_42_method_66_code_19 : decode jdk_42_method_66_code 19 = .ok (.getstatic 38, 3) := by decide +kernel
theorem own_d_jdk_42_method_66_code_22 : decode jdk_42_method_66_code 22 = .ok (.ifCond .eq 14, 3) := by decide +kernel
theorem own_d_jdk_42_method_66_code_25 : decode jdk_42_method_66_code 25 = .ok (.aload_n 0, 1) := by decide +kernel
theorem own_d_jdk_42_method_66_code_26 : decode jdk_42_method_66_code 26 = .ok (.getfield 15, 3) := by decide +kernel
theorem own_d_jdk_42_method_66_code_29 : decode jdk_42_method_66_code 29 = .ok (.aload_n 2, 1) := by decide +kernel
theorem own_d_jdk_42_method_66_code_30 : decode jdk_42_method_66_code 30 = .ok (.getfield 15, 3) := by decide +kernel
theorem own_d_jdk_42_method_66_code_33 : decode jdk_42_method_66_code 33 = .ok (.if_icmp .ne 21, 3) := by decide +kernel
theorem own_d_jdk_42_method_66_code_36 : decode jdk_42_method_66_code 36 = .ok (.aload_n 0, 1) := by decide +kernel
theorem own_d_jdk_42_method_66_code_37 : decode jdk_42_method_66_code 37 = .ok (.getfield 9, 3) := by decide +kernel
theorem own_d_jdk_42_method_66_code_40 : decode jdk_42_method_66_code 40 = .ok (.aload_n 2, 1) := by decide +kernel
theorem own_d_jdk_42_method_66_code_41 : decode jdk_42_method_66_code 41 = .ok (.getfield 9, 3) := by decide +kernel
theorem own_d_jdk_42_method_66_code_44 : decode jdk_42_method_66_code 44 = .ok (.invokestatic 541, 3) := by decide +kernel
theorem own_pd_285bB5bB29Z : parseMethodDescriptor "([B[B)Z" = some ⟨[(.array .byte), (.array .byte)], some .boolean⟩ := by decide +kernel
theorem own_d_jdk_42_method_66_code_47 : decode jdk_42_method_66_code 47 = .ok (.ifCond .eq 7, 3) := by decide +kernel
theorem own_d_jdk_42_method_66_code_54 : decode jdk_42_method_66_code 54 = .ok (.iconst 0, 1) := by decide +kernel
theorem own_d_jdk_42_method_66_code_55 : decode jdk_42_method_66_code 55 = .ok (.ireturn, 1) := by decide +kernel
theorem ef_eq0_6 (m : MethodId) (x0 : Addr) (x1 : Addr) : entryFrame m #[(.ref x0), (.ref x1)] 3 = mkF m 0 #[.val (.ref x0), .val (.ref x1), .unset] [] := by first | (simp [entryFrame, mkF, argsToLocals, Value.category]; done) | rfl
def Q_eq0_6 (Z : State) (a1 a2 b1 b2 : Addr) (cs : Int32)  (h0 : Heap) (n0 : Nat) (v : Option Value) (h : Heap) (L : List Loc) : Prop := v = some (.int (0 : Int32)) ∧ Fr n0 L ∧ h = h0
set_option maxRecDepth 65536 in
set_option maxHeartbeats 40000000 in
theorem rm_eq0_6 (l : Launch) (Z : State) (a0 : Array Value) (hw : ∀ d ∈ tables_1, d.before a0 Z = true) (ws : List Jvm.Cond) (a1 a2 b1 b2 : Addr) (cs : Int32)  (h0 : Heap) (n0 : Nat) (Z0 : n0 ≤ h0.size) (S_C : Sta Z h0 "java/lang/String" "COMPACT_STRINGS" "Z" (.int cs)) (hcs : ¬ cs = 0) (E_1 : Exa Z h0 a1 "java/lang/String") (C_1 : Fld Z h0 a1 "java/lang/String" "coder" "B" (.int (0 : Int32))) (V_1 : Fld Z h0 a1 "java/lang/String" "value" "[B" (.ref b1)) (E_2 : Exa Z h0 a2 "java/lang/String") (C_2 : Fld Z h0 a2 "java/lang/String" "coder" "B" (.int (0 : Int32))) (V_2 : Fld Z h0 a2 "java/lang/String" "value" "[B" (.ref b2)) (k1 k2 : ClassId) (A_1 : Arv Z h0 b1 k1 .byte (0 : Int32) [] (.int (0 : Int32))) (A_2 : Arv Z h0 b2 k2 .byte (6 : Int32) [(.int (45 : Int32)), (.int (45 : Int32)), (.int (104 : Int32)), (.int (101 : Int32)), (.int (108 : Int32)), (.int (112 : Int32))] (.int (0 : Int32))) :
    MetFree l (⟨"java/lang/String", "equals", "(Ljava/lang/Object;)Z"⟩ : MethodName) (head1 (Jvm.Cond.code (⟨"java/lang/String", "equals", "(Ljava/lang/Object;)Z"⟩ : MethodName) jdk_42_method_66_code 3 (some .boolean) :: ws) ({ frames := 1, cells := 0, slots := 0, locals := 14 } : Room)) (fun a U => a = #[(.ref a1), (.ref a2)] ∧ Z.Warmed39 U.vm ∧ U.heap = h0) (fun _ _ _ _ _ => True) (fun _ U o U' => ∃ v L, o = .returned v ∧ Q_eq0_6 Z a1 a2 b1 b2 cs h0 n0 v U'.heap L ∧ FrameEnd U o U' L ({ frames := 1, cells := 0, slots := 0, locals := 14 } : Room).cells ({ frames := 1, cells := 0, slots := 0, locals := 14 } : Room).slots) := by
  refine MetFree.of_bodySF (plainFor_of_name own_pn_java_lang_String) hisR ?_
  intro p e s m args below meth c s₁ Bd hml0 hP hK
  obtain ⟨rfl, hZ, hh⟩ := hP
  have hx := Bd.exec
  have hby := Bd.bytes
  have hml : c.maxLocals = 3 := hml0
  have hown : s.vm.findClass "java/lang/String" = some m.cls := findClass_of_methodNamed Bd.named
  have hnm := (name_of_methodNamed Bd.named Bd.method).1
  have hlk := Bd.notSynchronized
  obtain ⟨lc, hlc⟩ : ∃ lc : List Loc, lc = [] := ⟨_, rfl⟩
  have X : Stand p l e ({ frames := 1, cells := 0, slots := 0, locals := 14 } : Room) s m #[(.ref a1), (.ref a2)] below meth c s₁ lc 0 0 := hlc ▸ Stand.of_body Bd
  have eT : s₁.heap = h0 := by rw [← hh, Bd.state]; rfl
  have N : Fr n0 lc := hlc ▸ Fr.nil n0
  refine own_enter (ef_eq0_6 m a1 a2) ?_
  obtain ⟨T, hT⟩ : ∃ T : State, T = s₁ := ⟨_, rfl⟩
  rw [← hT] at X eT ⊢
  show own_W p e below (own_Post s (Q_eq0_6 Z a1 a2 b1 b2 cs h0 n0) 0 0) T m 0 #[.val (.ref a1), .val (.ref a2), .unset] []
  have hd12 : ¬ a1 = a2 := fun q => by
    subst q
    have q2 := Value.ref.inj (own_fld_at V_1 V_2)
    subst q2
    exact arv_ne A_1 A_2 (Or.inl (by decide)) rfl
  refine own_aloadN X hx (hb hby own_d_jdk_42_method_66_code_0) (pc' := 1) rfl rfl rfl ?_
  refine own_aloadN X hx (hb hby own_d_jdk_42_method_66_code_1) (pc' := 2) rfl rfl rfl ?_
  refine own_acmpY X hx (hb hby own_d_jdk_42_method_66_code_2) (by decide) (pc' := 7) rfl rfl rfl (XT.aa_ne_t fun q => hd12 (Value.ref.inj q)) ?_
  refine own_aloadN X hx (hb hby own_d_jdk_42_method_66_code_7) (pc' := 8) rfl rfl rfl ?_
  refine own_inst X hx hZ hown (own_w hw 46 rfl) eT E_2 (hb hby own_d_jdk_42_method_66_code_8) (pc' := 11) rfl ?_
  intro T X eT
  refine own_ifN X hx (hb hby own_d_jdk_42_method_66_code_11) (pc' := 14) rfl (show ¬ ((1 : Int32) = (0 : Int32)) from (by decide)) ?_
  refine own_aloadN X hx (hb hby own_d_jdk_42_method_66_code_14) (pc' := 15) rfl rfl rfl ?_
  refine own_cast X hx hZ hown (own_w hw 46 rfl) eT E_2 (hb hby own_d_jdk_42_method_66_code_15) (pc' := 18) rfl ?_
  intro T X eT
  refine own_astoreN X hx (hb hby own_d_jdk_42_method_66_code_18) (pc' := 19) rfl rfl (Ls' := #[.val (.ref a1), .val (.ref a2), .val (.ref a2)]) rfl ?_
  refine own_getS X hx hZ hown (host := "") (Or.inl (own_w hw 47 rfl)) Via.refl eT S_C (hb hby own_d_jdk_42_method_66_code_19) (pc' := 22) rfl ?_
  intro T X eT
  refine own_ifN X hx (hb hby own_d_jdk_42_method_66_code_22) (pc' := 25) rfl (show ¬ (cs = (0 : Int32)) from hcs) ?_
  refine own_aloadN X hx (hb hby own_d_jdk_42_method_66_code_25) (pc' := 26) rfl rfl rfl ?_
  refine own_getF X hx hZ hown (host := "") (Or.inl (own_w hw 35 rfl)) Via.refl eT C_1 (hb hby own_d_jdk_42_method_66_code_26) (pc' := 29) rfl ?_
  intro T X eT
  refine own_aloadN X hx (hb hby own_d_jdk_42_method_66_code_29) (pc' := 30) rfl rfl rfl ?_
  refine own_getF X hx hZ hown (host := "") (Or.inl (own_w hw 35 rfl)) Via.refl eT C_2 (hb hby own_d_jdk_42_method_66_code_30) (pc' := 33) rfl ?_
  intro T X eT
  refine own_icmpN X hx (hb hby own_d_jdk_42_method_66_code_33) (pc' := 36) rfl (show (0 : Int32) = (0 : Int32) from (by decide)) ?_
  refine own_aloadN X hx (hb hby own_d_jdk_42_method_66_code_36) (pc' := 37) rfl rfl rfl ?_
  refine own_getF X hx hZ hown (host := "") (Or.inl (own_w hw 34 rfl)) Via.refl eT V_1 (hb hby own_d_jdk_42_method_66_code_37) (pc' := 40) rfl ?_
  intro T X eT
  refine own_aloadN X hx (hb hby own_d_jdk_42_method_66_code_40) (pc' := 41) rfl rfl rfl ?_
  refine own_getF X hx hZ hown (host := "") (Or.inl (own_w hw 34 rfl)) Via.refl eT V_2 (hb hby own_d_jdk_42_method_66_code_41) (pc' := 44) rfl ?_
  intro T X eT
  refine own_callS X hx hZ [(.ref b1), (.ref b2)] hown (own_w hw 48 rfl) (own_w hw 49 rfl) (own_w hw 50 rfl) (own_w hw 51 rfl) (by decide) (rm_lq0_6 l Z a0 hw [] b1 b2  h0 n0 Z0 _ _ A_1 A_2) eT (W := 0) (by decide) (by decide) (cells' := 0) (slots' := 0) rfl rfl (by decide) (by decide) (by rw [hml]; rfl) (lenOf own_pd_285bB5bB29Z rfl) rfl (S := []) rfl (Nat.le_of_eq rfl) (hb hby own_d_jdk_42_method_66_code_44) (pc' := 47) rfl ?_
  intro v T h1 L lc X eT hq fN
  obtain ⟨rfl, Nq, hqe⟩ := hq
  have N := fN _ N Nq
  rw [hqe] at eT
  show own_W p e below (own_Post s (Q_eq0_6 Z a1 a2 b1 b2 cs h0 n0) 0 0) T m 47 #[.val (.ref a1), .val (.ref a2), .val (.ref a2)] [(.int (0 : Int32))]
  refine own_ifY X hx (hb hby own_d_jdk_42_method_66_code_47) (by decide) (pc' := 54) rfl (show (0 : Int32) = (0 : Int32) from (by decide)) ?_
  refine own_iconst X hx (0 : Int32) (hb hby own_d_jdk_42_method_66_code_54) (pc' := 55) rfl rfl ?_
  refine own_retI X hx hlk (t := .boolean) (w' := (.int (0 : Int32))) Bd.returns (hb hby own_d_jdk_42_method_66_code_55) rfl rfl (by simp) (by decide) (by decide) ?_
  rw [eT]
  exact ⟨rfl, N, rfl⟩
theorem ef_lq1_6 (m : MethodId) (x0 : Addr) (x1 : Addr) : entryFrame m #[(.ref x0), (.ref x1)] 3 = mkF m 0 #[.val (.ref x0), .val (.ref x1), .unset] [] := by first | (simp [entryFrame, mkF, argsToLocals, Value.category]; done) | rfl
def Q_lq1_6 (Z : State) (b1 b2 : Addr) (x0 : Int32) (h0 : Heap) (n0 : Nat) (v : Option Value) (h : Heap) (L : List Loc) : Prop := v = some (.int (0 : Int32)) ∧ Fr n0 L ∧ h = h0
set_option maxRecDepth 65536 in
set_option maxHeartbeats 40000000 in
theorem rm_lq1_6 (l : Launch) (Z : State) (a0 : Array Value) (hw : ∀ d ∈ tables_1, d.before a0 Z = true) (ws : List Jvm.Cond) (b1 b2 : Addr) (x0 : Int32) (h0 : Heap) (n0 : Nat) (Z0 : n0 ≤ h0.size) (k1 k2 : ClassId) (A_1 : Arv Z h0 b1 k1 .byte (1 : Int32) [(.int x0)] (.int (0 : Int32))) (A_2 : Arv Z h0 b2 k2 .byte (6 : Int32) [(.int (45 : Int32)), (.int (45 : Int32)), (.int (104 : Int32)), (.int (101 : Int32)), (.int (108 : Int32)), (.int (112 : Int32))] (.int (0 : Int32))) :
    MetFree l (⟨"java/lang/StringLatin1", "equals", "([B[B)Z"⟩ : MethodName) (head1 (Jvm.Cond.code (⟨"java/lang/StringLatin1", "equals", "([B[B)Z"⟩ : MethodName) jdk_43_method_13_code 3 (some .boolean) :: ws) ({ frames := 0, cells := 0, slots := 0, locals := 0 } : Room)) (fun a U => a = #[(.ref b1), (.ref b2)] ∧ Z.Warmed39 U.vm ∧ U.heap = h0) (fun _ _ _ _ _ => True) (fun _ U o U' => ∃ v L, o = .returned v ∧ Q_lq1_6 Z b1 b2 x0 h0 n0 v U'.heap L ∧ FrameEnd U o U' L ({ frames := 0, cells := 0, slots := 0, locals := 0 } : Room).cells ({ frames := 0, cells := 0, slots := 0, locals := 0 } : Room).slots) := by
  refine MetFree.of_bodySF (plainFor_of_name own_pn_java_lang_StringLatin1) hisR ?_
  intro p e s m args below meth c s₁ Bd hml0 hP hK
  obtain ⟨rfl, hZ, hh⟩ := hP
  have hx := Bd.exec
  have hby := Bd.bytes
  have hml : c.maxLocals = 3 := hml0
  have hown : s.vm.findClass "java/lang/StringLatin1" = some m.cls := findClass_of_methodNamed Bd.named
  have hnm := (name_of_methodNamed Bd.named Bd.method).1
  have hlk := Bd.notSynchronized
  obtain ⟨lc, hlc⟩ : ∃ lc : List Loc, lc = [] := ⟨_, rfl⟩
  have X : Stand p l e ({ frames := 0, cells := 0, slots := 0, locals := 0 } : Room) s m #[(.ref b1), (.ref b2)] below meth c s₁ lc 0 0 := hlc ▸ Stand.of_body Bd
  have eT : s₁.heap = h0 := by rw [← hh, Bd.state]; rfl
  have N : Fr n0 lc := hlc ▸ Fr.nil n0
  refine own_enter (ef_lq1_6 m b1 b2) ?_
  obtain ⟨T, hT⟩ : ∃ T : State, T = s₁ := ⟨_, rfl⟩
  rw [← hT] at X eT ⊢
  show own_W p e below (own_Post s (Q_lq1_6 Z b1 b2 x0 h0 n0) 0 0) T m 0 #[.val (.ref b1), .val (.ref b2), .unset] []
  refine own_aloadN X hx (hb hby own_d_jdk_43_method_13_code_0) (pc' := 1) rfl rfl rfl ?_
  refine own_arrlen X hx hZ eT A_1 (hb hby own_d_jdk_43_method_13_code_1) (pc' := 2) rfl ?_
  refine own_aloadN X hx (hb hby own_d_jdk_43_method_13_code_2) (pc' := 3) rfl rfl rfl ?_
  refine own_arrlen X hx hZ eT A_2 (hb hby own_d_jdk_43_method_13_code_3) (pc' := 4) rfl ?_
  refine own_icmpY X hx (hb hby own_d_jdk_43_method_13_code_4) (by decide) (pc' := 34) rfl (show ¬ ((1 : Int32) = (6 : Int32)) from (by decide)) ?_
  refine own_iconst X hx (0 : Int32) (hb hby own_d_jdk_43_method_13_code_34) (pc' := 35) rfl rfl ?_
  refine own_retI X hx hlk (t := .boolean) (w' := (.int (0 : Int32))) Bd.returns (hb hby own_d_jdk_43_method_13_code_35) rfl rfl (by simp) (by decide) (by decide) ?_
  rw [eT]
  exact ⟨rfl, N, rfl⟩
theorem ef_eq1_6 (m : MethodId) (x0 : Addr) (x1 : Addr) : entryFrame m #[(.ref x0), (.ref x1)] 3 = mkF m 0 #[.val (.ref x0), .val (.ref x1), .unset] [] := by first | (simp [entryFrame, mkF, argsToLocals, Value.category]; done) | rfl
def Q_eq1_6 (Z : State) (a1 a2 b1 b2 : Addr) (cs : Int32) (x0 : Int32) (h0 : Heap) (n0 : Nat) (v : Option Value) (h : Heap) (L : List Loc) : Prop := v = some (.int (0 : Int32)) ∧ Fr n0 L ∧ h = h0
set_option maxRecDepth 65536 in
set_option maxHeartbeats 40000000 in
theorem rm_eq1_6 (l : Launch) (Z : State) (a0 : Array Value) (hw : ∀ d ∈ tables_1, d.before a0 Z = true) (ws : List Jvm.Cond) (a1 a2 b1 b2 : Addr) (cs : Int32) (x0 : Int32) (h0 : Heap) (n0 : Nat) (Z0 : n0 ≤ h0.size) (S_C : Sta Z h0 "java/lang/String" "COMPACT_STRINGS" "Z" (.int cs)) (hcs : ¬ cs = 0) (E_1 : Exa Z h0 a1 "java/lang/String") (C_1 : Fld Z h0 a1 "java/lang/String" "coder" "B" (.int (0 : Int32))) (V_1 : Fld Z h0 a1 "java/lang/String" "value" "[B" (.ref b1)) (E_2 : Exa Z h0 a2 "java/lang/String") (C_2 : Fld Z h0 a2 "java/lang/String" "coder" "B" (.int (0 : Int32))) (V_2 : Fld Z h0 a2 "java/lang/String" "value" "[B" (.ref b2)) (k1 k2 : ClassId) (A_1 : Arv Z h0 b1 k1 .byte (1 : Int32) [(.int x0)] (.int (0 : Int32))) (A_2 : Arv Z h0 b2 k2 .byte (6 : Int32) [(.int (45 : Int32)), (.int (45 : Int32)), (.int (104 : Int32)), (.int (101 : Int32)), (.int (108 : Int32)), (.int (112 : Int32))] (.int (0 : Int32))) :
    MetFree l (⟨"java/lang/String", "equals", "(Ljava/lang/Object;)Z"⟩ : MethodName) (head1 (Jvm.Cond.code (⟨"java/lang/String", "equals", "(Ljava/lang/Object;)Z"⟩ : MethodName) jdk_42_method_66_code 3 (some .boolean) :: ws) ({ frames := 1, cells := 0, slots := 0, locals := 14 } : Room)) (fun a U => a = #[(.ref a1), (.ref a2)] ∧ Z.Warmed39 U.vm ∧ U.heap = h0) (fun _ _ _ _ _ => True) (fun _ U o U' => ∃ v L, o = .returned v ∧ Q_eq1_6 Z a1 a2 b1 b2 cs x0 h0 n0 v U'.heap L ∧ FrameEnd U o U' L ({ frames := 1, cells := 0, slots := 0, locals := 14 } : Room).cells ({ frames := 1, cells := 0, slots := 0, locals := 14 } : Room).slots) := by
  refine MetFree.of_bodySF (plainFor_of_name own_pn_java_lang_String) hisR ?_
  intro p e s m args below meth c s₁ Bd hml0 hP hK
  obtain ⟨rfl, hZ, hh⟩ := hP
  have hx := Bd.exec
  have hby := Bd.bytes
  have hml : c.maxLocals = 3 := hml0
  have hown : s.vm.findClass "java/lang/String" = some m.cls := findClass_of_methodNamed Bd.named
  have hnm := (name_of_methodNamed Bd.named Bd.method).1
  have hlk := Bd.notSynchronized
  obtain ⟨lc, hlc⟩ : ∃ lc : List Loc, lc = [] := ⟨_, rfl⟩
  have X : Stand p l e ({ frames := 1, cells := 0, slots := 0, locals := 14 } : Room) s m #[(.ref a1), (.ref a2)] below meth c s₁ lc 0 0 := hlc ▸ Stand.of_body Bd
  have eT : s₁.heap = h0 := by rw [← hh, Bd.state]; rfl
  have N : Fr n0 lc := hlc ▸ Fr.nil n0
  refine own_enter (ef_eq1_6 m a1 a2) ?_
  obtain ⟨T, hT⟩ : ∃ T : State, T = s₁ := ⟨_, rfl⟩
  rw [← hT] at X eT ⊢
  show own_W p e below (own_Post s (Q_eq1_6 Z a1 a2 b1 b2 cs x0 h0 n0) 0 0) T m 0 #[.val (.ref a1), .val (.ref a2), .unset] []
  have hd12 : ¬ a1 = a2 := fun q => by
    subst q
    have q2 := Value.ref.inj (own_fld_at V_1 V_2)
    subst q2
    exact arv_ne A_1 A_2 (Or.inl (by decide)) rfl
  refine own_aloadN X hx (hb hby own_d_jdk_42_method_66_code_0) (pc' := 1) rfl rfl rfl ?_
  refine own_aloadN X hx (hb hby own_d_jdk_42_method_66_code_1) (pc' := 2) rfl rfl rfl ?_
  refine own_acmpY X hx (hb hby own_d_jdk_42_method_66_code_2) (by decide) (pc' := 7) rfl rfl rfl (XT.aa_ne_t fun q => hd12 (Value.ref.inj q)) ?_
  refine own_aloadN X hx (hb hby own_d_jdk_42_method_66_code_7) (pc' := 8) rfl rfl rfl ?_
  refine own_inst X hx hZ hown (own_w hw 46 rfl) eT E_2 (hb hby own_d_jdk_42_method_66_code_8) (pc' := 11) rfl ?_
  intro T X eT
  refine own_ifN X hx (hb hby own_d_jdk_42_method_66_code_11) (pc' := 14) rfl (show ¬ ((1 : Int32) = (0 : Int32)) from (by decide)) ?_
  refine own_aloadN X hx (hb hby own_d_jdk_42_method_66_code_14) (pc' := 15) rfl rfl rfl ?_
  refine own_cast X hx hZ hown (own_w hw 46 rfl) eT E_2 (hb hby own_d_jdk_42_method_66_code_15) (pc' := 18) rfl ?_
  intro T X eT
  refine own_astoreN X hx (hb hby own_d_jdk_42_method_66_code_18) (pc' := 19) rfl rfl (Ls' := #[.val (.ref a1), .val (.ref a2), .val (.ref a2)]) rfl ?_
  refine own_getS X hx hZ hown (host := "") (Or.inl (own_w hw 47 rfl)) Via.refl eT S_C (hb hby own_d_jdk_42_method_66_code_19) (pc' := 22) rfl ?_
  intro T X eT
  refine own_ifN X hx (hb hby own_d_jdk_42_method_66_code_22) (pc' := 25) rfl (show ¬ (cs = (0 : Int32)) from hcs) ?_
  refine own_aloadN X hx (hb hby own_d_jdk_42_method_66_code_25) (pc' := 26) rfl rfl rfl ?_
  refine own_getF X hx hZ hown (host := "") (Or.inl (own_w hw 35 rfl)) Via.refl eT C_1 (hb hby own_d_jdk_42_method_66_code_26) (pc' := 29) rfl ?_
  intro T X eT
  refine own_aloadN X hx (hb hby own_d_jdk_42_method_66_code_29) (pc' := 30) rfl rfl rfl ?_
  refine own_getF X hx hZ hown (host := "") (Or.inl (own_w hw 35 rfl)) Via.refl eT C_2 (hb hby own_d_jdk_42_method_66_code_30) (pc' := 33) rfl ?_
  intro T X eT
  refine own_icmpN X hx (hb hby own_d_jdk_42_method_66_code_33) (pc' := 36) rfl (show (0 : Int32) = (0 : Int32) from (by decide)) ?_
  refine own_aloadN X hx (hb hby own_d_jdk_42_method_66_code_36) (pc' := 37) rfl rfl rfl ?_
  refine own_getF X hx hZ hown (host := "") (Or.inl (own_w hw 34 rfl)) Via.refl eT V_1 (hb hby own_d_jdk_42_method_66_code_37) (pc' := 40) rfl ?_
  intro T X eT
  refine own_aloadN X hx (hb hby own_d_jdk_42_method_66_code_40) (pc' := 41) rfl rfl rfl ?_
  refine own_getF X hx hZ hown (host := "") (Or.inl (own_w hw 34 rfl)) Via.refl eT V_2 (hb hby own_d_jdk_42_method_66_code_41) (pc' := 44) rfl ?_
  intro T X eT
  refine own_callS X hx hZ [(.ref b1), (.ref b2)] hown (own_w hw 48 rfl) (own_w hw 49 rfl) (own_w hw 50 rfl) (own_w hw 51 rfl) (by decide) (rm_lq1_6 l Z a0 hw [] b1 b2 x0 h0 n0 Z0 _ _ A_1 A_2) eT (W := 0) (by decide) (by decide) (cells' := 0) (slots' := 0) rfl rfl (by decide) (by decide) (by rw [hml]; rfl) (lenOf own_pd_285bB5bB29Z rfl) rfl (S := []) rfl (Nat.le_of_eq rfl) (hb hby own_d_jdk_42_method_66_code_44) (pc' := 47) rfl ?_
  intro v T h1 L lc X eT hq fN
  obtain ⟨rfl, Nq, hqe⟩ := hq
  have N := fN _ N Nq
  rw [hqe] at eT
  show own_W p e below (own_Post s (Q_eq1_6 Z a1 a2 b1 b2 cs x0 h0 n0) 0 0) T m 47 #[.val (.ref a1), .val (.ref a2), .val (.ref a2)] [(.int (0 : Int32))]
  refine own_ifY X hx (hb hby own_d_jdk_42_method_66_code_47) (by decide) (pc' := 54) rfl (show (0 : Int32) = (0 : Int32) from (by decide)) ?_
  refine own_iconst X hx (0 : Int32) (hb hby own_d_jdk_42_method_66_code_54) (pc' := 55) rfl rfl ?_
  refine own_retI X hx hlk (t := .boolean) (w' := (.int (0 : Int32))) Bd.returns (hb hby own_d_jdk_42_method_66_code_55) rfl rfl (by simp) (by decide) (by decide) ?_
  rw [eT]
  exact ⟨rfl, N, rfl⟩
theorem ef_lq2_6 (m : MethodId) (x0 : Addr) (x1 : Addr) : entryFrame m #[(.ref x0), (.ref x1)] 3 = mkF m 0 #[.val (.ref x0), .val (.ref x1), .unset] [] := by first | (simp [entryFrame, mkF, argsToLocals, Value.category]; done) | rfl
def Q_lq2_6 (Z : State) (b1 b2 : Addr) (x0 x1 : Int32) (h0 : Heap) (n0 : Nat) (v : Option Value) (h : Heap) (L : List Loc) : Prop := v = some (.int (0 : Int32)) ∧ Fr n0 L ∧ h = h0
set_option maxRecDepth 65536 in
set_option maxHeartbeats 40000000 in
theorem rm_lq2_6 (l : Launch) (Z : State) (a0 : Array Value) (hw : ∀ d ∈ tables_1, d.before a0 Z = true) (ws : List Jvm.Cond) (b1 b2 : Addr) (x0 x1 : Int32) (h0 : Heap) (n0 : Nat) (Z0 : n0 ≤ h0.size) (k1 k2 : ClassId) (A_1 : Arv Z h0 b1 k1 .byte (2 : Int32) [(.int x0), (.int x1)] (.int (0 : Int32))) (A_2 : Arv Z h0 b2 k2 .byte (6 : Int32) [(.int (45 : Int32)), (.int (45 : Int32)), (.int (104 : Int32)), (.int (101 : Int32)), (.int (108 : Int32)), (.int (112 : Int32))] (.int (0 : Int32))) :
    MetFree l (⟨"java/lang/StringLatin1", "equals", "([B[B)Z"⟩ : MethodName) (head1 (Jvm.Cond.code (⟨"java/lang/StringLatin1", "equals", "([B[B)Z"⟩ : MethodName) jdk_43_method_13_code 3 (some .boolean) :: ws) ({ frames := 0, cells := 0, slots := 0, locals := 0 } : Room)) (fun a U => a = #[(.ref b1), (.ref b2)] ∧ Z.Warmed39 U.vm ∧ U.heap = h0) (fun _ _ _ _ _ => True) (fun _ U o U' => ∃ v L, o = .returned v ∧ Q_lq2_6 Z b1 b2 x0 x1 h0 n0 v U'.heap L ∧ FrameEnd U o U' L ({ frames := 0, cells := 0, slots := 0, locals := 0 } : Room).cells ({ frames := 0, cells := 0, slots := 0, locals := 0 } : Room).slots) := by
  refine MetFree.of_bodySF (plainFor_of_name own_pn_java_lang_StringLatin1) hisR ?_
  intro p e s m args below meth c s₁ Bd hml0 hP hK
  obtain ⟨rfl, hZ, hh⟩ := hP
  have hx := Bd.exec
  have hby := Bd.bytes
  have hml : c.maxLocals = 3 := hml0
  have hown : s.vm.findClass "java/lang/StringLatin1" = some m.cls := findClass_of_methodNamed Bd.named
  have hnm := (name_of_methodNamed Bd.named Bd.method).1
  have hlk := Bd.notSynchronized
  obtain ⟨lc, hlc⟩ : ∃ lc : List Loc, lc = [] := ⟨_, rfl⟩
  have X : Stand p l e ({ frames := 0, cells := 0, slots := 0, locals := 0 } : Room) s m #[(.ref b1), (.ref b2)] below meth c s₁ lc 0 0 := hlc ▸ Stand.of_body Bd
  have eT : s₁.heap = h0 := by rw [← hh, Bd.state]; rfl
  have N : Fr n0 lc := hlc ▸ Fr.nil n0
  refine own_enter (ef_lq2_6 m b1 b2) ?_
  obtain ⟨T, hT⟩ : ∃ T : State, T = s₁ := ⟨_, rfl⟩
  rw [← hT] at X eT ⊢
  show own_W p e below (own_Post s (Q_lq2_6 Z b1 b2 x0 x1 h0 n0) 0 0) T m 0 #[.val (.ref b1), .val (.ref b2), .unset] []
  refine own_aloadN X hx (hb hby own_d_jdk_43_method_13_code_0) (pc' := 1) rfl rfl rfl ?_
  refine own_arrlen X hx hZ eT A_1 (hb hby own_d_jdk_43_method_13_code_1) (pc' := 2) rfl ?_
  refine own_aloadN X hx (hb hby own_d_jdk_43_method_13_code_2) (pc' := 3) rfl rfl rfl ?_
  refine own_arrlen X hx hZ eT A_2 (hb hby own_d_jdk_43_method_13_code_3) (pc' := 4) rfl ?_
  refine own_icmpY X hx (hb hby own_d_jdk_43_method_13_code_4) (by decide) (pc' := 34) rfl (show ¬ ((2 : Int32) = (6 : Int32)) from (by decide)) ?_
  refine own_iconst X hx (0 : Int32) (hb hby own_d_jdk_43_method_13_code_34) (pc' := 35) rfl rfl ?_
  refine own_retI X hx hlk (t := .boolean) (w' := (.int (0 : Int32))) Bd.returns (hb hby own_d_jdk_43_method_13_code_35) rfl rfl (by simp) (by decide) (by decide) ?_
  rw [eT]
  exact ⟨rfl, N, rfl⟩
theorem ef_eq2_6 (m : MethodId) (x0 : Addr) (x1 : Addr) : entryFrame m #[(.ref x0), (.ref x1)] 3 = mkF m 0 #[.val (.ref x0), .val (.ref x1), .unset] [] := by first | (simp [entryFrame, mkF, argsToLocals, Value.category]; done) | rfl
def Q_eq2_6 (Z : State) (a1 a2 b1 b2 : Addr) (cs : Int32) (x0 x1 : Int32) (h0 : Heap) (n0 : Nat) (v : Option Value) (h : Heap) (L : List Loc) : Prop := v = some (.int (0 : Int32)) ∧ Fr n0 L ∧ h = h0
set_option maxRecDepth 65536 in
set_option maxHeartbeats 40000000 in
theorem rm_eq2_6 (l : Launch) (Z : State) (a0 : Array Value) (hw : ∀ d ∈ tables_1, d.before a0 Z = true) (ws : List Jvm.Cond) (a1 a2 b1 b2 : Addr) (cs : Int32) (x0 x1 : Int32) (h0 : Heap) (n0 : Nat) (Z0 : n0 ≤ h0.size) (S_C : Sta Z h0 "java/lang/String" "COMPACT_STRINGS" "Z" (.int cs)) (hcs : ¬ cs = 0) (E_1 : Exa Z h0 a1 "java/lang/String") (C_1 : Fld Z h0 a1 "java/lang/String" "coder" "B" (.int (0 : Int32))) (V_1 : Fld Z h0 a1 "java/lang/String" "value" "[B" (.ref b1)) (E_2 : Exa Z h0 a2 "java/lang/String") (C_2 : Fld Z h0 a2 "java/lang/String" "coder" "B" (.int (0 : Int32))) (V_2 : Fld Z h0 a2 "java/lang/String" "value" "[B" (.ref b2)) (k1 k2 : ClassId) (A_1 : Arv Z h0 b1 k1 .byte (2 : Int32) [(.int x0), (.int x1)] (.int (0 : Int32))) (A_2 : Arv Z h0 b2 k2 .byte (6 : Int32) [(.int (45 : Int32)), (.int (45 : Int32)), (.int (104 : Int32)), (.int (101 : Int32)), (.int (108 : Int32)), (.int (112 : Int32))] (.int (0 : Int32))) :
    MetFree l (⟨"java/lang/String", "equals", "(Ljava/lang/Object;)Z"⟩ : MethodName) (head1 (Jvm.Cond.code (⟨"java/lang/String", "equals", "(Ljava/lang/Object;)Z"⟩ : MethodName) jdk_42_method_66_code 3 (some .boolean) :: ws) ({ frames := 1, cells := 0, slots := 0, locals := 14 } : Room)) (fun a U => a = #[(.ref a1), (.ref a2)] ∧ Z.Warmed39 U.vm ∧ U.heap = h0) (fun _ _ _ _ _ => True) (fun _ U o U' => ∃ v L, o = .returned v ∧ Q_eq2_6 Z a1 a2 b1 b2 cs x0 x1 h0 n0 v U'.heap L ∧ FrameEnd U o U' L ({ frames := 1, cells := 0, slots := 0, locals := 14 } : Room).cells ({ frames := 1, cells := 0, slots := 0, locals := 14 } : Room).slots) := by
  refine MetFree.of_bodySF (plainFor_of_name own_pn_java_lang_String) hisR ?_
  intro p e s m args below meth c s₁ Bd hml0 hP hK
  obtain ⟨rfl, hZ, hh⟩ := hP
  have hx := Bd.exec
  have hby := Bd.bytes
  have hml : c.maxLocals = 3 := hml0
  have hown : s.vm.findClass "java/lang/String" = some m.cls := findClass_of_methodNamed Bd.named
  have hnm := (name_of_methodNamed Bd.named Bd.method).1
  have hlk := Bd.notSynchronized
  obtain ⟨lc, hlc⟩ : ∃ lc : List Loc, lc = [] := ⟨_, rfl⟩
  have X : Stand p l e ({ frames := 1, cells := 0, slots := 0, locals := 14 } : Room) s m #[(.ref a1), (.ref a2)] below meth c s₁ lc 0 0 := hlc ▸ Stand.of_body Bd
  have eT : s₁.heap = h0 := by rw [← hh, Bd.state]; rfl
  have N : Fr n0 lc := hlc ▸ Fr.nil n0
  refine own_enter (ef_eq2_6 m a1 a2) ?_
  obtain ⟨T, hT⟩ : ∃ T : State, T = s₁ := ⟨_, rfl⟩
  rw [← hT] at X eT ⊢
  show own_W p e below (own_Post s (Q_eq2_6 Z a1 a2 b1 b2 cs x0 x1 h0 n0) 0 0) T m 0 #[.val (.ref a1), .val (.ref a2), .unset] []
  have hd12 : ¬ a1 = a2 := fun q => by
    subst q
    have q2 := Value.ref.inj (own_fld_at V_1 V_2)
    subst q2
    exact arv_ne A_1 A_2 (Or.inl (by decide)) rfl
  refine own_aloadN X hx (hb hby own_d_jdk_42_method_66_code_0) (pc' := 1) rfl rfl rfl ?_
  refine own_aloadN X hx (hb hby own_d_jdk_42_method_66_code_1) (pc' := 2) rfl rfl rfl ?_
  refine own_acmpY X hx (hb hby own_d_jdk_42_method_66_code_2) (by decide) (pc' := 7) rfl rfl rfl (XT.aa_ne_t fun q => hd12 (Value.ref.inj q)) ?_
  refine own_aloadN X hx (hb hby own_d_jdk_42_method_66_code_7) (pc' := 8) rfl rfl rfl ?_
  refine own_inst X hx hZ hown (own_w hw 46 rfl) eT E_2 (hb hby own_d_jdk_42_method_66_code_8) (pc' := 11) rfl ?_
  intro T X eT
  refine own_ifN X hx (hb hby own_d_jdk_42_method_66_code_11) (pc' := 14) rfl (show ¬ ((1 : Int32) = (0 : Int32)) from (by decide)) ?_
  refine own_aloadN X hx (hb hby own_d_jdk_42_method_66_code_14) (pc' := 15) rfl rfl rfl ?_
  refine own_cast X hx hZ hown (own_w hw 46 rfl) eT E_2 (hb hby own_d_jdk_42_method_66_code_15) (pc' := 18) rfl ?_
  intro T X eT
  refine own_astoreN X hx (hb hby own_d_jdk_42_method_66_code_18) (pc' := 19) rfl rfl (Ls' := #[.val (.ref a1), .val (.ref a2), .val (.ref a2)]) rfl ?_
  refine own_getS X hx hZ hown (host := "") (Or.inl (own_w hw 47 rfl)) Via.refl eT S_C (hb hby own_d_jdk_42_method_66_code_19) (pc' := 22) rfl ?_
  intro T X eT
  refine own_ifN X hx (hb hby own_d_jdk_42_method_66_code_22) (pc' := 25) rfl (show ¬ (cs = (0 : Int32)) from hcs) ?_
  refine own_aloadN X hx (hb hby own_d_jdk_42_method_66_code_25) (pc' := 26) rfl rfl rfl ?_
  refine own_getF X hx hZ hown (host := "") (Or.inl (own_w hw 35 rfl)) Via.refl eT C_1 (hb hby own_d_jdk_42_method_66_code_26) (pc' := 29) rfl ?_
  intro T X eT
  refine own_aloadN X hx (hb hby own_d_jdk_42_method_66_code_29) (pc' := 30) rfl rfl rfl ?_
  refine own_getF X hx hZ hown (host := "") (Or.inl (own_w hw 35 rfl)) Via.refl eT C_2 (hb hby own_d_jdk_42_method_66_code_30) (pc' := 33) rfl ?_
  intro T X eT
  refine own_icmpN X hx (hb hby own_d_jdk_42_method_66_code_33) (pc' := 36) rfl (show (0 : Int32) = (0 : Int32) from (by decide)) ?_
  refine own_aloadN X hx (hb hby own_d_jdk_42_method_66_code_36) (pc' := 37) rfl rfl rfl ?_
  refine own_getF X hx hZ hown (host := "") (Or.inl (own_w hw 34 rfl)) Via.refl eT V_1 (hb hby own_d_jdk_42_method_66_code_37) (pc' := 40) rfl ?_
  intro T X eT
  refine own_aloadN X hx (hb hby own_d_jdk_42_method_66_code_40) (pc' := 41) rfl rfl rfl ?_
  refine own_getF X hx hZ hown (host := "") (Or.inl (own_w hw 34 rfl)) Via.refl eT V_2 (hb hby own_d_jdk_42_method_66_code_41) (pc' := 44) rfl ?_
  intro T X eT
  refine own_callS X hx hZ [(.ref b1), (.ref b2)] hown (own_w hw 48 rfl) (own_w hw 49 rfl) (own_w hw 50 rfl) (own_w hw 51 rfl) (by decide) (rm_lq2_6 l Z a0 hw [] b1 b2 x0 x1 h0 n0 Z0 _ _ A_1 A_2) eT (W := 0) (by decide) (by decide) (cells' := 0) (slots' := 0) rfl rfl (by decide) (by decide) (by rw [hml]; rfl) (lenOf own_pd_285bB5bB29Z rfl) rfl (S := []) rfl (Nat.le_of_eq rfl) (hb hby own_d_jdk_42_method_66_code_44) (pc' := 47) rfl ?_
  intro v T h1 L lc X eT hq fN
  obtain ⟨rfl, Nq, hqe⟩ := hq
  have N := fN _ N Nq
  rw [hqe] at eT
  show own_W p e below (own_Post s (Q_eq2_6 Z a1 a2 b1 b2 cs x0 x1 h0 n0) 0 0) T m 47 #[.val (.ref a1), .val (.ref a2), .val (.ref a2)] [(.int (0 : Int32))]
  refine own_ifY X hx (hb hby own_d_jdk_42_method_66_code_47) (by decide) (pc' := 54) rfl (show (0 : Int32) = (0 : Int32) from (by decide)) ?_
  refine own_iconst X hx (0 : Int32) (hb hby own_d_jdk_42_method_66_code_54) (pc' := 55) rfl rfl ?_
  refine own_retI X hx hlk (t := .boolean) (w' := (.int (0 : Int32))) Bd.returns (hb hby own_d_jdk_42_method_66_code_55) rfl rfl (by simp) (by decide) (by decide) ?_
  rw [eT]
  exact ⟨rfl, N, rfl⟩
theorem ef_lq3_6 (m : MethodId) (x0 : Addr) (x1 : Addr) : entryFrame m #[(.ref x0), (.ref x1)] 3 = mkF m 0 #[.val (.ref x0), .val (.ref x1), .unset] [] := by first | (simp [entryFrame, mkF, argsToLocals, Value.category]; done) | rfl
def Q_lq3_6 (Z : State) (b1 b2 : Addr) (x0 x1 x2 : Int32) (h0 : Heap) (n0 : Nat) (v : Option Value) (h : Heap) (L : List Loc) : Prop := v = some (.int (0 : Int32)) ∧ Fr n0 L ∧ h = h0
set_option maxRecDepth 65536 in
set_option maxHeartbeats 40000000 in
theorem rm_lq3_6 (l : Launch) (Z : State) (a0 : Array Value) (hw : ∀ d ∈ tables_1, d.before a0 Z = true) (ws : List Jvm.Cond) (b1 b2 : Addr) (x0 x1 x2 : Int32) (h0 : Heap) (n0 : Nat) (Z0 : n0 ≤ h0.size) (k1 k2 : ClassId) (A_1 : Arv Z h0 b1 k1 .byte (3 : Int32) [(.int x0), (.int x1), (.int x2)] (.int (0 : Int32))) (A_2 : Arv Z h0 b2 k2 .byte (6 : Int32) [(.int (45 : Int32)), (.int (45 : Int32)), (.int (104 : Int32)), (.int (101 : Int32)), (.int (108 : Int32)), (.int (112 : Int32))] (.int (0 : Int32))) :
    MetFree l (⟨"java/lang/StringLatin1", "equals", "([B[B)Z"⟩ : MethodName) (head1 (Jvm.Cond.code (⟨"java/lang/StringLatin1", "equals", "([B[B)Z"⟩ : MethodName) jdk_43_method_13_code 3 (some .boolean) :: ws) ({ frames := 0, cells := 0, slots := 0, locals := 0 } : Room)) (fun a U => a = #[(.ref b1), (.ref b2)] ∧ Z.Warmed39 U.vm ∧ U.heap = h0) (fun _ _ _ _ _ => True) (fun _ U o U' => ∃ v L, o = .returned v ∧ Q_lq3_6 Z b1 b2 x0 x1 x2 h0 n0 v U'.heap L ∧ FrameEnd U o U' L ({ frames := 0, cells := 0, slots := 0, locals := 0 } : Room).cells ({ frames := 0, cells := 0, slots := 0, locals := 0 } : Room).slots) := by
  refine MetFree.of_bodySF (plainFor_of_name own_pn_java_lang_StringLatin1) hisR ?_
  intro p e s m args below meth c s₁ Bd hml0 hP hK
  obtain ⟨rfl, hZ, hh⟩ := hP
  have hx := Bd.exec
  have hby := Bd.bytes
  have hml : c.maxLocals = 3 := hml0
  have hown : s.vm.findClass "java/lang/StringLatin1" = some m.cls := findClass_of_methodNamed Bd.named
  have hnm := (name_of_methodNamed Bd.named Bd.method).1
  have hlk := Bd.notSynchronized
  obtain ⟨lc, hlc⟩ : ∃ lc : List Loc, lc = [] := ⟨_, rfl⟩
  have X : Stand p l e ({ frames := 0, cells := 0, slots := 0, locals := 0 } : Room) s m #[(.ref b1), (.ref b2)] below meth c s₁ lc 0 0 := hlc ▸ Stand.of_body Bd
  have eT : s₁.heap = h0 := by rw [← hh, Bd.state]; rfl
  have N : Fr n0 lc := hlc ▸ Fr.nil n0
  refine own_enter (ef_lq3_6 m b1 b2) ?_
  obtain ⟨T, hT⟩ : ∃ T : State, T = s₁ := ⟨_, rfl⟩
  rw [← hT] at X eT ⊢
  show own_W p e below (own_Post s (Q_lq3_6 Z b1 b2 x0 x1 x2 h0 n0) 0 0) T m 0 #[.val (.ref b1), .val (.ref b2), .unset] []
  refine own_aloadN X hx (hb hby own_d_jdk_43_method_13_code_0) (pc' := 1) rfl rfl rfl ?_
  refine own_arrlen X hx hZ eT A_1 (hb hby own_d_jdk_43_method_13_code_1) (pc' := 2) rfl ?_
  refine own_aloadN X hx (hb hby own_d_jdk_43_method_13_code_2) (pc' := 3) rfl rfl rfl ?_
  refine own_arrlen X hx hZ eT A_2 (hb hby own_d_jdk_43_method_13_code_3) (pc' := 4) rfl ?_
  refine own_icmpY X hx (hb hby own_d_jdk_43_method_13_code_4) (by decide) (pc' := 34) rfl (show ¬ ((3 : Int32) = (6 : Int32)) from (by decide)) ?_
  refine own_iconst X hx (0 : Int32) (hb hby own_d_jdk_43_method_13_code_34) (pc' := 35) rfl rfl ?_
  refine own_retI X hx hlk (t := .boolean) (w' := (.int (0 : Int32))) Bd.returns (hb hby own_d_jdk_43_method_13_code_35) rfl rfl (by simp) (by decide) (by decide) ?_
  rw [eT]
  exact ⟨rfl, N, rfl⟩
theorem ef_eq3_6 (m : MethodId) (x0 : Addr) (x1 : Addr) : entryFrame m #[(.ref x0), (.ref x1)] 3 = mkF m 0 #[.val (.ref x0), .val (.ref x1), .unset] [] := by first | (simp [entryFrame, mkF, argsToLocals, Value.category]; done) | rfl
def Q_eq3_6 (Z : State) (a1 a2 b1 b2 : Addr) (cs : Int32) (x0 x1 x2 : Int32) (h0 : Heap) (n0 : Nat) (v : Option Value) (h : Heap) (L : List Loc) : Prop := v = some (.int (0 : Int32)) ∧ Fr n0 L ∧ h = h0
set_option maxRecDepth 65536 in
set_option maxHeartbeats 40000000 in
theorem rm_eq3_6 (l : Launch) (Z : State) (a0 : Array Value) (hw : ∀ d ∈ tables_1, d.before a0 Z = true) (ws : List Jvm.Cond) (a1 a2 b1 b2 : Addr) (cs : Int32) (x0 x1 x2 : Int32) (h0 : Heap) (n0 : Nat) (Z0 : n0 ≤ h0.size) (S_C : Sta Z h0 "java/lang/String" "COMPACT_STRINGS" "Z" (.int cs)) (hcs : ¬ cs = 0) (E_1 : Exa Z h0 a1 "java/lang/String") (C_1 : Fld Z h0 a1 "java/lang/String" "coder" "B" (.int (0 : Int32))) (V_1 : Fld Z h0 a1 "java/lang/String" "value" "[B" (.ref b1)) (E_2 : Exa Z h0 a2 "java/lang/String") (C_2 : Fld Z h0 a2 "java/lang/String" "coder" "B" (.int (0 : Int32))) (V_2 : Fld Z h0 a2 "java/lang/String" "value" "[B" (.ref b2)) (k1 k2 : ClassId) (A_1 : Arv Z h0 b1 k1 .byte (3 : Int32) [(.int x0), (.int x1), (.int x2)] (.int (0 : Int32))) (A_2 : Arv Z h0 b2 k2 .byte (6 : Int32) [(.int (45 : Int32)), (.int (45 : Int32)), (.int (104 : Int32)), (.int (101 : Int32)), (.int (108 : Int32)), (.int (112 : Int32))] (.int (0 : Int32))) :
    MetFree l (⟨"java/lang/String", "equals", "(Ljava/lang/Object;)Z"⟩ : MethodName) (head1 (Jvm.Cond.code (⟨"java/lang/String", "equals", "(Ljava/lang/Object;)Z"⟩ : MethodName) jdk_42_method_66_code 3 (some .boolean) :: ws) ({ frames := 1, cells := 0, slots := 0, locals := 14 } : Room)) (fun a U => a = #[(.ref a1), (.ref a2)] ∧ Z.Warmed39 U.vm ∧ U.heap = h0) (fun _ _ _ _ _ => True) (fun _ U o U' => ∃ v L, o = .returned v ∧ Q_eq3_6 Z a1 a2 b1 b2 cs x0 x1 x2 h0 n0 v U'.heap L ∧ FrameEnd U o U' L ({ frames := 1, cells := 0, slots := 0, locals := 14 } : Room).cells ({ frames := 1, cells := 0, slots := 0, locals := 14 } : Room).slots) := by
  refine MetFree.of_bodySF (plainFor_of_name own_pn_java_lang_String) hisR ?_
  intro p e s m args below meth c s₁ Bd hml0 hP hK
  obtain ⟨rfl, hZ, hh⟩ := hP
  have hx := Bd.exec
  have hby := Bd.bytes
  have hml : c.maxLocals = 3 := hml0
  have hown : s.vm.findClass "java/lang/String" = some m.cls := findClass_of_methodNamed Bd.named
  have hnm := (name_of_methodNamed Bd.named Bd.method).1
  have hlk := Bd.notSynchronized
  obtain ⟨lc, hlc⟩ : ∃ lc : List Loc, lc = [] := ⟨_, rfl⟩
  have X : Stand p l e ({ frames := 1, cells := 0, slots := 0, locals := 14 } : Room) s m #[(.ref a1), (.ref a2)] below meth c s₁ lc 0 0 := hlc ▸ Stand.of_body Bd
  have eT : s₁.heap = h0 := by rw [← hh, Bd.state]; rfl
  have N : Fr n0 lc := hlc ▸ Fr.nil n0
  refine own_enter (ef_eq3_6 m a1 a2) ?_
  obtain ⟨T, hT⟩ : ∃ T : State, T = s₁ := ⟨_, rfl⟩
  rw [← hT] at X eT ⊢
  show own_W p e below (own_Post s (Q_eq3_6 Z a1 a2 b1 b2 cs x0 x1 x2 h0 n0) 0 0) T m 0 #[.val (.ref a1), .val (.ref a2), .unset] []
  have hd12 : ¬ a1 = a2 := fun q => by
    subst q
    have q2 := Value.ref.inj (own_fld_at V_1 V_2)
    subst q2
    exact arv_ne A_1 A_2 (Or.inl (by decide)) rfl
  refine own_aloadN X hx (hb hby own_d_jdk_42_method_66_code_0) (pc' := 1) rfl rfl rfl ?_
  refine own_aloadN X hx (hb hby own_d_jdk_42_method_66_code_1) (pc' := 2) rfl rfl rfl ?_
  refine own_acmpY X hx (hb hby own_d_jdk_42_method_66_code_2) (by decide) (pc' := 7) rfl rfl rfl (XT.aa_ne_t fun q => hd12 (Value.ref.inj q)) ?_
  refine own_aloadN X hx (hb hby own_d_jdk_42_method_66_code_7) (pc' := 8) rfl rfl rfl ?_
  refine own_inst X hx hZ hown (own_w hw 46 rfl) eT E_2 (hb hby own_d_jdk_42_method_66_code_8) (pc' := 11) rfl ?_
  intro T X eT
  refine own_ifN X hx (hb hby own_d_jdk_42_method_66_code_11) (pc' := 14) rfl (show ¬ ((1 : Int32) = (0 : Int32)) from (by decide)) ?_
  refine own_aloadN X hx (hb hby own_d_jdk_42_method_66_code_14) (pc' := 15) rfl rfl rfl ?_
  refine own_cast X hx hZ hown (own_w hw 46 rfl) eT E_2 (hb hby own_d_jdk_42_method_66_code_15) (pc' := 18) rfl ?_
  intro T X eT
  refine own_astoreN X hx (hb hby own_d_jdk_42_method_66_code_18) (pc' := 19) rfl rfl (Ls' := #[.val (.ref a1), .val (.ref a2), .val (.ref a2)]) rfl ?_
  refine own_getS X hx hZ hown (host := "") (Or.inl (own_w hw 47 rfl)) Via.refl eT S_C (hb hby own_d_jdk_42_method_66_code_19) (pc' := 22) rfl ?_
  intro T X eT
  refine own_ifN X hx (hb hby own_d_jdk_42_method_66_code_22) (pc' := 25) rfl (show ¬ (cs = (0 : Int32)) from hcs) ?_
  refine own_aloadN X hx (hb hby own_d_jdk_42_method_66_code_25) (pc' := 26) rfl rfl rfl ?_
  refine own_getF X hx hZ hown (host := "") (Or.inl (own_w hw 35 rfl)) Via.refl eT C_1 (hb hby own_d_jdk_42_method_66_code_26) (pc' := 29) rfl ?_
  intro T X eT
  refine own_aloadN X hx (hb hby own_d_jdk_42_method_66_code_29) (pc' := 30) rfl rfl rfl ?_
  refine own_getF X hx hZ hown (host := "") (Or.inl (own_w hw 35 rfl)) Via.refl eT C_2 (hb hby own_d_jdk_42_method_66_code_30) (pc' := 33) rfl ?_
  intro T X eT
  refine own_icmpN X hx (hb hby own_d_jdk_42_method_66_code_33) (pc' := 36) rfl (show (0 : Int32) = (0 : Int32) from (by decide)) ?_
  refine own_aloadN X hx (hb hby own_d_jdk_42_method_66_code_36) (pc' := 37) rfl rfl rfl ?_
  refine own_getF X hx hZ hown (host := "") (Or.inl (own_w hw 34 rfl)) Via.refl eT V_1 (hb hby own_d_jdk_42_method_66_code_37) (pc' := 40) rfl ?_
  intro T X eT
  refine own_aloadN X hx (hb hby own_d_jdk_42_method_66_code_40) (pc' := 41) rfl rfl rfl ?_
  refine own_getF X hx hZ hown (host := "") (Or.inl (own_w hw 34 rfl)) Via.refl eT V_2 (hb hby own_d_jdk_42_method_66_code_41) (pc' := 44) rfl ?_
  intro T X eT
  refine own_callS X hx hZ [(.ref b1), (.ref b2)] hown (own_w hw 48 rfl) (own_w hw 49 rfl) (own_w hw 50 rfl) (own_w hw 51 rfl) (by decide) (rm_lq3_6 l Z a0 hw [] b1 b2 x0 x1 x2 h0 n0 Z0 _ _ A_1 A_2) eT (W := 0) (by decide) (by decide) (cells' := 0) (slots' := 0) rfl rfl (by decide) (by decide) (by rw [hml]; rfl) (lenOf own_pd_285bB5bB29Z rfl) rfl (S := []) rfl (Nat.le_of_eq rfl) (hb hby own_d_jdk_42_method_66_code_44) (pc' := 47) rfl ?_
  intro v T h1 L lc X eT hq fN
  obtain ⟨rfl, Nq, hqe⟩ := hq
  have N := fN _ N Nq
  rw [hqe] at eT
  show own_W p e below (own_Post s (Q_eq3_6 Z a1 a2 b1 b2 cs x0 x1 x2 h0 n0) 0 0) T m 47 #[.val (.ref a1), .val (.ref a2), .val (.ref a2)] [(.int (0 : Int32))]
  refine own_ifY X hx (hb hby own_d_jdk_42_method_66_code_47) (by decide) (pc' := 54) rfl (show (0 : Int32) = (0 : Int32) from (by decide)) ?_
  refine own_iconst X hx (0 : Int32) (hb hby own_d_jdk_42_method_66_code_54) (pc' := 55) rfl rfl ?_
  refine own_retI X hx hlk (t := .boolean) (w' := (.int (0 : Int32))) Bd.returns (hb hby own_d_jdk_42_method_66_code_55) rfl rfl (by simp) (by decide) (by decide) ?_
  rw [eT]
  exact ⟨rfl, N, rfl⟩
theorem ef_lq4_6 (m : MethodId) (x0 : Addr) (x1 : Addr) : entryFrame m #[(.ref x0), (.ref x1)] 3 = mkF m 0 #[.val (.ref x0), .val (.ref x1), .unset] [] := by first | (simp [entryFrame, mkF, argsToLocals, Value.category]; done) | rfl
def Q_lq4_6 (Z : State) (b1 b2 : Addr) (x0 x1 x2 x3 : Int32) (h0 : Heap) (n0 : Nat) (v : Option Value) (h : Heap) (L : List Loc) : Prop := v = some (.int (0 : Int32)) ∧ Fr n0 L ∧ h = h0
set_option maxRecDepth 65536 in
set_option maxHeartbeats 40000000 in
theorem rm_lq4_6 (l : Launch) (Z : State) (a0 : Array Value) (hw : ∀ d ∈ tables_1, d.before a0 Z = true) (ws : List Jvm.Cond) (b1 b2 : Addr) (x0 x1 x2 x3 : Int32) (h0 : Heap) (n0 : Nat) (Z0 : n0 ≤ h0.size) (k1 k2 : ClassId) (A_1 : Arv Z h0 b1 k1 .byte (4 : Int32) [(.int x0), (.int x1), (.int x2), (.int x3)] (.int (0 : Int32))) (A_2 : Arv Z h0 b2 k2 .byte (6 : Int32) [(.int (45 : Int32)), (.int (45 : Int32)), (.int (104 : Int32)), (.int (101 : Int32)), (.int (108 : Int32)), (.int (112 : Int32))] (.int (0 : Int32))) :
    MetFree l (⟨"java/lang/StringLatin1", "equals", "([B[B)Z"⟩ : MethodName) (head1 (Jvm.Cond.code (⟨"java/lang/StringLatin1", "equals", "([B[B)Z"⟩ : MethodName) jdk_43_method_13_code 3 (some .boolean) :: ws) ({ frames := 0, cells := 0, slots := 0, locals := 0 } : Room)) (fun a U => a = #[(.ref b1), (.ref b2)] ∧ Z.Warmed39 U.vm ∧ U.heap = h0) (fun _ _ _ _ _ => True) (fun _ U o U' => ∃ v L, o = .returned v ∧ Q_lq4_6 Z b1 b2 x0 x1 x2 x3 h0 n0 v U'.heap L ∧ FrameEnd U o U' L ({ frames := 0, cells := 0, slots := 0, locals := 0 } : Room).cells ({ frames := 0, cells := 0, slots := 0, locals := 0 } : Room).slots) := by
  refine MetFree.of_bodySF (plainFor_of_name own_pn_java_lang_StringLatin1) hisR ?_
  intro p e s m args below meth c s₁ Bd hml0 hP hK
  obtain ⟨rfl, hZ, hh⟩ := hP
  have hx := Bd.exec
  have hby := Bd.bytes
  have hml : c.maxLocals = 3 := hml0
  have hown : s.vm.findClass "java/lang/StringLatin1" = some m.cls := findClass_of_methodNamed Bd.named
  have hnm := (name_of_methodNamed Bd.named Bd.method).1
  have hlk := Bd.notSynchronized
  obtain ⟨lc, hlc⟩ : ∃ lc : List Loc, lc = [] := ⟨_, rfl⟩
  have X : Stand p l e ({ frames := 0, cells := 0, slots := 0, locals := 0 } : Room) s m #[(.ref b1), (.ref b2)] below meth c s₁ lc 0 0 := hlc ▸ Stand.of_body Bd
  have eT : s₁.heap = h0 := by rw [← hh, Bd.state]; rfl
  have N : Fr n0 lc := hlc ▸ Fr.nil n0
  refine own_enter (ef_lq4_6 m b1 b2) ?_
  obtain ⟨T, hT⟩ : ∃ T : State, T = s₁ := ⟨_, rfl⟩
  rw [← hT] at X eT ⊢
  show own_W p e below (own_Post s (Q_lq4_6 Z b1 b2 x0 x1 x2 x3 h0 n0) 0 0) T m 0 #[.val (.ref b1), .val (.ref b2), .unset] []
  refine own_aloadN X hx (hb hby own_d_jdk_43_method_13_code_0) (pc' := 1) rfl rfl rfl ?_
  refine own_arrlen X hx hZ eT A_1 (hb hby own_d_jdk_43_method_13_code_1) (pc' := 2) rfl ?_
  refine own_aloadN X hx (hb hby own_d_jdk_43_method_13_code_2) (pc' := 3) rfl rfl rfl ?_
  refine own_arrlen X hx hZ eT A_2 (hb hby own_d_jdk_43_method_13_code_3) (pc' := 4) rfl ?_
  refine own_icmpY X hx (hb hby own_d_jdk_43_method_13_code_4) (by decide) (pc' := 34) rfl (show ¬ ((4 : Int32) = (6 : Int32)) from (by decide)) ?_
  refine own_iconst X hx (0 : Int32) (hb hby own_d_jdk_43_method_13_code_34) (pc' := 35) rfl rfl ?_
  refine own_retI X hx hlk (t := .boolean) (w' := (.int (0 : Int32))) Bd.returns (hb hby own_d_jdk_43_method_13_code_35) rfl rfl (by simp) (by decide) (by decide) ?_
  rw [eT]
  exact ⟨rfl, N, rfl⟩
theorem ef_eq4_6 (m : MethodId) (x0 : Addr) (x1 : Addr) : entryFrame m #[(.ref x0), (.ref x1)] 3 = mkF m 0 #[.val (.ref x0), .val (.ref x1), .unset] [] := by first | (simp [entryFrame, mkF, argsToLocals, Value.category]; done) | rfl
def Q_eq4_6 (Z : State) (a1 a2 b1 b2 : Addr) (cs : Int32) (x0 x1 x2 x3 : Int32) (h0 : Heap) (n0 : Nat) (v : Option Value) (h : Heap) (L : List Loc) : Prop := v = some (.int (0 : Int32)) ∧ Fr n0 L ∧ h = h0
set_option maxRecDepth 65536 in
set_option maxHeartbeats 40000000 in
theorem rm_eq4_6 (l : Launch) (Z : State) (a0 : Array Value) (hw : ∀ d ∈ tables_1, d.before a0 Z = true) (ws : List Jvm.Cond) (a1 a2 b1 b2 : Addr) (cs : Int32) (x0 x1 x2 x3 : Int32) (h0 : Heap) (n0 : Nat) (Z0 : n0 ≤ h0.size) (S_C : Sta Z h0 "java/lang/String" "COMPACT_STRINGS" "Z" (.int cs)) (hcs : ¬ cs = 0) (E_1 : Exa Z h0 a1 "java/lang/String") (C_1 : Fld Z h0 a1 "java/lang/String" "coder" "B" (.int (0 : Int32))) (V_1 : Fld Z h0 a1 "java/lang/String" "value" "[B" (.ref b1)) (E_2 : Exa Z h0 a2 "java/lang/String") (C_2 : Fld Z h0 a2 "java/lang/String" "coder" "B" (.int (0 : Int32))) (V_2 : Fld Z h0 a2 "java/lang/String" "value" "[B" (.ref b2)) (k1 k2 : ClassId) (A_1 : Arv Z h0 b1 k1 .byte (4 : Int32) [(.int x0), (.int x1), (.int x2), (.int x3)] (.int (0 : Int32))) (A_2 : Arv Z h0 b2 k2 .byte (6 : Int32) [(.int (45 : Int32)), (.int (45 : Int32)), (.int (104 : Int32)), (.int (101 : Int32)), (.int (108 : Int32)), (.int (112 : Int32))] (.int (0 : Int32))) :
    MetFree l (⟨"java/lang/String", "equals", "(Ljava/lang/Object;)Z"⟩ : MethodName) (head1 (Jvm.Cond.code (⟨"java/lang/String", "equals", "(Ljava/lang/Object;)Z"⟩ : MethodName) jdk_42_method_66_code 3 (some .boolean) :: ws) ({ frames := 1, cells := 0, slots := 0, locals := 14 } : Room)) (fun a U => a = #[(.ref a1), (.ref a2)] ∧ Z.Warmed39 U.vm ∧ U.heap = h0) (fun _ _ _ _ _ => True) (fun _ U o U' => ∃ v L, o = .returned v ∧ Q_eq4_6 Z a1 a2 b1 b2 cs x0 x1 x2 x3 h0 n0 v U'.heap L ∧ FrameEnd U o U' L ({ frames := 1, cells := 0, slots := 0, locals := 14 } : Room).cells ({ frames := 1, cells := 0, slots := 0, locals := 14 } : Room).slots) := by
  refine MetFree.of_bodySF (plainFor_of_name own_pn_java_lang_String) hisR ?_
  intro p e s m args below meth c s₁ Bd hml0 hP hK
  obtain ⟨rfl, hZ, hh⟩ := hP
  have hx := Bd.exec
  have hby := Bd.bytes
  have hml : c.maxLocals = 3 := hml0
  have hown : s.vm.findClass "java/lang/String" = some m.cls := findClass_of_methodNamed Bd.named
  have hnm := (name_of_methodNamed Bd.named Bd.method).1
  have hlk := Bd.notSynchronized
  obtain ⟨lc, hlc⟩ : ∃ lc : List Loc, lc = [] := ⟨_, rfl⟩
  have X : Stand p l e ({ frames := 1, cells := 0, slots := 0, locals := 14 } : Room) s m #[(.ref a1), (.ref a2)] below meth c s₁ lc 0 0 := hlc ▸ Stand.of_body Bd
  have eT : s₁.heap = h0 := by rw [← hh, Bd.state]; rfl
  have N : Fr n0 lc := hlc ▸ Fr.nil n0
  refine own_enter (ef_eq4_6 m a1 a2) ?_
  obtain ⟨T, hT⟩ : ∃ T : State, T = s₁ := ⟨_, rfl⟩
  rw [← hT] at X eT ⊢
  show own_W p e below (own_Post s (Q_eq4_6 Z a1 a2 b1 b2 cs x0 x1 x2 x3 h0 n0) 0 0) T m 0 #[.val (.ref a1), .val (.ref a2), .unset] []
  have hd12 : ¬ a1 = a2 := fun q => by
    subst q
    have q2 := Value.ref.inj (own_fld_at V_1 V_2)
    subst q2
    exact arv_ne A_1 A_2 (Or.inl (by decide)) rfl
  refine own_aloadN X hx (hb hby own_d_jdk_42_method_66_code_0) (pc' := 1) rfl rfl rfl ?_
  refine own_aloadN X hx (hb hby own_d_jdk_42_method_66_code_1) (pc' := 2) rfl rfl rfl ?_
  refine own_acmpY X hx (hb hby own_d_jdk_42_method_66_code_2) (by decide) (pc' := 7) rfl rfl rfl (XT.aa_ne_t fun q => hd12 (Value.ref.inj q)) ?_
  refine own_aloadN X hx (hb hby own_d_jdk_42_method_66_code_7) (pc' := 8) rfl rfl rfl ?_
  refine own_inst X hx hZ hown (own_w hw 46 rfl) eT E_2 (hb hby own_d_jdk_42_method_66_code_8) (pc' := 11) rfl ?_
  intro T X eT
  refine own_ifN X hx (hb hby own_d_jdk_42_method_66_code_11) (pc' := 14) rfl (show ¬ ((1 : Int32) = (0 : Int32)) from (by decide)) ?_
  refine own_aloadN X hx (hb hby own_d_jdk_42_method_66_code_14) (pc' := 15) rfl rfl rfl ?_
  refine own_cast X hx hZ hown (own_w hw 46 rfl) eT E_2 (hb hby own_d_jdk_42_method_66_code_15) (pc' := 18) rfl ?_
  intro T X eT
  refine own_astoreN X hx (hb hby own_d_jdk_42_method_66_code_18) (pc' := 19) rfl rfl (Ls' := #[.val (.ref a1), .val (.ref a2), .val (.ref a2)]) rfl ?_
  refine own_getS X hx hZ hown (host := "") (Or.inl (own_w hw 47 rfl)) Via.refl eT S_C (hb hby own_d_jdk_42_method_66_code_19) (pc' := 22) rfl ?_
  intro T X eT
  refine own_ifN X hx (hb hby own_d_jdk_42_method_66_code_22) (pc' := 25) rfl (show ¬ (cs = (0 : Int32)) from hcs) ?_
  refine own_aloadN X hx (hb hby own_d_jdk_42_method_66_code_25) (pc' := 26) rfl rfl rfl ?_
  refine own_getF X hx hZ hown (host := "") (Or.inl (own_w hw 35 rfl)) Via.refl eT C_1 (hb hby own_d_jdk_42_method_66_code_26) (pc' := 29) rfl ?_
  intro T X eT
  refine own_aloadN X hx (hb hby own_d_jdk_42_method_66_code_29) (pc' := 30) rfl rfl rfl ?_
  refine own_getF X hx hZ hown (host := "") (Or.inl (own_w hw 35 rfl)) Via.refl eT C_2 (hb hby own_d_jdk_42_method_66_code_30) (pc' := 33) rfl ?_
  intro T X eT
  refine own_icmpN X hx (hb hby own_d_jdk_42_method_66_code_33) (pc' := 36) rfl (show (0 : Int32) = (0 : Int32) from (by decide)) ?_
  refine own_aloadN X hx (hb hby own_d_jdk_42_method_66_code_36) (pc' := 37) rfl rfl rfl ?_
  refine own_getF X hx hZ hown (host := "") (Or.inl (own_w hw 34 rfl)) Via.refl eT V_1 (hb hby own_d_jdk_42_method_66_code_37) (pc' := 40) rfl ?_
  intro T X eT
  refine own_aloadN X hx (hb hby own_d_jdk_42_method_66_code_40) (pc' := 41) rfl rfl rfl ?_
  refine own_getF X hx hZ hown (host := "") (Or.inl (own_w hw 34 rfl)) Via.refl eT V_2 (hb hby own_d_jdk_42_method_66_code_41) (pc' := 44) rfl ?_
  intro T X eT
  refine own_callS X hx hZ [(.ref b1), (.ref b2)] hown (own_w hw 48 rfl) (own_w hw 49 rfl) (own_w hw 50 rfl) (own_w hw 51 rfl) (by decide) (rm_lq4_6 l Z a0 hw [] b1 b2 x0 x1 x2 x3 h0 n0 Z0 _ _ A_1 A_2) eT (W := 0) (by decide) (by decide) (cells' := 0) (slots' := 0) rfl rfl (by decide) (by decide) (by rw [hml]; rfl) (lenOf own_pd_285bB5bB29Z rfl) rfl (S := []) rfl (Nat.le_of_eq rfl) (hb hby own_d_jdk_42_method_66_code_44) (pc' := 47) rfl ?_
  intro v T h1 L lc X eT hq fN
  obtain ⟨rfl, Nq, hqe⟩ := hq
  have N := fN _ N Nq
  rw [hqe] at eT
  show own_W p e below (own_Post s (Q_eq4_6 Z a1 a2 b1 b2 cs x0 x1 x2 x3 h0 n0) 0 0) T m 47 #[.val (.ref a1), .val (.ref a2), .val (.ref a2)] [(.int (0 : Int32))]
  refine own_ifY X hx (hb hby own_d_jdk_42_method_66_code_47) (by decide) (pc' := 54) rfl (show (0 : Int32) = (0 : Int32) from (by decide)) ?_
  refine own_iconst X hx (0 : Int32) (hb hby own_d_jdk_42_method_66_code_54) (pc' := 55) rfl rfl ?_
  refine own_retI X hx hlk (t := .boolean) (w' := (.int (0 : Int32))) Bd.returns (hb hby own_d_jdk_42_method_66_code_55) rfl rfl (by simp) (by decide) (by decide) ?_
  rw [eT]
  exact ⟨rfl, N, rfl⟩
theorem ef_lq5_6 (m : MethodId) (x0 : Addr) (x1 : Addr) : entryFrame m #[(.ref x0), (.ref x1)] 3 = mkF m 0 #[.val (.ref x0), .val (.ref x1), .unset] [] := by first | (simp [entryFrame, mkF, argsToLocals, Value.category]; done) | rfl
def Q_lq5_6 (Z : State) (b1 b2 : Addr) (x0 x1 x2 x3 x4 : Int32) (h0 : Heap) (n0 : Nat) (v : Option Value) (h : Heap) (L : List Loc) : Prop := v = some (.int (0 : Int32)) ∧ Fr n0 L ∧ h = h0
set_option maxRecDepth 65536 in
set_option maxHeartbeats 40000000 in
theorem rm_lq5_6 (l : Launch) (Z : State) (a0 : Array Value) (hw : ∀ d ∈ tables_1, d.before a0 Z = true) (ws : List Jvm.Cond) (b1 b2 : Addr) (x0 x1 x2 x3 x4 : Int32) (h0 : Heap) (n0 : Nat) (Z0 : n0 ≤ h0.size) (k1 k2 : ClassId) (A_1 : Arv Z h0 b1 k1 .byte (5 : Int32) [(.int x0), (.int x1), (.int x2), (.int x3), (.int x4)] (.int (0 : Int32))) (A_2 : Arv Z h0 b2 k2 .byte (6 : Int32) [(.int (45 : Int32)), (.int (45 : Int32)), (.int (104 : Int32)), (.int (101 : Int32)), (.int (108 : Int32)), (.int (112 : Int32))] (.int (0 : Int32))) :
    MetFree l (⟨"java/lang/StringLatin1", "equals", "([B[B)Z"⟩ : MethodName) (head1 (Jvm.Cond.code (⟨"java/lang/StringLatin1", "equals", "([B[B)Z"⟩ : MethodName) jdk_43_method_13_code 3 (some .boolean) :: ws) ({ frames := 0, cells := 0, slots := 0, locals := 0 } : Room)) (fun a U => a = #[(.ref b1), (.ref b2)] ∧ Z.Warmed39 U.vm ∧ U.heap = h0) (fun _ _ _ _ _ => True) (fun _ U o U' => ∃ v L, o = .returned v ∧ Q_lq5_6 Z b1 b2 x0 x1 x2 x3 x4 h0 n0 v U'.heap L ∧ FrameEnd U o U' L ({ frames := 0, cells := 0, slots := 0, locals := 0 } : Room).cells ({ frames := 0, cells := 0, slots := 0, locals := 0 } : Room).slots) := by
  refine MetFree.of_bodySF (plainFor_of_name own_pn_java_lang_StringLatin1) hisR ?_
  intro p e s m args below meth c s₁ Bd hml0 hP hK
  obtain ⟨rfl, hZ, hh⟩ := hP
  have hx := Bd.exec
  have hby := Bd.bytes
  have hml : c.maxLocals = 3 := hml0
  have hown : s.vm.findClass "java/lang/StringLatin1" = some m.cls := findClass_of_methodNamed Bd.named
  have hnm := (name_of_methodNamed Bd.named Bd.method).1
  have hlk := Bd.notSynchronized
  obtain ⟨lc, hlc⟩ : ∃ lc : List Loc, lc = [] := ⟨_, rfl⟩
  have X : Stand p l e ({ frames := 0, cells := 0, slots := 0, locals := 0 } : Room) s m #[(.ref b1), (.ref b2)] below meth c s₁ lc 0 0 := hlc ▸ Stand.of_body Bd
  have eT : s₁.heap = h0 := by rw [← hh, Bd.state]; rfl
  have N : Fr n0 lc := hlc ▸ Fr.nil n0
  refine own_enter (ef_lq5_6 m b1 b2) ?_
  obtain ⟨T, hT⟩ : ∃ T : State, T = s₁ := ⟨_, rfl⟩
  rw [← hT] at X eT ⊢
  show own_W p e below (own_Post s (Q_lq5_6 Z b1 b2 x0 x1 x2 x3 x4 h0 n0) 0 0) T m 0 #[.val (.ref b1), .val (.ref b2), .unset] []
  refine own_aloadN X hx (hb hby own_d_jdk_43_method_13_code_0) (pc' := 1) rfl rfl rfl ?_
  refine own_arrlen X hx hZ eT A_1 (hb hby own_d_jdk_43_method_13_code_1) (pc' := 2) rfl ?_
  refine own_aloadN X hx (hb hby own_d_jdk_43_method_13_code_2) (pc' := 3) rfl rfl rfl ?_
  refine own_arrlen X hx hZ eT A_2 (hb hby own_d_jdk_43_method_13_code_3) (pc' := 4) rfl ?_
  refine own_icmpY X hx (hb hby own_d_jdk_43_method_13_code_4) (by decide) (pc' := 34) rfl (show ¬ ((5 : Int32) = (6 : Int32)) from (by decide)) ?_
  refine own_iconst X hx (0 : Int32) (hb hby own_d_jdk_43_method_13_code_34) (pc' := 35) rfl rfl ?_
  refine own_retI X hx hlk (t := .boolean) (w' := (.int (0 : Int32))) Bd.returns (hb hby own_d_jdk_43_method_13_code_35) rfl rfl (by simp) (by decide) (by decide) ?_
  rw [eT]
  exact ⟨rfl, N, rfl⟩
theorem ef_eq5_6 (m : MethodId) (x0 : Addr) (x1 : Addr) : entryFrame m #[(.ref x0), (.ref x1)] 3 = mkF m 0 #[.val (.ref x0), .val (.ref x1), .unset] [] := by first | (simp [entryFrame, mkF, argsToLocals, Value.category]; done) | rfl
def Q_eq5_6 (Z : State) (a1 a2 b1 b2 : Addr) (cs : Int32) (x0 x1 x2 x3 x4 : Int32) (h0 : Heap) (n0 : Nat) (v : Option Value) (h : Heap) (L : List Loc) : Prop := v = some (.int (0 : Int32)) ∧ Fr n0 L ∧ h = h0
set_option maxRecDepth 65536 in
set_option maxHeartbeats 40000000 in
theorem rm_eq5_6 (l : Launch) (Z : State) (a0 : Array Value) (hw : ∀ d ∈ tables_1, d.before a0 Z = true) (ws : List Jvm.Cond) (a1 a2 b1 b2 : Addr) (cs : Int32) (x0 x1 x2 x3 x4 : Int32) (h0 : Heap) (n0 : Nat) (Z0 : n0 ≤ h0.size) (S_C : Sta Z h0 "java/lang/String" "COMPACT_STRINGS" "Z" (.int cs)) (hcs : ¬ cs = 0) (E_1 : Exa Z h0 a1 "java/lang/String") (C_1 : Fld Z h0 a1 "java/lang/String" "coder" "B" (.int (0 : Int32))) (V_1 : Fld Z h0 a1 "java/lang/String" "value" "[B" (.ref b1)) (E_2 : Exa Z h0 a2 "java/lang/String") (C_2 : Fld Z h0 a2 "java/lang/String" "coder" "B" (.int (0 : Int32))) (V_2 : Fld Z h0 a2 "java/lang/String" "value" "[B" (.ref b2)) (k1 k2 : ClassId) (A_1 : Arv Z h0 b1 k1 .byte (5 : Int32) [(.int x0), (.int x1), (.int x2), (.int x3), (.int x4)] (.int (0 : Int32))) (A_2 : Arv Z h0 b2 k2 .byte (6 : Int32) [(.int (45 : Int32)), (.int (45 : Int32)), (.int (104 : Int32)), (.int (101 : Int32)), (.int (108 : Int32)), (.int (112 : Int32))] (.int (0 : Int32))) :
    MetFree l (⟨"java/lang/String", "equals", "(Ljava/lang/Object;)Z"⟩ : MethodName) (head1 (Jvm.Cond.code (⟨"java/lang/String", "equals", "(Ljava/lang/Object;)Z"⟩ : MethodName) jdk_42_method_66_code 3 (some .boolean) :: ws) ({ frames := 1, cells := 0, slots := 0, locals := 14 } : Room)) (fun a U => a = #[(.ref a1), (.ref a2)] ∧ Z.Warmed39 U.vm ∧ U.heap = h0) (fun _ _ _ _ _ => True) (fun _ U o U' => ∃ v L, o = .returned v ∧ Q_eq5_6 Z a1 a2 b1 b2 cs x0 x1 x2 x3 x4 h0 n0 v U'.heap L ∧ FrameEnd U o U' L ({ frames := 1, cells := 0, slots := 0, locals := 14 } : Room).cells ({ frames := 1, cells := 0, slots := 0, locals := 14 } : Room).slots) := by
  refine MetFree.of_bodySF (plainFor_of_name own_pn_java_lang_String) hisR ?_
  intro p e s m args below meth c s₁ Bd hml0 hP hK
  obtain ⟨rfl, hZ, hh⟩ := hP
  have hx := Bd.exec
  have hby := Bd.bytes
  have hml : c.maxLocals = 3 := hml0
  have hown : s.vm.findClass "java/lang/String" = some m.cls := findClass_of_methodNamed Bd.named
  have hnm := (name_of_methodNamed Bd.named Bd.method).1
  have hlk := Bd.notSynchronized
  obtain ⟨lc, hlc⟩ : ∃ lc : List Loc, lc = [] := ⟨_, rfl⟩
  have X : Stand p l e ({ frames := 1, cells := 0, slots := 0, locals := 14 } : Room) s m #[(.ref a1), (.ref a2)] below meth c s₁ lc 0 0 := hlc ▸ Stand.of_body Bd
  have eT : s₁.heap = h0 := by rw [← hh, Bd.state]; rfl
  have N : Fr n0 lc := hlc ▸ Fr.nil n0
  refine own_enter (ef_eq5_6 m a1 a2) ?_
  obtain ⟨T, hT⟩ : ∃ T : State, T = s₁ := ⟨_, rfl⟩
  rw [← hT] at X eT ⊢
  show own_W p e below (own_Post s (Q_eq5_6 Z a1 a2 b1 b2 cs x0 x1 x2 x3 x4 h0 n0) 0 0) T m 0 #[.val (.ref a1), .val (.ref a2), .unset] []
  have hd12 : ¬ a1 = a2 := fun q => by
    subst q
    have q2 := Value.ref.inj (own_fld_at V_1 V_2)
    subst q2
    exact arv_ne A_1 A_2 (Or.inl (by decide)) rfl
  refine own_aloadN X hx (hb hby own_d_jdk_42_method_66_code_0) (pc' := 1) rfl rfl rfl ?_
  refine own_aloadN X hx (hb hby own_d_jdk_42_method_66_code_1) (pc' := 2) rfl rfl rfl ?_
  refine own_acmpY X hx (hb hby own_d_jdk_42_method_66_code_2) (by decide) (pc' := 7) rfl rfl rfl (XT.aa_ne_t fun q => hd12 (Value.ref.inj q)) ?_
  refine own_aloadN X hx (hb hby own_d_jdk_42_method_66_code_7) (pc' := 8) rfl rfl rfl ?_
  refine own_inst X hx hZ hown (own_w hw 46 rfl) eT E_2 (hb hby own_d_jdk_42_method_66_code_8) (pc' := 11) rfl ?_
  intro T X eT
  refine own_ifN X hx (hb hby own_d_jdk_42_method_66_code_11) (pc' := 14) rfl (show ¬ ((1 : Int32) = (0 : Int32)) from (by decide)) ?_
  refine own_aloadN X hx (hb hby own_d_jdk_42_method_66_code_14) (pc' := 15) rfl rfl rfl ?_
  refine own_cast X hx hZ hown (own_w hw 46 rfl) eT E_2 (hb hby own_d_jdk_42_method_66_code_15) (pc' := 18) rfl ?_
  intro T X eT
  refine own_astoreN X hx (hb hby own_d_jdk_42_method_66_code_18) (pc' := 19) rfl rfl (Ls' := #[.val (.ref a1), .val (.ref a2), .val (.ref a2)]) rfl ?_
  refine own_getS X hx hZ hown (host := "") (Or.inl (own_w hw 47 rfl)) Via.refl eT S_C (hb hby own_d_jdk_42_method_66_code_19) (pc' := 22) rfl ?_
  intro T X eT
  refine own_ifN X hx (hb hby own_d_jdk_42_method_66_code_22) (pc' := 25) rfl (show ¬ (cs = (0 : Int32)) from hcs) ?_
  refine own_aloadN X hx (hb hby own_d_jdk_42_method_66_code_25) (pc' := 26) rfl rfl rfl ?_
  refine own_getF X hx hZ hown (host := "") (Or.inl (own_w hw 35 rfl)) Via.refl eT C_1 (hb hby own_d_jdk_42_method_66_code_26) (pc' := 29) rfl ?_
  intro T X eT
  refine own_aloadN X hx (hb hby own_d_jdk_42_method_66_code_29) (pc' := 30) rfl rfl rfl ?_
  refine own_getF X hx hZ hown (host := "") (Or.inl (own_w hw 35 rfl)) Via.refl eT C_2 (hb hby own_d_jdk_42_method_66_code_30) (pc' := 33) rfl ?_
  intro T X eT
  refine own_icmpN X hx (hb hby own_d_jdk_42_method_66_code_33) (pc' := 36) rfl (show (0 : Int32) = (0 : Int32) from (by decide)) ?_
  refine own_aloadN X hx (hb hby own_d_jdk_42_method_66_code_36) (pc' := 37) rfl rfl rfl ?_
  refine own_getF X hx hZ hown (host := "") (Or.inl (own_w hw 34 rfl)) Via.refl eT V_1 (hb hby own_d_jdk_42_method_66_code_37) (pc' := 40) rfl ?_
  intro T X eT
  refine own_aloadN X hx (hb hby own_d_jdk_42_method_66_code_40) (pc' := 41) rfl rfl rfl ?_
  refine own_getF X hx hZ hown (host := "") (Or.inl (own_w hw 34 rfl)) Via.refl eT V_2 (hb hby own_d_jdk_42_method_66_code_41) (pc' := 44) rfl ?_
  intro T X eT
  refine own_callS X hx hZ [(.ref b1), (.ref b2)] hown (own_w hw 48 rfl) (own_w hw 49 rfl) (own_w hw 50 rfl) (own_w hw 51 rfl) (by decide) (rm_lq5_6 l Z a0 hw [] b1 b2 x0 x1 x2 x3 x4 h0 n0 Z0 _ _ A_1 A_2) eT (W := 0) (by decide) (by decide) (cells' := 0) (slots' := 0) rfl rfl (by decide) (by decide) (by rw [hml]; rfl) (lenOf own_pd_285bB5bB29Z rfl) rfl (S := []) rfl (Nat.le_of_eq rfl) (hb hby own_d_jdk_42_method_66_code_44) (pc' := 47) rfl ?_
  intro v T h1 L lc X eT hq fN
  obtain ⟨rfl, Nq, hqe⟩ := hq
  have N := fN _ N Nq
  rw [hqe] at eT
  show own_W p e below (own_Post s (Q_eq5_6 Z a1 a2 b1 b2 cs x0 x1 x2 x3 x4 h0 n0) 0 0) T m 47 #[.val (.ref a1), .val (.ref a2), .val (.ref a2)] [(.int (0 : Int32))]
  refine own_ifY X hx (hb hby own_d_jdk_42_method_66_code_47) (by decide) (pc' := 54) rfl (show (0 : Int32) = (0 : Int32) from (by decide)) ?_
  refine own_iconst X hx (0 : Int32) (hb hby own_d_jdk_42_method_66_code_54) (pc' := 55) rfl rfl ?_
  refine own_retI X hx hlk (t := .boolean) (w' := (.int (0 : Int32))) Bd.returns (hb hby own_d_jdk_42_method_66_code_55) rfl rfl (by simp) (by decide) (by decide) ?_
  rw [eT]
  exact ⟨rfl, N, rfl⟩
theorem own_d_jdk_43_method_13_code_7 : decode jdk_43_method_13_code 7 = .ok (.iconst 0, 1) := by decide +kernel
theorem own_d_jdk_43_method_13_code_8 : decode jdk_43_method_13_code 8 = .ok (.istore_n 2, 1) := by decide +kernel
theorem own_d_jdk_43_method_13_code_9 : decode jdk_43_method_13_code 9 = .ok (.iload_n 2, 1) := by decide +kernel
theorem own_d_jdk_43_method_13_code_10 : decode jdk_43_method_13_code 10 = .ok (.aload_n 0, 1) := by decide +kernel
theorem own_d_jdk_43_method_13_code_11 : decode jdk_43_method_13_code 11 = .ok (.arraylength, 1) := by decide +kernel
theorem own_d_jdk_43_method_13_code_12 : decode jdk_43_method_13_code 12 = .ok (.if_icmp .ge 20, 3) := by decide +kernel
theorem own_d_jdk_43_method_13_code_15 : decode jdk_43_method_13_code 15 = .ok (.aload_n 0, 1) := by decide +kernel
theorem own_d_jdk_43_method_13_code_16 : decode jdk_43_method_13_code 16 = .ok (.iload_n 2, 1) := by decide +kernel
theorem own_d_jdk_43_method_13_code_17 : decode jdk_43_method_13_code 17 = .ok (.baload, 1) := by decide +kernel
theorem own_d_jdk_43_method_13_code_18 : decode jdk_43_method_13_code 18 = .ok (.aload_n 1, 1) := by decide +kernel
theorem own_d_jdk_43_method_13_code_19 : decode jdk_43_method_13_code 19 = .ok (.iload_n 2, 1) := by decide +kernel
theorem own_d_jdk_43_method_13_code_20 : decode jdk_43_method_13_code 20 = .ok (.baload, 1) := by decide +kernel
theorem own_d_jdk_43_method_13_code_21 : decode jdk_43_method_13_code 21 = .ok (.if_icmp .eq 5, 3) := by decide +kernel
theorem own_d_jdk_43_method_13_code_26 : decode jdk_43_method_13_code 26 = .ok (.iinc 2 1, 3) := by decide +kernel
theorem own_d_jdk_43_method_13_code_29 : decode jdk_43_method_13_code 29 = .ok (.goto (-20), 3) := by decide +kernel
theorem own_d_jdk_43_method_13_code_32 : decode jdk_43_method_13_code 32 = .ok (.iconst 1, 1) := by decide +kernel
theorem own_d_jdk_43_method_13_code_33 : decode jdk_43_method_13_code 33 = .ok (.ireturn, 1) := by decide +kernel
theorem own_d_jdk_43_method_13_code_24 : decode jdk_43_method_13_code 24 = .ok (.iconst 0, 1) := by decide +kernel
theorem own_d_jdk_43_method_13_code_25 : decode jdk_43_method_13_code 25 = .ok (.ireturn, 1) := by decide +kernel
theorem ef_lq6_6 (m : MethodId) (x0 : Addr) (x1 : Addr) : entryFrame m #[(.ref x0), (.ref x1)] 3 = mkF m 0 #[.val (.ref x0), .val (.ref x1), .unset] [] := by first | (simp [entryFrame, mkF, argsToLocals, Value.category]; done) | rfl
def Q_lq6_6 (Z : State) (b1 b2 : Addr) (x0 x1 x2 x3 x4 x5 : Int32) (h0 : Heap) (n0 : Nat) (v : Option Value) (h : Heap) (L : List Loc) : Prop := v = some (.int (own_eqv [x0, x1, x2, x3, x4, x5] [(45 : Int32), (45 : Int32), (104 : Int32), (101 : Int32), (108 : Int32), (112 : Int32)])) ∧ Fr n0 L ∧ h = h0
set_option maxRecDepth 65536 in
set_option maxHeartbeats 40000000 in
theorem rm_lq6_6 (l : Launch) (Z : State) (a0 : Array Value) (hw : ∀ d ∈ tables_1, d.before a0 Z = true) (ws : List Jvm.Cond) (b1 b2 : Addr) (x0 x1 x2 x3 x4 x5 : Int32) (h0 : Heap) (n0 : Nat) (Z0 : n0 ≤ h0.size) (k1 k2 : ClassId) (A_1 : Arv Z h0 b1 k1 .byte (6 : Int32) [(.int x0), (.int x1), (.int x2), (.int x3), (.int x4), (.int x5)] (.int (0 : Int32))) (A_2 : Arv Z h0 b2 k2 .byte (6 : Int32) [(.int (45 : Int32)), (.int (45 : Int32)), (.int (104 : Int32)), (.int (101 : Int32)), (.int (108 : Int32)), (.int (112 : Int32))] (.int (0 : Int32))) :
    MetFree l (⟨"java/lang/StringLatin1", "equals", "([B[B)Z"⟩ : MethodName) (head1 (Jvm.Cond.code (⟨"java/lang/StringLatin1", "equals", "([B[B)Z"⟩ : MethodName) jdk_43_method_13_code 3 (some .boolean) :: ws) ({ frames := 0, cells := 0, slots := 0, locals := 0 } : Room)) (fun a U => a = #[(.ref b1), (.ref b2)] ∧ Z.Warmed39 U.vm ∧ U.heap = h0) (fun _ _ _ _ _ => True) (fun _ U o U' => ∃ v L, o = .returned v ∧ Q_lq6_6 Z b1 b2 x0 x1 x2 x3 x4 x5 h0 n0 v U'.heap L ∧ FrameEnd U o U' L ({ frames := 0, cells := 0, slots := 0, locals := 0 } : Room).cells ({ frames := 0, cells := 0, slots := 0, locals := 0 } : Room).slots) := by
  refine MetFree.of_bodySF (plainFor_of_name own_pn_java_lang_StringLatin1) hisR ?_
  intro p e s m args below meth c s₁ Bd hml0 hP hK
  obtain ⟨rfl, hZ, hh⟩ := hP
  have hx := Bd.exec
  have hby := Bd.bytes
  have hml : c.maxLocals = 3 := hml0
  have hown : s.vm.findClass "java/lang/StringLatin1" = some m.cls := findClass_of_methodNamed Bd.named
  have hnm := (name_of_methodNamed Bd.named Bd.method).1
  have hlk := Bd.notSynchronized
  obtain ⟨lc, hlc⟩ : ∃ lc : List Loc, lc = [] := ⟨_, rfl⟩
  have X : Stand p l e ({ frames := 0, cells := 0, slots := 0, locals := 0 } : Room) s m #[(.ref b1), (.ref b2)] below meth c s₁ lc 0 0 := hlc ▸ Stand.of_body Bd
  have eT : s₁.heap = h0 := by rw [← hh, Bd.state]; rfl
  have N : Fr n0 lc := hlc ▸ Fr.nil n0
  refine own_enter (ef_lq6_6 m b1 b2) ?_
  obtain ⟨T, hT⟩ : ∃ T : State, T = s₁ := ⟨_, rfl⟩
  rw [← hT] at X eT ⊢
  show own_W p e below (own_Post s (Q_lq6_6 Z b1 b2 x0 x1 x2 x3 x4 x5 h0 n0) 0 0) T m 0 #[.val (.ref b1), .val (.ref b2), .unset] []
  refine own_aloadN X hx (hb hby own_d_jdk_43_method_13_code_0) (pc' := 1) rfl rfl rfl ?_
  refine own_arrlen X hx hZ eT A_1 (hb hby own_d_jdk_43_method_13_code_1) (pc' := 2) rfl ?_
  refine own_aloadN X hx (hb hby own_d_jdk_43_method_13_code_2) (pc' := 3) rfl rfl rfl ?_
  refine own_arrlen X hx hZ eT A_2 (hb hby own_d_jdk_43_method_13_code_3) (pc' := 4) rfl ?_
  refine own_icmpN X hx (hb hby own_d_jdk_43_method_13_code_4) (pc' := 7) rfl (show (6 : Int32) = (6 : Int32) from (by decide)) ?_
  refine own_iconst X hx (0 : Int32) (hb hby own_d_jdk_43_method_13_code_7) (pc' := 8) rfl rfl ?_
  refine own_istoreN X hx (hb hby own_d_jdk_43_method_13_code_8) (pc' := 9) rfl (Ls' := #[.val (.ref b1), .val (.ref b2), .val (.int (0 : Int32))]) rfl ?_
  refine own_iloadN X hx (hb hby own_d_jdk_43_method_13_code_9) (pc' := 10) rfl rfl ?_
  refine own_aloadN X hx (hb hby own_d_jdk_43_method_13_code_10) (pc' := 11) rfl rfl rfl ?_
  refine own_arrlen X hx hZ eT A_1 (hb hby own_d_jdk_43_method_13_code_11) (pc' := 12) rfl ?_
  refine own_icmpN X hx (hb hby own_d_jdk_43_method_13_code_12) (pc' := 15) rfl (show (0 : Int32) < (6 : Int32) from (by decide)) ?_
  refine own_aloadN X hx (hb hby own_d_jdk_43_method_13_code_15) (pc' := 16) rfl rfl rfl ?_
  refine own_iloadN X hx (hb hby own_d_jdk_43_method_13_code_16) (pc' := 17) rfl rfl ?_
  refine own_baloadB X hx hZ eT A_1 (v := (.int x0)) (by decide) rfl (hb hby own_d_jdk_43_method_13_code_17) (pc' := 18) rfl ?_
  refine own_aloadN X hx (hb hby own_d_jdk_43_method_13_code_18) (pc' := 19) rfl rfl rfl ?_
  refine own_iloadN X hx (hb hby own_d_jdk_43_method_13_code_19) (pc' := 20) rfl rfl ?_
  refine own_baloadB X hx hZ eT A_2 (v := (.int (45 : Int32))) (by decide) rfl (hb hby own_d_jdk_43_method_13_code_20) (pc' := 21) rfl ?_
  refine own_icmp X hx (hb hby own_d_jdk_43_method_13_code_21) (by decide) (pcY := 26) (pcN := 24) rfl rfl (fun (hc21 : x0 = (45 : Int32)) => ?_) (fun (hc21 : ¬ (x0 = (45 : Int32))) => ?_)
  · refine own_iinc X hx (1 : Int32) (hb hby own_d_jdk_43_method_13_code_26) (pc' := 29) rfl rfl rfl (Ls' := #[.val (.ref b1), .val (.ref b2), .val (.int (1 : Int32))]) rfl ?_
    refine own_goto X hx (hb hby own_d_jdk_43_method_13_code_29) (by decide) (pc' := 9) rfl ?_
    refine own_iloadN X hx (hb hby own_d_jdk_43_method_13_code_9) (pc' := 10) rfl rfl ?_
    refine own_aloadN X hx (hb hby own_d_jdk_43_method_13_code_10) (pc' := 11) rfl rfl rfl ?_
    refine own_arrlen X hx hZ eT A_1 (hb hby own_d_jdk_43_method_13_code_11) (pc' := 12) rfl ?_
    refine own_icmpN X hx (hb hby own_d_jdk_43_method_13_code_12) (pc' := 15) rfl (show (1 : Int32) < (6 : Int32) from (by decide)) ?_
    refine own_aloadN X hx (hb hby own_d_jdk_43_method_13_code_15) (pc' := 16) rfl rfl rfl ?_
    refine own_iloadN X hx (hb hby own_d_jdk_43_method_13_code_16) (pc' := 17) rfl rfl ?_
    refine own_baloadB X hx hZ eT A_1 (v := (.int x1)) (by decide) rfl (hb hby own_d_jdk_43_method_13_code_17) (pc' := 18) rfl ?_
    refine own_aloadN X hx (hb hby own_d_jdk_43_method_13_code_18) (pc' := 19) rfl rfl rfl ?_
    refine own_iloadN X hx (hb hby own_d_jdk_43_method_13_code_19) (pc' := 20) rfl rfl ?_
    refine own_baloadB X hx hZ eT A_2 (v := (.int (45 : Int32))) (by decide) rfl (hb hby own_d_jdk_43_method_13_code_20) (pc' := 21) rfl ?_
    refine own_icmp X hx (hb hby own_d_jdk_43_method_13_code_21) (by decide) (pcY := 26) (pcN := 24) rfl rfl (fun (hc21_2 : x1 = (45 : Int32)) => ?_) (fun (hc21_2 : ¬ (x1 = (45 : Int32))) => ?_)
    · refine own_iinc X hx (1 : Int32) (hb hby own_d_jdk_43_method_13_code_26) (pc' := 29) rfl rfl rfl (Ls' := #[.val (.ref b1), .val (.ref b2), .val (.int (2 : Int32))]) rfl ?_
      refine own_goto X hx (hb hby own_d_jdk_43_method_13_code_29) (by decide) (pc' := 9) rfl ?_
      refine own_iloadN X hx (hb hby own_d_jdk_43_method_13_code_9) (pc' := 10) rfl rfl ?_
      refine own_aloadN X hx (hb hby own_d_jdk_43_method_13_code_10) (pc' := 11) rfl rfl rfl ?_
      refine own_arrlen X hx hZ eT A_1 (hb hby own_d_jdk_43_method_13_code_11) (pc' := 12) rfl ?_
      refine own_icmpN X hx (hb hby own_d_jdk_43_method_13_code_12) (pc' := 15) rfl (show (2 : Int32) < (6 : Int32) from (by decide)) ?_
      refine own_aloadN X hx (hb hby own_d_jdk_43_method_13_code_15) (pc' := 16) rfl rfl rfl ?_
      refine own_iloadN X hx (hb hby own_d_jdk_43_method_13_code_16) (pc' := 17) rfl rfl ?_
      refine own_baloadB X hx hZ eT A_1 (v := (.int x2)) (by decide) rfl (hb hby own_d_jdk_43_method_13_code_17) (pc' := 18) rfl ?_
      refine own_aloadN X hx (hb hby own_d_jdk_43_method_13_code_18) (pc' := 19) rfl rfl rfl ?_
      refine own_iloadN X hx (hb hby own_d_jdk_43_method_13_code_19) (pc' := 20) rfl rfl ?_
      refine own_baloadB X hx hZ eT A_2 (v := (.int (104 : Int32))) (by decide) rfl (hb hby own_d_jdk_43_method_13_code_20) (pc' := 21) rfl ?_
      refine own_icmp X hx (hb hby own_d_jdk_43_method_13_code_21) (by decide) (pcY := 26) (pcN := 24) rfl rfl (fun (hc21_3 : x2 = (104 : Int32)) => ?_) (fun (hc21_3 : ¬ (x2 = (104 : Int32))) => ?_)
      · refine own_iinc X hx (1 : Int32) (hb hby own_d_jdk_43_method_13_code_26) (pc' := 29) rfl rfl rfl (Ls' := #[.val (.ref b1), .val (.ref b2), .val (.int (3 : Int32))]) rfl ?_
        refine own_goto X hx (hb hby own_d_jdk_43_method_13_code_29) (by decide) (pc' := 9) rfl ?_
        refine own_iloadN X hx (hb hby own_d_jdk_43_method_13_code_9) (pc' := 10) rfl rfl ?_
        refine own_aloadN X hx (hb hby own_d_jdk_43_method_13_code_10) (pc' := 11) rfl rfl rfl ?_
        refine own_arrlen X hx hZ eT A_1 (hb hby own_d_jdk_43_method_13_code_11) (pc' := 12) rfl ?_
        refine own_icmpN X hx (hb hby own_d_jdk_43_method_13_code_12) (pc' := 15) rfl (show (3 : Int32) < (6 : Int32) from (by decide)) ?_
        refine own_aloadN X hx (hb hby own_d_jdk_43_method_13_code_15) (pc' := 16) rfl rfl rfl ?_
        refine own_iloadN X hx (hb hby own_d_jdk_43_method_13_code_16) (pc' := 17) rfl rfl ?_
        refine own_baloadB X hx hZ eT A_1 (v := (.int x3)) (by decide) rfl (hb hby own_d_jdk_43_method_13_code_17) (pc' := 18) rfl ?_
        refine own_aloadN X hx (hb hby own_d_jdk_43_method_13_code_18) (pc' := 19) rfl rfl rfl ?_
        refine own_iloadN X hx (hb hby own_d_jdk_43_method_13_code_19) (pc' := 20) rfl rfl ?_
        refine own_baloadB X hx hZ eT A_2 (v := (.int (101 : Int32))) (by decide) rfl (hb hby own_d_jdk_43_method_13_code_20) (pc' := 21) rfl ?_
        refine own_icmp X hx (hb hby own_d_jdk_43_method_13_code_21) (by decide) (pcY := 26) (pcN := 24) rfl rfl (fun (hc21_4 : x3 = (101 : Int32)) => ?_) (fun (hc21_4 : ¬ (x3 = (101 : Int32))) => ?_)
        · refine own_iinc X hx (1 : Int32) (hb hby own_d_jdk_43_method_13_code_26) (pc' := 29) rfl rfl rfl (Ls' := #[.val (.ref b1), .val (.ref b2), .val (.int (4 : Int32))]) rfl ?_
          refine own_goto X hx (hb hby own_d_jdk_43_method_13_code_29) (by decide) (pc' := 9) rfl ?_
          refine own_iloadN X hx (hb hby own_d_jdk_43_method_13_code_9) (pc' := 10) rfl rfl ?_
          refine own_aloadN X hx (hb hby own_d_jdk_43_method_13_code_10) (pc' := 11) rfl rfl rfl ?_
          refine own_arrlen X hx hZ eT A_1 (hb hby own_d_jdk_43_method_13_code_11) (pc' := 12) rfl ?_
          refine own_icmpN X hx (hb hby own_d_jdk_43_method_13_code_12) (pc' := 15) rfl (show (4 : Int32) < (6 : Int32) from (by decide)) ?_
          refine own_aloadN X hx (hb hby own_d_jdk_43_method_13_code_15) (pc' := 16) rfl rfl rfl ?_
          refine own_iloadN X hx (hb hby own_d_jdk_43_method_13_code_16) (pc' := 17) rfl rfl ?_
          refine own_baloadB X hx hZ eT A_1 (v := (.int x4)) (by decide) rfl (hb hby own_d_jdk_43_method_13_code_17) (pc' := 18) rfl ?_
          refine own_aloadN X hx (hb hby own_d_jdk_43_method_13_code_18) (pc' := 19) rfl rfl rfl ?_
          refine own_iloadN X hx (hb hby own_d_jdk_43_method_13_code_19) (pc' := 20) rfl rfl ?_
          refine own_baloadB X hx hZ eT A_2 (v := (.int (108 : Int32))) (by decide) rfl (hb hby own_d_jdk_43_method_13_code_20) (pc' := 21) rfl ?_
          refine own_icmp X hx (hb hby own_d_jdk_43_method_13_code_21) (by decide) (pcY := 26) (pcN := 24) rfl rfl (fun (hc21_5 : x4 = (108 : Int32)) => ?_) (fun (hc21_5 : ¬ (x4 = (108 : Int32))) => ?_)
          · refine own_iinc X hx (1 : Int32) (hb hby own_d_jdk_43_method_13_code_26) (pc' := 29) rfl rfl rfl (Ls' := #[.val (.ref b1), .val (.ref b2), .val (.int (5 : Int32))]) rfl ?_
            refine own_goto X hx (hb hby own_d_jdk_43_method_13_code_29) (by decide) (pc' := 9) rfl ?_
            refine own_iloadN X hx (hb hby own_d_jdk_43_method_13_code_9) (pc' := 10) rfl rfl ?_
            refine own_aloadN X hx (hb hby own_d_jdk_43_method_13_code_10) (pc' := 11) rfl rfl rfl ?_
            refine own_arrlen X hx hZ eT A_1 (hb hby own_d_jdk_43_method_13_code_11) (pc' := 12) rfl ?_
            refine own_icmpN X hx (hb hby own_d_jdk_43_method_13_code_12) (pc' := 15) rfl (show (5 : Int32) < (6 : Int32) from (by decide)) ?_
            refine own_aloadN X hx (hb hby own_d_jdk_43_method_13_code_15) (pc' := 16) rfl rfl rfl ?_
            refine own_iloadN X hx (hb hby own_d_jdk_43_method_13_code_16) (pc' := 17) rfl rfl ?_
            refine own_baloadB X hx hZ eT A_1 (v := (.int x5)) (by decide) rfl (hb hby own_d_jdk_43_method_13_code_17) (pc' := 18) rfl ?_
            refine own_aloadN X hx (hb hby own_d_jdk_43_method_13_code_18) (pc' := 19) rfl rfl rfl ?_
            refine own_iloadN X hx (hb hby own_d_jdk_43_method_13_code_19) (pc' := 20) rfl rfl ?_
            refine own_baloadB X hx hZ eT A_2 (v := (.int (112 : Int32))) (by decide) rfl (hb hby own_d_jdk_43_method_13_code_20) (pc' := 21) rfl ?_
            refine own_icmp X hx (hb hby own_d_jdk_43_method_13_code_21) (by decide) (pcY := 26) (pcN := 24) rfl rfl (fun (hc21_6 : x5 = (112 : Int32)) => ?_) (fun (hc21_6 : ¬ (x5 = (112 : Int32))) => ?_)
            · refine own_iinc X hx (1 : Int32) (hb hby own_d_jdk_43_method_13_code_26) (pc' := 29) rfl rfl rfl (Ls' := #[.val (.ref b1), .val (.ref b2), .val (.int (6 : Int32))]) rfl ?_
              refine own_goto X hx (hb hby own_d_jdk_43_method_13_code_29) (by decide) (pc' := 9) rfl ?_
              refine own_iloadN X hx (hb hby own_d_jdk_43_method_13_code_9) (pc' := 10) rfl rfl ?_
              refine own_aloadN X hx (hb hby own_d_jdk_43_method_13_code_10) (pc' := 11) rfl rfl rfl ?_
              refine own_arrlen X hx hZ eT A_1 (hb hby own_d_jdk_43_method_13_code_11) (pc' := 12) rfl ?_
              refine own_icmpY X hx (hb hby own_d_jdk_43_method_13_code_12) (by decide) (pc' := 32) rfl (show ¬ ((6 : Int32) < (6 : Int32)) from (by decide)) ?_
              refine own_iconst X hx (1 : Int32) (hb hby own_d_jdk_43_method_13_code_32) (pc' := 33) rfl rfl ?_
              refine own_retI X hx hlk (t := .boolean) (w' := (.int (1 : Int32))) Bd.returns (hb hby own_d_jdk_43_method_13_code_33) rfl rfl (by simp) (by decide) (by decide) ?_
              rw [eT]
              exact ⟨by simp [own_eqv, hc21, hc21_2, hc21_3, hc21_4, hc21_5, hc21_6], N, rfl⟩
            · refine own_iconst X hx (0 : Int32) (hb hby own_d_jdk_43_method_13_code_24) (pc' := 25) rfl rfl ?_
              refine own_retI X hx hlk (t := .boolean) (w' := (.int (0 : Int32))) Bd.returns (hb hby own_d_jdk_43_method_13_code_25) rfl rfl (by simp) (by decide) (by decide) ?_
              rw [eT]
              exact ⟨by simp [own_eqv, hc21, hc21_2, hc21_3, hc21_4, hc21_5, hc21_6], N, rfl⟩
          · refine own_iconst X hx (0 : Int32) (hb hby own_d_jdk_43_method_13_code_24) (pc' := 25) rfl rfl ?_
            refine own_retI X hx hlk (t := .boolean) (w' := (.int (0 : Int32))) Bd.returns (hb hby own_d_jdk_43_method_13_code_25) rfl rfl (by simp) (by decide) (by decide) ?_
            rw [eT]
            exact ⟨by simp [own_eqv, hc21, hc21_2, hc21_3, hc21_4, hc21_5], N, rfl⟩
        · refine own_iconst X hx (0 : Int32) (hb hby own_d_jdk_43_method_13_code_24) (pc' := 25) rfl rfl ?_
          refine own_retI X hx hlk (t := .boolean) (w' := (.int (0 : Int32))) Bd.returns (hb hby own_d_jdk_43_method_13_code_25) rfl rfl (by simp) (by decide) (by decide) ?_
          rw [eT]
          exact ⟨by simp [own_eqv, hc21, hc21_2, hc21_3, hc21_4], N, rfl⟩
      · refine own_iconst X hx (0 : Int32) (hb hby own_d_jdk_43_method_13_code_24) (pc' := 25) rfl rfl ?_
        refine own_retI X hx hlk (t := .boolean) (w' := (.int (0 : Int32))) Bd.returns (hb hby own_d_jdk_43_method_13_code_25) rfl rfl (by simp) (by decide) (by decide) ?_
        rw [eT]
        exact ⟨by simp [own_eqv, hc21, hc21_2, hc21_3], N, rfl⟩
    · refine own_iconst X hx (0 : Int32) (hb hby own_d_jdk_43_method_13_code_24) (pc' := 25) rfl rfl ?_
      refine own_retI X hx hlk (t := .boolean) (w' := (.int (0 : Int32))) Bd.returns (hb hby own_d_jdk_43_method_13_code_25) rfl rfl (by simp) (by decide) (by decide) ?_
      rw [eT]
      exact ⟨by simp [own_eqv, hc21, hc21_2], N, rfl⟩
  · refine own_iconst X hx (0 : Int32) (hb hby own_d_jdk_43_method_13_code_24) (pc' := 25) rfl rfl ?_
    refine own_retI X hx hlk (t := .boolean) (w' := (.int (0 : Int32))) Bd.returns (hb hby own_d_jdk_43_method_13_code_25) rfl rfl (by simp) (by decide) (by decide) ?_
    rw [eT]
    exact ⟨by simp [own_eqv, hc21], N, rfl⟩
theorem own_d_jdk_42_method_66_code_50 : decode jdk_42_method_66_code 50 = .ok (.iconst 1, 1) := by decide +kernel
theorem own_d_jdk_42_method_66_code_51 : decode jdk_42_method_66_code 51 = .ok (.goto 4, 3) := by decide +kernel
theorem own_d_jdk_42_method_66_code_5 : decode jdk_42_method_66_code 5 = .ok (.iconst 1, 1) := by decide +kernel
theorem own_d_jdk_42_method_66_code_6 : decode jdk_42_method_66_code 6 = .ok (.ireturn, 1) := by decide +kernel
theorem ef_eq6_6 (m : MethodId) (x0 : Addr) (x1 : Addr) : entryFrame m #[(.ref x0), (.ref x1)] 3 = mkF m 0 #[.val (.ref x0), .val (.ref x1), .unset] [] := by first | (simp [entryFrame, mkF, argsToLocals, Value.category]; done) | rfl
def Q_eq6_6 (Z : State) (a1 a2 b1 b2 : Addr) (cs : Int32) (x0 x1 x2 x3 x4 x5 : Int32) (h0 : Heap) (n0 : Nat) (v : Option Value) (h : Heap) (L : List Loc) : Prop := v = some (.int (own_eqv [x0, x1, x2, x3, x4, x5] [(45 : Int32), (45 : Int32), (104 : Int32), (101 : Int32), (108 : Int32), (112 : Int32)])) ∧ Fr n0 L ∧ h = h0
set_option maxRecDepth 65536 in
set_option maxHeartbeats 40000000 in
theorem rm_eq6_6 (l : Launch) (Z : State) (a0 : Array Value) (hw : ∀ d ∈ tables_1, d.before a0 Z = true) (ws : List Jvm.Cond) (a1 a2 b1 b2 : Addr) (cs : Int32) (x0 x1 x2 x3 x4 x5 : Int32) (h0 : Heap) (n0 : Nat) (Z0 : n0 ≤ h0.size) (S_C : Sta Z h0 "java/lang/String" "COMPACT_STRINGS" "Z" (.int cs)) (hcs : ¬ cs = 0) (E_1 : Exa Z h0 a1 "java/lang/String") (C_1 : Fld Z h0 a1 "java/lang/String" "coder" "B" (.int (0 : Int32))) (V_1 : Fld Z h0 a1 "java/lang/String" "value" "[B" (.ref b1)) (E_2 : Exa Z h0 a2 "java/lang/String") (C_2 : Fld Z h0 a2 "java/lang/String" "coder" "B" (.int (0 : Int32))) (V_2 : Fld Z h0 a2 "java/lang/String" "value" "[B" (.ref b2)) (k1 k2 : ClassId) (A_1 : Arv Z h0 b1 k1 .byte (6 : Int32) [(.int x0), (.int x1), (.int x2), (.int x3), (.int x4), (.int x5)] (.int (0 : Int32))) (A_2 : Arv Z h0 b2 k2 .byte (6 : Int32) [(.int (45 : Int32)), (.int (45 : Int32)), (.int (104 : Int32)), (.int (101 : Int32)), (.int (108 : Int32)), (.int (112 : Int32))] (.int (0 : Int32))) :
    MetFree l (⟨"java/lang/String", "equals", "(Ljava/lang/Object;)Z"⟩ : MethodName) (head1 (Jvm.Cond.code (⟨"java/lang/String", "equals", "(Ljava/lang/Object;)Z"⟩ : MethodName) jdk_42_method_66_code 3 (some .boolean) :: ws) ({ frames := 1, cells := 0, slots := 0, locals := 14 } : Room)) (fun a U => a = #[(.ref a1), (.ref a2)] ∧ Z.Warmed39 U.vm ∧ U.heap = h0) (fun _ _ _ _ _ => True) (fun _ U o U' => ∃ v L, o = .returned v ∧ Q_eq6_6 Z a1 a2 b1 b2 cs x0 x1 x2 x3 x4 x5 h0 n0 v U'.heap L ∧ FrameEnd U o U' L ({ frames := 1, cells := 0, slots := 0, locals := 14 } : Room).cells ({ frames := 1, cells := 0, slots := 0, locals := 14 } : Room).slots) := by
  refine MetFree.of_bodySF (plainFor_of_name own_pn_java_lang_String) hisR ?_
  intro p e s m args below meth c s₁ Bd hml0 hP hK
  obtain ⟨rfl, hZ, hh⟩ := hP
  have hx := Bd.exec
  have hby := Bd.bytes
  have hml : c.maxLocals = 3 := hml0
  have hown : s.vm.findClass "java/lang/String" = some m.cls := findClass_of_methodNamed Bd.named
  have hnm := (name_of_methodNamed Bd.named Bd.method).1
  have hlk := Bd.notSynchronized
  obtain ⟨lc, hlc⟩ : ∃ lc : List Loc, lc = [] := ⟨_, rfl⟩
  have X : Stand p l e ({ frames := 1, cells := 0, slots := 0, locals := 14 } : Room) s m #[(.ref a1), (.ref a2)] below meth c s₁ lc 0 0 := hlc ▸ Stand.of_body Bd
  have eT : s₁.heap = h0 := by rw [← hh, Bd.state]; rfl
  have N : Fr n0 lc := hlc ▸ Fr.nil n0
  refine own_enter (ef_eq6_6 m a1 a2) ?_
  obtain ⟨T, hT⟩ : ∃ T : State, T = s₁ := ⟨_, rfl⟩
  rw [← hT] at X eT ⊢
  show own_W p e below (own_Post s (Q_eq6_6 Z a1 a2 b1 b2 cs x0 x1 x2 x3 x4 x5 h0 n0) 0 0) T m 0 #[.val (.ref a1), .val (.ref a2), .unset] []
  refine own_aloadN X hx (hb hby own_d_jdk_42_method_66_code_0) (pc' := 1) rfl rfl rfl ?_
  refine own_aloadN X hx (hb hby own_d_jdk_42_method_66_code_1) (pc' := 2) rfl rfl rfl ?_
  refine own_acmpne X hx (hb hby own_d_jdk_42_method_66_code_2) (by decide) (pcY := 7) (pcN := 5) rfl rfl (fun (hc2 : ¬ (a1 = a2)) => ?_) (fun (hc2 : a1 = a2) => ?_)
  · refine own_aloadN X hx (hb hby own_d_jdk_42_method_66_code_7) (pc' := 8) rfl rfl rfl ?_
    refine own_inst X hx hZ hown (own_w hw 46 rfl) eT E_2 (hb hby own_d_jdk_42_method_66_code_8) (pc' := 11) rfl ?_
    intro T X eT
    refine own_ifN X hx (hb hby own_d_jdk_42_method_66_code_11) (pc' := 14) rfl (show ¬ ((1 : Int32) = (0 : Int32)) from (by decide)) ?_
    refine own_aloadN X hx (hb hby own_d_jdk_42_method_66_code_14) (pc' := 15) rfl rfl rfl ?_
    refine own_cast X hx hZ hown (own_w hw 46 rfl) eT E_2 (hb hby own_d_jdk_42_method_66_code_15) (pc' := 18) rfl ?_
    intro T X eT
    refine own_astoreN X hx (hb hby own_d_jdk_42_method_66_code_18) (pc' := 19) rfl rfl (Ls' := #[.val (.ref a1), .val (.ref a2), .val (.ref a2)]) rfl ?_
    refine own_getS X hx hZ hown (host := "") (Or.inl (own_w hw 47 rfl)) Via.refl eT S_C (hb hby own_d_jdk_42_method_66_code_19) (pc' := 22) rfl ?_
    intro T X eT
    refine own_ifN X hx (hb hby own_d_jdk_42_method_66_code_22) (pc' := 25) rfl (show ¬ (cs = (0 : Int32)) from hcs) ?_
    refine own_aloadN X hx (hb hby own_d_jdk_42_method_66_code_25) (pc' := 26) rfl rfl rfl ?_
    refine own_getF X hx hZ hown (host := "") (Or.inl (own_w hw 35 rfl)) Via.refl eT C_1 (hb hby own_d_jdk_42_method_66_code_26) (pc' := 29) rfl ?_
    intro T X eT
    refine own_aloadN X hx (hb hby own_d_jdk_42_method_66_code_29) (pc' := 30) rfl rfl rfl ?_
    refine own_getF X hx hZ hown (host := "") (Or.inl (own_w hw 35 rfl)) Via.refl eT C_2 (hb hby own_d_jdk_42_method_66_code_30) (pc' := 33) rfl ?_
    intro T X eT
    refine own_icmpN X hx (hb hby own_d_jdk_42_method_66_code_33) (pc' := 36) rfl (show (0 : Int32) = (0 : Int32) from (by decide)) ?_
    refine own_aloadN X hx (hb hby own_d_jdk_42_method_66_code_36) (pc' := 37) rfl rfl rfl ?_
    refine own_getF X hx hZ hown (host := "") (Or.inl (own_w hw 34 rfl)) Via.refl eT V_1 (hb hby own_d_jdk_42_method_66_code_37) (pc' := 40) rfl ?_
    intro T X eT
    refine own_aloadN X hx (hb hby own_d_jdk_42_method_66_code_40) (pc' := 41) rfl rfl rfl ?_
    refine own_getF X hx hZ hown (host := "") (Or.inl (own_w hw 34 rfl)) Via.refl eT V_2 (hb hby own_d_jdk_42_method_66_code_41) (pc' := 44) rfl ?_
    intro T X eT
    refine own_callS X hx hZ [(.ref b1), (.ref b2)] hown (own_w hw 48 rfl) (own_w hw 49 rfl) (own_w hw 50 rfl) (own_w hw 51 rfl) (by decide) (rm_lq6_6 l Z a0 hw [] b1 b2 x0 x1 x2 x3 x4 x5 h0 n0 Z0 _ _ A_1 A_2) eT (W := 0) (by decide) (by decide) (cells' := 0) (slots' := 0) rfl rfl (by decide) (by decide) (by rw [hml]; rfl) (lenOf own_pd_285bB5bB29Z rfl) rfl (S := []) rfl (Nat.le_of_eq rfl) (hb hby own_d_jdk_42_method_66_code_44) (pc' := 47) rfl ?_
    intro v T h1 L lc X eT hq fN
    obtain ⟨rfl, Nq, hqe⟩ := hq
    have N := fN _ N Nq
    rw [hqe] at eT
    show own_W p e below (own_Post s (Q_eq6_6 Z a1 a2 b1 b2 cs x0 x1 x2 x3 x4 x5 h0 n0) 0 0) T m 47 #[.val (.ref a1), .val (.ref a2), .val (.ref a2)] [(.int (own_eqv [x0, x1, x2, x3, x4, x5] [(45 : Int32), (45 : Int32), (104 : Int32), (101 : Int32), (108 : Int32), (112 : Int32)]))]
    refine own_if X hx (hb hby own_d_jdk_42_method_66_code_47) (by decide) (pcY := 54) (pcN := 50) rfl rfl (fun (hc47 : (own_eqv [x0, x1, x2, x3, x4, x5] [(45 : Int32), (45 : Int32), (104 : Int32), (101 : Int32), (108 : Int32), (112 : Int32)]) = (0 : Int32)) => ?_) (fun (hc47 : ¬ ((own_eqv [x0, x1, x2, x3, x4, x5] [(45 : Int32), (45 : Int32), (104 : Int32), (101 : Int32), (108 : Int32), (112 : Int32)]) = (0 : Int32))) => ?_)
    · refine own_iconst X hx (0 : Int32) (hb hby own_d_jdk_42_method_66_code_54) (pc' := 55) rfl rfl ?_
      refine own_retI X hx hlk (t := .boolean) (w' := (.int (0 : Int32))) Bd.returns (hb hby own_d_jdk_42_method_66_code_55) rfl rfl (by simp) (by decide) (by decide) ?_
      rw [eT]
      exact ⟨congrArg (fun z => some (Value.int z)) (own_e0 hc47), N, rfl⟩
    · refine own_iconst X hx (1 : Int32) (hb hby own_d_jdk_42_method_66_code_50) (pc' := 51) rfl rfl ?_
      refine own_goto X hx (hb hby own_d_jdk_42_method_66_code_51) (by decide) (pc' := 55) rfl ?_
      refine own_retI X hx hlk (t := .boolean) (w' := (.int (1 : Int32))) Bd.returns (hb hby own_d_jdk_42_method_66_code_55) rfl rfl (by simp) (by decide) (by decide) ?_
      rw [eT]
      exact ⟨congrArg (fun z => some (Value.int z)) (own_e1 hc47), N, rfl⟩
  · refine own_iconst X hx (1 : Int32) (hb hby own_d_jdk_42_method_66_code_5) (pc' := 6) rfl rfl ?_
    refine own_retI X hx hlk (t := .boolean) (w' := (.int (1 : Int32))) Bd.returns (hb hby own_d_jdk_42_method_66_code_6) rfl rfl (by simp) (by decide) (by decide) ?_
    rw [eT]
    subst hc2
    have q2 := Value.ref.inj (own_fld_at V_1 V_2)
    subst q2
    have y0 : x0 = (45 : Int32) := Value.int.inj (own_arv_at A_1 A_2 0 (by decide))
    have y1 : x1 = (45 : Int32) := Value.int.inj (own_arv_at A_1 A_2 1 (by decide))
    have y2 : x2 = (104 : Int32) := Value.int.inj (own_arv_at A_1 A_2 2 (by decide))
    have y3 : x3 = (101 : Int32) := Value.int.inj (own_arv_at A_1 A_2 3 (by decide))
    have y4 : x4 = (108 : Int32) := Value.int.inj (own_arv_at A_1 A_2 4 (by decide))
    have y5 : x5 = (112 : Int32) := Value.int.inj (own_arv_at A_1 A_2 5 (by decide))
    exact ⟨by simp [own_eqv, y0, y1, y2, y3, y4, y5], N, rfl⟩
theorem ef_lq7_6 (m : MethodId) (x0 : Addr) (x1 : Addr) : entryFrame m #[(.ref x0), (.ref x1)] 3 = mkF m 0 #[.val (.ref x0), .val (.ref x1), .unset] [] := by first | (simp [entryFrame, mkF, argsToLocals, Value.category]; done) | rfl
def Q_lq7_6 (Z : State) (b1 b2 : Addr) (x0 x1 x2 x3 x4 x5 x6 : Int32) (h0 : Heap) (n0 : Nat) (v : Option Value) (h : Heap) (L : List Loc) : Prop := v = some (.int (0 : Int32)) ∧ Fr n0 L ∧ h = h0
set_option maxRecDepth 65536 in
set_option maxHeartbeats 40000000 in
theorem rm_lq7_6 (l : Launch) (Z : State) (a0 : Array Value) (hw : ∀ d ∈ tables_1, d.before a0 Z = true) (ws : List Jvm.Cond) (b1 b2 : Addr) (x0 x1 x2 x3 x4 x5 x6 : Int32) (h0 : Heap) (n0 : Nat) (Z0 : n0 ≤ h0.size) (k1 k2 : ClassId) (A_1 : Arv Z h0 b1 k1 .byte (7 : Int32) [(.int x0), (.int x1), (.int x2), (.int x3), (.int x4), (.int x5), (.int x6)] (.int (0 : Int32))) (A_2 : Arv Z h0 b2 k2 .byte (6 : Int32) [(.int (45 : Int32)), (.int (45 : Int32)), (.int (104 : Int32)), (.int (101 : Int32)), (.int (108 : Int32)), (.int (112 : Int32))] (.int (0 : Int32))) :
    MetFree l (⟨"java/lang/StringLatin1", "equals", "([B[B)Z"⟩ : MethodName) (head1 (Jvm.Cond.code (⟨"java/lang/StringLatin1", "equals", "([B[B)Z"⟩ : MethodName) jdk_43_method_13_code 3 (some .boolean) :: ws) ({ frames := 0, cells := 0, slots := 0, locals := 0 } : Room)) (fun a U => a = #[(.ref b1), (.ref b2)] ∧ Z.Warmed39 U.vm ∧ U.heap = h0) (fun _ _ _ _ _ => True) (fun _ U o U' => ∃ v L, o = .returned v ∧ Q_lq7_6 Z b1 b2 x0 x1 x2 x3 x4 x5 x6 h0 n0 v U'.heap L ∧ FrameEnd U o U' L ({ frames := 0, cells := 0, slots := 0, locals := 0 } : Room).cells ({ frames := 0, cells := 0, slots := 0, locals := 0 } : Room).slots) := by
  refine MetFree.of_bodySF (plainFor_of_name own_pn_java_lang_StringLatin1) hisR ?_
  intro p e s m args below meth c s₁ Bd hml0 hP hK
  obtain ⟨rfl, hZ, hh⟩ := hP
  have hx := Bd.exec
  have hby := Bd.bytes
  have hml : c.maxLocals = 3 := hml0
  have hown : s.vm.findClass "java/lang/StringLatin1" = some m.cls := findClass_of_methodNamed Bd.named
  have hnm := (name_of_methodNamed Bd.named Bd.method).1
  have hlk := Bd.notSynchronized
  obtain ⟨lc, hlc⟩ : ∃ lc : List Loc, lc = [] := ⟨_, rfl⟩
  have X : Stand p l e ({ frames := 0, cells := 0, slots := 0, locals := 0 } : Room) s m #[(.ref b1), (.ref b2)] below meth c s₁ lc 0 0 := hlc ▸ Stand.of_body Bd
  have eT : s₁.heap = h0 := by rw [← hh, Bd.state]; rfl
  have N : Fr n0 lc := hlc ▸ Fr.nil n0
  refine own_enter (ef_lq7_6 m b1 b2) ?_
  obtain ⟨T, hT⟩ : ∃ T : State, T = s₁ := ⟨_, rfl⟩
  rw [← hT] at X eT ⊢
  show own_W p e below (own_Post s (Q_lq7_6 Z b1 b2 x0 x1 x2 x3 x4 x5 x6 h0 n0) 0 0) T m 0 #[.val (.ref b1), .val (.ref b2), .unset] []
  refine own_aloadN X hx (hb hby own_d_jdk_43_method_13_code_0) (pc' := 1) rfl rfl rfl ?_
  refine own_arrlen X hx hZ eT A_1 (hb hby own_d_jdk_43_method_13_code_1) (pc' := 2) rfl ?_
  refine own_aloadN X hx (hb hby own_d_jdk_43_method_13_code_2) (pc' := 3) rfl rfl rfl ?_
  refine own_arrlen X hx hZ eT A_2 (hb hby own_d_jdk_43_method_13_code_3) (pc' := 4) rfl ?_
  refine own_icmpY X hx (hb hby own_d_jdk_43_method_13_code_4) (by decide) (pc' := 34) rfl (show ¬ ((7 : Int32) = (6 : Int32)) from (by decide)) ?_
  refine own_iconst X hx (0 : Int32) (hb hby own_d_jdk_43_method_13_code_34) (pc' := 35) rfl rfl ?_
  refine own_retI X hx hlk (t := .boolean) (w' := (.int (0 : Int32))) Bd.returns (hb hby own_d_jdk_43_method_13_code_35) rfl rfl (by simp) (by decide) (by decide) ?_
  rw [eT]
  exact ⟨rfl, N, rfl⟩
theorem ef_eq7_6 (m : MethodId) (x0 : Addr) (x1 : Addr) : entryFrame m #[(.ref x0), (.ref x1)] 3 = mkF m 0 #[.val (.ref x0), .val (.ref x1), .unset] [] := by first | (simp [entryFrame, mkF, argsToLocals, Value.category]; done) | rfl
def Q_eq7_6 (Z : State) (a1 a2 b1 b2 : Addr) (cs : Int32) (x0 x1 x2 x3 x4 x5 x6 : Int32) (h0 : Heap) (n0 : Nat) (v : Option Value) (h : Heap) (L : List Loc) : Prop := v = some (.int (0 : Int32)) ∧ Fr n0 L ∧ h = h0
set_option maxRecDepth 65536 in
set_option maxHeartbeats 40000000 in
theorem rm_eq7_6 (l : Launch) (Z : State) (a0 : Array Value) (hw : ∀ d ∈ tables_1, d.before a0 Z = true) (ws : List Jvm.Cond) (a1 a2 b1 b2 : Addr) (cs : Int32) (x0 x1 x2 x3 x4 x5 x6 : Int32) (h0 : Heap) (n0 : Nat) (Z0 : n0 ≤ h0.size) (S_C : Sta Z h0 "java/lang/String" "COMPACT_STRINGS" "Z" (.int cs)) (hcs : ¬ cs = 0) (E_1 : Exa Z h0 a1 "java/lang/String") (C_1 : Fld Z h0 a1 "java/lang/String" "coder" "B" (.int (0 : Int32))) (V_1 : Fld Z h0 a1 "java/lang/String" "value" "[B" (.ref b1)) (E_2 : Exa Z h0 a2 "java/lang/String") (C_2 : Fld Z h0 a2 "java/lang/String" "coder" "B" (.int (0 : Int32))) (V_2 : Fld Z h0 a2 "java/lang/String" "value" "[B" (.ref b2)) (k1 k2 : ClassId) (A_1 : Arv Z h0 b1 k1 .byte (7 : Int32) [(.int x0), (.int x1), (.int x2), (.int x3), (.int x4), (.int x5), (.int x6)] (.int (0 : Int32))) (A_2 : Arv Z h0 b2 k2 .byte (6 : Int32) [(.int (45 : Int32)), (.int (45 : Int32)), (.int (104 : Int32)), (.int (101 : Int32)), (.int (108 : Int32)), (.int (112 : Int32))] (.int (0 : Int32))) :
    MetFree l (⟨"java/lang/String", "equals", "(Ljava/lang/Object;)Z"⟩ : MethodName) (head1 (Jvm.Cond.code (⟨"java/lang/String", "equals", "(Ljava/lang/Object;)Z"⟩ : MethodName) jdk_42_method_66_code 3 (some .boolean) :: ws) ({ frames := 1, cells := 0, slots := 0, locals := 14 } : Room)) (fun a U => a = #[(.ref a1), (.ref a2)] ∧ Z.Warmed39 U.vm ∧ U.heap = h0) (fun _ _ _ _ _ => True) (fun _ U o U' => ∃ v L, o = .returned v ∧ Q_eq7_6 Z a1 a2 b1 b2 cs x0 x1 x2 x3 x4 x5 x6 h0 n0 v U'.heap L ∧ FrameEnd U o U' L ({ frames := 1, cells := 0, slots := 0, locals := 14 } : Room).cells ({ frames := 1, cells := 0, slots := 0, locals := 14 } : Room).slots) := by
  refine MetFree.of_bodySF (plainFor_of_name own_pn_java_lang_String) hisR ?_
  intro p e s m args below meth c s₁ Bd hml0 hP hK
  obtain ⟨rfl, hZ, hh⟩ := hP
  have hx := Bd.exec
  have hby := Bd.bytes
  have hml : c.maxLocals = 3 := hml0
  have hown : s.vm.findClass "java/lang/String" = some m.cls := findClass_of_methodNamed Bd.named
  have hnm := (name_of_methodNamed Bd.named Bd.method).1
  have hlk := Bd.notSynchronized
  obtain ⟨lc, hlc⟩ : ∃ lc : List Loc, lc = [] := ⟨_, rfl⟩
  have X : Stand p l e ({ frames := 1, cells := 0, slots := 0, locals := 14 } : Room) s m #[(.ref a1), (.ref a2)] below meth c s₁ lc 0 0 := hlc ▸ Stand.of_body Bd
  have eT : s₁.heap = h0 := by rw [← hh, Bd.state]; rfl
  have N : Fr n0 lc := hlc ▸ Fr.nil n0
  refine own_enter (ef_eq7_6 m a1 a2) ?_
  obtain ⟨T, hT⟩ : ∃ T : State, T = s₁ := ⟨_, rfl⟩
  rw [← hT] at X eT ⊢
  show own_W p e below (own_Post s (Q_eq7_6 Z a1 a2 b1 b2 cs x0 x1 x2 x3 x4 x5 x6 h0 n0) 0 0) T m 0 #[.val (.ref a1), .val (.ref a2), .unset] []
  have hd12 : ¬ a1 = a2 := fun q => by
    subst q
    have q2 := Value.ref.inj (own_fld_at V_1 V_2)
    subst q2
    exact arv_ne A_1 A_2 (Or.inl (by decide)) rfl
  refine own_aloadN X hx (hb hby own_d_jdk_42_method_66_code_0) (pc' := 1) rfl rfl rfl ?_
  refine own_aloadN X hx (hb hby own_d_jdk_42_method_66_code_1) (pc' := 2) rfl rfl rfl ?_
  refine own_acmpY X hx (hb hby own_d_jdk_42_method_66_code_2) (by decide) (pc' := 7) rfl rfl rfl (XT.aa_ne_t fun q => hd12 (Value.ref.inj q)) ?_
  refine own_aloadN X hx (hb hby own_d_jdk_42_method_66_code_7) (pc' := 8) rfl rfl rfl ?_
  refine own_inst X hx hZ hown (own_w hw 46 rfl) eT E_2 (hb hby own_d_jdk_42_method_66_code_8) (pc' := 11) rfl ?_
  intro T X eT
  refine own_ifN X hx (hb hby own_d_jdk_42_method_66_code_11) (pc' := 14) rfl (show ¬ ((1 : Int32) = (0 : Int32)) from (by decide)) ?_
  refine own_aloadN X hx (hb hby own_d_jdk_42_method_66_code_14) (pc' := 15) rfl rfl rfl ?_
  refine own_cast X hx hZ hown (own_w hw 46 rfl) eT E_2 (hb hby own_d_jdk_42_method_66_code_15) (pc' := 18) rfl ?_
  intro T X eT
  refine own_astoreN X hx (hb hby own_d_jdk_42_method_66_code_18) (pc' := 19) rfl rfl (Ls' := #[.val (.ref a1), .val (.ref a2), .val (.ref a2)]) rfl ?_
  refine own_getS X hx hZ hown (host := "") (Or.inl (own_w hw 47 rfl)) Via.refl eT S_C (hb hby own_d_jdk_42_method_66_code_19) (pc' := 22) rfl ?_
  intro T X eT
  refine own_ifN X hx (hb hby own_d_jdk_42_method_66_code_22) (pc' := 25) rfl (show ¬ (cs = (0 : Int32)) from hcs) ?_
  refine own_aloadN X hx (hb hby own_d_jdk_42_method_66_code_25) (pc' := 26) rfl rfl rfl ?_
  refine own_getF X hx hZ hown (host := "") (Or.inl (own_w hw 35 rfl)) Via.refl eT C_1 (hb hby own_d_jdk_42_method_66_code_26) (pc' := 29) rfl ?_
  intro T X eT
  refine own_aloadN X hx (hb hby own_d_jdk_42_method_66_code_29) (pc' := 30) rfl rfl rfl ?_
  refine own_getF X hx hZ hown (host := "") (Or.inl (own_w hw 35 rfl)) Via.refl eT C_2 (hb hby own_d_jdk_42_method_66_code_30) (pc' := 33) rfl ?_
  intro T X eT
  refine own_icmpN X hx (hb hby own_d_jdk_42_method_66_code_33) (pc' := 36) rfl (show (0 : Int32) = (0 : Int32) from (by decide)) ?_
  refine own_aloadN X hx (hb hby own_d_jdk_42_method_66_code_36) (pc' := 37) rfl rfl rfl ?_
  refine own_getF X hx hZ hown (host := "") (Or.inl (own_w hw 34 rfl)) Via.refl eT V_1 (hb hby own_d_jdk_42_method_66_code_37) (pc' := 40) rfl ?_
  intro T X eT
  refine own_aloadN X hx (hb hby own_d_jdk_42_method_66_code_40) (pc' := 41) rfl rfl rfl ?_
  refine own_getF X hx hZ hown (host := "") (Or.inl (own_w hw 34 rfl)) Via.refl eT V_2 (hb hby own_d_jdk_42_method_66_code_41) (pc' := 44) rfl ?_
  intro T X eT
  refine own_callS X hx hZ [(.ref b1), (.ref b2)] hown (own_w hw 48 rfl) (own_w hw 49 rfl) (own_w hw 50 rfl) (own_w hw 51 rfl) (by decide) (rm_lq7_6 l Z a0 hw [] b1 b2 x0 x1 x2 x3 x4 x5 x6 h0 n0 Z0 _ _ A_1 A_2) eT (W := 0) (by decide) (by decide) (cells' := 0) (slots' := 0) rfl rfl (by decide) (by decide) (by rw [hml]; rfl) (lenOf own_pd_285bB5bB29Z rfl) rfl (S := []) rfl (Nat.le_of_eq rfl) (hb hby own_d_jdk_42_method_66_code_44) (pc' := 47) rfl ?_
  intro v T h1 L lc X eT hq fN
  obtain ⟨rfl, Nq, hqe⟩ := hq
  have N := fN _ N Nq
  rw [hqe] at eT
  show own_W p e below (own_Post s (Q_eq7_6 Z a1 a2 b1 b2 cs x0 x1 x2 x3 x4 x5 x6 h0 n0) 0 0) T m 47 #[.val (.ref a1), .val (.ref a2), .val (.ref a2)] [(.int (0 : Int32))]
  refine own_ifY X hx (hb hby own_d_jdk_42_method_66_code_47) (by decide) (pc' := 54) rfl (show (0 : Int32) = (0 : Int32) from (by decide)) ?_
  refine own_iconst X hx (0 : Int32) (hb hby own_d_jdk_42_method_66_code_54) (pc' := 55) rfl rfl ?_
  refine own_retI X hx hlk (t := .boolean) (w' := (.int (0 : Int32))) Bd.returns (hb hby own_d_jdk_42_method_66_code_55) rfl rfl (by simp) (by decide) (by decide) ?_
  rw [eT]
  exact ⟨rfl, N, rfl⟩
theorem ef_lq0_2 (m : MethodId) (x0 : Addr) (x1 : Addr) : entryFrame m #[(.ref x0), (.ref x1)] 3 = mkF m 0 #[.val (.ref x0), .val (.ref x1), .unset] [] := by first | (simp [entryFrame, mkF, argsToLocals, Value.category]; done) | rfl
def Q_lq0_2 (Z : State) (b1 b2 : Addr)  (h0 : Heap) (n0 : Nat) (v : Option Value) (h : Heap) (L : List Loc) : Prop := v = some (.int (0 : Int32)) ∧ Fr n0 L ∧ h = h0
set_option maxRecDepth 65536 in
set_option maxHeartbeats 40000000 in
theorem rm_lq0_2 (l : Launch) (Z : State) (a0 : Array Value) (hw : ∀ d ∈ tables_1, d.before a0 Z = true) (ws : List Jvm.Cond) (b1 b2 : Addr)  (h0 : Heap) (n0 : Nat) (Z0 : n0 ≤ h0.size) (k1 k2 : ClassId) (A_1 : Arv Z h0 b1 k1 .byte (0 : Int32) [] (.int (0 : Int32))) (A_2 : Arv Z h0 b2 k2 .byte (2 : Int32) [(.int (45 : Int32)), (.int (104 : Int32))] (.int (0 : Int32))) :
    MetFree l (⟨"java/lang/StringLatin1", "equals", "([B[B)Z"⟩ : MethodName) (head1 (Jvm.Cond.code (⟨"java/lang/StringLatin1", "equals", "([B[B)Z"⟩ : MethodName) jdk_43_method_13_code 3 (some .boolean) :: ws) ({ frames := 0, cells := 0, slots := 0, locals := 0 } : Room)) (fun a U => a = #[(.ref b1), (.ref b2)] ∧ Z.Warmed39 U.vm ∧ U.heap = h0) (fun _ _ _ _ _ => True) (fun _ U o U' => ∃ v L, o = .returned v ∧ Q_lq0_2 Z b1 b2 h0 n0 v U'.heap L ∧ FrameEnd U o U' L ({ frames := 0, cells := 0, slots := 0, locals := 0 } : Room).cells ({ frames := 0, cells := 0, slots := 0, locals := 0 } : Room).slots) := by
  refine MetFree.of_bodySF (plainFor_of_name own_pn_java_lang_StringLatin1) hisR ?_
  intro p e s m args below meth c s₁ Bd hml0 hP hK
  obtain ⟨rfl, hZ, hh⟩ := hP
  have hx := Bd.exec
  have hby := Bd.bytes
  have hml : c.maxLocals = 3 := hml0
  have hown : s.vm.findClass "java/lang/StringLatin1" = some m.cls := findClass_of_methodNamed Bd.named
  have hnm := (name_of_methodNamed Bd.named Bd.method).1
  have hlk := Bd.notSynchronized
  obtain ⟨lc, hlc⟩ : ∃ lc : List Loc, lc = [] := ⟨_, rfl⟩
  have X : Stand p l e ({ frames := 0, cells := 0, slots := 0, locals := 0 } : Room) s m #[(.ref b1), (.ref b2)] below meth c s₁ lc 0 0 := hlc ▸ Stand.of_body Bd
  have eT : s₁.heap = h0 := by rw [← hh, Bd.state]; rfl
  have N : Fr n0 lc := hlc ▸ Fr.nil n0
  refine own_enter (ef_lq0_2 m b1 b2) ?_
  obtain ⟨T, hT⟩ : ∃ T : State, T = s₁ := ⟨_, rfl⟩
  rw [← hT] at X eT ⊢
  show own_W p e below (own_Post s (Q_lq0_2 Z b1 b2 h0 n0) 0 0) T m 0 #[.val (.ref b1), .val (.ref b2), .unset] []
  refine own_aloadN X hx (hb hby own_d_jdk_43_method_13_code_0) (pc' := 1) rfl rfl rfl ?_
  refine own_arrlen X hx hZ eT A_1 (hb hby own_d_jdk_43_method_13_code_1) (pc' := 2) rfl ?_
  refine own_aloadN X hx (hb hby own_d_jdk_43_method_13_code_2) (pc' := 3) rfl rfl rfl ?_
  refine own_arrlen X hx hZ eT A_2 (hb hby own_d_jdk_43_method_13_code_3) (pc' := 4) rfl ?_
  refine own_icmpY X hx (hb hby own_d_jdk_43_method_13_code_4) (by decide) (pc' := 34) rfl (show ¬ ((0 : Int32) = (2 : Int32)) from (by decide)) ?_
  refine own_iconst X hx (0 : Int32) (hb hby own_d_jdk_43_method_13_code_34) (pc' := 35) rfl rfl ?_
  refine own_retI X hx hlk (t := .boolean) (w' := (.int (0 : Int32))) Bd.returns (hb hby own_d_jdk_43_method_13_code_35) rfl rfl (by simp) (by decide) (by decide) ?_
  rw [eT]
  exact ⟨rfl, N, rfl⟩
theorem ef_eq0_2 (m : MethodId) (x0 : Addr) (x1 : Addr) : entryFrame m #[(.ref x0), (.ref x1)] 3 = mkF m 0 #[.val (.ref x0), .val (.ref x1), .unset] [] := by first | (simp [entryFrame, mkF, argsToLocals, Value.category]; done) | rfl
def Q_eq0_2 (Z : State) (a1 a2 b1 b2 : Addr) (cs : Int32)  (h0 : Heap) (n0 : Nat) (v : Option Value) (h : Heap) (L : List Loc) : Prop := v = some (.int (0 : Int32)) ∧ Fr n0 L ∧ h = h0
set_option maxRecDepth 65536 in
set_option maxHeartbeats 40000000 in
theorem rm_eq0_2 (l : Launch) (Z : State) (a0 : Array Value) (hw : ∀ d ∈ tables_1, d.before a0 Z = true) (ws : List Jvm.Cond) (a1 a2 b1 b2 : Addr) (cs : Int32)  (h0 : Heap) (n0 : Nat) (Z0 : n0 ≤ h0.size) (S_C : Sta Z h0 "java/lang/String" "COMPACT_STRINGS" "Z" (.int cs)) (hcs : ¬ cs = 0) (E_1 : Exa Z h0 a1 "java/lang/String") (C_1 : Fld Z h0 a1 "java/lang/String" "coder" "B" (.int (0 : Int32))) (V_1 : Fld Z h0 a1 "java/lang/String" "value" "[B" (.ref b1)) (E_2 : Exa Z h0 a2 "java/lang/String") (C_2 : Fld Z h0 a2 "java/lang/String" "coder" "B" (.int (0 : Int32))) (V_2 : Fld Z h0 a2 "java/lang/String" "value" "[B" (.ref b2)) (k1 k2 : ClassId) (A_1 : Arv Z h0 b1 k1 .byte (0 : Int32) [] (.int (0 : Int32))) (A_2 : Arv Z h0 b2 k2 .byte (2 : Int32) [(.int (45 : Int32)), (.int (104 : Int32))] (.int (0 : Int32))) :
    MetFree l (⟨"java/lang/String", "equals", "(Ljava/lang/Object;)Z"⟩ : MethodName) (head1 (Jvm.Cond.code (⟨"java/lang/String", "equals", "(Ljava/lang/Object;)Z"⟩ : MethodName) jdk_42_method_66_code 3 (some .boolean) :: ws) ({ frames := 1, cells := 0, slots := 0, locals := 14 } : Room)) (fun a U => a = #[(.ref a1), (.ref a2)] ∧ Z.Warmed39 U.vm ∧ U.heap = h0) (fun _ _ _ _ _ => True) (fun _ U o U' => ∃ v L, o = .returned v ∧ Q_eq0_2 Z a1 a2 b1 b2 cs h0 n0 v U'.heap L ∧ FrameEnd U o U' L ({ frames := 1, cells := 0, slots := 0, locals := 14 } : Room).cells ({ frames := 1, cells := 0, slots := 0, locals := 14 } : Room).slots) := by
  refine MetFree.of_bodySF (plainFor_of_name own_pn_java_lang_String) hisR ?_
  intro p e s m args below meth c s₁ Bd hml0 hP hK
  obtain ⟨rfl, hZ, hh⟩ := hP
  have hx := Bd.exec
  have hby := Bd.bytes
  have hml : c.maxLocals = 3 := hml0
  have hown : s.vm.findClass "java/lang/String" = some m.cls := findClass_of_methodNamed Bd.named
  have hnm := (name_of_methodNamed Bd.named Bd.method).1
  have hlk := Bd.notSynchronized
  obtain ⟨lc, hlc⟩ : ∃ lc : List Loc, lc = [] := ⟨_, rfl⟩
  have X : Stand p l e ({ frames := 1, cells := 0, slots := 0, locals := 14 } : Room) s m #[(.ref a1), (.ref a2)] below meth c s₁ lc 0 0 := hlc ▸ Stand.of_body Bd
  have eT : s₁.heap = h0 := by rw [← hh, Bd.state]; rfl
  have N : Fr n0 lc := hlc ▸ Fr.nil n0
  refine own_enter (ef_eq0_2 m a1 a2) ?_
  obtain ⟨T, hT⟩ : ∃ T : State, T = s₁ := ⟨_, rfl⟩
  rw [← hT] at X eT ⊢
  show own_W p e below (own_Post s (Q_eq0_2 Z a1 a2 b1 b2 cs h0 n0) 0 0) T m 0 #[.val (.ref a1), .val (.ref a2), .unset] []
  have hd12 : ¬ a1 = a2 := fun q => by
    subst q
    have q2 := Value.ref.inj (own_fld_at V_1 V_2)
    subst q2
    exact arv_ne A_1 A_2 (Or.inl (by decide)) rfl
  refine own_aloadN X hx (hb hby own_d_jdk_42_method_66_code_0) (pc' := 1) rfl rfl rfl ?_
  refine own_aloadN X hx (hb hby own_d_jdk_42_method_66_code_1) (pc' := 2) rfl rfl rfl ?_
  refine own_acmpY X hx (hb hby own_d_jdk_42_method_66_code_2) (by decide) (pc' := 7) rfl rfl rfl (XT.aa_ne_t fun q => hd12 (Value.ref.inj q)) ?_
  refine own_aloadN X hx (hb hby own_d_jdk_42_method_66_code_7) (pc' := 8) rfl rfl rfl ?_
  refine own_inst X hx hZ hown (own_w hw 46 rfl) eT E_2 (hb hby own_d_jdk_42_method_66_code_8) (pc' := 11) rfl ?_
  intro T X eT
  refine own_ifN X hx (hb hby own_d_jdk_42_method_66_code_11) (pc' := 14) rfl (show ¬ ((1 : Int32) = (0 : Int32)) from (by decide)) ?_
  refine own_aloadN X hx (hb hby own_d_jdk_42_method_66_code_14) (pc' := 15) rfl rfl rfl ?_
  refine own_cast X hx hZ hown (own_w hw 46 rfl) eT E_2 (hb hby own_d_jdk_42_method_66_code_15) (pc' := 18) rfl ?_
  intro T X eT
  refine own_astoreN X hx (hb hby own_d_jdk_42_method_66_code_18) (pc' := 19) rfl rfl (Ls' := #[.val (.ref a1), .val (.ref a2), .val (.ref a2)]) rfl ?_
  refine own_getS X hx hZ hown (host := "") (Or.inl (own_w hw 47 rfl)) Via.refl eT S_C (hb hby own_d_jdk_42_method_66_code_19) (pc' := 22) rfl ?_
  intro T X eT
  refine own_ifN X hx (hb hby own_d_jdk_42_method_66_code_22) (pc' := 25) rfl (show ¬ (cs = (0 : Int32)) from hcs) ?_
  refine own_aloadN X hx (hb hby own_d_jdk_42_method_66_code_25) (pc' := 26) rfl rfl rfl ?_
  refine own_getF X hx hZ hown (host := "") (Or.inl (own_w hw 35 rfl)) Via.refl eT C_1 (hb hby own_d_jdk_42_method_66_code_26) (pc' := 29) rfl ?_
  intro T X eT
  refine own_aloadN X hx (hb hby own_d_jdk_42_method_66_code_29) (pc' := 30) rfl rfl rfl ?_
  refine own_getF X hx hZ hown (host := "") (Or.inl (own_w hw 35 rfl)) Via.refl eT C_2 (hb hby own_d_jdk_42_method_66_code_30) (pc' := 33) rfl ?_
  intro T X eT
  refine own_icmpN X hx (hb hby own_d_jdk_42_method_66_code_33) (pc' := 36) rfl (show (0 : Int32) = (0 : Int32) from (by decide)) ?_
  refine own_aloadN X hx (hb hby own_d_jdk_42_method_66_code_36) (pc' := 37) rfl rfl rfl ?_
  refine own_getF X hx hZ hown (host := "") (Or.inl (own_w hw 34 rfl)) Via.refl eT V_1 (hb hby own_d_jdk_42_method_66_code_37) (pc' := 40) rfl ?_
  intro T X eT
  refine own_aloadN X hx (hb hby own_d_jdk_42_method_66_code_40) (pc' := 41) rfl rfl rfl ?_
  refine own_getF X hx hZ hown (host := "") (Or.inl (own_w hw 34 rfl)) Via.refl eT V_2 (hb hby own_d_jdk_42_method_66_code_41) (pc' := 44) rfl ?_
  intro T X eT
  refine own_callS X hx hZ [(.ref b1), (.ref b2)] hown (own_w hw 48 rfl) (own_w hw 49 rfl) (own_w hw 50 rfl) (own_w hw 51 rfl) (by decide) (rm_lq0_2 l Z a0 hw [] b1 b2  h0 n0 Z0 _ _ A_1 A_2) eT (W := 0) (by decide) (by decide) (cells' := 0) (slots' := 0) rfl rfl (by decide) (by decide) (by rw [hml]; rfl) (lenOf own_pd_285bB5bB29Z rfl) rfl (S := []) rfl (Nat.le_of_eq rfl) (hb hby own_d_jdk_42_method_66_code_44) (pc' := 47) rfl ?_
  intro v T h1 L lc X eT hq fN
  obtain ⟨rfl, Nq, hqe⟩ := hq
  have N := fN _ N Nq
  rw [hqe] at eT
  show own_W p e below (own_Post s (Q_eq0_2 Z a1 a2 b1 b2 cs h0 n0) 0 0) T m 47 #[.val (.ref a1), .val (.ref a2), .val (.ref a2)] [(.int (0 : Int32))]
  refine own_ifY X hx (hb hby own_d_jdk_42_method_66_code_47) (by decide) (pc' := 54) rfl (show (0 : Int32) = (0 : Int32) from (by decide)) ?_
  refine own_iconst X hx (0 : Int32) (hb hby own_d_jdk_42_method_66_code_54) (pc' := 55) rfl rfl ?_
  refine own_retI X hx hlk (t := .boolean) (w' := (.int (0 : Int32))) Bd.returns (hb hby own_d_jdk_42_method_66_code_55) rfl rfl (by simp) (by decide) (by decide) ?_
  rw [eT]
  exact ⟨rfl, N, rfl⟩
theorem ef_lq1_2 (m : MethodId) (x0 : Addr) (x1 : Addr) : entryFrame m #[(.ref x0), (.ref x1)] 3 = mkF m 0 #[.val (.ref x0), .val (.ref x1), .unset] [] := by first | (simp [entryFrame, mkF, argsToLocals, Value.category]; done) | rfl
def Q_lq1_2 (Z : State) (b1 b2 : Addr) (x0 : Int32) (h0 : Heap) (n0 : Nat) (v : Option Value) (h : Heap) (L : List Loc) : Prop := v = some (.int (0 : Int32)) ∧ Fr n0 L ∧ h = h0
set_option maxRecDepth 65536 in
set_option maxHeartbeats 40000000 in
theorem rm_lq1_2 (l : Launch) (Z : State) (a0 : Array Value) (hw : ∀ d ∈ tables_1, d.before a0 Z = true) (ws : List Jvm.Cond) (b1 b2 : Addr) (x0 : Int32) (h0 : Heap) (n0 : Nat) (Z0 : n0 ≤ h0.size) (k1 k2 : ClassId) (A_1 : Arv Z h0 b1 k1 .byte (1 : Int32) [(.int x0)] (.int (0 : Int32))) (A_2 : Arv Z h0 b2 k2 .byte (2 : Int32) [(.int (45 : Int32)), (.int (104 : Int32))] (.int (0 : Int32))) :
    MetFree l (⟨"java/lang/StringLatin1", "equals", "([B[B)Z"⟩ : MethodName) (head1 (Jvm.Cond.code (⟨"java/lang/StringLatin1", "equals", "([B[B)Z"⟩ : MethodName) jdk_43_method_13_code 3 (some .boolean) :: ws) ({ frames := 0, cells := 0, slots := 0, locals := 0 } : Room)) (fun a U => a = #[(.ref b1), (.ref b2)] ∧ Z.Warmed39 U.vm ∧ U.heap = h0) (fun _ _ _ _ _ => True) (fun _ U o U' => ∃ v L, o = .returned v ∧ Q_lq1_2 Z b1 b2 x0 h0 n0 v U'.heap L ∧ FrameEnd U o U' L ({ frames := 0, cells := 0, slots := 0, locals := 0 } : Room).cells ({ frames := 0, cells := 0, slots := 0, locals := 0 } : Room).slots) := by
  refine MetFree.of_bodySF (plainFor_of_name own_pn_java_lang_StringLatin1) hisR ?_
  intro p e s m args below meth c s₁ Bd hml0 hP hK
  obtain ⟨rfl, hZ, hh⟩ := hP
  have hx := Bd.exec
  have hby := Bd.bytes
  have hml : c.maxLocals = 3 := hml0
  have hown : s.vm.findClass "java/lang/StringLatin1" = some m.cls := findClass_of_methodNamed Bd.named
  have hnm := (name_of_methodNamed Bd.named Bd.method).1
  have hlk := Bd.notSynchronized
  obtain ⟨lc, hlc⟩ : ∃ lc : List Loc, lc = [] := ⟨_, rfl⟩
  have X : Stand p l e ({ frames := 0, cells := 0, slots := 0, locals := 0 } : Room) s m #[(.ref b1), (.ref b2)] below meth c s₁ lc 0 0 := hlc ▸ Stand.of_body Bd
  have eT : s₁.heap = h0 := by rw [← hh, Bd.state]; rfl
  have N : Fr n0 lc := hlc ▸ Fr.nil n0
  refine own_enter (ef_lq1_2 m b1 b2) ?_
  obtain ⟨T, hT⟩ : ∃ T : State, T = s₁ := ⟨_, rfl⟩
  rw [← hT] at X eT ⊢
  show own_W p e below (own_Post s (Q_lq1_2 Z b1 b2 x0 h0 n0) 0 0) T m 0 #[.val (.ref b1), .val (.ref b2), .unset] []
  refine own_aloadN X hx (hb hby own_d_jdk_43_method_13_code_0) (pc' := 1) rfl rfl rfl ?_
  refine own_arrlen X hx hZ eT A_1 (hb hby own_d_jdk_43_method_13_code_1) (pc' := 2) rfl ?_
  refine own_aloadN X hx (hb hby own_d_jdk_43_method_13_code_2) (pc' := 3) rfl rfl rfl ?_
  refine own_arrlen X hx hZ eT A_2 (hb hby own_d_jdk_43_method_13_code_3) (pc' := 4) rfl ?_
  refine own_icmpY X hx (hb hby own_d_jdk_43_method_13_code_4) (by decide) (pc' := 34) rfl (show ¬ ((1 : Int32) = (2 : Int32)) from (by decide)) ?_
  refine own_iconst X hx (0 : Int32) (hb hby own_d_jdk_43_method_13_code_34) (pc' := 35) rfl rfl ?_
  refine own_retI X hx hlk (t := .boolean) (w' := (.int (0 : Int32))) Bd.returns (hb hby own_d_jdk_43_method_13_code_35) rfl rfl (by simp) (by decide) (by decide) ?_
  rw [eT]
  exact ⟨rfl, N, rfl⟩
theorem ef_eq1_2 (m : MethodId) (x0 : Addr) (x1 : Addr) : entryFrame m #[(.ref x0), (.ref x1)] 3 = mkF m 0 #[.val (.ref x0), .val (.ref x1), .unset] [] := by first | (simp [entryFrame, mkF, argsToLocals, Value.category]; done) | rfl
def Q_eq1_2 (Z : State) (a1 a2 b1 b2 : Addr) (cs : Int32) (x0 : Int32) (h0 : Heap) (n0 : Nat) (v : Option Value) (h : Heap) (L : List Loc) : Prop := v = some (.int (0 : Int32)) ∧ Fr n0 L ∧ h = h0
set_option maxRecDepth 65536 in
set_option maxHeartbeats 40000000 in
theorem rm_eq1_2 (l : Launch) (Z : State) (a0 : Array Value) (hw : ∀ d ∈ tables_1, d.before a0 Z = true) (ws : List Jvm.Cond) (a1 a2 b1 b2 : Addr) (cs : Int32) (x0 : Int32) (h0 : Heap) (n0 : Nat) (Z0 : n0 ≤ h0.size) (S_C : Sta Z h0 "java/lang/String" "COMPACT_STRINGS" "Z" (.int cs)) (hcs : ¬ cs = 0) (E_1 : Exa Z h0 a1 "java/lang/String") (C_1 : Fld Z h0 a1 "java/lang/String" "coder" "B" (.int (0 : Int32))) (V_1 : Fld Z h0 a1 "java/lang/String" "value" "[B" (.ref b1)) (E_2 : Exa Z h0 a2 "java/lang/String") (C_2 : Fld Z h0 a2 "java/lang/String" "coder" "B" (.int (0 : Int32))) (V_2 : Fld Z h0 a2 "java/lang/String" "value" "[B" (.ref b2)) (k1 k2 : ClassId) (A_1 : Arv Z h0 b1 k1 .byte (1 : Int32) [(.int x0)] (.int (0 : Int32))) (A_2 : Arv Z h0 b2 k2 .byte (2 : Int32) [(.int (45 : Int32)), (.int (104 : Int32))] (.int (0 : Int32))) :
    MetFree l (⟨"java/lang/String", "equals", "(Ljava/lang/Object;)Z"⟩ : MethodName) (head1 (Jvm.Cond.code (⟨"java/lang/String", "equals", "(Ljava/lang/Object;)Z"⟩ : MethodName) jdk_42_method_66_code 3 (some .boolean) :: ws) ({ frames := 1, cells := 0, slots := 0, locals := 14 } : Room)) (fun a U => a = #[(.ref a1), (.ref a2)] ∧ Z.Warmed39 U.vm ∧ U.heap = h0) (fun _ _ _ _ _ => True) (fun _ U o U' => ∃ v L, o = .returned v ∧ Q_eq1_2 Z a1 a2 b1 b2 cs x0 h0 n0 v U'.heap L ∧ FrameEnd U o U' L ({ frames := 1, cells := 0, slots := 0, locals := 14 } : Room).cells ({ frames := 1, cells := 0, slots := 0, locals := 14 } : Room).slots) := by
  refine MetFree.of_bodySF (plainFor_of_name own_pn_java_lang_String) hisR ?_
  intro p e s m args below meth c s₁ Bd hml0 hP hK
  obtain ⟨rfl, hZ, hh⟩ := hP
  have hx := Bd.exec
  have hby := Bd.bytes
  have hml : c.maxLocals = 3 := hml0
  have hown : s.vm.findClass "java/lang/String" = some m.cls := findClass_of_methodNamed Bd.named
  have hnm := (name_of_methodNamed Bd.named Bd.method).1
  have hlk := Bd.notSynchronized
  obtain ⟨lc, hlc⟩ : ∃ lc : List Loc, lc = [] := ⟨_, rfl⟩
  have X : Stand p l e ({ frames := 1, cells := 0, slots := 0, locals := 14 } : Room) s m #[(.ref a1), (.ref a2)] below meth c s₁ lc 0 0 := hlc ▸ Stand.of_body Bd
  have eT : s₁.heap = h0 := by rw [← hh, Bd.state]; rfl
  have N : Fr n0 lc := hlc ▸ Fr.nil n0
  refine own_enter (ef_eq1_2 m a1 a2) ?_
  obtain ⟨T, hT⟩ : ∃ T : State, T = s₁ := ⟨_, rfl⟩
  rw [← hT] at X eT ⊢
  show own_W p e below (own_Post s (Q_eq1_2 Z a1 a2 b1 b2 cs x0 h0 n0) 0 0) T m 0 #[.val (.ref a1), .val (.ref a2), .unset] []
  have hd12 : ¬ a1 = a2 := fun q => by
    subst q
    have q2 := Value.ref.inj (own_fld_at V_1 V_2)
    subst q2
    exact arv_ne A_1 A_2 (Or.inl (by decide)) rfl
  refine own_aloadN X hx (hb hby own_d_jdk_42_method_66_code_0) (pc' := 1) rfl rfl rfl ?_
  refine own_aloadN X hx (hb hby own_d_jdk_42_method_66_code_1) (pc' := 2) rfl rfl rfl ?_
  refine own_acmpY X hx (hb hby own_d_jdk_42_method_66_code_2) (by decide) (pc' := 7) rfl rfl rfl (XT.aa_ne_t fun q => hd12 (Value.ref.inj q)) ?_
  refine own_aloadN X hx (hb hby own_d_jdk_42_method_66_code_7) (pc' := 8) rfl rfl rfl ?_
  refine own_inst X hx hZ hown (own_w hw 46 rfl) eT E_2 (hb hby own_d_jdk_42_method_66_code_8) (pc' := 11) rfl ?_
  intro T X eT
  refine own_ifN X hx (hb hby own_d_jdk_42_method_66_code_11) (pc' := 14) rfl (show ¬ ((1 : Int32) = (0 : Int32)) from (by decide)) ?_
  refine own_aloadN X hx (hb hby own_d_jdk_42_method_66_code_14) (pc' := 15) rfl rfl rfl ?_
  refine own_cast X hx hZ hown (own_w hw 46 rfl) eT E_2 (hb hby own_d_jdk_42_method_66_code_15) (pc' := 18) rfl ?_
  intro T X eT
  refine own_astoreN X hx (hb hby own_d_jdk_42_method_66_code_18) (pc' := 19) rfl rfl (Ls' := #[.val (.ref a1), .val (.ref a2), .val (.ref a2)]) rfl ?_
  refine own_getS X hx hZ hown (host := "") (Or.inl (own_w hw 47 rfl)) Via.refl eT S_C (hb hby own_d_jdk_42_method_66_code_19) (pc' := 22) rfl ?_
  intro T X eT
  refine own_ifN X hx (hb hby own_d_jdk_42_method_66_code_22) (pc' := 25) rfl (show ¬ (cs = (0 : Int32)) from hcs) ?_
  refine own_aloadN X hx (hb hby own_d_jdk_42_method_66_code_25) (pc' := 26) rfl rfl rfl ?_
  refine own_getF X hx hZ hown (host := "") (Or.inl (own_w hw 35 rfl)) Via.refl eT C_1 (hb hby own_d_jdk_42_method_66_code_26) (pc' := 29) rfl ?_
  intro T X eT
  refine own_aloadN X hx (hb hby own_d_jdk_42_method_66_code_29) (pc' := 30) rfl rfl rfl ?_
  refine own_getF X hx hZ hown (host := "") (Or.inl (own_w hw 35 rfl)) Via.refl eT C_2 (hb hby own_d_jdk_42_method_66_code_30) (pc' := 33) rfl ?_
  intro T X eT
  refine own_icmpN X hx (hb hby own_d_jdk_42_method_66_code_33) (pc' := 36) rfl (show (0 : Int32) = (0 : Int32) from (by decide)) ?_
  refine own_aloadN X hx (hb hby own_d_jdk_42_method_66_code_36) (pc' := 37) rfl rfl rfl ?_
  refine own_getF X hx hZ hown (host := "") (Or.inl (own_w hw 34 rfl)) Via.refl eT V_1 (hb hby own_d_jdk_42_method_66_code_37) (pc' := 40) rfl ?_
  intro T X eT
  refine own_aloadN X hx (hb hby own_d_jdk_42_method_66_code_40) (pc' := 41) rfl rfl rfl ?_
  refine own_getF X hx hZ hown (host := "") (Or.inl (own_w hw 34 rfl)) Via.refl eT V_2 (hb hby own_d_jdk_42_method_66_code_41) (pc' := 44) rfl ?_
  intro T X eT
  refine own_callS X hx hZ [(.ref b1), (.ref b2)] hown (own_w hw 48 rfl) (own_w hw 49 rfl) (own_w hw 50 rfl) (own_w hw 51 rfl) (by decide) (rm_lq1_2 l Z a0 hw [] b1 b2 x0 h0 n0 Z0 _ _ A_1 A_2) eT (W := 0) (by decide) (by decide) (cells' := 0) (slots' := 0) rfl rfl (by decide) (by decide) (by rw [hml]; rfl) (lenOf own_pd_285bB5bB29Z rfl) rfl (S := []) rfl (Nat.le_of_eq rfl) (hb hby own_d_jdk_42_method_66_code_44) (pc' := 47) rfl ?_
  intro v T h1 L lc X eT hq fN
  obtain ⟨rfl, Nq, hqe⟩ := hq
  have N := fN _ N Nq
  rw [hqe] at eT
  show own_W p e below (own_Post s (Q_eq1_2 Z a1 a2 b1 b2 cs x0 h0 n0) 0 0) T m 47 #[.val (.ref a1), .val (.ref a2), .val (.ref a2)] [(.int (0 : Int32))]
  refine own_ifY X hx (hb hby own_d_jdk_42_method_66_code_47) (by decide) (pc' := 54) rfl (show (0 : Int32) = (0 : Int32) from (by decide)) ?_
  refine own_iconst X hx (0 : Int32) (hb hby own_d_jdk_42_method_66_code_54) (pc' := 55) rfl rfl ?_
  refine own_retI X hx hlk (t := .boolean) (w' := (.int (0 : Int32))) Bd.returns (hb hby own_d_jdk_42_method_66_code_55) rfl rfl (by simp) (by decide) (by decide) ?_
  rw [eT]
  exact ⟨rfl, N, rfl⟩
theorem ef_lq2_2 (m : MethodId) (x0 : Addr) (x1 : Addr) : entryFrame m #[(.ref x0), (.ref x1)] 3 = mkF m 0 #[.val (.ref x0), .val (.ref x1), .unset] [] := by first | (simp [entryFrame, mkF, argsToLocals, Value.category]; done) | rfl
def Q_lq2_2 (Z : State) (b1 b2 : Addr) (x0 x1 : Int32) (h0 : Heap) (n0 : Nat) (v : Option Value) (h : Heap) (L : List Loc) : Prop := v = some (.int (own_eqv [x0, x1] [(45 : Int32), (104 : Int32)])) ∧ Fr n0 L ∧ h = h0
set_option maxRecDepth 65536 in
set_option maxHeartbeats 40000000 in
theorem rm_lq2_2 (l : Launch) (Z : State) (a0 : Array Value) (hw : ∀ d ∈ tables_1, d.before a0 Z = true) (ws : List Jvm.Cond) (b1 b2 : Addr) (x0 x1 : Int32) (h0 : Heap) (n0 : Nat) (Z0 : n0 ≤ h0.size) (k1 k2 : ClassId) (A_1 : Arv Z h0 b1 k1 .byte (2 : Int32) [(.int x0), (.int x1)] (.int (0 : Int32))) (A_2 : Arv Z h0 b2 k2 .byte (2 : Int32) [(.int (45 : Int32)), (.int (104 : Int32))] (.int (0 : Int32))) :
    MetFree l (⟨"java/lang/StringLatin1", "equals", "([B[B)Z"⟩ : MethodName) (head1 (Jvm.Cond.code (⟨"java/lang/StringLatin1", "equals", "([B[B)Z"⟩ : MethodName) jdk_43_method_13_code 3 (some .boolean) :: ws) ({ frames := 0, cells := 0, slots := 0, locals := 0 } : Room)) (fun a U => a = #[(.ref b1), (.ref b2)] ∧ Z.Warmed39 U.vm ∧ U.heap = h0) (fun _ _ _ _ _ => True) (fun _ U o U' => ∃ v L, o = .returned v ∧ Q_lq2_2 Z b1 b2 x0 x1 h0 n0 v U'.heap L ∧ FrameEnd U o U' L ({ frames := 0, cells := 0, slots := 0, locals := 0 } : Room).cells ({ frames := 0, cells := 0, slots := 0, locals := 0 } : Room).slots) := by
  refine MetFree.of_bodySF (plainFor_of_name own_pn_java_lang_StringLatin1) hisR ?_
  intro p e s m args below meth c s₁ Bd hml0 hP hK
  obtain ⟨rfl, hZ, hh⟩ := hP
  have hx := Bd.exec
  have hby := Bd.bytes
  have hml : c.maxLocals = 3 := hml0
  have hown : s.vm.findClass "java/lang/StringLatin1" = some m.cls := findClass_of_methodNamed Bd.named
  have hnm := (name_of_methodNamed Bd.named Bd.method).1
  have hlk := Bd.notSynchronized
  obtain ⟨lc, hlc⟩ : ∃ lc : List Loc, lc = [] := ⟨_, rfl⟩
  have X : Stand p l e ({ frames := 0, cells := 0, slots := 0, locals := 0 } : Room) s m #[(.ref b1), (.ref b2)] below meth c s₁ lc 0 0 := hlc ▸ Stand.of_body Bd
  have eT : s₁.heap = h0 := by rw [← hh, Bd.state]; rfl
  have N : Fr n0 lc := hlc ▸ Fr.nil n0
  refine own_enter (ef_lq2_2 m b1 b2) ?_
  obtain ⟨T, hT⟩ : ∃ T : State, T = s₁ := ⟨_, rfl⟩
  rw [← hT] at X eT ⊢
  show own_W p e below (own_Post s (Q_lq2_2 Z b1 b2 x0 x1 h0 n0) 0 0) T m 0 #[.val (.ref b1), .val (.ref b2), .unset] []
  refine own_aloadN X hx (hb hby own_d_jdk_43_method_13_code_0) (pc' := 1) rfl rfl rfl ?_
  refine own_arrlen X hx hZ eT A_1 (hb hby own_d_jdk_43_method_13_code_1) (pc' := 2) rfl ?_
  refine own_aloadN X hx (hb hby own_d_jdk_43_method_13_code_2) (pc' := 3) rfl rfl rfl ?_
  refine own_arrlen X hx hZ eT A_2 (hb hby own_d_jdk_43_method_13_code_3) (pc' := 4) rfl ?_
  refine own_icmpN X hx (hb hby own_d_jdk_43_method_13_code_4) (pc' := 7) rfl (show (2 : Int32) = (2 : Int32) from (by decide)) ?_
  refine own_iconst X hx (0 : Int32) (hb hby own_d_jdk_43_method_13_code_7) (pc' := 8) rfl rfl ?_
  refine own_istoreN X hx (hb hby own_d_jdk_43_method_13_code_8) (pc' := 9) rfl (Ls' := #[.val (.ref b1), .val (.ref b2), .val (.int (0 : Int32))]) rfl ?_
  refine own_iloadN X hx (hb hby own_d_jdk_43_method_13_code_9) (pc' := 10) rfl rfl ?_
  refine own_aloadN X hx (hb hby own_d_jdk_43_method_13_code_10) (pc' := 11) rfl rfl rfl ?_
  refine own_arrlen X hx hZ eT A_1 (hb hby own_d_jdk_43_method_13_code_11) (pc' := 12) rfl ?_
  refine own_icmpN X hx (hb hby own_d_jdk_43_method_13_code_12) (pc' := 15) rfl (show (0 : Int32) < (2 : Int32) from (by decide)) ?_
  refine own_aloadN X hx (hb hby own_d_jdk_43_method_13_code_15) (pc' := 16) rfl rfl rfl ?_
  refine own_iloadN X hx (hb hby own_d_jdk_43_method_13_code_16) (pc' := 17) rfl rfl ?_
  refine own_baloadB X hx hZ eT A_1 (v := (.int x0)) (by decide) rfl (hb hby own_d_jdk_43_method_13_code_17) (pc' := 18) rfl ?_
  refine own_aloadN X hx (hb hby own_d_jdk_43_method_13_code_18) (pc' := 19) rfl rfl rfl ?_
  refine own_iloadN X hx (hb hby own_d_jdk_43_method_13_code_19) (pc' := 20) rfl rfl ?_
  refine own_baloadB X hx hZ eT A_2 (v := (.int (45 : Int32))) (by decide) rfl (hb hby own_d_jdk_43_method_13_code_20) (pc' := 21) rfl ?_
  refine own_icmp X hx (hb hby own_d_jdk_43_method_13_code_21) (by decide) (pcY := 26) (pcN := 24) rfl rfl (fun (hc21 : x0 = (45 : Int32)) => ?_) (fun (hc21 : ¬ (x0 = (45 : Int32))) => ?_)
  · refine own_iinc X hx (1 : Int32) (hb hby own_d_jdk_43_method_13_code_26) (pc' := 29) rfl rfl rfl (Ls' := #[.val (.ref b1), .val (.ref b2), .val (.int (1 : Int32))]) rfl ?_
    refine own_goto X hx (hb hby own_d_jdk_43_method_13_code_29) (by decide) (pc' := 9) rfl ?_
    refine own_iloadN X hx (hb hby own_d_jdk_43_method_13_code_9) (pc' := 10) rfl rfl ?_
    refine own_aloadN X hx (hb hby own_d_jdk_43_method_13_code_10) (pc' := 11) rfl rfl rfl ?_
    refine own_arrlen X hx hZ eT A_1 (hb hby own_d_jdk_43_method_13_code_11) (pc' := 12) rfl ?_
    refine own_icmpN X hx (hb hby own_d_jdk_43_method_13_code_12) (pc' := 15) rfl (show (1 : Int32) < (2 : Int32) from (by decide)) ?_
    refine own_aloadN X hx (hb hby own_d_jdk_43_method_13_code_15) (pc' := 16) rfl rfl rfl ?_
    refine own_iloadN X hx (hb hby own_d_jdk_43_method_13_code_16) (pc' := 17) rfl rfl ?_
    refine own_baloadB X hx hZ eT A_1 (v := (.int x1)) (by decide) rfl (hb hby own_d_jdk_43_method_13_code_17) (pc' := 18) rfl ?_
    refine own_aloadN X hx (hb hby own_d_jdk_43_method_13_code_18) (pc' := 19) rfl rfl rfl ?_
    refine own_iloadN X hx (hb hby own_d_jdk_43_method_13_code_19) (pc' := 20) rfl rfl ?_
    refine own_baloadB X hx hZ eT A_2 (v := (.int (104 : Int32))) (by decide) rfl (hb hby own_d_jdk_43_method_13_code_20) (pc' := 21) rfl ?_
    refine own_icmp X hx (hb hby own_d_jdk_43_method_13_code_21) (by decide) (pcY := 26) (pcN := 24) rfl rfl (fun (hc21_2 : x1 = (104 : Int32)) => ?_) (fun (hc21_2 : ¬ (x1 = (104 : Int32))) => ?_)
    · refine own_iinc X hx (1 : Int32) (hb hby own_d_jdk_43_method_13_code_26) (pc' := 29) rfl rfl rfl (Ls' := #[.val (.ref b1), .val (.ref b2), .val (.int (2 : Int32))]) rfl ?_
      refine own_goto X hx (hb hby own_d_jdk_43_method_13_code_29) (by decide) (pc' := 9) rfl ?_
      refine own_iloadN X hx (hb hby own_d_jdk_43_method_13_code_9) (pc' := 10) rfl rfl ?_
      refine own_aloadN X hx (hb hby own_d_jdk_43_method_13_code_10) (pc' := 11) rfl rfl rfl ?_
      refine own_arrlen X hx hZ eT A_1 (hb hby own_d_jdk_43_method_13_code_11) (pc' := 12) rfl ?_
      refine own_icmpY X hx (hb hby own_d_jdk_43_method_13_code_12) (by decide) (pc' := 32) rfl (show ¬ ((2 : Int32) < (2 : Int32)) from (by decide)) ?_
      refine own_iconst X hx (1 : Int32) (hb hby own_d_jdk_43_method_13_code_32) (pc' := 33) rfl rfl ?_
      refine own_retI X hx hlk (t := .boolean) (w' := (.int (1 : Int32))) Bd.returns (hb hby own_d_jdk_43_method_13_code_33) rfl rfl (by simp) (by decide) (by decide) ?_
      rw [eT]
      exact ⟨by simp [own_eqv, hc21, hc21_2], N, rfl⟩
    · refine own_iconst X hx (0 : Int32) (hb hby own_d_jdk_43_method_13_code_24) (pc' := 25) rfl rfl ?_
      refine own_retI X hx hlk (t := .boolean) (w' := (.int (0 : Int32))) Bd.returns (hb hby own_d_jdk_43_method_13_code_25) rfl rfl (by simp) (by decide) (by decide) ?_
      rw [eT]
      exact ⟨by simp [own_eqv, hc21, hc21_2], N, rfl⟩
  · refine own_iconst X hx (0 : Int32) (hb hby own_d_jdk_43_method_13_code_24) (pc' := 25) rfl rfl ?_
    refine own_retI X hx hlk (t := .boolean) (w' := (.int (0 : Int32))) Bd.returns (hb hby own_d_jdk_43_method_13_code_25) rfl rfl (by simp) (by decide) (by decide) ?_
    rw [eT]
    exact ⟨by simp [own_eqv, hc21], N, rfl⟩
theorem ef_eq2_2 (m : MethodId) (x0 : Addr) (x1 : Addr) : entryFrame m #[(.ref x0), (.ref x1)] 3 = mkF m 0 #[.val (.ref x0), .val (.ref x1), .unset] [] := by first | (simp [entryFrame, mkF, argsToLocals, Value.category]; done) | rfl
def Q_eq2_2 (Z : State) (a1 a2 b1 b2 : Addr) (cs : Int32) (x0 x1 : Int32) (h0 : Heap) (n0 : Nat) (v : Option Value) (h : Heap) (L : List Loc) : Prop := v = some (.int (own_eqv [x0, x1] [(45 : Int32), (104 : Int32)])) ∧ Fr n0 L ∧ h = h0
set_option maxRecDepth 65536 in
set_option maxHeartbeats 40000000 in
theorem rm_eq2_2 (l : Launch) (Z : State) (a0 : Array Value) (hw : ∀ d ∈ tables_1, d.before a0 Z = true) (ws : List Jvm.Cond) (a1 a2 b1 b2 : Addr) (cs : Int32) (x0 x1 : Int32) (h0 : Heap) (n0 : Nat) (Z0 : n0 ≤ h0.size) (S_C : Sta Z h0 "java/lang/String" "COMPACT_STRINGS" "Z" (.int cs)) (hcs : ¬ cs = 0) (E_1 : Exa Z h0 a1 "java/lang/String") (C_1 : Fld Z h0 a1 "java/lang/String" "coder" "B" (.int (0 : Int32))) (V_1 : Fld Z h0 a1 "java/lang/String" "value" "[B" (.ref b1)) (E_2 : Exa Z h0 a2 "java/lang/String") (C_2 : Fld Z h0 a2 "java/lang/String" "coder" "B" (.int (0 : Int32))) (V_2 : Fld Z h0 a2 "java/lang/String" "value" "[B" (.ref b2)) (k1 k2 : ClassId) (A_1 : Arv Z h0 b1 k1 .byte (2 : Int32) [(.int x0), (.int x1)] (.int (0 : Int32))) (A_2 : Arv Z h0 b2 k2 .byte (2 : Int32) [(.int (45 : Int32)), (.int (104 : Int32))] (.int (0 : Int32))) :
    MetFree l (⟨"java/lang/String", "equals", "(Ljava/lang/Object;)Z"⟩ : MethodName) (head1 (Jvm.Cond.code (⟨"java/lang/String", "equals", "(Ljava/lang/Object;)Z"⟩ : MethodName) jdk_42_method_66_code 3 (some .boolean) :: ws) ({ frames := 1, cells := 0, slots := 0, locals := 14 } : Room)) (fun a U => a = #[(.ref a1), (.ref a2)] ∧ Z.Warmed39 U.vm ∧ U.heap = h0) (fun _ _ _ _ _ => True) (fun _ U o U' => ∃ v L, o = .returned v ∧ Q_eq2_2 Z a1 a2 b1 b2 cs x0 x1 h0 n0 v U'.heap L ∧ FrameEnd U o U' L ({ frames := 1, cells := 0, slots := 0, locals := 14 } : Room).cells ({ frames := 1, cells := 0, slots := 0, locals := 14 } : Room).slots) := by
  refine MetFree.of_bodySF (plainFor_of_name own_pn_java_lang_String) hisR ?_
  intro p e s m args below meth c s₁ Bd hml0 hP hK
  obtain ⟨rfl, hZ, hh⟩ := hP
  have hx := Bd.exec
  have hby := Bd.bytes
  have hml : c.maxLocals = 3 := hml0
  have hown : s.vm.findClass "java/lang/String" = some m.cls := findClass_of_methodNamed Bd.named
  have hnm := (name_of_methodNamed Bd.named Bd.method).1
  have hlk := Bd.notSynchronized
  obtain ⟨lc, hlc⟩ : ∃ lc : List Loc, lc = [] := ⟨_, rfl⟩
  have X : Stand p l e ({ frames := 1, cells := 0, slots := 0, locals := 14 } : Room) s m #[(.ref a1), (.ref a2)] below meth c s₁ lc 0 0 := hlc ▸ Stand.of_body Bd
  have eT : s₁.heap = h0 := by rw [← hh, Bd.state]; rfl
  have N : Fr n0 lc := hlc ▸ Fr.nil n0
  refine own_enter (ef_eq2_2 m a1 a2) ?_
  obtain ⟨T, hT⟩ : ∃ T : State, T = s₁ := ⟨_, rfl⟩
  rw [← hT] at X eT ⊢
  show own_W p e below (own_Post s (Q_eq2_2 Z a1 a2 b1 b2 cs x0 x1 h0 n0) 0 0) T m 0 #[.val (.ref a1), .val (.ref a2), .unset] []
  refine own_aloadN X hx (hb hby own_d_jdk_42_method_66_code_0) (pc' := 1) rfl rfl rfl ?_
  refine own_aloadN X hx (hb hby own_d_jdk_42_method_66_code_1) (pc' := 2) rfl rfl rfl ?_
  refine own_acmpne X hx (hb hby own_d_jdk_42_method_66_code_2) (by decide) (pcY := 7) (pcN := 5) rfl rfl (fun (hc2 : ¬ (a1 = a2)) => ?_) (fun (hc2 : a1 = a2) => ?_)
  · refine own_aloadN X hx (hb hby own_d_jdk_42_method_66_code_7) (pc' := 8) rfl rfl rfl ?_
    refine own_inst X hx hZ hown (own_w hw 46 rfl) eT E_2 (hb hby own_d_jdk_42_method_66_code_8) (pc' := 11) rfl ?_
    intro T X eT
    refine own_ifN X hx (hb hby own_d_jdk_42_method_66_code_11) (pc' := 14) rfl (show ¬ ((1 : Int32) = (0 : Int32)) from (by decide)) ?_
    refine own_aloadN X hx (hb hby own_d_jdk_42_method_66_code_14) (pc' := 15) rfl rfl rfl ?_
    refine own_cast X hx hZ hown (own_w hw 46 rfl) eT E_2 (hb hby own_d_jdk_42_method_66_code_15) (pc' := 18) rfl ?_
    intro T X eT
    refine own_astoreN X hx (hb hby own_d_jdk_42_method_66_code_18) (pc' := 19) rfl rfl (Ls' := #[.val (.ref a1), .val (.ref a2), .val (.ref a2)]) rfl ?_
    refine own_getS X hx hZ hown (host := "") (Or.inl (own_w hw 47 rfl)) Via.refl eT S_C (hb hby own_d_jdk_42_method_66_code_19) (pc' := 22) rfl ?_
    intro T X eT
    refine own_ifN X hx (hb hby own_d_jdk_42_method_66_code_22) (pc' := 25) rfl (show ¬ (cs = (0 : Int32)) from hcs) ?_
    refine own_aloadN X hx (hb hby own_d_jdk_42_method_66_code_25) (pc' := 26) rfl rfl rfl ?_
    refine own_getF X hx hZ hown (host := "") (Or.inl (own_w hw 35 rfl)) Via.refl eT C_1 (hb hby own_d_jdk_42_method_66_code_26) (pc' := 29) rfl ?_
    intro T X eT
    refine own_aloadN X hx (hb hby own_d_jdk_42_method_66_code_29) (pc' := 30) rfl rfl rfl ?_
    refine own_getF X hx hZ hown (host := "") (Or.inl (own_w hw 35 rfl)) Via.refl eT C_2 (hb hby own_d_jdk_42_method_66_code_30) (pc' := 33) rfl ?_
    intro T X eT
    refine own_icmpN X hx (hb hby own_d_jdk_42_method_66_code_33) (pc' := 36) rfl (show (0 : Int32) = (0 : Int32) from (by decide)) ?_
    refine own_aloadN X hx (hb hby own_d_jdk_42_method_66_code_36) (pc' := 37) rfl rfl rfl ?_
    refine own_getF X hx hZ hown (host := "") (Or.inl (own_w hw 34 rfl)) Via.refl eT V_1 (hb hby own_d_jdk_42_method_66_code_37) (pc' := 40) rfl ?_
    intro T X eT
    refine own_aloadN X hx (hb hby own_d_jdk_42_method_66_code_40) (pc' := 41) rfl rfl rfl ?_
    refine own_getF X hx hZ hown (host := "") (Or.inl (own_w hw 34 rfl)) Via.refl eT V_2 (hb hby own_d_jdk_42_method_66_code_41) (pc' := 44) rfl ?_
    intro T X eT
    refine own_callS X hx hZ [(.ref b1), (.ref b2)] hown (own_w hw 48 rfl) (own_w hw 49 rfl) (own_w hw 50 rfl) (own_w hw 51 rfl) (by decide) (rm_lq2_2 l Z a0 hw [] b1 b2 x0 x1 h0 n0 Z0 _ _ A_1 A_2) eT (W := 0) (by decide) (by decide) (cells' := 0) (slots' := 0) rfl rfl (by decide) (by decide) (by rw [hml]; rfl) (lenOf own_pd_285bB5bB29Z rfl) rfl (S := []) rfl (Nat.le_of_eq rfl) (hb hby own_d_jdk_42_method_66_code_44) (pc' := 47) rfl ?_
    intro v T h1 L lc X eT hq fN
    obtain ⟨rfl, Nq, hqe⟩ := hq
    have N := fN _ N Nq
    rw [hqe] at eT
    show own_W p e below (own_Post s (Q_eq2_2 Z a1 a2 b1 b2 cs x0 x1 h0 n0) 0 0) T m 47 #[.val (.ref a1), .val (.ref a2), .val (.ref a2)] [(.int (own_eqv [x0, x1] [(45 : Int32), (104 : Int32)]))]
    refine own_if X hx (hb hby own_d_jdk_42_method_66_code_47) (by decide) (pcY := 54) (pcN := 50) rfl rfl (fun (hc47 : (own_eqv [x0, x1] [(45 : Int32), (104 : Int32)]) = (0 : Int32)) => ?_) (fun (hc47 : ¬ ((own_eqv [x0, x1] [(45 : Int32), (104 : Int32)]) = (0 : Int32))) => ?_)
    · refine own_iconst X hx (0 : Int32) (hb hby own_d_jdk_42_method_66_code_54) (pc' := 55) rfl rfl ?_
      refine own_retI X hx hlk (t := .boolean) (w' := (.int (0 : Int32))) Bd.returns (hb hby own_d_jdk_42_method_66_code_55) rfl rfl (by simp) (by decide) (by decide) ?_
      rw [eT]
      exact ⟨congrArg (fun z => some (Value.int z)) (own_e0 hc47), N, rfl⟩
    · refine own_iconst X hx (1 : Int32) (hb hby own_d_jdk_42_method_66_code_50) (pc' := 51) rfl rfl ?_
      refine own_goto X hx (hb hby own_d_jdk_42_method_66_code_51) (by decide) (pc' := 55) rfl ?_
      refine own_retI X hx hlk (t := .boolean) (w' := (.int (1 : Int32))) Bd.returns (hb hby own_d_jdk_42_method_66_code_55) rfl rfl (by simp) (by decide) (by decide) ?_
      rw [eT]
      exact ⟨congrArg (fun z => some (Value.int z)) (own_e1 hc47), N, rfl⟩
  · refine own_iconst X hx (1 : Int32) (hb hby own_d_jdk_42_method_66_code_5) (pc' := 6) rfl rfl ?_
    refine own_retI X hx hlk (t := .boolean) (w' := (.int (1 : Int32))) Bd.returns (hb hby own_d_jdk_42_method_66_code_6) rfl rfl (by simp) (by decide) (by decide) ?_
    rw [eT]
    subst hc2
    have q2 := Value.ref.inj (own_fld_at V_1 V_2)
    subst q2
    have y0 : x0 = (45 : Int32) := Value.int.inj (own_arv_at A_1 A_2 0 (by decide))
    have y1 : x1 = (104 : Int32) := Value.int.inj (own_arv_at A_1 A_2 1 (by decide))
    exact ⟨by simp [own_eqv, y0, y1], N, rfl⟩
theorem ef_lq3_2 (m : MethodId) (x0 : Addr) (x1 : Addr) : entryFrame m #[(.ref x0), (.ref x1)] 3 = mkF m 0 #[.val (.ref x0), .val (.ref x1), .unset] [] := by first | (simp [entryFrame, mkF, argsToLocals, Value.category]; done) | rfl
def Q_lq3_2 (Z : State) (b1 b2 : Addr) (x0 x1 x2 : Int32) (h0 : Heap) (n0 : Nat) (v : Option Value) (h : Heap) (L : List Loc) : Prop := v = some (.int (0 : Int32)) ∧ Fr n0 L ∧ h = h0
set_option maxRecDepth 65536 in
set_option maxHeartbeats 40000000 in
theorem rm_lq3_2 (l : Launch) (Z : State) (a0 : Array Value) (hw : ∀ d ∈ tables_1, d.before a0 Z = true) (ws : List Jvm.Cond) (b1 b2 : Addr) (x0 x1 x2 : Int32) (h0 : Heap) (n0 : Nat) (Z0 : n0 ≤ h0.size) (k1 k2 : ClassId) (A_1 : Arv Z h0 b1 k1 .byte (3 : Int32) [(.int x0), (.int x1), (.int x2)] (.int (0 : Int32))) (A_2 : Arv Z h0 b2 k2 .byte (2 : Int32) [(.int (45 : Int32)), (.int (104 : Int32))] (.int (0 : Int32))) :
    MetFree l (⟨"java/lang/StringLatin1", "equals", "([B[B)Z"⟩ : MethodName) (head1 (Jvm.Cond.code (⟨"java/lang/StringLatin1", "equals", "([B[B)Z"⟩ : MethodName) jdk_43_method_13_code 3 (some .boolean) :: ws) ({ frames := 0, cells := 0, slots := 0, locals := 0 } : Room)) (fun a U => a = #[(.ref b1), (.ref b2)] ∧ Z.Warmed39 U.vm ∧ U.heap = h0) (fun _ _ _ _ _ => True) (fun _ U o U' => ∃ v L, o = .returned v ∧ Q_lq3_2 Z b1 b2 x0 x1 x2 h0 n0 v U'.heap L ∧ FrameEnd U o U' L ({ frames := 0, cells := 0, slots := 0, locals := 0 } : Room).cells ({ frames := 0, cells := 0, slots := 0, locals := 0 } : Room).slots) := by
  refine MetFree.of_bodySF (plainFor_of_name own_pn_java_lang_StringLatin1) hisR ?_
  intro p e s m args below meth c s₁ Bd hml0 hP hK
  obtain ⟨rfl, hZ, hh⟩ := hP
  have hx := Bd.exec
  have hby := Bd.bytes
  have hml : c.maxLocals = 3 := hml0
  have hown : s.vm.findClass "java/lang/StringLatin1" = some m.cls := findClass_of_methodNamed Bd.named
  have hnm := (name_of_methodNamed Bd.named Bd.method).1
  have hlk := Bd.notSynchronized
  obtain ⟨lc, hlc⟩ : ∃ lc : List Loc, lc = [] := ⟨_, rfl⟩
  have X : Stand p l e ({ frames := 0, cells := 0, slots := 0, locals := 0 } : Room) s m #[(.ref b1), (.ref b2)] below meth c s₁ lc 0 0 := hlc ▸ Stand.of_body Bd
  have eT : s₁.heap = h0 := by rw [← hh, Bd.state]; rfl
  have N : Fr n0 lc := hlc ▸ Fr.nil n0
  refine own_enter (ef_lq3_2 m b1 b2) ?_
  obtain ⟨T, hT⟩ : ∃ T : State, T = s₁ := ⟨_, rfl⟩
  rw [← hT] at X eT ⊢
  show own_W p e below (own_Post s (Q_lq3_2 Z b1 b2 x0 x1 x2 h0 n0) 0 0) T m 0 #[.val (.ref b1), .val (.ref b2), .unset] []
  refine own_aloadN X hx (hb hby own_d_jdk_43_method_13_code_0) (pc' := 1) rfl rfl rfl ?_
  refine own_arrlen X hx hZ eT A_1 (hb hby own_d_jdk_43_method_13_code_1) (pc' := 2) rfl ?_
  refine own_aloadN X hx (hb hby own_d_jdk_43_method_13_code_2) (pc' := 3) rfl rfl rfl ?_
  refine own_arrlen X hx hZ eT A_2 (hb hby own_d_jdk_43_method_13_code_3) (pc' := 4) rfl ?_
  refine own_icmpY X hx (hb hby own_d_jdk_43_method_13_code_4) (by decide) (pc' := 34) rfl (show ¬ ((3 : Int32) = (2 : Int32)) from (by decide)) ?_
  refine own_iconst X hx (0 : Int32) (hb hby own_d_jdk_43_method_13_code_34) (pc' := 35) rfl rfl ?_
  refine own_retI X hx hlk (t := .boolean) (w' := (.int (0 : Int32))) Bd.returns (hb hby own_d_jdk_43_method_13_code_35) rfl rfl (by simp) (by decide) (by decide) ?_
  rw [eT]
  exact ⟨rfl, N, rfl⟩
theorem ef_eq3_2 (m : MethodId) (x0 : Addr) (x1 : Addr) : entryFrame m #[(.ref x0), (.ref x1)] 3 = mkF m 0 #[.val (.ref x0), .val (.ref x1), .unset] [] := by first | (simp [entryFrame, mkF, argsToLocals, Value.category]; done) | rfl
def Q_eq3_2 (Z : State) (a1 a2 b1 b2 : Addr) (cs : Int32) (x0 x1 x2 : Int32) (h0 : Heap) (n0 : Nat) (v : Option Value) (h : Heap) (L : List Loc) : Prop := v = some (.int (0 : Int32)) ∧ Fr n0 L ∧ h = h0
set_option maxRecDepth 65536 in
set_option maxHeartbeats 40000000 in
theorem rm_eq3_2 (l : Launch) (Z : State) (a0 : Array Value) (hw : ∀ d ∈ tables_1, d.before a0 Z = true) (ws : List Jvm.Cond) (a1 a2 b1 b2 : Addr) (cs : Int32) (x0 x1 x2 : Int32) (h0 : Heap) (n0 : Nat) (Z0 : n0 ≤ h0.size) (S_C : Sta Z h0 "java/lang/String" "COMPACT_STRINGS" "Z" (.int cs)) (hcs : ¬ cs = 0) (E_1 : Exa Z h0 a1 "java/lang/String") (C_1 : Fld Z h0 a1 "java/lang/String" "coder" "B" (.int (0 : Int32))) (V_1 : Fld Z h0 a1 "java/lang/String" "value" "[B" (.ref b1)) (E_2 : Exa Z h0 a2 "java/lang/String") (C_2 : Fld Z h0 a2 "java/lang/String" "coder" "B" (.int (0 : Int32))) (V_2 : Fld Z h0 a2 "java/lang/String" "value" "[B" (.ref b2)) (k1 k2 : ClassId) (A_1 : Arv Z h0 b1 k1 .byte (3 : Int32) [(.int x0), (.int x1), (.int x2)] (.int (0 : Int32))) (A_2 : Arv Z h0 b2 k2 .byte (2 : Int32) [(.int (45 : Int32)), (.int (104 : Int32))] (.int (0 : Int32))) :
    MetFree l (⟨"java/lang/String", "equals", "(Ljava/lang/Object;)Z"⟩ : MethodName) (head1 (Jvm.Cond.code (⟨"java/lang/String", "equals", "(Ljava/lang/Object;)Z"⟩ : MethodName) jdk_42_method_66_code 3 (some .boolean) :: ws) ({ frames := 1, cells := 0, slots := 0, locals := 14 } : Room)) (fun a U => a = #[(.ref a1), (.ref a2)] ∧ Z.Warmed39 U.vm ∧ U.heap = h0) (fun _ _ _ _ _ => True) (fun _ U o U' => ∃ v L, o = .returned v ∧ Q_eq3_2 Z a1 a2 b1 b2 cs x0 x1 x2 h0 n0 v U'.heap L ∧ FrameEnd U o U' L ({ frames := 1, cells := 0, slots := 0, locals := 14 } : Room).cells ({ frames := 1, cells := 0, slots := 0, locals := 14 } : Room).slots) := by
  refine MetFree.of_bodySF (plainFor_of_name own_pn_java_lang_String) hisR ?_
  intro p e s m args below meth c s₁ Bd hml0 hP hK
  obtain ⟨rfl, hZ, hh⟩ := hP
  have hx := Bd.exec
  have hby := Bd.bytes
  have hml : c.maxLocals = 3 := hml0
  have hown : s.vm.findClass "java/lang/String" = some m.cls := findClass_of_methodNamed Bd.named
  have hnm := (name_of_methodNamed Bd.named Bd.method).1
  have hlk := Bd.notSynchronized
  obtain ⟨lc, hlc⟩ : ∃ lc : List Loc, lc = [] := ⟨_, rfl⟩
  have X : Stand p l e ({ frames := 1, cells := 0, slots := 0, locals := 14 } : Room) s m #[(.ref a1), (.ref a2)] below meth c s₁ lc 0 0 := hlc ▸ Stand.of_body Bd
  have eT : s₁.heap = h0 := by rw [← hh, Bd.state]; rfl
  have N : Fr n0 lc := hlc ▸ Fr.nil n0
  refine own_enter (ef_eq3_2 m a1 a2) ?_
  obtain ⟨T, hT⟩ : ∃ T : State, T = s₁ := ⟨_, rfl⟩
  rw [← hT] at X eT ⊢
  show own_W p e below (own_Post s (Q_eq3_2 Z a1 a2 b1 b2 cs x0 x1 x2 h0 n0) 0 0) T m 0 #[.val (.ref a1), .val (.ref a2), .unset] []
  have hd12 : ¬ a1 = a2 := fun q => by
    subst q
    have q2 := Value.ref.inj (own_fld_at V_1 V_2)
    subst q2
    exact arv_ne A_1 A_2 (Or.inl (by decide)) rfl
  refine own_aloadN X hx (hb hby own_d_jdk_42_method_66_code_0) (pc' := 1) rfl rfl rfl ?_
  refine own_aloadN X hx (hb hby own_d_jdk_42_method_66_code_1) (pc' := 2) rfl rfl rfl ?_
  refine own_acmpY X hx (hb hby own_d_jdk_42_method_66_code_2) (by decide) (pc' := 7) rfl rfl rfl (XT.aa_ne_t fun q => hd12 (Value.ref.inj q)) ?_
  refine own_aloadN X hx (hb hby own_d_jdk_42_method_66_code_7) (pc' := 8) rfl rfl rfl ?_
  refine own_inst X hx hZ hown (own_w hw 46 rfl) eT E_2 (hb hby own_d_jdk_42_method_66_code_8) (pc' := 11) rfl ?_
  intro T X eT
  refine own_ifN X hx (hb hby own_d_jdk_42_method_66_code_11) (pc' := 14) rfl (show ¬ ((1 : Int32) = (0 : Int32)) from (by decide)) ?_
  refine own_aloadN X hx (hb hby own_d_jdk_42_method_66_code_14) (pc' := 15) rfl rfl rfl ?_
  refine own_cast X hx hZ hown (own_w hw 46 rfl) eT E_2 (hb hby own_d_jdk_42_method_66_code_15) (pc' := 18) rfl ?_
  intro T X eT
  refine own_astoreN X hx (hb hby own_d_jdk_42_method_66_code_18) (pc' := 19) rfl rfl (Ls' := #[.val (.ref a1), .val (.ref a2), .val (.ref a2)]) rfl ?_
  refine own_getS X hx hZ hown (host := "") (Or.inl (own_w hw 47 rfl)) Via.refl eT S_C (hb hby own_d_jdk_42_method_66_code_19) (pc' := 22) rfl ?_
  intro T X eT
  refine own_ifN X hx (hb hby own_d_jdk_42_method_66_code_22) (pc' := 25) rfl (show ¬ (cs = (0 : Int32)) from hcs) ?_
  refine own_aloadN X hx (hb hby own_d_jdk_42_method_66_code_25) (pc' := 26) rfl rfl rfl ?_
  refine own_getF X hx hZ hown (host := "") (Or.inl (own_w hw 35 rfl)) Via.refl eT C_1 (hb hby own_d_jdk_42_method_66_code_26) (pc' := 29) rfl ?_
  intro T X eT
  refine own_aloadN X hx (hb hby own_d_jdk_42_method_66_code_29) (pc' := 30) rfl rfl rfl ?_
  refine own_getF X hx hZ hown (host := "") (Or.inl (own_w hw 35 rfl)) Via.refl eT C_2 (hb hby own_d_jdk_42_method_66_code_30) (pc' := 33) rfl ?_
  intro T X eT
  refine own_icmpN X hx (hb hby own_d_jdk_42_method_66_code_33) (pc' := 36) rfl (show (0 : Int32) = (0 : Int32) from (by decide)) ?_
  refine own_aloadN X hx (hb hby own_d_jdk_42_method_66_code_36) (pc' := 37) rfl rfl rfl ?_
  refine own_getF X hx hZ hown (host := "") (Or.inl (own_w hw 34 rfl)) Via.refl eT V_1 (hb hby own_d_jdk_42_method_66_code_37) (pc' := 40) rfl ?_
  intro T X eT
  refine own_aloadN X hx (hb hby own_d_jdk_42_method_66_code_40) (pc' := 41) rfl rfl rfl ?_
  refine own_getF X hx hZ hown (host := "") (Or.inl (own_w hw 34 rfl)) Via.refl eT V_2 (hb hby own_d_jdk_42_method_66_code_41) (pc' := 44) rfl ?_
  intro T X eT
  refine own_callS X hx hZ [(.ref b1), (.ref b2)] hown (own_w hw 48 rfl) (own_w hw 49 rfl) (own_w hw 50 rfl) (own_w hw 51 rfl) (by decide) (rm_lq3_2 l Z a0 hw [] b1 b2 x0 x1 x2 h0 n0 Z0 _ _ A_1 A_2) eT (W := 0) (by decide) (by decide) (cells' := 0) (slots' := 0) rfl rfl (by decide) (by decide) (by rw [hml]; rfl) (lenOf own_pd_285bB5bB29Z rfl) rfl (S := []) rfl (Nat.le_of_eq rfl) (hb hby own_d_jdk_42_method_66_code_44) (pc' := 47) rfl ?_
  intro v T h1 L lc X eT hq fN
  obtain ⟨rfl, Nq, hqe⟩ := hq
  have N := fN _ N Nq
  rw [hqe] at eT
  show own_W p e below (own_Post s (Q_eq3_2 Z a1 a2 b1 b2 cs x0 x1 x2 h0 n0) 0 0) T m 47 #[.val (.ref a1), .val (.ref a2), .val (.ref a2)] [(.int (0 : Int32))]
  refine own_ifY X hx (hb hby own_d_jdk_42_method_66_code_47) (by decide) (pc' := 54) rfl (show (0 : Int32) = (0 : Int32) from (by decide)) ?_
  refine own_iconst X hx (0 : Int32) (hb hby own_d_jdk_42_method_66_code_54) (pc' := 55) rfl rfl ?_
  refine own_retI X hx hlk (t := .boolean) (w' := (.int (0 : Int32))) Bd.returns (hb hby own_d_jdk_42_method_66_code_55) rfl rfl (by simp) (by decide) (by decide) ?_
  rw [eT]
  exact ⟨rfl, N, rfl⟩
theorem ef_lq4_2 (m : MethodId) (x0 : Addr) (x1 : Addr) : entryFrame m #[(.ref x0), (.ref x1)] 3 = mkF m 0 #[.val (.ref x0), .val (.ref x1), .unset] [] := by first | (simp [entryFrame, mkF, argsToLocals, Value.category]; done) | rfl
def Q_lq4_2 (Z : State) (b1 b2 : Addr) (x0 x1 x2 x3 : Int32) (h0 : Heap) (n0 : Nat) (v : Option Value) (h : Heap) (L : List Loc) : Prop := v = some (.int (0 : Int32)) ∧ Fr n0 L ∧ h = h0
set_option maxRecDepth 65536 in
set_option maxHeartbeats 40000000 in
theorem rm_lq4_2 (l : Launch) (Z : State) (a0 : Array Value) (hw : ∀ d ∈ tables_1, d.before a0 Z = true) (ws : List Jvm.Cond) (b1 b2 : Addr) (x0 x1 x2 x3 : Int32) (h0 : Heap) (n0 : Nat) (Z0 : n0 ≤ h0.size) (k1 k2 : ClassId) (A_1 : Arv Z h0 b1 k1 .byte (4 : Int32) [(.int x0), (.int x1), (.int x2), (.int x3)] (.int (0 : Int32))) (A_2 : Arv Z h0 b2 k2 .byte (2 : Int32) [(.int (45 : Int32)), (.int (104 : Int32))] (.int (0 : Int32))) :
    MetFree l (⟨"java/lang/StringLatin1", "equals", "([B[B)Z"⟩ : MethodName) (head1 (Jvm.Cond.code (⟨"java/lang/StringLatin1", "equals", "([B[B)Z"⟩ : MethodName) jdk_43_method_13_code 3 (some .boolean) :: ws) ({ frames := 0, cells := 0, slots := 0, locals := 0 } : Room)) (fun a U => a = #[(.ref b1), (.ref b2)] ∧ Z.Warmed39 U.vm ∧ U.heap = h0) (fun _ _ _ _ _ => True) (fun _ U o U' => ∃ v L, o = .returned v ∧ Q_lq4_2 Z b1 b2 x0 x1 x2 x3 h0 n0 v U'.heap L ∧ FrameEnd U o U' L ({ frames := 0, cells := 0, slots := 0, locals := 0 } : Room).cells ({ frames := 0, cells := 0, slots := 0, locals := 0 } : Room).slots) := by
  refine MetFree.of_bodySF (plainFor_of_name own_pn_java_lang_StringLatin1) hisR ?_
  intro p e s m args below meth c s₁ Bd hml0 hP hK
  obtain ⟨rfl, hZ, hh⟩ := hP
  have hx := Bd.exec
  have hby := Bd.bytes
  have hml : c.maxLocals = 3 := hml0
  have hown : s.vm.findClass "java/lang/StringLatin1" = some m.cls := findClass_of_methodNamed Bd.named
  have hnm := (name_of_methodNamed Bd.named Bd.method).1
  have hlk := Bd.notSynchronized
  obtain ⟨lc, hlc⟩ : ∃ lc : List Loc, lc = [] := ⟨_, rfl⟩
  have X : Stand p l e ({ frames := 0, cells := 0, slots := 0, locals := 0 } : Room) s m #[(.ref b1), (.ref b2)] below meth c s₁ lc 0 0 := hlc ▸ Stand.of_body Bd
  have eT : s₁.heap = h0 := by rw [← hh, Bd.state]; rfl
  have N : Fr n0 lc := hlc ▸ Fr.nil n0
  refine own_enter (ef_lq4_2 m b1 b2) ?_
  obtain ⟨T, hT⟩ : ∃ T : State, T = s₁ := ⟨_, rfl⟩
  rw [← hT] at X eT ⊢
  show own_W p e below (own_Post s (Q_lq4_2 Z b1 b2 x0 x1 x2 x3 h0 n0) 0 0) T m 0 #[.val (.ref b1), .val (.ref b2), .unset] []
  refine own_aloadN X hx (hb hby own_d_jdk_43_method_13_code_0) (pc' := 1) rfl rfl rfl ?_
  refine own_arrlen X hx hZ eT A_1 (hb hby own_d_jdk_43_method_13_code_1) (pc' := 2) rfl ?_
  refine own_aloadN X hx (hb hby own_d_jdk_43_method_13_code_2) (pc' := 3) rfl rfl rfl ?_
  refine own_arrlen X hx hZ eT A_2 (hb hby own_d_jdk_43_method_13_code_3) (pc' := 4) rfl ?_
  refine own_icmpY X hx (hb hby own_d_jdk_43_method_13_code_4) (by decide) (pc' := 34) rfl (show ¬ ((4 : Int32) = (2 : Int32)) from (by decide)) ?_
  refine own_iconst X hx (0 : Int32) (hb hby own_d_jdk_43_method_13_code_34) (pc' := 35) rfl rfl ?_
  refine own_retI X hx hlk (t := .boolean) (w' := (.int (0 : Int32))) Bd.returns (hb hby own_d_jdk_43_method_13_code_35) rfl rfl (by simp) (by decide) (by decide) ?_
  rw [eT]
  exact ⟨rfl, N, rfl⟩
theorem ef_eq4_2 (m : MethodId) (x0 : Addr) (x1 : Addr) : entryFrame m #[(.ref x0), (.ref x1)] 3 = mkF m 0 #[.val (.ref x0), .val (.ref x1), .unset] [] := by first | (simp [entryFrame, mkF, argsToLocals, Value.category]; done) | rfl
def Q_eq4_2 (Z : State) (a1 a2 b1 b2 : Addr) (cs : Int32) (x0 x1 x2 x3 : Int32) (h0 : Heap) (n0 : Nat) (v : Option Value) (h : Heap) (L : List Loc) : Prop := v = some (.int (0 : Int32)) ∧ Fr n0 L ∧ h = h0
set_option maxRecDepth 65536 in
set_option maxHeartbeats 40000000 in
theorem rm_eq4_2 (l : Launch) (Z : State) (a0 : Array Value) (hw : ∀ d ∈ tables_1, d.before a0 Z = true) (ws : List Jvm.Cond) (a1 a2 b1 b2 : Addr) (cs : Int32) (x0 x1 x2 x3 : Int32) (h0 : Heap) (n0 : Nat) (Z0 : n0 ≤ h0.size) (S_C : Sta Z h0 "java/lang/String" "COMPACT_STRINGS" "Z" (.int cs)) (hcs : ¬ cs = 0) (E_1 : Exa Z h0 a1 "java/lang/String") (C_1 : Fld Z h0 a1 "java/lang/String" "coder" "B" (.int (0 : Int32))) (V_1 : Fld Z h0 a1 "java/lang/String" "value" "[B" (.ref b1)) (E_2 : Exa Z h0 a2 "java/lang/String") (C_2 : Fld Z h0 a2 "java/lang/String" "coder" "B" (.int (0 : Int32))) (V_2 : Fld Z h0 a2 "java/lang/String" "value" "[B" (.ref b2)) (k1 k2 : ClassId) (A_1 : Arv Z h0 b1 k1 .byte (4 : Int32) [(.int x0), (.int x1), (.int x2), (.int x3)] (.int (0 : Int32))) (A_2 : Arv Z h0 b2 k2 .byte (2 : Int32) [(.int (45 : Int32)), (.int (104 : Int32))] (.int (0 : Int32))) :
    MetFree l (⟨"java/lang/String", "equals", "(Ljava/lang/Object;)Z"⟩ : MethodName) (head1 (Jvm.Cond.code (⟨"java/lang/String", "equals", "(Ljava/lang/Object;)Z"⟩ : MethodName) jdk_42_method_66_code 3 (some .boolean) :: ws) ({ frames := 1, cells := 0, slots := 0, locals := 14 } : Room)) (fun a U => a = #[(.ref a1), (.ref a2)] ∧ Z.Warmed39 U.vm ∧ U.heap = h0) (fun _ _ _ _ _ => True) (fun _ U o U' => ∃ v L, o = .returned v ∧ Q_eq4_2 Z a1 a2 b1 b2 cs x0 x1 x2 x3 h0 n0 v U'.heap L ∧ FrameEnd U o U' L ({ frames := 1, cells := 0, slots := 0, locals := 14 } : Room).cells ({ frames := 1, cells := 0, slots := 0, locals := 14 } : Room).slots) := by
  refine MetFree.of_bodySF (plainFor_of_name own_pn_java_lang_String) hisR ?_
  intro p e s m args below meth c s₁ Bd hml0 hP hK
  obtain ⟨rfl, hZ, hh⟩ := hP
  have hx := Bd.exec
  have hby := Bd.bytes
  have hml : c.maxLocals = 3 := hml0
  have hown : s.vm.findClass "java/lang/String" = some m.cls := findClass_of_methodNamed Bd.named
  have hnm := (name_of_methodNamed Bd.named Bd.method).1
  have hlk := Bd.notSynchronized
  obtain ⟨lc, hlc⟩ : ∃ lc : List Loc, lc = [] := ⟨_, rfl⟩
  have X : Stand p l e ({ frames := 1, cells := 0, slots := 0, locals := 14 } : Room) s m #[(.ref a1), (.ref a2)] below meth c s₁ lc 0 0 := hlc ▸ Stand.of_body Bd
  have eT : s₁.heap = h0 := by rw [← hh, Bd.state]; rfl
  have N : Fr n0 lc := hlc ▸ Fr.nil n0
  refine own_enter (ef_eq4_2 m a1 a2) ?_
  obtain ⟨T, hT⟩ : ∃ T : State, T = s₁ := ⟨_, rfl⟩
  rw [← hT] at X eT ⊢
  show own_W p e below (own_Post s (Q_eq4_2 Z a1 a2 b1 b2 cs x0 x1 x2 x3 h0 n0) 0 0) T m 0 #[.val (.ref a1), .val (.ref a2), .unset] []
  have hd12 : ¬ a1 = a2 := fun q => by
    subst q
    have q2 := Value.ref.inj (own_fld_at V_1 V_2)
    subst q2
    exact arv_ne A_1 A_2 (Or.inl (by decide)) rfl
  refine own_aloadN X hx (hb hby own_d_jdk_42_method_66_code_0) (pc' := 1) rfl rfl rfl ?_
  refine own_aloadN X hx (hb hby own_d_jdk_42_method_66_code_1) (pc' := 2) rfl rfl rfl ?_
  refine own_acmpY X hx (hb hby own_d_jdk_42_method_66_code_2) (by decide) (pc' := 7) rfl rfl rfl (XT.aa_ne_t fun q => hd12 (Value.ref.inj q)) ?_
  refine own_aloadN X hx (hb hby own_d_jdk_42_method_66_code_7) (pc' := 8) rfl rfl rfl ?_
  refine own_inst X hx hZ hown (own_w hw 46 rfl) eT E_2 (hb hby own_d_jdk_42_method_66_code_8) (pc' := 11) rfl ?_
  intro T X eT
  refine own_ifN X hx (hb hby own_d_jdk_42_method_66_code_11) (pc' := 14) rfl (show ¬ ((1 : Int32) = (0 : Int32)) from (by decide)) ?_
  refine own_aloadN X hx (hb hby own_d_jdk_42_method_66_code_14) (pc' := 15) rfl rfl rfl ?_
  refine own_cast X hx hZ hown (own_w hw 46 rfl) eT E_2 (hb hby own_d_jdk_42_method_66_code_15) (pc' := 18) rfl ?_
  intro T X eT
  refine own_astoreN X hx (hb hby own_d_jdk_42_method_66_code_18) (pc' := 19) rfl rfl (Ls' := #[.val (.ref a1), .val (.ref a2), .val (.ref a2)]) rfl ?_
  refine own_getS X hx hZ hown (host := "") (Or.inl (own_w hw 47 rfl)) Via.refl eT S_C (hb hby own_d_jdk_42_method_66_code_19) (pc' := 22) rfl ?_
  intro T X eT
  refine own_ifN X hx (hb hby own_d_jdk_42_method_66_code_22) (pc' := 25) rfl (show ¬ (cs = (0 : Int32)) from hcs) ?_
  refine own_aloadN X hx (hb hby own_d_jdk_42_method_66_code_25) (pc' := 26) rfl rfl rfl ?_
  refine own_getF X hx hZ hown (host := "") (Or.inl (own_w hw 35 rfl)) Via.refl eT C_1 (hb hby own_d_jdk_42_method_66_code_26) (pc' := 29) rfl ?_
  intro T X eT
  refine own_aloadN X hx (hb hby own_d_jdk_42_method_66_code_29) (pc' := 30) rfl rfl rfl ?_
  refine own_getF X hx hZ hown (host := "") (Or.inl (own_w hw 35 rfl)) Via.refl eT C_2 (hb hby own_d_jdk_42_method_66_code_30) (pc' := 33) rfl ?_
  intro T X eT
  refine own_icmpN X hx (hb hby own_d_jdk_42_method_66_code_33) (pc' := 36) rfl (show (0 : Int32) = (0 : Int32) from (by decide)) ?_
  refine own_aloadN X hx (hb hby own_d_jdk_42_method_66_code_36) (pc' := 37) rfl rfl rfl ?_
  refine own_getF X hx hZ hown (host := "") (Or.inl (own_w hw 34 rfl)) Via.refl eT V_1 (hb hby own_d_jdk_42_method_66_code_37) (pc' := 40) rfl ?_
  intro T X eT
  refine own_aloadN X hx (hb hby own_d_jdk_42_method_66_code_40) (pc' := 41) rfl rfl rfl ?_
  refine own_getF X hx hZ hown (host := "") (Or.inl (own_w hw 34 rfl)) Via.refl eT V_2 (hb hby own_d_jdk_42_method_66_code_41) (pc' := 44) rfl ?_
  intro T X eT
  refine own_callS X hx hZ [(.ref b1), (.ref b2)] hown (own_w hw 48 rfl) (own_w hw 49 rfl) (own_w hw 50 rfl) (own_w hw 51 rfl) (by decide) (rm_lq4_2 l Z a0 hw [] b1 b2 x0 x1 x2 x3 h0 n0 Z0 _ _ A_1 A_2) eT (W := 0) (by decide) (by decide) (cells' := 0) (slots' := 0) rfl rfl (by decide) (by decide) (by rw [hml]; rfl) (lenOf own_pd_285bB5bB29Z rfl) rfl (S := []) rfl (Nat.le_of_eq rfl) (hb hby own_d_jdk_42_method_66_code_44) (pc' := 47) rfl ?_
  intro v T h1 L lc X eT hq fN
  obtain ⟨rfl, Nq, hqe⟩ := hq
  have N := fN _ N Nq
  rw [hqe] at eT
  show own_W p e below (own_Post s (Q_eq4_2 Z a1 a2 b1 b2 cs x0 x1 x2 x3 h0 n0) 0 0) T m 47 #[.val (.ref a1), .val (.ref a2), .val (.ref a2)] [(.int (0 : Int32))]
  refine own_ifY X hx (hb hby own_d_jdk_42_method_66_code_47) (by decide) (pc' := 54) rfl (show (0 : Int32) = (0 : Int32) from (by decide)) ?_
  refine own_iconst X hx (0 : Int32) (hb hby own_d_jdk_42_method_66_code_54) (pc' := 55) rfl rfl ?_
  refine own_retI X hx hlk (t := .boolean) (w' := (.int (0 : Int32))) Bd.returns (hb hby own_d_jdk_42_method_66_code_55) rfl rfl (by simp) (by decide) (by decide) ?_
  rw [eT]
  exact ⟨rfl, N, rfl⟩
theorem ef_lq5_2 (m : MethodId) (x0 : Addr) (x1 : Addr) : entryFrame m #[(.ref x0), (.ref x1)] 3 = mkF m 0 #[.val (.ref x0), .val (.ref x1), .unset] [] := by first | (simp [entryFrame, mkF, argsToLocals, Value.category]; done) | rfl
def Q_lq5_2 (Z : State) (b1 b2 : Addr) (x0 x1 x2 x3 x4 : Int32) (h0 : Heap) (n0 : Nat) (v : Option Value) (h : Heap) (L : List Loc) : Prop := v = some (.int (0 : Int32)) ∧ Fr n0 L ∧ h = h0
set_option maxRecDepth 65536 in
set_option maxHeartbeats 40000000 in
theorem rm_lq5_2 (l : Launch) (Z : State) (a0 : Array Value) (hw : ∀ d ∈ tables_1, d.before a0 Z = true) (ws : List Jvm.Cond) (b1 b2 : Addr) (x0 x1 x2 x3 x4 : Int32) (h0 : Heap) (n0 : Nat) (Z0 : n0 ≤ h0.size) (k1 k2 : ClassId) (A_1 : Arv Z h0 b1 k1 .byte (5 : Int32) [(.int x0), (.int x1), (.int x2), (.int x3), (.int x4)] (.int (0 : Int32))) (A_2 : Arv Z h0 b2 k2 .byte (2 : Int32) [(.int (45 : Int32)), (.int (104 : Int32))] (.int (0 : Int32))) :
    MetFree l (⟨"java/lang/StringLatin1", "equals", "([B[B)Z"⟩ : MethodName) (head1 (Jvm.Cond.code (⟨"java/lang/StringLatin1", "equals", "([B[B)Z"⟩ : MethodName) jdk_43_method_13_code 3 (some .boolean) :: ws) ({ frames := 0, cells := 0, slots := 0, locals := 0 } : Room)) (fun a U => a = #[(.ref b1), (.ref b2)] ∧ Z.Warmed39 U.vm ∧ U.heap = h0) (fun _ _ _ _ _ => True) (fun _ U o U' => ∃ v L, o = .returned v ∧ Q_lq5_2 Z b1 b2 x0 x1 x2 x3 x4 h0 n0 v U'.heap L ∧ FrameEnd U o U' L ({ frames := 0, cells := 0, slots := 0, locals := 0 } : Room).cells ({ frames := 0, cells := 0, slots := 0, locals := 0 } : Room).slots) := by
  refine MetFree.of_bodySF (plainFor_of_name own_pn_java_lang_StringLatin1) hisR ?_
  intro p e s m args below meth c s₁ Bd hml0 hP hK
  obtain ⟨rfl, hZ, hh⟩ := hP
  have hx := Bd.exec
  have hby := Bd.bytes
  have hml : c.maxLocals = 3 := hml0
  have hown : s.vm.findClass "java/lang/StringLatin1" = some m.cls := findClass_of_methodNamed Bd.named
  have hnm := (name_of_methodNamed Bd.named Bd.method).1
  have hlk := Bd.notSynchronized
  obtain ⟨lc, hlc⟩ : ∃ lc : List Loc, lc = [] := ⟨_, rfl⟩
  have X : Stand p l e ({ frames := 0, cells := 0, slots := 0, locals := 0 } : Room) s m #[(.ref b1), (.ref b2)] below meth c s₁ lc 0 0 := hlc ▸ Stand.of_body Bd
  have eT : s₁.heap = h0 := by rw [← hh, Bd.state]; rfl
  have N : Fr n0 lc := hlc ▸ Fr.nil n0
  refine own_enter (ef_lq5_2 m b1 b2) ?_
  obtain ⟨T, hT⟩ : ∃ T : State, T = s₁ := ⟨_, rfl⟩
  rw [← hT] at X eT ⊢
  show own_W p e below (own_Post s (Q_lq5_2 Z b1 b2 x0 x1 x2 x3 x4 h0 n0) 0 0) T m 0 #[.val (.ref b1), .val (.ref b2), .unset] []
  refine own_aloadN X hx (hb hby own_d_jdk_43_method_13_code_0) (pc' := 1) rfl rfl rfl ?_
  refine own_arrlen X hx hZ eT A_1 (hb hby own_d_jdk_43_method_13_code_1) (pc' := 2) rfl ?_
  refine own_aloadN X hx (hb hby own_d_jdk_43_method_13_code_2) (pc' := 3) rfl rfl rfl ?_
  refine own_arrlen X hx hZ eT A_2 (hb hby own_d_jdk_43_method_13_code_3) (pc' := 4) rfl ?_
  refine own_icmpY X hx (hb hby own_d_jdk_43_method_13_code_4) (by decide) (pc' := 34) rfl (show ¬ ((5 : Int32) = (2 : Int32)) from (by decide)) ?_
  refine own_iconst X hx (0 : Int32) (hb hby own_d_jdk_43_method_13_code_34) (pc' := 35) rfl rfl ?_
  refine own_retI X hx hlk (t := .boolean) (w' := (.int (0 : Int32))) Bd.returns (hb hby own_d_jdk_43_method_13_code_35) rfl rfl (by simp) (by decide) (by decide) ?_
  rw [eT]
  exact ⟨rfl, N, rfl⟩
theorem ef_eq5_2 (m : MethodId) (x0 : Addr) (x1 : Addr) : entryFrame m #[(.ref x0), (.ref x1)] 3 = mkF m 0 #[.val (.ref x0), .val (.ref x1), .unset] [] := by first | (simp [entryFrame, mkF, argsToLocals, Value.category]; done) | rfl
def Q_eq5_2 (Z : State) (a1 a2 b1 b2 : Addr) (cs : Int32) (x0 x1 x2 x3 x4 : Int32) (h0 : Heap) (n0 : Nat) (v : Option Value) (h : Heap) (L : List Loc) : Prop := v = some (.int (0 : Int32)) ∧ Fr n0 L ∧ h = h0
set_option maxRecDepth 65536 in
set_option maxHeartbeats 40000000 in
theorem rm_eq5_2 (l : Launch) (Z : State) (a0 : Array Value) (hw : ∀ d ∈ tables_1, d.before a0 Z = true) (ws : List Jvm.Cond) (a1 a2 b1 b2 : Addr) (cs : Int32) (x0 x1 x2 x3 x4 : Int32) (h0 : Heap) (n0 : Nat) (Z0 : n0 ≤ h0.size) (S_C : Sta Z h0 "java/lang/String" "COMPACT_STRINGS" "Z" (.int cs)) (hcs : ¬ cs = 0) (E_1 : Exa Z h0 a1 "java/lang/String") (C_1 : Fld Z h0 a1 "java/lang/String" "coder" "B" (.int (0 : Int32))) (V_1 : Fld Z h0 a1 "java/lang/String" "value" "[B" (.ref b1)) (E_2 : Exa Z h0 a2 "java/lang/String") (C_2 : Fld Z h0 a2 "java/lang/String" "coder" "B" (.int (0 : Int32))) (V_2 : Fld Z h0 a2 "java/lang/String" "value" "[B" (.ref b2)) (k1 k2 : ClassId) (A_1 : Arv Z h0 b1 k1 .byte (5 : Int32) [(.int x0), (.int x1), (.int x2), (.int x3), (.int x4)] (.int (0 : Int32))) (A_2 : Arv Z h0 b2 k2 .byte (2 : Int32) [(.int (45 : Int32)), (.int (104 : Int32))] (.int (0 : Int32))) :
    MetFree l (⟨"java/lang/String", "equals", "(Ljava/lang/Object;)Z"⟩ : MethodName) (head1 (Jvm.Cond.code (⟨"java/lang/String", "equals", "(Ljava/lang/Object;)Z"⟩ : MethodName) jdk_42_method_66_code 3 (some .boolean) :: ws) ({ frames := 1, cells := 0, slots := 0, locals := 14 } : Room)) (fun a U => a = #[(.ref a1), (.ref a2)] ∧ Z.Warmed39 U.vm ∧ U.heap = h0) (fun _ _ _ _ _ => True) (fun _ U o U' => ∃ v L, o = .returned v ∧ Q_eq5_2 Z a1 a2 b1 b2 cs x0 x1 x2 x3 x4 h0 n0 v U'.heap L ∧ FrameEnd U o U' L ({ frames := 1, cells := 0, slots := 0, locals := 14 } : Room).cells ({ frames := 1, cells := 0, slots := 0, locals := 14 } : Room).slots) := by
  refine MetFree.of_bodySF (plainFor_of_name own_pn_java_lang_String) hisR ?_
  intro p e s m args below meth c s₁ Bd hml0 hP hK
  obtain ⟨rfl, hZ, hh⟩ := hP
  have hx := Bd.exec
  have hby := Bd.bytes
  have hml : c.maxLocals = 3 := hml0
  have hown : s.vm.findClass "java/lang/String" = some m.cls := findClass_of_methodNamed Bd.named
  have hnm := (name_of_methodNamed Bd.named Bd.method).1
  have hlk := Bd.notSynchronized
  obtain ⟨lc, hlc⟩ : ∃ lc : List Loc, lc = [] := ⟨_, rfl⟩
  have X : Stand p l e ({ frames := 1, cells := 0, slots := 0, locals := 14 } : Room) s m #[(.ref a1), (.ref a2)] below meth c s₁ lc 0 0 := hlc ▸ Stand.of_body Bd
  have eT : s₁.heap = h0 := by rw [← hh, Bd.state]; rfl
  have N : Fr n0 lc := hlc ▸ Fr.nil n0
  refine own_enter (ef_eq5_2 m a1 a2) ?_
  obtain ⟨T, hT⟩ : ∃ T : State, T = s₁ := ⟨_, rfl⟩
  rw [← hT] at X eT ⊢
  show own_W p e below (own_Post s (Q_eq5_2 Z a1 a2 b1 b2 cs x0 x1 x2 x3 x4 h0 n0) 0 0) T m 0 #[.val (.ref a1), .val (.ref a2), .unset] []
  have hd12 : ¬ a1 = a2 := fun q => by
    subst q
    have q2 := Value.ref.inj (own_fld_at V_1 V_2)
    subst q2
    exact arv_ne A_1 A_2 (Or.inl (by decide)) rfl
  refine own_aloadN X hx (hb hby own_d_jdk_42_method_66_code_0) (pc' := 1) rfl rfl rfl ?_
  refine own_aloadN X hx (hb hby own_d_jdk_42_method_66_code_1) (pc' := 2) rfl rfl rfl ?_
  refine own_acmpY X hx (hb hby own_d_jdk_42_method_66_code_2) (by decide) (pc' := 7) rfl rfl rfl (XT.aa_ne_t fun q => hd12 (Value.ref.inj q)) ?_
  refine own_aloadN X hx (hb hby own_d_jdk_42_method_66_code_7) (pc' := 8) rfl rfl rfl ?_
  refine own_inst X hx hZ hown (own_w hw 46 rfl) eT E_2 (hb hby own_d_jdk_42_method_66_code_8) (pc' := 11) rfl ?_
  intro T X eT
  refine own_ifN X hx (hb hby own_d_jdk_42_method_66_code_11) (pc' := 14) rfl (show ¬ ((1 : Int32) = (0 : Int32)) from (by decide)) ?_
  refine own_aloadN X hx (hb hby own_d_jdk_42_method_66_code_14) (pc' := 15) rfl rfl rfl ?_
  refine own_cast X hx hZ hown (own_w hw 46 rfl) eT E_2 (hb hby own_d_jdk_42_method_66_code_15) (pc' := 18) rfl ?_
  intro T X eT
  refine own_astoreN X hx (hb hby own_d_jdk_42_method_66_code_18) (pc' := 19) rfl rfl (Ls' := #[.val (.ref a1), .val (.ref a2), .val (.ref a2)]) rfl ?_
  refine own_getS X hx hZ hown (host := "") (Or.inl (own_w hw 47 rfl)) Via.refl eT S_C (hb hby own_d_jdk_42_method_66_code_19) (pc' := 22) rfl ?_
  intro T X eT
  refine own_ifN X hx (hb hby own_d_jdk_42_method_66_code_22) (pc' := 25) rfl (show ¬ (cs = (0 : Int32)) from hcs) ?_
  refine own_aloadN X hx (hb hby own_d_jdk_42_method_66_code_25) (pc' := 26) rfl rfl rfl ?_
  refine own_getF X hx hZ hown (host := "") (Or.inl (own_w hw 35 rfl)) Via.refl eT C_1 (hb hby own_d_jdk_42_method_66_code_26) (pc' := 29) rfl ?_
  intro T X eT
  refine own_aloadN X hx (hb hby own_d_jdk_42_method_66_code_29) (pc' := 30) rfl rfl rfl ?_
  refine own_getF X hx hZ hown (host := "") (Or.inl (own_w hw 35 rfl)) Via.refl eT C_2 (hb hby own_d_jdk_42_method_66_code_30) (pc' := 33) rfl ?_
  intro T X eT
  refine own_icmpN X hx (hb hby own_d_jdk_42_method_66_code_33) (pc' := 36) rfl (show (0 : Int32) = (0 : Int32) from (by decide)) ?_
  refine own_aloadN X hx (hb hby own_d_jdk_42_method_66_code_36) (pc' := 37) rfl rfl rfl ?_
  refine own_getF X hx hZ hown (host := "") (Or.inl (own_w hw 34 rfl)) Via.refl eT V_1 (hb hby own_d_jdk_42_method_66_code_37) (pc' := 40) rfl ?_
  intro T X eT
  refine own_aloadN X hx (hb hby own_d_jdk_42_method_66_code_40) (pc' := 41) rfl rfl rfl ?_
  refine own_getF X hx hZ hown (host := "") (Or.inl (own_w hw 34 rfl)) Via.refl eT V_2 (hb hby own_d_jdk_42_method_66_code_41) (pc' := 44) rfl ?_
  intro T X eT
  refine own_callS X hx hZ [(.ref b1), (.ref b2)] hown (own_w hw 48 rfl) (own_w hw 49 rfl) (own_w hw 50 rfl) (own_w hw 51 rfl) (by decide) (rm_lq5_2 l Z a0 hw [] b1 b2 x0 x1 x2 x3 x4 h0 n0 Z0 _ _ A_1 A_2) eT (W := 0) (by decide) (by decide) (cells' := 0) (slots' := 0) rfl rfl (by decide) (by decide) (by rw [hml]; rfl) (lenOf own_pd_285bB5bB29Z rfl) rfl (S := []) rfl (Nat.le_of_eq rfl) (hb hby own_d_jdk_42_method_66_code_44) (pc' := 47) rfl ?_
  intro v T h1 L lc X eT hq fN
  obtain ⟨rfl, Nq, hqe⟩ := hq
  have N := fN _ N Nq
  rw [hqe] at eT
  show own_W p e below (own_Post s (Q_eq5_2 Z a1 a2 b1 b2 cs x0 x1 x2 x3 x4 h0 n0) 0 0) T m 47 #[.val (.ref a1), .val (.ref a2), .val (.ref a2)] [(.int (0 : Int32))]
  refine own_ifY X hx (hb hby own_d_jdk_42_method_66_code_47) (by decide) (pc' := 54) rfl (show (0 : Int32) = (0 : Int32) from (by decide)) ?_
  refine own_iconst X hx (0 : Int32) (hb hby own_d_jdk_42_method_66_code_54) (pc' := 55) rfl rfl ?_
  refine own_retI X hx hlk (t := .boolean) (w' := (.int (0 : Int32))) Bd.returns (hb hby own_d_jdk_42_method_66_code_55) rfl rfl (by simp) (by decide) (by decide) ?_
  rw [eT]
  exact ⟨rfl, N, rfl⟩
theorem ef_lq6_2 (m : MethodId) (x0 : Addr) (x1 : Addr) : entryFrame m #[(.ref x0), (.ref x1)] 3 = mkF m 0 #[.val (.ref x0), .val (.ref x1), .unset] [] := by first | (simp [entryFrame, mkF, argsToLocals, Value.category]; done) | rfl
def Q_lq6_2 (Z : State) (b1 b2 : Addr) (x0 x1 x2 x3 x4 x5 : Int32) (h0 : Heap) (n0 : Nat) (v : Option Value) (h : Heap) (L : List Loc) : Prop := v = some (.int (0 : Int32)) ∧ Fr n0 L ∧ h = h0
set_option maxRecDepth 65536 in
set_option maxHeartbeats 40000000 in
theorem rm_lq6_2 (l : Launch) (Z : State) (a0 : Array Value) (hw : ∀ d ∈ tables_1, d.before a0 Z = true) (ws : List Jvm.Cond) (b1 b2 : Addr) (x0 x1 x2 x3 x4 x5 : Int32) (h0 : Heap) (n0 : Nat) (Z0 : n0 ≤ h0.size) (k1 k2 : ClassId) (A_1 : Arv Z h0 b1 k1 .byte (6 : Int32) [(.int x0), (.int x1), (.int x2), (.int x3), (.int x4), (.int x5)] (.int (0 : Int32))) (A_2 : Arv Z h0 b2 k2 .byte (2 : Int32) [(.int (45 : Int32)), (.int (104 : Int32))] (.int (0 : Int32))) :
    MetFree l (⟨"java/lang/StringLatin1", "equals", "([B[B)Z"⟩ : MethodName) (head1 (Jvm.Cond.code (⟨"java/lang/StringLatin1", "equals", "([B[B)Z"⟩ : MethodName) jdk_43_method_13_code 3 (some .boolean) :: ws) ({ frames := 0, cells := 0, slots := 0, locals := 0 } : Room)) (fun a U => a = #[(.ref b1), (.ref b2)] ∧ Z.Warmed39 U.vm ∧ U.heap = h0) (fun _ _ _ _ _ => True) (fun _ U o U' => ∃ v L, o = .returned v ∧ Q_lq6_2 Z b1 b2 x0 x1 x2 x3 x4 x5 h0 n0 v U'.heap L ∧ FrameEnd U o U' L ({ frames := 0, cells := 0, slots := 0, locals := 0 } : Room).cells ({ frames := 0, cells := 0, slots := 0, locals := 0 } : Room).slots) := by
  refine MetFree.of_bodySF (plainFor_of_name own_pn_java_lang_StringLatin1) hisR ?_
  intro p e s m args below meth c s₁ Bd hml0 hP hK
  obtain ⟨rfl, hZ, hh⟩ := hP
  have hx := Bd.exec
  have hby := Bd.bytes
  have hml : c.maxLocals = 3 := hml0
  have hown : s.vm.findClass "java/lang/StringLatin1" = some m.cls := findClass_of_methodNamed Bd.named
  have hnm := (name_of_methodNamed Bd.named Bd.method).1
  have hlk := Bd.notSynchronized
  obtain ⟨lc, hlc⟩ : ∃ lc : List Loc, lc = [] := ⟨_, rfl⟩
  have X : Stand p l e ({ frames := 0, cells := 0, slots := 0, locals := 0 } : Room) s m #[(.ref b1), (.ref b2)] below meth c s₁ lc 0 0 := hlc ▸ Stand.of_body Bd
  have eT : s₁.heap = h0 := by rw [← hh, Bd.state]; rfl
  have N : Fr n0 lc := hlc ▸ Fr.nil n0
  refine own_enter (ef_lq6_2 m b1 b2) ?_
  obtain ⟨T, hT⟩ : ∃ T : State, T = s₁ := ⟨_, rfl⟩
  rw [← hT] at X eT ⊢
  show own_W p e below (own_Post s (Q_lq6_2 Z b1 b2 x0 x1 x2 x3 x4 x5 h0 n0) 0 0) T m 0 #[.val (.ref b1), .val (.ref b2), .unset] []
  refine own_aloadN X hx (hb hby own_d_jdk_43_method_13_code_0) (pc' := 1) rfl rfl rfl ?_
  refine own_arrlen X hx hZ eT A_1 (hb hby own_d_jdk_43_method_13_code_1) (pc' := 2) rfl ?_
  refine own_aloadN X hx (hb hby own_d_jdk_43_method_13_code_2) (pc' := 3) rfl rfl rfl ?_
  refine own_arrlen X hx hZ eT A_2 (hb hby own_d_jdk_43_method_13_code_3) (pc' := 4) rfl ?_
  refine own_icmpY X hx (hb hby own_d_jdk_43_method_13_code_4) (by decide) (pc' := 34) rfl (show ¬ ((6 : Int32) = (2 : Int32)) from (by decide)) ?_
  refine own_iconst X hx (0 : Int32) (hb hby own_d_jdk_43_method_13_code_34) (pc' := 35) rfl rfl ?_
  refine own_retI X hx hlk (t := .boolean) (w' := (.int (0 : Int32))) Bd.returns (hb hby own_d_jdk_43_method_13_code_35) rfl rfl (by simp) (by decide) (by decide) ?_
  rw [eT]
  exact ⟨rfl, N, rfl⟩
theorem ef_eq6_2 (m : MethodId) (x0 : Addr) (x1 : Addr) : entryFrame m #[(.ref x0), (.ref x1)] 3 = mkF m 0 #[.val (.ref x0), .val (.ref x1), .unset] [] := by first | (simp [entryFrame, mkF, argsToLocals, Value.category]; done) | rfl
def Q_eq6_2 (Z : State) (a1 a2 b1 b2 : Addr) (cs : Int32) (x0 x1 x2 x3 x4 x5 : Int32) (h0 : Heap) (n0 : Nat) (v : Option Value) (h : Heap) (L : List Loc) : Prop := v = some (.int (0 : Int32)) ∧ Fr n0 L ∧ h = h0
set_option maxRecDepth 65536 in
set_option maxHeartbeats 40000000 in
theorem rm_eq6_2 (l : Launch) (Z : State) (a0 : Array Value) (hw : ∀ d ∈ tables_1, d.before a0 Z = true) (ws : List Jvm.Cond) (a1 a2 b1 b2 : Addr) (cs : Int32) (x0 x1 x2 x3 x4 x5 : Int32) (h0 : Heap) (n0 : Nat) (Z0 : n0 ≤ h0.size) (S_C : Sta Z h0 "java/lang/String" "COMPACT_STRINGS" "Z" (.int cs)) (hcs : ¬ cs = 0) (E_1 : Exa Z h0 a1 "java/lang/String") (C_1 : Fld Z h0 a1 "java/lang/String" "coder" "B" (.int (0 : Int32))) (V_1 : Fld Z h0 a1 "java/lang/String" "value" "[B" (.ref b1)) (E_2 : Exa Z h0 a2 "java/lang/String") (C_2 : Fld Z h0 a2 "java/lang/String" "coder" "B" (.int (0 : Int32))) (V_2 : Fld Z h0 a2 "java/lang/String" "value" "[B" (.ref b2)) (k1 k2 : ClassId) (A_1 : Arv Z h0 b1 k1 .byte (6 : Int32) [(.int x0), (.int x1), (.int x2), (.int x3), (.int x4), (.int x5)] (.int (0 : Int32))) (A_2 : Arv Z h0 b2 k2 .byte (2 : Int32) [(.int (45 : Int32)), (.int (104 : Int32))] (.int (0 : Int32))) :
    MetFree l (⟨"java/lang/String", "equals", "(Ljava/lang/Object;)Z"⟩ : MethodName) (head1 (Jvm.Cond.code (⟨"java/lang/String", "equals", "(Ljava/lang/Object;)Z"⟩ : MethodName) jdk_42_method_66_code 3 (some .boolean) :: ws) ({ frames := 1, cells := 0, slots := 0, locals := 14 } : Room)) (fun a U => a = #[(.ref a1), (.ref a2)] ∧ Z.Warmed39 U.vm ∧ U.heap = h0) (fun _ _ _ _ _ => True) (fun _ U o U' => ∃ v L, o = .returned v ∧ Q_eq6_2 Z a1 a2 b1 b2 cs x0 x1 x2 x3 x4 x5 h0 n0 v U'.heap L ∧ FrameEnd U o U' L ({ frames := 1, cells := 0, slots := 0, locals := 14 } : Room).cells ({ frames := 1, cells := 0, slots := 0, locals := 14 } : Room).slots) := by
  refine MetFree.of_bodySF (plainFor_of_name own_pn_java_lang_String) hisR ?_
  intro p e s m args below meth c s₁ Bd hml0 hP hK
  obtain ⟨rfl, hZ, hh⟩ := hP
  have hx := Bd.exec
  have hby := Bd.bytes
  have hml : c.maxLocals = 3 := hml0
  have hown : s.vm.findClass "java/lang/String" = some m.cls := findClass_of_methodNamed Bd.named
  have hnm := (name_of_methodNamed Bd.named Bd.method).1
  have hlk := Bd.notSynchronized
  obtain ⟨lc, hlc⟩ : ∃ lc : List Loc, lc = [] := ⟨_, rfl⟩
  have X : Stand p l e ({ frames := 1, cells := 0, slots := 0, locals := 14 } : Room) s m #[(.ref a1), (.ref a2)] below meth c s₁ lc 0 0 := hlc ▸ Stand.of_body Bd
  have eT : s₁.heap = h0 := by rw [← hh, Bd.state]; rfl
  have N : Fr n0 lc := hlc ▸ Fr.nil n0
  refine own_enter (ef_eq6_2 m a1 a2) ?_
  obtain ⟨T, hT⟩ : ∃ T : State, T = s₁ := ⟨_, rfl⟩
  rw [← hT] at X eT ⊢
  show own_W p e below (own_Post s (Q_eq6_2 Z a1 a2 b1 b2 cs x0 x1 x2 x3 x4 x5 h0 n0) 0 0) T m 0 #[.val (.ref a1), .val (.ref a2), .unset] []
  have hd12 : ¬ a1 = a2 := fun q => by
    subst q
    have q2 := Value.ref.inj (own_fld_at V_1 V_2)
    subst q2
    exact arv_ne A_1 A_2 (Or.inl (by decide)) rfl
  refine own_aloadN X hx (hb hby own_d_jdk_42_method_66_code_0) (pc' := 1) rfl rfl rfl ?_
  refine own_aloadN X hx (hb hby own_d_jdk_42_method_66_code_1) (pc' := 2) rfl rfl rfl ?_
  refine own_acmpY X hx (hb hby own_d_jdk_42_method_66_code_2) (by decide) (pc' := 7) rfl rfl rfl (XT.aa_ne_t fun q => hd12 (Value.ref.inj q)) ?_
  refine own_aloadN X hx (hb hby own_d_jdk_42_method_66_code_7) (pc' := 8) rfl rfl rfl ?_
  refine own_inst X hx hZ hown (own_w hw 46 rfl) eT E_2 (hb hby own_d_jdk_42_method_66_code_8) (pc' := 11) rfl ?_
  intro T X eT
  refine own_ifN X hx (hb hby own_d_jdk_42_method_66_code_11) (pc' := 14) rfl (show ¬ ((1 : Int32) = (0 : Int32)) from (by decide)) ?_
  refine own_aloadN X hx (hb hby own_d_jdk_42_method_66_code_14) (pc' := 15) rfl rfl rfl ?_
  refine own_cast X hx hZ hown (own_w hw 46 rfl) eT E_2 (hb hby own_d_jdk_42_method_66_code_15) (pc' := 18) rfl ?_
  intro T X eT
  refine own_astoreN X hx (hb hby own_d_jdk_42_method_66_code_18) (pc' := 19) rfl rfl (Ls' := #[.val (.ref a1), .val (.ref a2), .val (.ref a2)]) rfl ?_
  refine own_getS X hx hZ hown (host := "") (Or.inl (own_w hw 47 rfl)) Via.refl eT S_C (hb hby own_d_jdk_42_method_66_code_19) (pc' := 22) rfl ?_
  intro T X eT
  refine own_ifN X hx (hb hby own_d_jdk_42_method_66_code_22) (pc' := 25) rfl (show ¬ (cs = (0 : Int32)) from hcs) ?_
  refine own_aloadN X hx (hb hby own_d_jdk_42_method_66_code_25) (pc' := 26) rfl rfl rfl ?_
  refine own_getF X hx hZ hown (host := "") (Or.inl (own_w hw 35 rfl)) Via.refl eT C_1 (hb hby own_d_jdk_42_method_66_code_26) (pc' := 29) rfl ?_
  intro T X eT
  refine own_aloadN X hx (hb hby own_d_jdk_42_method_66_code_29) (pc' := 30) rfl rfl rfl ?_
  refine own_getF X hx hZ hown (host := "") (Or.inl (own_w hw 35 rfl)) Via.refl eT C_2 (hb hby own_d_jdk_42_method_66_code_30) (pc' := 33) rfl ?_
  intro T X eT
  refine own_icmpN X hx (hb hby own_d_jdk_42_method_66_code_33) (pc' := 36) rfl (show (0 : Int32) = (0 : Int32) from (by decide)) ?_
  refine own_aloadN X hx (hb hby own_d_jdk_42_method_66_code_36) (pc' := 37) rfl rfl rfl ?_
  refine own_getF X hx hZ hown (host := "") (Or.inl (own_w hw 34 rfl)) Via.refl eT V_1 (hb hby own_d_jdk_42_method_66_code_37) (pc' := 40) rfl ?_
  intro T X eT
  refine own_aloadN X hx (hb hby own_d_jdk_42_method_66_code_40) (pc' := 41) rfl rfl rfl ?_
  refine own_getF X hx hZ hown (host := "") (Or.inl (own_w hw 34 rfl)) Via.refl eT V_2 (hb hby own_d_jdk_42_method_66_code_41) (pc' := 44) rfl ?_
  intro T X eT
  refine own_callS X hx hZ [(.ref b1), (.ref b2)] hown (own_w hw 48 rfl) (own_w hw 49 rfl) (own_w hw 50 rfl) (own_w hw 51 rfl) (by decide) (rm_lq6_2 l Z a0 hw [] b1 b2 x0 x1 x2 x3 x4 x5 h0 n0 Z0 _ _ A_1 A_2) eT (W := 0) (by decide) (by decide) (cells' := 0) (slots' := 0) rfl rfl (by decide) (by decide) (by rw [hml]; rfl) (lenOf own_pd_285bB5bB29Z rfl) rfl (S := []) rfl (Nat.le_of_eq rfl) (hb hby own_d_jdk_42_method_66_code_44) (pc' := 47) rfl ?_
  intro v T h1 L lc X eT hq fN
  obtain ⟨rfl, Nq, hqe⟩ := hq
  have N := fN _ N Nq
  rw [hqe] at eT
  show own_W p e below (own_Post s (Q_eq6_2 Z a1 a2 b1 b2 cs x0 x1 x2 x3 x4 x5 h0 n0) 0 0) T m 47 #[.val (.ref a1), .val (.ref a2), .val (.ref a2)] [(.int (0 : Int32))]
  refine own_ifY X hx (hb hby own_d_jdk_42_method_66_code_47) (by decide) (pc' := 54) rfl (show (0 : Int32) = (0 : Int32) from (by decide)) ?_
  refine own_iconst X hx (0 : Int32) (hb hby own_d_jdk_42_method_66_code_54) (pc' := 55) rfl rfl ?_
  refine own_retI X hx hlk (t := .boolean) (w' := (.int (0 : Int32))) Bd.returns (hb hby own_d_jdk_42_method_66_code_55) rfl rfl (by simp) (by decide) (by decide) ?_
  rw [eT]
  exact ⟨rfl, N, rfl⟩
theorem ef_lq7_2 (m : MethodId) (x0 : Addr) (x1 : Addr) : entryFrame m #[(.ref x0), (.ref x1)] 3 = mkF m 0 #[.val (.ref x0), .val (.ref x1), .unset] [] := by first | (simp [entryFrame, mkF, argsToLocals, Value.category]; done) | rfl
def Q_lq7_2 (Z : State) (b1 b2 : Addr) (x0 x1 x2 x3 x4 x5 x6 : Int32) (h0 : Heap) (n0 : Nat) (v : Option Value) (h : Heap) (L : List Loc) : Prop := v = some (.int (0 : Int32)) ∧ Fr n0 L ∧ h = h0
set_option maxRecDepth 65536 in
set_option maxHeartbeats 40000000 in
theorem rm_lq7_2 (l : Launch) (Z : State) (a0 : Array Value) (hw : ∀ d ∈ tables_1, d.before a0 Z = true) (ws : List Jvm.Cond) (b1 b2 : Addr) (x0 x1 x2 x3 x4 x5 x6 : Int32) (h0 : Heap) (n0 : Nat) (Z0 : n0 ≤ h0.size) (k1 k2 : ClassId) (A_1 : Arv Z h0 b1 k1 .byte (7 : Int32) [(.int x0), (.int x1), (.int x2), (.int x3), (.int x4), (.int x5), (.int x6)] (.int (0 : Int32))) (A_2 : Arv Z h0 b2 k2 .byte (2 : Int32) [(.int (45 : Int32)), (.int (104 : Int32))] (.int (0 : Int32))) :
    MetFree l (⟨"java/lang/StringLatin1", "equals", "([B[B)Z"⟩ : MethodName) (head1 (Jvm.Cond.code (⟨"java/lang/StringLatin1", "equals", "([B[B)Z"⟩ : MethodName) jdk_43_method_13_code 3 (some .boolean) :: ws) ({ frames := 0, cells := 0, slots := 0, locals := 0 } : Room)) (fun a U => a = #[(.ref b1), (.ref b2)] ∧ Z.Warmed39 U.vm ∧ U.heap = h0) (fun _ _ _ _ _ => True) (fun _ U o U' => ∃ v L, o = .returned v ∧ Q_lq7_2 Z b1 b2 x0 x1 x2 x3 x4 x5 x6 h0 n0 v U'.heap L ∧ FrameEnd U o U' L ({ frames := 0, cells := 0, slots := 0, locals := 0 } : Room).cells ({ frames := 0, cells := 0, slots := 0, locals := 0 } : Room).slots) := by
  refine MetFree.of_bodySF (plainFor_of_name own_pn_java_lang_StringLatin1) hisR ?_
  intro p e s m args below meth c s₁ Bd hml0 hP hK
  obtain ⟨rfl, hZ, hh⟩ := hP
  have hx := Bd.exec
  have hby := Bd.bytes
  have hml : c.maxLocals = 3 := hml0
  have hown : s.vm.findClass "java/lang/StringLatin1" = some m.cls := findClass_of_methodNamed Bd.named
  have hnm := (name_of_methodNamed Bd.named Bd.method).1
  have hlk := Bd.notSynchronized
  obtain ⟨lc, hlc⟩ : ∃ lc : List Loc, lc = [] := ⟨_, rfl⟩
  have X : Stand p l e ({ frames := 0, cells := 0, slots := 0, locals := 0 } : Room) s m #[(.ref b1), (.ref b2)] below meth c s₁ lc 0 0 := hlc ▸ Stand.of_body Bd
  have eT : s₁.heap = h0 := by rw [← hh, Bd.state]; rfl
  have N : Fr n0 lc := hlc ▸ Fr.nil n0
  refine own_enter (ef_lq7_2 m b1 b2) ?_
  obtain ⟨T, hT⟩ : ∃ T : State, T = s₁ := ⟨_, rfl⟩
  rw [← hT] at X eT ⊢
  show own_W p e below (own_Post s (Q_lq7_2 Z b1 b2 x0 x1 x2 x3 x4 x5 x6 h0 n0) 0 0) T m 0 #[.val (.ref b1), .val (.ref b2), .unset] []
  refine own_aloadN X hx (hb hby own_d_jdk_43_method_13_code_0) (pc' := 1) rfl rfl rfl ?_
  refine own_arrlen X hx hZ eT A_1 (hb hby own_d_jdk_43_method_13_code_1) (pc' := 2) rfl ?_
  refine own_aloadN X hx (hb hby own_d_jdk_43_method_13_code_2) (pc' := 3) rfl rfl rfl ?_
  refine own_arrlen X hx hZ eT A_2 (hb hby own_d_jdk_43_method_13_code_3) (pc' := 4) rfl ?_
  refine own_icmpY X hx (hb hby own_d_jdk_43_method_13_code_4) (by decide) (pc' := 34) rfl (show ¬ ((7 : Int32) = (2 : Int32)) from (by decide)) ?_
  refine own_iconst X hx (0 : Int32) (hb hby own_d_jdk_43_method_13_code_34) (pc' := 35) rfl rfl ?_
  refine own_retI X hx hlk (t := .boolean) (w' := (.int (0 : Int32))) Bd.returns (hb hby own_d_jdk_43_method_13_code_35) rfl rfl (by simp) (by decide) (by decide) ?_
  rw [eT]
  exact ⟨rfl, N, rfl⟩
theorem ef_eq7_2 (m : MethodId) (x0 : Addr) (x1 : Addr) : entryFrame m #[(.ref x0), (.ref x1)] 3 = mkF m 0 #[.val (.ref x0), .val (.ref x1), .unset] [] := by first | (simp [entryFrame, mkF, argsToLocals, Value.category]; done) | rfl
def Q_eq7_2 (Z : State) (a1 a2 b1 b2 : Addr) (cs : Int32) (x0 x1 x2 x3 x4 x5 x6 : Int32) (h0 : Heap) (n0 : Nat) (v : Option Value) (h : Heap) (L : List Loc) : Prop := v = some (.int (0 : Int32)) ∧ Fr n0 L ∧ h = h0
set_option maxRecDepth 65536 in
set_option maxHeartbeats 40000000 in
theorem rm_eq7_2 (l : Launch) (Z : State) (a0 : Array Value) (hw : ∀ d ∈ tables_1, d.before a0 Z = true) (ws : List Jvm.Cond) (a1 a2 b1 b2 : Addr) (cs : Int32) (x0 x1 x2 x3 x4 x5 x6 : Int32) (h0 : Heap) (n0 : Nat) (Z0 : n0 ≤ h0.size) (S_C : Sta Z h0 "java/lang/String" "COMPACT_STRINGS" "Z" (.int cs)) (hcs : ¬ cs = 0) (E_1 : Exa Z h0 a1 "java/lang/String") (C_1 : Fld Z h0 a1 "java/lang/String" "coder" "B" (.int (0 : Int32))) (V_1 : Fld Z h0 a1 "java/lang/String" "value" "[B" (.ref b1)) (E_2 : Exa Z h0 a2 "java/lang/String") (C_2 : Fld Z h0 a2 "java/lang/String" "coder" "B" (.int (0 : Int32))) (V_2 : Fld Z h0 a2 "java/lang/String" "value" "[B" (.ref b2)) (k1 k2 : ClassId) (A_1 : Arv Z h0 b1 k1 .byte (7 : Int32) [(.int x0), (.int x1), (.int x2), (.int x3), (.int x4), (.int x5), (.int x6)] (.int (0 : Int32))) (A_2 : Arv Z h0 b2 k2 .byte (2 : Int32) [(.int (45 : Int32)), (.int (104 : Int32))] (.int (0 : Int32))) :
    MetFree l (⟨"java/lang/String", "equals", "(Ljava/lang/Object;)Z"⟩ : MethodName) (head1 (Jvm.Cond.code (⟨"java/lang/String", "equals", "(Ljava/lang/Object;)Z"⟩ : MethodName) jdk_42_method_66_code 3 (some .boolean) :: ws) ({ frames := 1, cells := 0, slots := 0, locals := 14 } : Room)) (fun a U => a = #[(.ref a1), (.ref a2)] ∧ Z.Warmed39 U.vm ∧ U.heap = h0) (fun _ _ _ _ _ => True) (fun _ U o U' => ∃ v L, o = .returned v ∧ Q_eq7_2 Z a1 a2 b1 b2 cs x0 x1 x2 x3 x4 x5 x6 h0 n0 v U'.heap L ∧ FrameEnd U o U' L ({ frames := 1, cells := 0, slots := 0, locals := 14 } : Room).cells ({ frames := 1, cells := 0, slots := 0, locals := 14 } : Room).slots) := by
  refine MetFree.of_bodySF (plainFor_of_name own_pn_java_lang_String) hisR ?_
  intro p e s m args below meth c s₁ Bd hml0 hP hK
  obtain ⟨rfl, hZ, hh⟩ := hP
  have hx := Bd.exec
  have hby := Bd.bytes
  have hml : c.maxLocals = 3 := hml0
  have hown : s.vm.findClass "java/lang/String" = some m.cls := findClass_of_methodNamed Bd.named
  have hnm := (name_of_methodNamed Bd.named Bd.method).1
  have hlk := Bd.notSynchronized
  obtain ⟨lc, hlc⟩ : ∃ lc : List Loc, lc = [] := ⟨_, rfl⟩
  have X : Stand p l e ({ frames := 1, cells := 0, slots := 0, locals := 14 } : Room) s m #[(.ref a1), (.ref a2)] below meth c s₁ lc 0 0 := hlc ▸ Stand.of_body Bd
  have eT : s₁.heap = h0 := by rw [← hh, Bd.state]; rfl
  have N : Fr n0 lc := hlc ▸ Fr.nil n0
  refine own_enter (ef_eq7_2 m a1 a2) ?_
  obtain ⟨T, hT⟩ : ∃ T : State, T = s₁ := ⟨_, rfl⟩
  rw [← hT] at X eT ⊢
  show own_W p e below (own_Post s (Q_eq7_2 Z a1 a2 b1 b2 cs x0 x1 x2 x3 x4 x5 x6 h0 n0) 0 0) T m 0 #[.val (.ref a1), .val (.ref a2), .unset] []
  have hd12 : ¬ a1 = a2 := fun q => by
    subst q
    have q2 := Value.ref.inj (own_fld_at V_1 V_2)
    subst q2
    exact arv_ne A_1 A_2 (Or.inl (by decide)) rfl
  refine own_aloadN X hx (hb hby own_d_jdk_42_method_66_code_0) (pc' := 1) rfl rfl rfl ?_
  refine own_aloadN X hx (hb hby own_d_jdk_42_method_66_code_1) (pc' := 2) rfl rfl rfl ?_
  refine own_acmpY X hx (hb hby own_d_jdk_42_method_66_code_2) (by decide) (pc' := 7) rfl rfl rfl (XT.aa_ne_t fun q => hd12 (Value.ref.inj q)) ?_
  refine own_aloadN X hx (hb hby own_d_jdk_42_method_66_code_7) (pc' := 8) rfl rfl rfl ?_
  refine own_inst X hx hZ hown (own_w hw 46 rfl) eT E_2 (hb hby own_d_jdk_42_method_66_code_8) (pc' := 11) rfl ?_
  intro T X eT
  refine own_ifN X hx (hb hby own_d_jdk_42_method_66_code_11) (pc' := 14) rfl (show ¬ ((1 : Int32) = (0 : Int32)) from (by decide)) ?_
  refine own_aloadN X hx (hb hby own_d_jdk_42_method_66_code_14) (pc' := 15) rfl rfl rfl ?_
  refine own_cast X hx hZ hown (own_w hw 46 rfl) eT E_2 (hb hby own_d_jdk_42_method_66_code_15) (pc' := 18) rfl ?_
  intro T X eT
  refine own_astoreN X hx (hb hby own_d_jdk_42_method_66_code_18) (pc' := 19) rfl rfl (Ls' := #[.val (.ref a1), .val (.ref a2), .val (.ref a2)]) rfl ?_
  refine own_getS X hx hZ hown (host := "") (Or.inl (own_w hw 47 rfl)) Via.refl eT S_C (hb hby own_d_jdk_42_method_66_code_19) (pc' := 22) rfl ?_
  intro T X eT
  refine own_ifN X hx (hb hby own_d_jdk_42_method_66_code_22) (pc' := 25) rfl (show ¬ (cs = (0 : Int32)) from hcs) ?_
  refine own_aloadN X hx (hb hby own_d_jdk_42_method_66_code_25) (pc' := 26) rfl rfl rfl ?_
  refine own_getF X hx hZ hown (host := "") (Or.inl (own_w hw 35 rfl)) Via.refl eT C_1 (hb hby own_d_jdk_42_method_66_code_26) (pc' := 29) rfl ?_
  intro T X eT
  refine own_aloadN X hx (hb hby own_d_jdk_42_method_66_code_29) (pc' := 30) rfl rfl rfl ?_
  refine own_getF X hx hZ hown (host := "") (Or.inl (own_w hw 35 rfl)) Via.refl eT C_2 (hb hby own_d_jdk_42_method_66_code_30) (pc' := 33) rfl ?_
  intro T X eT
  refine own_icmpN X hx (hb hby own_d_jdk_42_method_66_code_33) (pc' := 36) rfl (show (0 : Int32) = (0 : Int32) from (by decide)) ?_
  refine own_aloadN X hx (hb hby own_d_jdk_42_method_66_code_36) (pc' := 37) rfl rfl rfl ?_
  refine own_getF X hx hZ hown (host := "") (Or.inl (own_w hw 34 rfl)) Via.refl eT V_1 (hb hby own_d_jdk_42_method_66_code_37) (pc' := 40) rfl ?_
  intro T X eT
  refine own_aloadN X hx (hb hby own_d_jdk_42_method_66_code_40) (pc' := 41) rfl rfl rfl ?_
  refine own_getF X hx hZ hown (host := "") (Or.inl (own_w hw 34 rfl)) Via.refl eT V_2 (hb hby own_d_jdk_42_method_66_code_41) (pc' := 44) rfl ?_
  intro T X eT
  refine own_callS X hx hZ [(.ref b1), (.ref b2)] hown (own_w hw 48 rfl) (own_w hw 49 rfl) (own_w hw 50 rfl) (own_w hw 51 rfl) (by decide) (rm_lq7_2 l Z a0 hw [] b1 b2 x0 x1 x2 x3 x4 x5 x6 h0 n0 Z0 _ _ A_1 A_2) eT (W := 0) (by decide) (by decide) (cells' := 0) (slots' := 0) rfl rfl (by decide) (by decide) (by rw [hml]; rfl) (lenOf own_pd_285bB5bB29Z rfl) rfl (S := []) rfl (Nat.le_of_eq rfl) (hb hby own_d_jdk_42_method_66_code_44) (pc' := 47) rfl ?_
  intro v T h1 L lc X eT hq fN
  obtain ⟨rfl, Nq, hqe⟩ := hq
  have N := fN _ N Nq
  rw [hqe] at eT
  show own_W p e below (own_Post s (Q_eq7_2 Z a1 a2 b1 b2 cs x0 x1 x2 x3 x4 x5 x6 h0 n0) 0 0) T m 47 #[.val (.ref a1), .val (.ref a2), .val (.ref a2)] [(.int (0 : Int32))]
  refine own_ifY X hx (hb hby own_d_jdk_42_method_66_code_47) (by decide) (pc' := 54) rfl (show (0 : Int32) = (0 : Int32) from (by decide)) ?_
  refine own_iconst X hx (0 : Int32) (hb hby own_d_jdk_42_method_66_code_54) (pc' := 55) rfl rfl ?_
  refine own_retI X hx hlk (t := .boolean) (w' := (.int (0 : Int32))) Bd.returns (hb hby own_d_jdk_42_method_66_code_55) rfl rfl (by simp) (by decide) (by decide) ?_
  rw [eT]
  exact ⟨rfl, N, rfl⟩
theorem own_d_prog_41_method_3_code_0 : decode prog_41_method_3_code 0 = .ok (.aload_n 0, 1) := by decide +kernel
theorem own_d_prog_41_method_3_code_1 : decode prog_41_method_3_code 1 = .ok (.ldc 125, 2) := by decide +kernel
theorem own_d_prog_41_method_3_code_3 : decode prog_41_method_3_code 3 = .ok (.invokevirtual 63, 3) := by decide +kernel
theorem own_pd_28Ljava2flang2fObject3b29Z : parseMethodDescriptor "(Ljava/lang/Object;)Z" = some ⟨[(.object "java/lang/Object")], some .boolean⟩ := by decide +kernel
theorem own_d_prog_41_method_3_code_6 : decode prog_41_method_3_code 6 = .ok (.ifCond .ne 12, 3) := by decide +kernel
theorem own_d_prog_41_method_3_code_9 : decode prog_41_method_3_code 9 = .ok (.aload_n 0, 1) := by decide +kernel
theorem own_d_prog_41_method_3_code_10 : decode prog_41_method_3_code 10 = .ok (.ldc 127, 2) := by decide +kernel
theorem own_d_prog_41_method_3_code_12 : decode prog_41_method_3_code 12 = .ok (.invokevirtual 63, 3) := by decide +kernel
theorem own_d_prog_41_method_3_code_15 : decode prog_41_method_3_code 15 = .ok (.ifCond .eq 7, 3) := by decide +kernel
theorem own_d_prog_41_method_3_code_22 : decode prog_41_method_3_code 22 = .ok (.iconst 0, 1) := by decide +kernel
theorem own_d_prog_41_method_3_code_23 : decode prog_41_method_3_code 23 = .ok (.ireturn, 1) := by decide +kernel
theorem own_pn_com_example_bleeper_bleeper_cli_Arguments : plainName "com/example/bleeper/bleeper/cli/Arguments" = true := by first | (simp [plainName, overriddenIn]; done) | decide +kernel
theorem ef_ak0 (m : MethodId) (x0 : Addr) : entryFrame m #[(.ref x0)] 1 = mkF m 0 #[.val (.ref x0)] [] := by first | (simp [entryFrame, mkF, argsToLocals, Value.category]; done) | rfl
def Q_ak0 (Z : State) (a1 b1 : Addr) (cs : Int32)  (h0 : Heap) (n0 : Nat) (v : Option Value) (h : Heap) (L : List Loc) : Prop := v = some (.int (0 : Int32)) ∧ Fr n0 L
set_option maxRecDepth 65536 in
set_option maxHeartbeats 40000000 in
theorem rm_ak0 (l : Launch) (Z : State) (a0 : Array Value) (hw : ∀ d ∈ tables_1, d.before a0 Z = true) (hEL : EW Z a0 own_EL) (ws : List Jvm.Cond) (a1 b1 : Addr) (cs : Int32)  (h0 : Heap) (n0 : Nat) (Z0 : n0 ≤ h0.size) (S_C : Sta Z h0 "java/lang/String" "COMPACT_STRINGS" "Z" (.int cs)) (hcs : ¬ cs = 0) (E_1 : Exa Z h0 a1 "java/lang/String") (C_1 : Fld Z h0 a1 "java/lang/String" "coder" "B" (.int (0 : Int32))) (V_1 : Fld Z h0 a1 "java/lang/String" "value" "[B" (.ref b1)) (k1 : ClassId) (A_1 : Arv Z h0 b1 k1 .byte (0 : Int32) [] (.int (0 : Int32))) :
    MetFree l (⟨"com/example/bleeper/bleeper/cli/Arguments", "asksForHelp", "(Ljava/lang/String;)Z"⟩ : MethodName) (head1 (Jvm.Cond.code (⟨"com/example/bleeper/bleeper/cli/Arguments", "asksForHelp", "(Ljava/lang/String;)Z"⟩ : MethodName) prog_41_method_3_code 1 (some .boolean) :: ws) ({ frames := 2, cells := 4, slots := 40, locals := 28 } : Room)) (fun a U => a = #[(.ref a1)] ∧ Z.Warmed39 U.vm ∧ U.heap = h0 ∧ CHv Z own_EL U.vm h0) (fun _ _ _ _ _ => True) (fun _ U o U' => ∃ v L, o = .returned v ∧ Q_ak0 Z a1 b1 cs h0 n0 v U'.heap L ∧ CHr Z own_EL U.vm U.heap U'.vm U'.heap ∧ ReturnedEndW U o U' L ({ frames := 2, cells := 4, slots := 40, locals := 28 } : Room).cells ({ frames := 2, cells := 4, slots := 40, locals := 28 } : Room).slots) := by
  refine MetFree.of_bodySF (plainFor_of_name own_pn_com_example_bleeper_bleeper_cli_Arguments) hisR ?_
  intro p e s m args below meth c s₁ Bd hml0 hP hK
  obtain ⟨rfl, hZ, hh, H⟩ := hP
  have hx := Bd.exec
  have hby := Bd.bytes
  have hml : c.maxLocals = 1 := hml0
  have hown : s.vm.findClass "com/example/bleeper/bleeper/cli/Arguments" = some m.cls := findClass_of_methodNamed Bd.named
  have hnm := (name_of_methodNamed Bd.named Bd.method).1
  have hlk := Bd.notSynchronized
  obtain ⟨lc, hlc⟩ : ∃ lc : List Loc, lc = [] := ⟨_, rfl⟩
  have X : Stand p l e ({ frames := 2, cells := 4, slots := 40, locals := 28 } : Room) s m #[(.ref a1)] below meth c s₁ lc 0 0 := hlc ▸ Stand.of_body Bd
  have eT : s₁.heap = h0 := by rw [← hh, Bd.state]; rfl
  have N : Fr n0 lc := hlc ▸ Fr.nil n0
  obtain ⟨vm0, hvm⟩ : ∃ v : Vm, v = s.vm := ⟨_, rfl⟩
  have X : Stand p l e ({ frames := 2, cells := 4, slots := 40, locals := 28 } : Room) (s.setVm vm0) m #[(.ref a1)] below meth c s₁ lc 0 0 := by rw [hvm]; exact X
  have hZ : Z.Warmed39 (s.setVm vm0).vm := by rw [hvm]; exact hZ
  have hown : (s.setVm vm0).vm.findClass "com/example/bleeper/bleeper/cli/Arguments" = some m.cls := by rw [hvm]; exact hown
  have hS : s.Since vm0 h0.size := by rw [hvm]; exact (State.WarmedH.refl s).since _
  have hk : h0.size ≤ h0.size := Nat.le_refl _
  have CR : CHr Z own_EL s.vm h0 vm0 h0 := by rw [hvm]; exact CHr.refl H
  have H : CHv Z own_EL vm0 h0 := by rw [hvm]; exact H
  refine own_enterS (ef_ak0 m a1) ?_
  obtain ⟨T, hT⟩ : ∃ T : State, T = s₁ := ⟨_, rfl⟩
  rw [← hT] at X eT ⊢
  show own_W p e below (own_PostS Z own_EL s (Q_ak0 Z a1 b1 cs h0 n0) 4 40) T m 0 #[.val (.ref a1)] []
  refine own_aloadN X hx (hb hby own_d_prog_41_method_3_code_0) (pc' := 1) rfl rfl rfl ?_
  refine own_ldcS X hx hZ hown (own_w hw 40 rfl) (own_wS hw) eT hS hk hEL own_mem_40 H [(.int (45 : Int32)), (.int (45 : Int32)), (.int (104 : Int32)), (.int (101 : Int32)), (.int (108 : Int32)), (.int (112 : Int32))] (6 : Int32) own_txt_40 (by decide) rfl (hb hby own_d_prog_41_method_3_code_1) (pc' := 3) rfl 24 (by decide) (by decide) (cells' := 2) (slots' := 28) rfl rfl (by decide) (by decide) ?_
  intro sa1 T h1 k1 sb1 k_sb1 vm0 X eT E hS hk hZ hown E_sa1 FC_sa1 FV_sa1 A_sb1 CQ hne_sa1
  have CR := CR.trans CQ
  have H := CQ.1
  have S_C := S_C.ext E
  have E_1 := E_1.ext E
  have C_1 := C_1.ext E
  have V_1 := V_1.ext E
  have A_1 := A_1.ext E
  have Z0 := Nat.le_trans Z0 E.1
  refine own_callV X hx hZ (y := (⟨"java/lang/String", "equals", "(Ljava/lang/Object;)Z"⟩ : MethodName)) a1 [(.ref sa1)] hown (own_w hw 41 rfl) (own_w hw 42 rfl) (own_w hw 44 rfl) (own_w hw 43 rfl) (own_w hw 16 rfl) (own_w hw 45 rfl) (by decide) (rm_eq0_6 l Z a0 hw [] a1 sa1 b1 sb1 cs  h1 n0 Z0 S_C hcs E_1 C_1 V_1 E_sa1 FC_sa1 FV_sa1 _ _ A_1 A_sb1) E_1 eT (W := 0) (by decide) (by decide) (cells' := 2) (slots' := 28) rfl rfl (by decide) (by decide) (by rw [hml]; rfl) (lenOf own_pd_28Ljava2flang2fObject3b29Z rfl) rfl (S := []) rfl (Nat.le_of_eq rfl) (hb hby own_d_prog_41_method_3_code_3) (pc' := 6) rfl ?_
  intro v T h2 L lc X eT hq fN
  obtain ⟨rfl, Nq, hqe⟩ := hq
  have N := fN _ N Nq
  rw [hqe] at eT
  show own_W p e below (own_PostS Z own_EL s (Q_ak0 Z a1 b1 cs h0 n0) 4 40) T m 6 #[.val (.ref a1)] [(.int (0 : Int32))]
  refine own_ifN X hx (hb hby own_d_prog_41_method_3_code_6) (pc' := 9) rfl (show (0 : Int32) = (0 : Int32) from (by decide)) ?_
  refine own_aloadN X hx (hb hby own_d_prog_41_method_3_code_9) (pc' := 10) rfl rfl rfl ?_
  refine own_ldcS X hx hZ hown (own_w hw 52 rfl) (own_wS hw) eT hS hk hEL own_mem_52 H [(.int (45 : Int32)), (.int (104 : Int32))] (2 : Int32) own_txt_52 (by decide) rfl (hb hby own_d_prog_41_method_3_code_10) (pc' := 12) rfl 8 (by decide) (by decide) (cells' := 4) (slots' := 40) rfl rfl (by decide) (by decide) ?_
  intro sa3 T h3 k1 sb3 k_sb3 vm0 X eT E hS hk hZ hown E_sa3 FC_sa3 FV_sa3 A_sb3 CQ hne_sa3
  have CR := CR.trans CQ
  have H := CQ.1
  have S_C := S_C.ext E
  have E_1 := E_1.ext E
  have C_1 := C_1.ext E
  have V_1 := V_1.ext E
  have A_1 := A_1.ext E
  have E_sa1 := E_sa1.ext E
  have FC_sa1 := FC_sa1.ext E
  have FV_sa1 := FV_sa1.ext E
  have A_sb1 := A_sb1.ext E
  have Z0 := Nat.le_trans Z0 E.1
  refine own_callV X hx hZ (y := (⟨"java/lang/String", "equals", "(Ljava/lang/Object;)Z"⟩ : MethodName)) a1 [(.ref sa3)] hown (own_w hw 41 rfl) (own_w hw 42 rfl) (own_w hw 44 rfl) (own_w hw 43 rfl) (own_w hw 16 rfl) (own_w hw 45 rfl) (by decide) (rm_eq0_2 l Z a0 hw [] a1 sa3 b1 sb3 cs  h3 n0 Z0 S_C hcs E_1 C_1 V_1 E_sa3 FC_sa3 FV_sa3 _ _ A_1 A_sb3) E_1 eT (W := 0) (by decide) (by decide) (cells' := 4) (slots' := 40) rfl rfl (by decide) (by decide) (by rw [hml]; rfl) (lenOf own_pd_28Ljava2flang2fObject3b29Z rfl) rfl (S := []) rfl (Nat.le_of_eq rfl) (hb hby own_d_prog_41_method_3_code_12) (pc' := 15) rfl ?_
  intro v T h4 L lc X eT hq fN
  obtain ⟨rfl, Nq, hqe⟩ := hq
  have N := fN _ N Nq
  rw [hqe] at eT
  show own_W p e below (own_PostS Z own_EL s (Q_ak0 Z a1 b1 cs h0 n0) 4 40) T m 15 #[.val (.ref a1)] [(.int (0 : Int32))]
  refine own_ifY X hx (hb hby own_d_prog_41_method_3_code_15) (by decide) (pc' := 22) rfl (show (0 : Int32) = (0 : Int32) from (by decide)) ?_
  refine own_iconst X hx (0 : Int32) (hb hby own_d_prog_41_method_3_code_22) (pc' := 23) rfl rfl ?_
  refine own_retIS X hx hlk hZ eT hh hS hk hEL H CR (t := .boolean) (w' := (.int (0 : Int32))) Bd.returns (hb hby own_d_prog_41_method_3_code_23) rfl rfl (by simp) (by decide) (by decide) ?_
  rw [eT]
  exact ⟨rfl, N⟩
theorem ef_ak1 (m : MethodId) (x0 : Addr) : entryFrame m #[(.ref x0)] 1 = mkF m 0 #[.val (.ref x0)] [] := by first | (simp [entryFrame, mkF, argsToLocals, Value.category]; done) | rfl
def Q_ak1 (Z : State) (a1 b1 : Addr) (cs : Int32) (x0 : Int32) (h0 : Heap) (n0 : Nat) (v : Option Value) (h : Heap) (L : List Loc) : Prop := v = some (.int (0 : Int32)) ∧ Fr n0 L
set_option maxRecDepth 65536 in
set_option maxHeartbeats 40000000 in
theorem rm_ak1 (l : Launch) (Z : State) (a0 : Array Value) (hw : ∀ d ∈ tables_1, d.before a0 Z = true) (hEL : EW Z a0 own_EL) (ws : List Jvm.Cond) (a1 b1 : Addr) (cs : Int32) (x0 : Int32) (h0 : Heap) (n0 : Nat) (Z0 : n0 ≤ h0.size) (S_C : Sta Z h0 "java/lang/String" "COMPACT_STRINGS" "Z" (.int cs)) (hcs : ¬ cs = 0) (E_1 : Exa Z h0 a1 "java/lang/String") (C_1 : Fld Z h0 a1 "java/lang/String" "coder" "B" (.int (0 : Int32))) (V_1 : Fld Z h0 a1 "java/lang/String" "value" "[B" (.ref b1)) (k1 : ClassId) (A_1 : Arv Z h0 b1 k1 .byte (1 : Int32) [(.int x0)] (.int (0 : Int32))) :
    MetFree l (⟨"com/example/bleeper/bleeper/cli/Arguments", "asksForHelp", "(Ljava/lang/String;)Z"⟩ : MethodName) (head1 (Jvm.Cond.code (⟨"com/example/bleeper/bleeper/cli/Arguments", "asksForHelp", "(Ljava/lang/String;)Z"⟩ : MethodName) prog_41_method_3_code 1 (some .boolean) :: ws) ({ frames := 2, cells := 4, slots := 40, locals := 28 } : Room)) (fun a U => a = #[(.ref a1)] ∧ Z.Warmed39 U.vm ∧ U.heap = h0 ∧ CHv Z own_EL U.vm h0) (fun _ _ _ _ _ => True) (fun _ U o U' => ∃ v L, o = .returned v ∧ Q_ak1 Z a1 b1 cs x0 h0 n0 v U'.heap L ∧ CHr Z own_EL U.vm U.heap U'.vm U'.heap ∧ ReturnedEndW U o U' L ({ frames := 2, cells := 4, slots := 40, locals := 28 } : Room).cells ({ frames := 2, cells := 4, slots := 40, locals := 28 } : Room).slots) := by
  refine MetFree.of_bodySF (plainFor_of_name own_pn_com_example_bleeper_bleeper_cli_Arguments) hisR ?_
  intro p e s m args below meth c s₁ Bd hml0 hP hK
  obtain ⟨rfl, hZ, hh, H⟩ := hP
  have hx := Bd.exec
  have hby := Bd.bytes
  have hml : c.maxLocals = 1 := hml0
  have hown : s.vm.findClass "com/example/bleeper/bleeper/cli/Arguments" = some m.cls := findClass_of_methodNamed Bd.named
  have hnm := (name_of_methodNamed Bd.named Bd.method).1
  have hlk := Bd.notSynchronized
  obtain ⟨lc, hlc⟩ : ∃ lc : List Loc, lc = [] := ⟨_, rfl⟩
  have X : Stand p l e ({ frames := 2, cells := 4, slots := 40, locals := 28 } : Room) s m #[(.ref a1)] below meth c s₁ lc 0 0 := hlc ▸ Stand.of_body Bd
  have eT : s₁.heap = h0 := by rw [← hh, Bd.state]; rfl
  have N : Fr n0 lc := hlc ▸ Fr.nil n0
  obtain ⟨vm0, hvm⟩ : ∃ v : Vm, v = s.vm := ⟨_, rfl⟩
  have X : Stand p l e ({ frames := 2, cells := 4, slots := 40, locals := 28 } : Room) (s.setVm vm0) m #[(.ref a1)] below meth c s₁ lc 0 0 := by rw [hvm]; exact X
  have hZ : Z.Warmed39 (s.setVm vm0).vm := by rw [hvm]; exact hZ
  have hown : (s.setVm vm0).vm.findClass "com/example/bleeper/bleeper/cli/Arguments" = some m.cls := by rw [hvm]; exact hown
  have hS : s.Since vm0 h0.size := by rw [hvm]; exact (State.WarmedH.refl s).since _
  have hk : h0.size ≤ h0.size := Nat.le_refl _
  have CR : CHr Z own_EL s.vm h0 vm0 h0 := by rw [hvm]; exact CHr.refl H
  have H : CHv Z own_EL vm0 h0 := by rw [hvm]; exact H
  refine own_enterS (ef_ak1 m a1) ?_
  obtain ⟨T, hT⟩ : ∃ T : State, T = s₁ := ⟨_, rfl⟩
  rw [← hT] at X eT ⊢
  show own_W p e below (own_PostS Z own_EL s (Q_ak1 Z a1 b1 cs x0 h0 n0) 4 40) T m 0 #[.val (.ref a1)] []
  refine own_aloadN X hx (hb hby own_d_prog_41_method_3_code_0) (pc' := 1) rfl rfl rfl ?_
  refine own_ldcS X hx hZ hown (own_w hw 40 rfl) (own_wS hw) eT hS hk hEL own_mem_40 H [(.int (45 : Int32)), (.int (45 : Int32)), (.int (104 : Int32)), (.int (101 : Int32)), (.int (108 : Int32)), (.int (112 : Int32))] (6 : Int32) own_txt_40 (by decide) rfl (hb hby own_d_prog_41_method_3_code_1) (pc' := 3) rfl 24 (by decide) (by decide) (cells' := 2) (slots' := 28) rfl rfl (by decide) (by decide) ?_
  intro sa1 T h1 k1 sb1 k_sb1 vm0 X eT E hS hk hZ hown E_sa1 FC_sa1 FV_sa1 A_sb1 CQ hne_sa1
  have CR := CR.trans CQ
  have H := CQ.1
  have S_C := S_C.ext E
  have E_1 := E_1.ext E
  have C_1 := C_1.ext E
  have V_1 := V_1.ext E
  have A_1 := A_1.ext E
  have Z0 := Nat.le_trans Z0 E.1
  refine own_callV X hx hZ (y := (⟨"java/lang/String", "equals", "(Ljava/lang/Object;)Z"⟩ : MethodName)) a1 [(.ref sa1)] hown (own_w hw 41 rfl) (own_w hw 42 rfl) (own_w hw 44 rfl) (own_w hw 43 rfl) (own_w hw 16 rfl) (own_w hw 45 rfl) (by decide) (rm_eq1_6 l Z a0 hw [] a1 sa1 b1 sb1 cs x0 h1 n0 Z0 S_C hcs E_1 C_1 V_1 E_sa1 FC_sa1 FV_sa1 _ _ A_1 A_sb1) E_1 eT (W := 0) (by decide) (by decide) (cells' := 2) (slots' := 28) rfl rfl (by decide) (by decide) (by rw [hml]; rfl) (lenOf own_pd_28Ljava2flang2fObject3b29Z rfl) rfl (S := []) rfl (Nat.le_of_eq rfl) (hb hby own_d_prog_41_method_3_code_3) (pc' := 6) rfl ?_
  intro v T h2 L lc X eT hq fN
  obtain ⟨rfl, Nq, hqe⟩ := hq
  have N := fN _ N Nq
  rw [hqe] at eT
  show own_W p e below (own_PostS Z own_EL s (Q_ak1 Z a1 b1 cs x0 h0 n0) 4 40) T m 6 #[.val (.ref a1)] [(.int (0 : Int32))]
  refine own_ifN X hx (hb hby own_d_prog_41_method_3_code_6) (pc' := 9) rfl (show (0 : Int32) = (0 : Int32) from (by decide)) ?_
  refine own_aloadN X hx (hb hby own_d_prog_41_method_3_code_9) (pc' := 10) rfl rfl rfl ?_
  refine own_ldcS X hx hZ hown (own_w hw 52 rfl) (own_wS hw) eT hS hk hEL own_mem_52 H [(.int (45 : Int32)), (.int (104 : Int32))] (2 : Int32) own_txt_52 (by decide) rfl (hb hby own_d_prog_41_method_3_code_10) (pc' := 12) rfl 8 (by decide) (by decide) (cells' := 4) (slots' := 40) rfl rfl (by decide) (by decide) ?_
  intro sa3 T h3 k1 sb3 k_sb3 vm0 X eT E hS hk hZ hown E_sa3 FC_sa3 FV_sa3 A_sb3 CQ hne_sa3
  have CR := CR.trans CQ
  have H := CQ.1
  have S_C := S_C.ext E
  have E_1 := E_1.ext E
  have C_1 := C_1.ext E
  have V_1 := V_1.ext E
  have A_1 := A_1.ext E
  have E_sa1 := E_sa1.ext E
  have FC_sa1 := FC_sa1.ext E
  have FV_sa1 := FV_sa1.ext E
  have A_sb1 := A_sb1.ext E
  have Z0 := Nat.le_trans Z0 E.1
  refine own_callV X hx hZ (y := (⟨"java/lang/String", "equals", "(Ljava/lang/Object;)Z"⟩ : MethodName)) a1 [(.ref sa3)] hown (own_w hw 41 rfl) (own_w hw 42 rfl) (own_w hw 44 rfl) (own_w hw 43 rfl) (own_w hw 16 rfl) (own_w hw 45 rfl) (by decide) (rm_eq1_2 l Z a0 hw [] a1 sa3 b1 sb3 cs x0 h3 n0 Z0 S_C hcs E_1 C_1 V_1 E_sa3 FC_sa3 FV_sa3 _ _ A_1 A_sb3) E_1 eT (W := 0) (by decide) (by decide) (cells' := 4) (slots' := 40) rfl rfl (by decide) (by decide) (by rw [hml]; rfl) (lenOf own_pd_28Ljava2flang2fObject3b29Z rfl) rfl (S := []) rfl (Nat.le_of_eq rfl) (hb hby own_d_prog_41_method_3_code_12) (pc' := 15) rfl ?_
  intro v T h4 L lc X eT hq fN
  obtain ⟨rfl, Nq, hqe⟩ := hq
  have N := fN _ N Nq
  rw [hqe] at eT
  show own_W p e below (own_PostS Z own_EL s (Q_ak1 Z a1 b1 cs x0 h0 n0) 4 40) T m 15 #[.val (.ref a1)] [(.int (0 : Int32))]
  refine own_ifY X hx (hb hby own_d_prog_41_method_3_code_15) (by decide) (pc' := 22) rfl (show (0 : Int32) = (0 : Int32) from (by decide)) ?_
  refine own_iconst X hx (0 : Int32) (hb hby own_d_prog_41_method_3_code_22) (pc' := 23) rfl rfl ?_
  refine own_retIS X hx hlk hZ eT hh hS hk hEL H CR (t := .boolean) (w' := (.int (0 : Int32))) Bd.returns (hb hby own_d_prog_41_method_3_code_23) rfl rfl (by simp) (by decide) (by decide) ?_
  rw [eT]
  exact ⟨rfl, N⟩
theorem own_d_prog_41_method_3_code_18 : decode prog_41_method_3_code 18 = .ok (.iconst 1, 1) := by decide +kernel
theorem own_d_prog_41_method_3_code_19 : decode prog_41_method_3_code 19 = .ok (.goto 4, 3) := by decide +kernel
theorem ef_ak2 (m : MethodId) (x0 : Addr) : entryFrame m #[(.ref x0)] 1 = mkF m 0 #[.val (.ref x0)] [] := by first | (simp [entryFrame, mkF, argsToLocals, Value.category]; done) | rfl
def Q_ak2 (Z : State) (a1 b1 : Addr) (cs : Int32) (x0 x1 : Int32) (h0 : Heap) (n0 : Nat) (v : Option Value) (h : Heap) (L : List Loc) : Prop := v = some (.int (own_eqv [x0, x1] [(45 : Int32), (104 : Int32)])) ∧ Fr n0 L
set_option maxRecDepth 65536 in
set_option maxHeartbeats 40000000 in
theorem rm_ak2 (l : Launch) (Z : State) (a0 : Array Value) (hw : ∀ d ∈ tables_1, d.before a0 Z = true) (hEL : EW Z a0 own_EL) (ws : List Jvm.Cond) (a1 b1 : Addr) (cs : Int32) (x0 x1 : Int32) (h0 : Heap) (n0 : Nat) (Z0 : n0 ≤ h0.size) (S_C : Sta Z h0 "java/lang/String" "COMPACT_STRINGS" "Z" (.int cs)) (hcs : ¬ cs = 0) (E_1 : Exa Z h0 a1 "java/lang/String") (C_1 : Fld Z h0 a1 "java/lang/String" "coder" "B" (.int (0 : Int32))) (V_1 : Fld Z h0 a1 "java/lang/String" "value" "[B" (.ref b1)) (k1 : ClassId) (A_1 : Arv Z h0 b1 k1 .byte (2 : Int32) [(.int x0), (.int x1)] (.int (0 : Int32))) :
    MetFree l (⟨"com/example/bleeper/bleeper/cli/Arguments", "asksForHelp", "(Ljava/lang/String;)Z"⟩ : MethodName) (head1 (Jvm.Cond.code (⟨"com/example/bleeper/bleeper/cli/Arguments", "asksForHelp", "(Ljava/lang/String;)Z"⟩ : MethodName) prog_41_method_3_code 1 (some .boolean) :: ws) ({ frames := 2, cells := 4, slots := 40, locals := 28 } : Room)) (fun a U => a = #[(.ref a1)] ∧ Z.Warmed39 U.vm ∧ U.heap = h0 ∧ CHv Z own_EL U.vm h0) (fun _ _ _ _ _ => True) (fun _ U o U' => ∃ v L, o = .returned v ∧ Q_ak2 Z a1 b1 cs x0 x1 h0 n0 v U'.heap L ∧ CHr Z own_EL U.vm U.heap U'.vm U'.heap ∧ ReturnedEndW U o U' L ({ frames := 2, cells := 4, slots := 40, locals := 28 } : Room).cells ({ frames := 2, cells := 4, slots := 40, locals := 28 } : Room).slots) := by
  refine MetFree.of_bodySF (plainFor_of_name own_pn_com_example_bleeper_bleeper_cli_Arguments) hisR ?_
  intro p e s m args below meth c s₁ Bd hml0 hP hK
  obtain ⟨rfl, hZ, hh, H⟩ := hP
  have hx := Bd.exec
  have hby := Bd.bytes
  have hml : c.maxLocals = 1 := hml0
  have hown : s.vm.findClass "com/example/bleeper/bleeper/cli/Arguments" = some m.cls := findClass_of_methodNamed Bd.named
  have hnm := (name_of_methodNamed Bd.named Bd.method).1
  have hlk := Bd.notSynchronized
  obtain ⟨lc, hlc⟩ : ∃ lc : List Loc, lc = [] := ⟨_, rfl⟩
  have X : Stand p l e ({ frames := 2, cells := 4, slots := 40, locals := 28 } : Room) s m #[(.ref a1)] below meth c s₁ lc 0 0 := hlc ▸ Stand.of_body Bd
  have eT : s₁.heap = h0 := by rw [← hh, Bd.state]; rfl
  have N : Fr n0 lc := hlc ▸ Fr.nil n0
  obtain ⟨vm0, hvm⟩ : ∃ v : Vm, v = s.vm := ⟨_, rfl⟩
  have X : Stand p l e ({ frames := 2, cells := 4, slots := 40, locals := 28 } : Room) (s.setVm vm0) m #[(.ref a1)] below meth c s₁ lc 0 0 := by rw [hvm]; exact X
  have hZ : Z.Warmed39 (s.setVm vm0).vm := by rw [hvm]; exact hZ
  have hown : (s.setVm vm0).vm.findClass "com/example/bleeper/bleeper/cli/Arguments" = some m.cls := by rw [hvm]; exact hown
  have hS : s.Since vm0 h0.size := by rw [hvm]; exact (State.WarmedH.refl s).since _
  have hk : h0.size ≤ h0.size := Nat.le_refl _
  have CR : CHr Z own_EL s.vm h0 vm0 h0 := by rw [hvm]; exact CHr.refl H
  have H : CHv Z own_EL vm0 h0 := by rw [hvm]; exact H
  refine own_enterS (ef_ak2 m a1) ?_
  obtain ⟨T, hT⟩ : ∃ T : State, T = s₁ := ⟨_, rfl⟩
  rw [← hT] at X eT ⊢
  show own_W p e below (own_PostS Z own_EL s (Q_ak2 Z a1 b1 cs x0 x1 h0 n0) 4 40) T m 0 #[.val (.ref a1)] []
  refine own_aloadN X hx (hb hby own_d_prog_41_method_3_code_0) (pc' := 1) rfl rfl rfl ?_
  refine own_ldcS X hx hZ hown (own_w hw 40 rfl) (own_wS hw) eT hS hk hEL own_mem_40 H [(.int (45 : Int32)), (.int (45 : Int32)), (.int (104 : Int32)), (.int (101 : Int32)), (.int (108 : Int32)), (.int (112 : Int32))] (6 : Int32) own_txt_40 (by decide) rfl (hb hby own_d_prog_41_method_3_code_1) (pc' := 3) rfl 24 (by decide) (by decide) (cells' := 2) (slots' := 28) rfl rfl (by decide) (by decide) ?_
  intro sa1 T h1 k1 sb1 k_sb1 vm0 X eT E hS hk hZ hown E_sa1 FC_sa1 FV_sa1 A_sb1 CQ hne_sa1
  have CR := CR.trans CQ
  have H := CQ.1
  have S_C := S_C.ext E
  have E_1 := E_1.ext E
  have C_1 := C_1.ext E
  have V_1 := V_1.ext E
  have A_1 := A_1.ext E
  have Z0 := Nat.le_trans Z0 E.1
  refine own_callV X hx hZ (y := (⟨"java/lang/String", "equals", "(Ljava/lang/Object;)Z"⟩ : MethodName)) a1 [(.ref sa1)] hown (own_w hw 41 rfl) (own_w hw 42 rfl) (own_w hw 44 rfl) (own_w hw 43 rfl) (own_w hw 16 rfl) (own_w hw 45 rfl) (by decide) (rm_eq2_6 l Z a0 hw [] a1 sa1 b1 sb1 cs x0 x1 h1 n0 Z0 S_C hcs E_1 C_1 V_1 E_sa1 FC_sa1 FV_sa1 _ _ A_1 A_sb1) E_1 eT (W := 0) (by decide) (by decide) (cells' := 2) (slots' := 28) rfl rfl (by decide) (by decide) (by rw [hml]; rfl) (lenOf own_pd_28Ljava2flang2fObject3b29Z rfl) rfl (S := []) rfl (Nat.le_of_eq rfl) (hb hby own_d_prog_41_method_3_code_3) (pc' := 6) rfl ?_
  intro v T h2 L lc X eT hq fN
  obtain ⟨rfl, Nq, hqe⟩ := hq
  have N := fN _ N Nq
  rw [hqe] at eT
  show own_W p e below (own_PostS Z own_EL s (Q_ak2 Z a1 b1 cs x0 x1 h0 n0) 4 40) T m 6 #[.val (.ref a1)] [(.int (0 : Int32))]
  refine own_ifN X hx (hb hby own_d_prog_41_method_3_code_6) (pc' := 9) rfl (show (0 : Int32) = (0 : Int32) from (by decide)) ?_
  refine own_aloadN X hx (hb hby own_d_prog_41_method_3_code_9) (pc' := 10) rfl rfl rfl ?_
  refine own_ldcS X hx hZ hown (own_w hw 52 rfl) (own_wS hw) eT hS hk hEL own_mem_52 H [(.int (45 : Int32)), (.int (104 : Int32))] (2 : Int32) own_txt_52 (by decide) rfl (hb hby own_d_prog_41_method_3_code_10) (pc' := 12) rfl 8 (by decide) (by decide) (cells' := 4) (slots' := 40) rfl rfl (by decide) (by decide) ?_
  intro sa3 T h3 k1 sb3 k_sb3 vm0 X eT E hS hk hZ hown E_sa3 FC_sa3 FV_sa3 A_sb3 CQ hne_sa3
  have CR := CR.trans CQ
  have H := CQ.1
  have S_C := S_C.ext E
  have E_1 := E_1.ext E
  have C_1 := C_1.ext E
  have V_1 := V_1.ext E
  have A_1 := A_1.ext E
  have E_sa1 := E_sa1.ext E
  have FC_sa1 := FC_sa1.ext E
  have FV_sa1 := FV_sa1.ext E
  have A_sb1 := A_sb1.ext E
  have Z0 := Nat.le_trans Z0 E.1
  refine own_callV X hx hZ (y := (⟨"java/lang/String", "equals", "(Ljava/lang/Object;)Z"⟩ : MethodName)) a1 [(.ref sa3)] hown (own_w hw 41 rfl) (own_w hw 42 rfl) (own_w hw 44 rfl) (own_w hw 43 rfl) (own_w hw 16 rfl) (own_w hw 45 rfl) (by decide) (rm_eq2_2 l Z a0 hw [] a1 sa3 b1 sb3 cs x0 x1 h3 n0 Z0 S_C hcs E_1 C_1 V_1 E_sa3 FC_sa3 FV_sa3 _ _ A_1 A_sb3) E_1 eT (W := 0) (by decide) (by decide) (cells' := 4) (slots' := 40) rfl rfl (by decide) (by decide) (by rw [hml]; rfl) (lenOf own_pd_28Ljava2flang2fObject3b29Z rfl) rfl (S := []) rfl (Nat.le_of_eq rfl) (hb hby own_d_prog_41_method_3_code_12) (pc' := 15) rfl ?_
  intro v T h4 L lc X eT hq fN
  obtain ⟨rfl, Nq, hqe⟩ := hq
  have N := fN _ N Nq
  rw [hqe] at eT
  show own_W p e below (own_PostS Z own_EL s (Q_ak2 Z a1 b1 cs x0 x1 h0 n0) 4 40) T m 15 #[.val (.ref a1)] [(.int (own_eqv [x0, x1] [(45 : Int32), (104 : Int32)]))]
  refine own_if X hx (hb hby own_d_prog_41_method_3_code_15) (by decide) (pcY := 22) (pcN := 18) rfl rfl (fun (hc15 : (own_eqv [x0, x1] [(45 : Int32), (104 : Int32)]) = (0 : Int32)) => ?_) (fun (hc15 : ¬ ((own_eqv [x0, x1] [(45 : Int32), (104 : Int32)]) = (0 : Int32))) => ?_)
  · refine own_iconst X hx (0 : Int32) (hb hby own_d_prog_41_method_3_code_22) (pc' := 23) rfl rfl ?_
    refine own_retIS X hx hlk hZ eT hh hS hk hEL H CR (t := .boolean) (w' := (.int (0 : Int32))) Bd.returns (hb hby own_d_prog_41_method_3_code_23) rfl rfl (by simp) (by decide) (by decide) ?_
    rw [eT]
    exact ⟨congrArg (fun z => some (Value.int z)) (own_e0 hc15), N⟩
  · refine own_iconst X hx (1 : Int32) (hb hby own_d_prog_41_method_3_code_18) (pc' := 19) rfl rfl ?_
    refine own_goto X hx (hb hby own_d_prog_41_method_3_code_19) (by decide) (pc' := 23) rfl ?_
    refine own_retIS X hx hlk hZ eT hh hS hk hEL H CR (t := .boolean) (w' := (.int (1 : Int32))) Bd.returns (hb hby own_d_prog_41_method_3_code_23) rfl rfl (by simp) (by decide) (by decide) ?_
    rw [eT]
    exact ⟨congrArg (fun z => some (Value.int z)) (own_e1 hc15), N⟩
theorem ef_ak3 (m : MethodId) (x0 : Addr) : entryFrame m #[(.ref x0)] 1 = mkF m 0 #[.val (.ref x0)] [] := by first | (simp [entryFrame, mkF, argsToLocals, Value.category]; done) | rfl
def Q_ak3 (Z : State) (a1 b1 : Addr) (cs : Int32) (x0 x1 x2 : Int32) (h0 : Heap) (n0 : Nat) (v : Option Value) (h : Heap) (L : List Loc) : Prop := v = some (.int (0 : Int32)) ∧ Fr n0 L
set_option maxRecDepth 65536 in
set_option maxHeartbeats 40000000 in
theorem rm_ak3 (l : Launch) (Z : State) (a0 : Array Value) (hw : ∀ d ∈ tables_1, d.before a0 Z = true) (hEL : EW Z a0 own_EL) (ws : List Jvm.Cond) (a1 b1 : Addr) (cs : Int32) (x0 x1 x2 : Int32) (h0 : Heap) (n0 : Nat) (Z0 : n0 ≤ h0.size) (S_C : Sta Z h0 "java/lang/String" "COMPACT_STRINGS" "Z" (.int cs)) (hcs : ¬ cs = 0) (E_1 : Exa Z h0 a1 "java/lang/String") (C_1 : Fld Z h0 a1 "java/lang/String" "coder" "B" (.int (0 : Int32))) (V_1 : Fld Z h0 a1 "java/lang/String" "value" "[B" (.ref b1)) (k1 : ClassId) (A_1 : Arv Z h0 b1 k1 .byte (3 : Int32) [(.int x0), (.int x1), (.int x2)] (.int (0 : Int32))) :
    MetFree l (⟨"com/example/bleeper/bleeper/cli/Arguments", "asksForHelp", "(Ljava/lang/String;)Z"⟩ : MethodName) (head1 (Jvm.Cond.code (⟨"com/example/bleeper/bleeper/cli/Arguments", "asksForHelp", "(Ljava/lang/String;)Z"⟩ : MethodName) prog_41_method_3_code 1 (some .boolean) :: ws) ({ frames := 2, cells := 4, slots := 40, locals := 28 } : Room)) (fun a U => a = #[(.ref a1)] ∧ Z.Warmed39 U.vm ∧ U.heap = h0 ∧ CHv Z own_EL U.vm h0) (fun _ _ _ _ _ => True) (fun _ U o U' => ∃ v L, o = .returned v ∧ Q_ak3 Z a1 b1 cs x0 x1 x2 h0 n0 v U'.heap L ∧ CHr Z own_EL U.vm U.heap U'.vm U'.heap ∧ ReturnedEndW U o U' L ({ frames := 2, cells := 4, slots := 40, locals := 28 } : Room).cells ({ frames := 2, cells := 4, slots := 40, locals := 28 } : Room).slots) := by
  refine MetFree.of_bodySF (plainFor_of_name own_pn_com_example_bleeper_bleeper_cli_Arguments) hisR ?_
  intro p e s m args below meth c s₁ Bd hml0 hP hK
  obtain ⟨rfl, hZ, hh, H⟩ := hP
  have hx := Bd.exec
  have hby := Bd.bytes
  have hml : c.maxLocals = 1 := hml0
  have hown : s.vm.findClass "com/example/bleeper/bleeper/cli/Arguments" = some m.cls := findClass_of_methodNamed Bd.named
  have hnm := (name_of_methodNamed Bd.named Bd.method).1
  have hlk := Bd.notSynchronized
  obtain ⟨lc, hlc⟩ : ∃ lc : List Loc, lc = [] := ⟨_, rfl⟩
  have X : Stand p l e ({ frames := 2, cells := 4, slots := 40, locals := 28 } : Room) s m #[(.ref a1)] below meth c s₁ lc 0 0 := hlc ▸ Stand.of_body Bd
  have eT : s₁.heap = h0 := by rw [← hh, Bd.state]; rfl
  have N : Fr n0 lc := hlc ▸ Fr.nil n0
  obtain ⟨vm0, hvm⟩ : ∃ v : Vm, v = s.vm := ⟨_, rfl⟩
  have X : Stand p l e ({ frames := 2, cells := 4, slots := 40, locals := 28 } : Room) (s.setVm vm0) m #[(.ref a1)] below meth c s₁ lc 0 0 := by rw [hvm]; exact X
  have hZ : Z.Warmed39 (s.setVm vm0).vm := by rw [hvm]; exact hZ
  have hown : (s.setVm vm0).vm.findClass "com/example/bleeper/bleeper/cli/Arguments" = some m.cls := by rw [hvm]; exact hown
  have hS : s.Since vm0 h0.size := by rw [hvm]; exact (State.WarmedH.refl s).since _
  have hk : h0.size ≤ h0.size := Nat.le_refl _
  have CR : CHr Z own_EL s.vm h0 vm0 h0 := by rw [hvm]; exact CHr.refl H
  have H : CHv Z own_EL vm0 h0 := by rw [hvm]; exact H
  refine own_enterS (ef_ak3 m a1) ?_
  obtain ⟨T, hT⟩ : ∃ T : State, T = s₁ := ⟨_, rfl⟩
  rw [← hT] at X eT ⊢
  show own_W p e below (own_PostS Z own_EL s (Q_ak3 Z a1 b1 cs x0 x1 x2 h0 n0) 4 40) T m 0 #[.val (.ref a1)] []
  refine own_aloadN X hx (hb hby own_d_prog_41_method_3_code_0) (pc' := 1) rfl rfl rfl ?_
  refine own_ldcS X hx hZ hown (own_w hw 40 rfl) (own_wS hw) eT hS hk hEL own_mem_40 H [(.int (45 : Int32)), (.int (45 : Int32)), (.int (104 : Int32)), (.int (101 : Int32)), (.int (108 : Int32)), (.int (112 : Int32))] (6 : Int32) own_txt_40 (by decide) rfl (hb hby own_d_prog_41_method_3_code_1) (pc' := 3) rfl 24 (by decide) (by decide) (cells' := 2) (slots' := 28) rfl rfl (by decide) (by decide) ?_
  intro sa1 T h1 k1 sb1 k_sb1 vm0 X eT E hS hk hZ hown E_sa1 FC_sa1 FV_sa1 A_sb1 CQ hne_sa1
  have CR := CR.trans CQ
  have H := CQ.1
  have S_C := S_C.ext E
  have E_1 := E_1.ext E
  have C_1 := C_1.ext E
  have V_1 := V_1.ext E
  have A_1 := A_1.ext E
  have Z0 := Nat.le_trans Z0 E.1
  refine own_callV X hx hZ (y := (⟨"java/lang/String", "equals", "(Ljava/lang/Object;)Z"⟩ : MethodName)) a1 [(.ref sa1)] hown (own_w hw 41 rfl) (own_w hw 42 rfl) (own_w hw 44 rfl) (own_w hw 43 rfl) (own_w hw 16 rfl) (own_w hw 45 rfl) (by decide) (rm_eq3_6 l Z a0 hw [] a1 sa1 b1 sb1 cs x0 x1 x2 h1 n0 Z0 S_C hcs E_1 C_1 V_1 E_sa1 FC_sa1 FV_sa1 _ _ A_1 A_sb1) E_1 eT (W := 0) (by decide) (by decide) (cells' := 2) (slots' := 28) rfl rfl (by decide) (by decide) (by rw [hml]; rfl) (lenOf own_pd_28Ljava2flang2fObject3b29Z rfl) rfl (S := []) rfl (Nat.le_of_eq rfl) (hb hby own_d_prog_41_method_3_code_3) (pc' := 6) rfl ?_
  intro v T h2 L lc X eT hq fN
  obtain ⟨rfl, Nq, hqe⟩ := hq
  have N := fN _ N Nq
  rw [hqe] at eT
  show own_W p e below (own_PostS Z own_EL s (Q_ak3 Z a1 b1 cs x0 x1 x2 h0 n0) 4 40) T m 6 #[.val (.ref a1)] [(.int (0 : Int32))]
  refine own_ifN X hx (hb hby own_d_prog_41_method_3_code_6) (pc' := 9) rfl (show (0 : Int32) = (0 : Int32) from (by decide)) ?_
  refine own_aloadN X hx (hb hby own_d_prog_41_method_3_code_9) (pc' := 10) rfl rfl rfl ?_
  refine own_ldcS X hx hZ hown (own_w hw 52 rfl) (own_wS hw) eT hS hk hEL own_mem_52 H [(.int (45 : Int32)), (.int (104 : Int32))] (2 : Int32) own_txt_52 (by decide) rfl (hb hby own_d_prog_41_method_3_code_10) (pc' := 12) rfl 8 (by decide) (by decide) (cells' := 4) (slots' := 40) rfl rfl (by decide) (by decide) ?_
  intro sa3 T h3 k1 sb3 k_sb3 vm0 X eT E hS hk hZ hown E_sa3 FC_sa3 FV_sa3 A_sb3 CQ hne_sa3
  have CR := CR.trans CQ
  have H := CQ.1
  have S_C := S_C.ext E
  have E_1 := E_1.ext E
  have C_1 := C_1.ext E
  have V_1 := V_1.ext E
  have A_1 := A_1.ext E
  have E_sa1 := E_sa1.ext E
  have FC_sa1 := FC_sa1.ext E
  have FV_sa1 := FV_sa1.ext E
  have A_sb1 := A_sb1.ext E
  have Z0 := Nat.le_trans Z0 E.1
  refine own_callV X hx hZ (y := (⟨"java/lang/String", "equals", "(Ljava/lang/Object;)Z"⟩ : MethodName)) a1 [(.ref sa3)] hown (own_w hw 41 rfl) (own_w hw 42 rfl) (own_w hw 44 rfl) (own_w hw 43 rfl) (own_w hw 16 rfl) (own_w hw 45 rfl) (by decide) (rm_eq3_2 l Z a0 hw [] a1 sa3 b1 sb3 cs x0 x1 x2 h3 n0 Z0 S_C hcs E_1 C_1 V_1 E_sa3 FC_sa3 FV_sa3 _ _ A_1 A_sb3) E_1 eT (W := 0) (by decide) (by decide) (cells' := 4) (slots' := 40) rfl rfl (by decide) (by decide) (by rw [hml]; rfl) (lenOf own_pd_28Ljava2flang2fObject3b29Z rfl) rfl (S := []) rfl (Nat.le_of_eq rfl) (hb hby own_d_prog_41_method_3_code_12) (pc' := 15) rfl ?_
  intro v T h4 L lc X eT hq fN
  obtain ⟨rfl, Nq, hqe⟩ := hq
  have N := fN _ N Nq
  rw [hqe] at eT
  show own_W p e below (own_PostS Z own_EL s (Q_ak3 Z a1 b1 cs x0 x1 x2 h0 n0) 4 40) T m 15 #[.val (.ref a1)] [(.int (0 : Int32))]
  refine own_ifY X hx (hb hby own_d_prog_41_method_3_code_15) (by decide) (pc' := 22) rfl (show (0 : Int32) = (0 : Int32) from (by decide)) ?_
  refine own_iconst X hx (0 : Int32) (hb hby own_d_prog_41_method_3_code_22) (pc' := 23) rfl rfl ?_
  refine own_retIS X hx hlk hZ eT hh hS hk hEL H CR (t := .boolean) (w' := (.int (0 : Int32))) Bd.returns (hb hby own_d_prog_41_method_3_code_23) rfl rfl (by simp) (by decide) (by decide) ?_
  rw [eT]
  exact ⟨rfl, N⟩
theorem ef_ak4 (m : MethodId) (x0 : Addr) : entryFrame m #[(.ref x0)] 1 = mkF m 0 #[.val (.ref x0)] [] := by first | (simp [entryFrame, mkF, argsToLocals, Value.category]; done) | rfl
def Q_ak4 (Z : State) (a1 b1 : Addr) (cs : Int32) (x0 x1 x2 x3 : Int32) (h0 : Heap) (n0 : Nat) (v : Option Value) (h : Heap) (L : List Loc) : Prop := v = some (.int (0 : Int32)) ∧ Fr n0 L
set_option maxRecDepth 65536 in
set_option maxHeartbeats 40000000 in
theorem rm_ak4 (l : Launch) (Z : State) (a0 : Array Value) (hw : ∀ d ∈ tables_1, d.before a0 Z = true) (hEL : EW Z a0 own_EL) (ws : List Jvm.Cond) (a1 b1 : Addr) (cs : Int32) (x0 x1 x2 x3 : Int32) (h0 : Heap) (n0 : Nat) (Z0 : n0 ≤ h0.size) (S_C : Sta Z h0 "java/lang/String" "COMPACT_STRINGS" "Z" (.int cs)) (hcs : ¬ cs = 0) (E_1 : Exa Z h0 a1 "java/lang/String") (C_1 : Fld Z h0 a1 "java/lang/String" "coder" "B" (.int (0 : Int32))) (V_1 : Fld Z h0 a1 "java/lang/String" "value" "[B" (.ref b1)) (k1 : ClassId) (A_1 : Arv Z h0 b1 k1 .byte (4 : Int32) [(.int x0), (.int x1), (.int x2), (.int x3)] (.int (0 : Int32))) :
    MetFree l (⟨"com/example/bleeper/bleeper/cli/Arguments", "asksForHelp", "(Ljava/lang/String;)Z"⟩ : MethodName) (head1 (Jvm.Cond.code (⟨"com/example/bleeper/bleeper/cli/Arguments", "asksForHelp", "(Ljava/lang/String;)Z"⟩ : MethodName) prog_41_method_3_code 1 (some .boolean) :: ws) ({ frames := 2, cells := 4, slots := 40, locals := 28 } : Room)) (fun a U => a = #[(.ref a1)] ∧ Z.Warmed39 U.vm ∧ U.heap = h0 ∧ CHv Z own_EL U.vm h0) (fun _ _ _ _ _ => True) (fun _ U o U' => ∃ v L, o = .returned v ∧ Q_ak4 Z a1 b1 cs x0 x1 x2 x3 h0 n0 v U'.heap L ∧ CHr Z own_EL U.vm U.heap U'.vm U'.heap ∧ ReturnedEndW U o U' L ({ frames := 2, cells := 4, slots := 40, locals := 28 } : Room).cells ({ frames := 2, cells := 4, slots := 40, locals := 28 } : Room).slots) := by
  refine MetFree.of_bodySF (plainFor_of_name own_pn_com_example_bleeper_bleeper_cli_Arguments) hisR ?_
  intro p e s m args below meth c s₁ Bd hml0 hP hK
  obtain ⟨rfl, hZ, hh, H⟩ := hP
  have hx := Bd.exec
  have hby := Bd.bytes
  have hml : c.maxLocals = 1 := hml0
  have hown : s.vm.findClass "com/example/bleeper/bleeper/cli/Arguments" = some m.cls := findClass_of_methodNamed Bd.named
  have hnm := (name_of_methodNamed Bd.named Bd.method).1
  have hlk := Bd.notSynchronized
  obtain ⟨lc, hlc⟩ : ∃ lc : List Loc, lc = [] := ⟨_, rfl⟩
  have X : Stand p l e ({ frames := 2, cells := 4, slots := 40, locals := 28 } : Room) s m #[(.ref a1)] below meth c s₁ lc 0 0 := hlc ▸ Stand.of_body Bd
  have eT : s₁.heap = h0 := by rw [← hh, Bd.state]; rfl
  have N : Fr n0 lc := hlc ▸ Fr.nil n0
  obtain ⟨vm0, hvm⟩ : ∃ v : Vm, v = s.vm := ⟨_, rfl⟩
  have X : Stand p l e ({ frames := 2, cells := 4, slots := 40, locals := 28 } : Room) (s.setVm vm0) m #[(.ref a1)] below meth c s₁ lc 0 0 := by rw [hvm]; exact X
  have hZ : Z.Warmed39 (s.setVm vm0).vm := by rw [hvm]; exact hZ
  have hown : (s.setVm vm0).vm.findClass "com/example/bleeper/bleeper/cli/Arguments" = some m.cls := by rw [hvm]; exact hown
  have hS : s.Since vm0 h0.size := by rw [hvm]; exact (State.WarmedH.refl s).since _
  have hk : h0.size ≤ h0.size := Nat.le_refl _
  have CR : CHr Z own_EL s.vm h0 vm0 h0 := by rw [hvm]; exact CHr.refl H
  have H : CHv Z own_EL vm0 h0 := by rw [hvm]; exact H
  refine own_enterS (ef_ak4 m a1) ?_
  obtain ⟨T, hT⟩ : ∃ T : State, T = s₁ := ⟨_, rfl⟩
  rw [← hT] at X eT ⊢
  show own_W p e below (own_PostS Z own_EL s (Q_ak4 Z a1 b1 cs x0 x1 x2 x3 h0 n0) 4 40) T m 0 #[.val (.ref a1)] []
  refine own_aloadN X hx (hb hby own_d_prog_41_method_3_code_0) (pc' := 1) rfl rfl rfl ?_
  refine own_ldcS X hx hZ hown (own_w hw 40 rfl) (own_wS hw) eT hS hk hEL own_mem_40 H [(.int (45 : Int32)), (.int (45 : Int32)), (.int (104 : Int32)), (.int (101 : Int32)), (.int (108 : Int32)), (.int (112 : Int32))] (6 : Int32) own_txt_40 (by decide) rfl (hb hby own_d_prog_41_method_3_code_1) (pc' := 3) rfl 24 (by decide) (by decide) (cells' := 2) (slots' := 28) rfl rfl (by decide) (by decide) ?_
  intro sa1 T h1 k1 sb1 k_sb1 vm0 X eT E hS hk hZ hown E_sa1 FC_sa1 FV_sa1 A_sb1 CQ hne_sa1
  have CR := CR.trans CQ
  have H := CQ.1
  have S_C := S_C.ext E
  have E_1 := E_1.ext E
  have C_1 := C_1.ext E
  have V_1 := V_1.ext E
  have A_1 := A_1.ext E
  have Z0 := Nat.le_trans Z0 E.1
  refine own_callV X hx hZ (y := (⟨"java/lang/String", "equals", "(Ljava/lang/Object;)Z"⟩ : MethodName)) a1 [(.ref sa1)] hown (own_w hw 41 rfl) (own_w hw 42 rfl) (own_w hw 44 rfl) (own_w hw 43 rfl) (own_w hw 16 rfl) (own_w hw 45 rfl) (by decide) (rm_eq4_6 l Z a0 hw [] a1 sa1 b1 sb1 cs x0 x1 x2 x3 h1 n0 Z0 S_C hcs E_1 C_1 V_1 E_sa1 FC_sa1 FV_sa1 _ _ A_1 A_sb1) E_1 eT (W := 0) (by decide) (by decide) (cells' := 2) (slots' := 28) rfl rfl (by decide) (by decide) (by rw [hml]; rfl) (lenOf own_pd_28Ljava2flang2fObject3b29Z rfl) rfl (S := []) rfl (Nat.le_of_eq rfl) (hb hby own_d_prog_41_method_3_code_3) (pc' := 6) rfl ?_
  intro v T h2 L lc X eT hq fN
  obtain ⟨rfl, Nq, hqe⟩ := hq
  have N := fN _ N Nq
  rw [hqe] at eT
  show own_W p e below (own_PostS Z own_EL s (Q_ak4 Z a1 b1 cs x0 x1 x2 x3 h0 n0) 4 40) T m 6 #[.val (.ref a1)] [(.int (0 : Int32))]
  refine own_ifN X hx (hb hby own_d_prog_41_method_3_code_6) (pc' := 9) rfl (show (0 : Int32) = (0 : Int32) from (by decide)) ?_
  refine own_aloadN X hx (hb hby own_d_prog_41_method_3_code_9) (pc' := 10) rfl rfl rfl ?_
  refine own_ldcS X hx hZ hown (own_w hw 52 rfl) (own_wS hw) eT hS hk hEL own_mem_52 H [(.int (45 : Int32)), (.int (104 : Int32))] (2 : Int32) own_txt_52 (by decide) rfl (hb hby own_d_prog_41_method_3_code_10) (pc' := 12) rfl 8 (by decide) (by decide) (cells' := 4) (slots' := 40) rfl rfl (by decide) (by decide) ?_
  intro sa3 T h3 k1 sb3 k_sb3 vm0 X eT E hS hk hZ hown E_sa3 FC_sa3 FV_sa3 A_sb3 CQ hne_sa3
  have CR := CR.trans CQ
  have H := CQ.1
  have S_C := S_C.ext E
  have E_1 := E_1.ext E
  have C_1 := C_1.ext E
  have V_1 := V_1.ext E
  have A_1 := A_1.ext E
  have E_sa1 := E_sa1.ext E
  have FC_sa1 := FC_sa1.ext E
  have FV_sa1 := FV_sa1.ext E
  have A_sb1 := A_sb1.ext E
  have Z0 := Nat.le_trans Z0 E.1
  refine own_callV X hx hZ (y := (⟨"java/lang/String", "equals", "(Ljava/lang/Object;)Z"⟩ : MethodName)) a1 [(.ref sa3)] hown (own_w hw 41 rfl) (own_w hw 42 rfl) (own_w hw 44 rfl) (own_w hw 43 rfl) (own_w hw 16 rfl) (own_w hw 45 rfl) (by decide) (rm_eq4_2 l Z a0 hw [] a1 sa3 b1 sb3 cs x0 x1 x2 x3 h3 n0 Z0 S_C hcs E_1 C_1 V_1 E_sa3 FC_sa3 FV_sa3 _ _ A_1 A_sb3) E_1 eT (W := 0) (by decide) (by decide) (cells' := 4) (slots' := 40) rfl rfl (by decide) (by decide) (by rw [hml]; rfl) (lenOf own_pd_28Ljava2flang2fObject3b29Z rfl) rfl (S := []) rfl (Nat.le_of_eq rfl) (hb hby own_d_prog_41_method_3_code_12) (pc' := 15) rfl ?_
  intro v T h4 L lc X eT hq fN
  obtain ⟨rfl, Nq, hqe⟩ := hq
  have N := fN _ N Nq
  rw [hqe] at eT
  show own_W p e below (own_PostS Z own_EL s (Q_ak4 Z a1 b1 cs x0 x1 x2 x3 h0 n0) 4 40) T m 15 #[.val (.ref a1)] [(.int (0 : Int32))]
  refine own_ifY X hx (hb hby own_d_prog_41_method_3_code_15) (by decide) (pc' := 22) rfl (show (0 : Int32) = (0 : Int32) from (by decide)) ?_
  refine own_iconst X hx (0 : Int32) (hb hby own_d_prog_41_method_3_code_22) (pc' := 23) rfl rfl ?_
  refine own_retIS X hx hlk hZ eT hh hS hk hEL H CR (t := .boolean) (w' := (.int (0 : Int32))) Bd.returns (hb hby own_d_prog_41_method_3_code_23) rfl rfl (by simp) (by decide) (by decide) ?_
  rw [eT]
  exact ⟨rfl, N⟩
theorem ef_ak5 (m : MethodId) (x0 : Addr) : entryFrame m #[(.ref x0)] 1 = mkF m 0 #[.val (.ref x0)] [] := by first | (simp [entryFrame, mkF, argsToLocals, Value.category]; done) | rfl
def Q_ak5 (Z : State) (a1 b1 : Addr) (cs : Int32) (x0 x1 x2 x3 x4 : Int32) (h0 : Heap) (n0 : Nat) (v : Option Value) (h : Heap) (L : List Loc) : Prop := v = some (.int (0 : Int32)) ∧ Fr n0 L
set_option maxRecDepth 65536 in
set_option maxHeartbeats 40000000 in
theorem rm_ak5 (l : Launch) (Z : State) (a0 : Array Value) (hw : ∀ d ∈ tables_1, d.before a0 Z = true) (hEL : EW Z a0 own_EL) (ws : List Jvm.Cond) (a1 b1 : Addr) (cs : Int32) (x0 x1 x2 x3 x4 : Int32) (h0 : Heap) (n0 : Nat) (Z0 : n0 ≤ h0.size) (S_C : Sta Z h0 "java/lang/String" "COMPACT_STRINGS" "Z" (.int cs)) (hcs : ¬ cs = 0) (E_1 : Exa Z h0 a1 "java/lang/String") (C_1 : Fld Z h0 a1 "java/lang/String" "coder" "B" (.int (0 : Int32))) (V_1 : Fld Z h0 a1 "java/lang/String" "value" "[B" (.ref b1)) (k1 : ClassId) (A_1 : Arv Z h0 b1 k1 .byte (5 : Int32) [(.int x0), (.int x1), (.int x2), (.int x3), (.int x4)] (.int (0 : Int32))) :
    MetFree l (⟨"com/example/bleeper/bleeper/cli/Arguments", "asksForHelp", "(Ljava/lang/String;)Z"⟩ : MethodName) (head1 (Jvm.Cond.code (⟨"com/example/bleeper/bleeper/cli/Arguments", "asksForHelp", "(Ljava/lang/String;)Z"⟩ : MethodName) prog_41_method_3_code 1 (some .boolean) :: ws) ({ frames := 2, cells := 4, slots := 40, locals := 28 } : Room)) (fun a U => a = #[(.ref a1)] ∧ Z.Warmed39 U.vm ∧ U.heap = h0 ∧ CHv Z own_EL U.vm h0) (fun _ _ _ _ _ => True) (fun _ U o U' => ∃ v L, o = .returned v ∧ Q_ak5 Z a1 b1 cs x0 x1 x2 x3 x4 h0 n0 v U'.heap L ∧ CHr Z own_EL U.vm U.heap U'.vm U'.heap ∧ ReturnedEndW U o U' L ({ frames := 2, cells := 4, slots := 40, locals := 28 } : Room).cells ({ frames := 2, cells := 4, slots := 40, locals := 28 } : Room).slots) := by
  refine MetFree.of_bodySF (plainFor_of_name own_pn_com_example_bleeper_bleeper_cli_Arguments) hisR ?_
  intro p e s m args below meth c s₁ Bd hml0 hP hK
  obtain ⟨rfl, hZ, hh, H⟩ := hP
  have hx := Bd.exec
  have hby := Bd.bytes
  have hml : c.maxLocals = 1 := hml0
  have hown : s.vm.findClass "com/example/bleeper/bleeper/cli/Arguments" = some m.cls := findClass_of_methodNamed Bd.named
  have hnm := (name_of_methodNamed Bd.named Bd.method).1
  have hlk := Bd.notSynchronized
  obtain ⟨lc, hlc⟩ : ∃ lc : List Loc, lc = [] := ⟨_, rfl⟩
  have X : Stand p l e ({ frames := 2, cells := 4, slots := 40, locals := 28 } : Room) s m #[(.ref a1)] below meth c s₁ lc 0 0 := hlc ▸ Stand.of_body Bd
  have eT : s₁.heap = h0 := by rw [← hh, Bd.state]; rfl
  have N : Fr n0 lc := hlc ▸ Fr.nil n0
  obtain ⟨vm0, hvm⟩ : ∃ v : Vm, v = s.vm := ⟨_, rfl⟩
  have X : Stand p l e ({ frames := 2, cells := 4, slots := 40, locals := 28 } : Room) (s.setVm vm0) m #[(.ref a1)] below meth c s₁ lc 0 0 := by rw [hvm]; exact X
  have hZ : Z.Warmed39 (s.setVm vm0).vm := by rw [hvm]; exact hZ
  have hown : (s.setVm vm0).vm.findClass "com/example/bleeper/bleeper/cli/Arguments" = some m.cls := by rw [hvm]; exact hown
  have hS : s.Since vm0 h0.size := by rw [hvm]; exact (State.WarmedH.refl s).since _
  have hk : h0.size ≤ h0.size := Nat.le_refl _
  have CR : CHr Z own_EL s.vm h0 vm0 h0 := by rw [hvm]; exact CHr.refl H
  have H : CHv Z own_EL vm0 h0 := by rw [hvm]; exact H
  refine own_enterS (ef_ak5 m a1) ?_
  obtain ⟨T, hT⟩ : ∃ T : State, T = s₁ := ⟨_, rfl⟩
  rw [← hT] at X eT ⊢
  show own_W p e below (own_PostS Z own_EL s (Q_ak5 Z a1 b1 cs x0 x1 x2 x3 x4 h0 n0) 4 40) T m 0 #[.val (.ref a1)] []
  refine own_aloadN X hx (hb hby own_d_prog_41_method_3_code_0) (pc' := 1) rfl rfl rfl ?_
  refine own_ldcS X hx hZ hown (own_w hw 40 rfl) (own_wS hw) eT hS hk hEL own_mem_40 H [(.int (45 : Int32)), (.int (45 : Int32)), (.int (104 : Int32)), (.int (101 : Int32)), (.int (108 : Int32)), (.int (112 : Int32))] (6 : Int32) own_txt_40 (by decide) rfl (hb hby own_d_prog_41_method_3_code_1) (pc' := 3) rfl 24 (by decide) (by decide) (cells' := 2) (slots' := 28) rfl rfl (by decide) (by decide) ?_
  intro sa1 T h1 k1 sb1 k_sb1 vm0 X eT E hS hk hZ hown E_sa1 FC_sa1 FV_sa1 A_sb1 CQ hne_sa1
  have CR := CR.trans CQ
  have H := CQ.1
  have S_C := S_C.ext E
  have E_1 := E_1.ext E
  have C_1 := C_1.ext E
  have V_1 := V_1.ext E
  have A_1 := A_1.ext E
  have Z0 := Nat.le_trans Z0 E.1
  refine own_callV X hx hZ (y := (⟨"java/lang/String", "equals", "(Ljava/lang/Object;)Z"⟩ : MethodName)) a1 [(.ref sa1)] hown (own_w hw 41 rfl) (own_w hw 42 rfl) (own_w hw 44 rfl) (own_w hw 43 rfl) (own_w hw 16 rfl) (own_w hw 45 rfl) (by decide) (rm_eq5_6 l Z a0 hw [] a1 sa1 b1 sb1 cs x0 x1 x2 x3 x4 h1 n0 Z0 S_C hcs E_1 C_1 V_1 E_sa1 FC_sa1 FV_sa1 _ _ A_1 A_sb1) E_1 eT (W := 0) (by decide) (by decide) (cells' := 2) (slots' := 28) rfl rfl (by decide) (by decide) (by rw [hml]; rfl) (lenOf own_pd_28Ljava2flang2fObject3b29Z rfl) rfl (S := []) rfl (Nat.le_of_eq rfl) (hb hby own_d_prog_41_method_3_code_3) (pc' := 6) rfl ?_
  intro v T h2 L lc X eT hq fN
  obtain ⟨rfl, Nq, hqe⟩ := hq
  have N := fN _ N Nq
  rw [hqe] at eT
  show own_W p e below (own_PostS Z own_EL s (Q_ak5 Z a1 b1 cs x0 x1 x2 x3 x4 h0 n0) 4 40) T m 6 #[.val (.ref a1)] [(.int (0 : Int32))]
  refine own_ifN X hx (hb hby own_d_prog_41_method_3_code_6) (pc' := 9) rfl (show (0 : Int32) = (0 : Int32) from (by decide)) ?_
  refine own_aloadN X hx (hb hby own_d_prog_41_method_3_code_9) (pc' := 10) rfl rfl rfl ?_
  refine own_ldcS X hx hZ hown (own_w hw 52 rfl) (own_wS hw) eT hS hk hEL own_mem_52 H [(.int (45 : Int32)), (.int (104 : Int32))] (2 : Int32) own_txt_52 (by decide) rfl (hb hby own_d_prog_41_method_3_code_10) (pc' := 12) rfl 8 (by decide) (by decide) (cells' := 4) (slots' := 40) rfl rfl (by decide) (by decide) ?_
  intro sa3 T h3 k1 sb3 k_sb3 vm0 X eT E hS hk hZ hown E_sa3 FC_sa3 FV_sa3 A_sb3 CQ hne_sa3
  have CR := CR.trans CQ
  have H := CQ.1
  have S_C := S_C.ext E
  have E_1 := E_1.ext E
  have C_1 := C_1.ext E
  have V_1 := V_1.ext E
  have A_1 := A_1.ext E
  have E_sa1 := E_sa1.ext E
  have FC_sa1 := FC_sa1.ext E
  have FV_sa1 := FV_sa1.ext E
  have A_sb1 := A_sb1.ext E
  have Z0 := Nat.le_trans Z0 E.1
  refine own_callV X hx hZ (y := (⟨"java/lang/String", "equals", "(Ljava/lang/Object;)Z"⟩ : MethodName)) a1 [(.ref sa3)] hown (own_w hw 41 rfl) (own_w hw 42 rfl) (own_w hw 44 rfl) (own_w hw 43 rfl) (own_w hw 16 rfl) (own_w hw 45 rfl) (by decide) (rm_eq5_2 l Z a0 hw [] a1 sa3 b1 sb3 cs x0 x1 x2 x3 x4 h3 n0 Z0 S_C hcs E_1 C_1 V_1 E_sa3 FC_sa3 FV_sa3 _ _ A_1 A_sb3) E_1 eT (W := 0) (by decide) (by decide) (cells' := 4) (slots' := 40) rfl rfl (by decide) (by decide) (by rw [hml]; rfl) (lenOf own_pd_28Ljava2flang2fObject3b29Z rfl) rfl (S := []) rfl (Nat.le_of_eq rfl) (hb hby own_d_prog_41_method_3_code_12) (pc' := 15) rfl ?_
  intro v T h4 L lc X eT hq fN
  obtain ⟨rfl, Nq, hqe⟩ := hq
  have N := fN _ N Nq
  rw [hqe] at eT
  show own_W p e below (own_PostS Z own_EL s (Q_ak5 Z a1 b1 cs x0 x1 x2 x3 x4 h0 n0) 4 40) T m 15 #[.val (.ref a1)] [(.int (0 : Int32))]
  refine own_ifY X hx (hb hby own_d_prog_41_method_3_code_15) (by decide) (pc' := 22) rfl (show (0 : Int32) = (0 : Int32) from (by decide)) ?_
  refine own_iconst X hx (0 : Int32) (hb hby own_d_prog_41_method_3_code_22) (pc' := 23) rfl rfl ?_
  refine own_retIS X hx hlk hZ eT hh hS hk hEL H CR (t := .boolean) (w' := (.int (0 : Int32))) Bd.returns (hb hby own_d_prog_41_method_3_code_23) rfl rfl (by simp) (by decide) (by decide) ?_
  rw [eT]
  exact ⟨rfl, N⟩
theorem ef_ak6 (m : MethodId) (x0 : Addr) : entryFrame m #[(.ref x0)] 1 = mkF m 0 #[.val (.ref x0)] [] := by first | (simp [entryFrame, mkF, argsToLocals, Value.category]; done) | rfl
def Q_ak6 (Z : State) (a1 b1 : Addr) (cs : Int32) (x0 x1 x2 x3 x4 x5 : Int32) (h0 : Heap) (n0 : Nat) (v : Option Value) (h : Heap) (L : List Loc) : Prop := v = some (.int (own_eqv [x0, x1, x2, x3, x4, x5] [(45 : Int32), (45 : Int32), (104 : Int32), (101 : Int32), (108 : Int32), (112 : Int32)])) ∧ Fr n0 L
set_option maxRecDepth 65536 in
set_option maxHeartbeats 40000000 in
theorem rm_ak6 (l : Launch) (Z : State) (a0 : Array Value) (hw : ∀ d ∈ tables_1, d.before a0 Z = true) (hEL : EW Z a0 own_EL) (ws : List Jvm.Cond) (a1 b1 : Addr) (cs : Int32) (x0 x1 x2 x3 x4 x5 : Int32) (h0 : Heap) (n0 : Nat) (Z0 : n0 ≤ h0.size) (S_C : Sta Z h0 "java/lang/String" "COMPACT_STRINGS" "Z" (.int cs)) (hcs : ¬ cs = 0) (E_1 : Exa Z h0 a1 "java/lang/String") (C_1 : Fld Z h0 a1 "java/lang/String" "coder" "B" (.int (0 : Int32))) (V_1 : Fld Z h0 a1 "java/lang/String" "value" "[B" (.ref b1)) (k1 : ClassId) (A_1 : Arv Z h0 b1 k1 .byte (6 : Int32) [(.int x0), (.int x1), (.int x2), (.int x3), (.int x4), (.int x5)] (.int (0 : Int32))) :
    MetFree l (⟨"com/example/bleeper/bleeper/cli/Arguments", "asksForHelp", "(Ljava/lang/String;)Z"⟩ : MethodName) (head1 (Jvm.Cond.code (⟨"com/example/bleeper/bleeper/cli/Arguments", "asksForHelp", "(Ljava/lang/String;)Z"⟩ : MethodName) prog_41_method_3_code 1 (some .boolean) :: ws) ({ frames := 2, cells := 4, slots := 40, locals := 28 } : Room)) (fun a U => a = #[(.ref a1)] ∧ Z.Warmed39 U.vm ∧ U.heap = h0 ∧ CHv Z own_EL U.vm h0) (fun _ _ _ _ _ => True) (fun _ U o U' => ∃ v L, o = .returned v ∧ Q_ak6 Z a1 b1 cs x0 x1 x2 x3 x4 x5 h0 n0 v U'.heap L ∧ CHr Z own_EL U.vm U.heap U'.vm U'.heap ∧ ReturnedEndW U o U' L ({ frames := 2, cells := 4, slots := 40, locals := 28 } : Room).cells ({ frames := 2, cells := 4, slots := 40, locals := 28 } : Room).slots) := by
  refine MetFree.of_bodySF (plainFor_of_name own_pn_com_example_bleeper_bleeper_cli_Arguments) hisR ?_
  intro p e s m args below meth c s₁ Bd hml0 hP hK
  obtain ⟨rfl, hZ, hh, H⟩ := hP
  have hx := Bd.exec
  have hby := Bd.bytes
  have hml : c.maxLocals = 1 := hml0
  have hown : s.vm.findClass "com/example/bleeper/bleeper/cli/Arguments" = some m.cls := findClass_of_methodNamed Bd.named
  have hnm := (name_of_methodNamed Bd.named Bd.method).1
  have hlk := Bd.notSynchronized
  obtain ⟨lc, hlc⟩ : ∃ lc : List Loc, lc = [] := ⟨_, rfl⟩
  have X : Stand p l e ({ frames := 2, cells := 4, slots := 40, locals := 28 } : Room) s m #[(.ref a1)] below meth c s₁ lc 0 0 := hlc ▸ Stand.of_body Bd
  have eT : s₁.heap = h0 := by rw [← hh, Bd.state]; rfl
  have N : Fr n0 lc := hlc ▸ Fr.nil n0
  obtain ⟨vm0, hvm⟩ : ∃ v : Vm, v = s.vm := ⟨_, rfl⟩
  have X : Stand p l e ({ frames := 2, cells := 4, slots := 40, locals := 28 } : Room) (s.setVm vm0) m #[(.ref a1)] below meth c s₁ lc 0 0 := by rw [hvm]; exact X
  have hZ : Z.Warmed39 (s.setVm vm0).vm := by rw [hvm]; exact hZ
  have hown : (s.setVm vm0).vm.findClass "com/example/bleeper/bleeper/cli/Arguments" = some m.cls := by rw [hvm]; exact hown
  have hS : s.Since vm0 h0.size := by rw [hvm]; exact (State.WarmedH.refl s).since _
  have hk : h0.size ≤ h0.size := Nat.le_refl _
  have CR : CHr Z own_EL s.vm h0 vm0 h0 := by rw [hvm]; exact CHr.refl H
  have H : CHv Z own_EL vm0 h0 := by rw [hvm]; exact H
  refine own_enterS (ef_ak6 m a1) ?_
  obtain ⟨T, hT⟩ : ∃ T : State, T = s₁ := ⟨_, rfl⟩
  rw [← hT] at X eT ⊢
  show own_W p e below (own_PostS Z own_EL s (Q_ak6 Z a1 b1 cs x0 x1 x2 x3 x4 x5 h0 n0) 4 40) T m 0 #[.val (.ref a1)] []
  refine own_aloadN X hx (hb hby own_d_prog_41_method_3_code_0) (pc' := 1) rfl rfl rfl ?_
  refine own_ldcS X hx hZ hown (own_w hw 40 rfl) (own_wS hw) eT hS hk hEL own_mem_40 H [(.int (45 : Int32)), (.int (45 : Int32)), (.int (104 : Int32)), (.int (101 : Int32)), (.int (108 : Int32)), (.int (112 : Int32))] (6 : Int32) own_txt_40 (by decide) rfl (hb hby own_d_prog_41_method_3_code_1) (pc' := 3) rfl 24 (by decide) (by decide) (cells' := 2) (slots' := 28) rfl rfl (by decide) (by decide) ?_
  intro sa1 T h1 k1 sb1 k_sb1 vm0 X eT E hS hk hZ hown E_sa1 FC_sa1 FV_sa1 A_sb1 CQ hne_sa1
  have CR := CR.trans CQ
  have H := CQ.1
  have S_C := S_C.ext E
  have E_1 := E_1.ext E
  have C_1 := C_1.ext E
  have V_1 := V_1.ext E
  have A_1 := A_1.ext E
  have Z0 := Nat.le_trans Z0 E.1
  refine own_callV X hx hZ (y := (⟨"java/lang/String", "equals", "(Ljava/lang/Object;)Z"⟩ : MethodName)) a1 [(.ref sa1)] hown (own_w hw 41 rfl) (own_w hw 42 rfl) (own_w hw 44 rfl) (own_w hw 43 rfl) (own_w hw 16 rfl) (own_w hw 45 rfl) (by decide) (rm_eq6_6 l Z a0 hw [] a1 sa1 b1 sb1 cs x0 x1 x2 x3 x4 x5 h1 n0 Z0 S_C hcs E_1 C_1 V_1 E_sa1 FC_sa1 FV_sa1 _ _ A_1 A_sb1) E_1 eT (W := 0) (by decide) (by decide) (cells' := 2) (slots' := 28) rfl rfl (by decide) (by decide) (by rw [hml]; rfl) (lenOf own_pd_28Ljava2flang2fObject3b29Z rfl) rfl (S := []) rfl (Nat.le_of_eq rfl) (hb hby own_d_prog_41_method_3_code_3) (pc' := 6) rfl ?_
  intro v T h2 L lc X eT hq fN
  obtain ⟨rfl, Nq, hqe⟩ := hq
  have N := fN _ N Nq
  rw [hqe] at eT
  show own_W p e below (own_PostS Z own_EL s (Q_ak6 Z a1 b1 cs x0 x1 x2 x3 x4 x5 h0 n0) 4 40) T m 6 #[.val (.ref a1)] [(.int (own_eqv [x0, x1, x2, x3, x4, x5] [(45 : Int32), (45 : Int32), (104 : Int32), (101 : Int32), (108 : Int32), (112 : Int32)]))]
  refine own_if X hx (hb hby own_d_prog_41_method_3_code_6) (by decide) (pcY := 18) (pcN := 9) rfl rfl (fun (hc6 : ¬ ((own_eqv [x0, x1, x2, x3, x4, x5] [(45 : Int32), (45 : Int32), (104 : Int32), (101 : Int32), (108 : Int32), (112 : Int32)]) = (0 : Int32))) => ?_) (fun (hc6 : (own_eqv [x0, x1, x2, x3, x4, x5] [(45 : Int32), (45 : Int32), (104 : Int32), (101 : Int32), (108 : Int32), (112 : Int32)]) = (0 : Int32)) => ?_)
  · refine own_iconst X hx (1 : Int32) (hb hby own_d_prog_41_method_3_code_18) (pc' := 19) rfl rfl ?_
    refine own_goto X hx (hb hby own_d_prog_41_method_3_code_19) (by decide) (pc' := 23) rfl ?_
    refine own_retIS X hx hlk hZ eT hh hS hk hEL H CR (t := .boolean) (w' := (.int (1 : Int32))) Bd.returns (hb hby own_d_prog_41_method_3_code_23) rfl rfl (by simp) (by decide) (by decide) ?_
    rw [eT]
    exact ⟨congrArg (fun z => some (Value.int z)) (own_e1 hc6), N⟩
  · refine own_aloadN X hx (hb hby own_d_prog_41_method_3_code_9) (pc' := 10) rfl rfl rfl ?_
    refine own_ldcS X hx hZ hown (own_w hw 52 rfl) (own_wS hw) eT hS hk hEL own_mem_52 H [(.int (45 : Int32)), (.int (104 : Int32))] (2 : Int32) own_txt_52 (by decide) rfl (hb hby own_d_prog_41_method_3_code_10) (pc' := 12) rfl 8 (by decide) (by decide) (cells' := 4) (slots' := 40) rfl rfl (by decide) (by decide) ?_
    intro sa3 T h3 k1 sb3 k_sb3 vm0 X eT E hS hk hZ hown E_sa3 FC_sa3 FV_sa3 A_sb3 CQ hne_sa3
    have CR := CR.trans CQ
    have H := CQ.1
    have S_C := S_C.ext E
    have E_1 := E_1.ext E
    have C_1 := C_1.ext E
    have V_1 := V_1.ext E
    have A_1 := A_1.ext E
    have E_sa1 := E_sa1.ext E
    have FC_sa1 := FC_sa1.ext E
    have FV_sa1 := FV_sa1.ext E
    have A_sb1 := A_sb1.ext E
    have Z0 := Nat.le_trans Z0 E.1
    refine own_callV X hx hZ (y := (⟨"java/lang/String", "equals", "(Ljava/lang/Object;)Z"⟩ : MethodName)) a1 [(.ref sa3)] hown (own_w hw 41 rfl) (own_w hw 42 rfl) (own_w hw 44 rfl) (own_w hw 43 rfl) (own_w hw 16 rfl) (own_w hw 45 rfl) (by decide) (rm_eq6_2 l Z a0 hw [] a1 sa3 b1 sb3 cs x0 x1 x2 x3 x4 x5 h3 n0 Z0 S_C hcs E_1 C_1 V_1 E_sa3 FC_sa3 FV_sa3 _ _ A_1 A_sb3) E_1 eT (W := 0) (by decide) (by decide) (cells' := 4) (slots' := 40) rfl rfl (by decide) (by decide) (by rw [hml]; rfl) (lenOf own_pd_28Ljava2flang2fObject3b29Z rfl) rfl (S := []) rfl (Nat.le_of_eq rfl) (hb hby own_d_prog_41_method_3_code_12) (pc' := 15) rfl ?_
    intro v T h4 L lc X eT hq fN
    obtain ⟨rfl, Nq, hqe⟩ := hq
    have N := fN _ N Nq
    rw [hqe] at eT
    show own_W p e below (own_PostS Z own_EL s (Q_ak6 Z a1 b1 cs x0 x1 x2 x3 x4 x5 h0 n0) 4 40) T m 15 #[.val (.ref a1)] [(.int (0 : Int32))]
    refine own_ifY X hx (hb hby own_d_prog_41_method_3_code_15) (by decide) (pc' := 22) rfl (show (0 : Int32) = (0 : Int32) from (by decide)) ?_
    refine own_iconst X hx (0 : Int32) (hb hby own_d_prog_41_method_3_code_22) (pc' := 23) rfl rfl ?_
    refine own_retIS X hx hlk hZ eT hh hS hk hEL H CR (t := .boolean) (w' := (.int (0 : Int32))) Bd.returns (hb hby own_d_prog_41_method_3_code_23) rfl rfl (by simp) (by decide) (by decide) ?_
    rw [eT]
    exact ⟨congrArg (fun z => some (Value.int z)) (own_e0 hc6), N⟩
theorem ef_ak7 (m : MethodId) (x0 : Addr) : entryFrame m #[(.ref x0)] 1 = mkF m 0 #[.val (.ref x0)] [] := by first | (simp [entryFrame, mkF, argsToLocals, Value.category]; done) | rfl
def Q_ak7 (Z : State) (a1 b1 : Addr) (cs : Int32) (x0 x1 x2 x3 x4 x5 x6 : Int32) (h0 : Heap) (n0 : Nat) (v : Option Value) (h : Heap) (L : List Loc) : Prop := v = some (.int (0 : Int32)) ∧ Fr n0 L
set_option maxRecDepth 65536 in
set_option maxHeartbeats 40000000 in
theorem rm_ak7 (l : Launch) (Z : State) (a0 : Array Value) (hw : ∀ d ∈ tables_1, d.before a0 Z = true) (hEL : EW Z a0 own_EL) (ws : List Jvm.Cond) (a1 b1 : Addr) (cs : Int32) (x0 x1 x2 x3 x4 x5 x6 : Int32) (h0 : Heap) (n0 : Nat) (Z0 : n0 ≤ h0.size) (S_C : Sta Z h0 "java/lang/String" "COMPACT_STRINGS" "Z" (.int cs)) (hcs : ¬ cs = 0) (E_1 : Exa Z h0 a1 "java/lang/String") (C_1 : Fld Z h0 a1 "java/lang/String" "coder" "B" (.int (0 : Int32))) (V_1 : Fld Z h0 a1 "java/lang/String" "value" "[B" (.ref b1)) (k1 : ClassId) (A_1 : Arv Z h0 b1 k1 .byte (7 : Int32) [(.int x0), (.int x1), (.int x2), (.int x3), (.int x4), (.int x5), (.int x6)] (.int (0 : Int32))) :
    MetFree l (⟨"com/example/bleeper/bleeper/cli/Arguments", "asksForHelp", "(Ljava/lang/String;)Z"⟩ : MethodName) (head1 (Jvm.Cond.code (⟨"com/example/bleeper/bleeper/cli/Arguments", "asksForHelp", "(Ljava/lang/String;)Z"⟩ : MethodName) prog_41_method_3_code 1 (some .boolean) :: ws) ({ frames := 2, cells := 4, slots := 40, locals := 28 } : Room)) (fun a U => a = #[(.ref a1)] ∧ Z.Warmed39 U.vm ∧ U.heap = h0 ∧ CHv Z own_EL U.vm h0) (fun _ _ _ _ _ => True) (fun _ U o U' => ∃ v L, o = .returned v ∧ Q_ak7 Z a1 b1 cs x0 x1 x2 x3 x4 x5 x6 h0 n0 v U'.heap L ∧ CHr Z own_EL U.vm U.heap U'.vm U'.heap ∧ ReturnedEndW U o U' L ({ frames := 2, cells := 4, slots := 40, locals := 28 } : Room).cells ({ frames := 2, cells := 4, slots := 40, locals := 28 } : Room).slots) := by
  refine MetFree.of_bodySF (plainFor_of_name own_pn_com_example_bleeper_bleeper_cli_Arguments) hisR ?_
  intro p e s m args below meth c s₁ Bd hml0 hP hK
  obtain ⟨rfl, hZ, hh, H⟩ := hP
  have hx := Bd.exec
  have hby := Bd.bytes
  have hml : c.maxLocals = 1 := hml0
  have hown : s.vm.findClass "com/example/bleeper/bleeper/cli/Arguments" = some m.cls := findClass_of_methodNamed Bd.named
  have hnm := (name_of_methodNamed Bd.named Bd.method).1
  have hlk := Bd.notSynchronized
  obtain ⟨lc, hlc⟩ : ∃ lc : List Loc, lc = [] := ⟨_, rfl⟩
  have X : Stand p l e ({ frames := 2, cells := 4, slots := 40, locals := 28 } : Room) s m #[(.ref a1)] below meth c s₁ lc 0 0 := hlc ▸ Stand.of_body Bd
  have eT : s₁.heap = h0 := by rw [← hh, Bd.state]; rfl
  have N : Fr n0 lc := hlc ▸ Fr.nil n0
  obtain ⟨vm0, hvm⟩ : ∃ v : Vm, v = s.vm := ⟨_, rfl⟩
  have X : Stand p l e ({ frames := 2, cells := 4, slots := 40, locals := 28 } : Room) (s.setVm vm0) m #[(.ref a1)] below meth c s₁ lc 0 0 := by rw [hvm]; exact X
  have hZ : Z.Warmed39 (s.setVm vm0).vm := by rw [hvm]; exact hZ
  have hown : (s.setVm vm0).vm.findClass "com/example/bleeper/bleeper/cli/Arguments" = some m.cls := by rw [hvm]; exact hown
  have hS : s.Since vm0 h0.size := by rw [hvm]; exact (State.WarmedH.refl s).since _
  have hk : h0.size ≤ h0.size := Nat.le_refl _
  have CR : CHr Z own_EL s.vm h0 vm0 h0 := by rw [hvm]; exact CHr.refl H
  have H : CHv Z own_EL vm0 h0 := by rw [hvm]; exact H
  refine own_enterS (ef_ak7 m a1) ?_
  obtain ⟨T, hT⟩ : ∃ T : State, T = s₁ := ⟨_, rfl⟩
  rw [← hT] at X eT ⊢
  show own_W p e below (own_PostS Z own_EL s (Q_ak7 Z a1 b1 cs x0 x1 x2 x3 x4 x5 x6 h0 n0) 4 40) T m 0 #[.val (.ref a1)] []
  refine own_aloadN X hx (hb hby own_d_prog_41_method_3_code_0) (pc' := 1) rfl rfl rfl ?_
  refine own_ldcS X hx hZ hown (own_w hw 40 rfl) (own_wS hw) eT hS hk hEL own_mem_40 H [(.int (45 : Int32)), (.int (45 : Int32)), (.int (104 : Int32)), (.int (101 : Int32)), (.int (108 : Int32)), (.int (112 : Int32))] (6 : Int32) own_txt_40 (by decide) rfl (hb hby own_d_prog_41_method_3_code_1) (pc' := 3) rfl 24 (by decide) (by decide) (cells' := 2) (slots' := 28) rfl rfl (by decide) (by decide) ?_
  intro sa1 T h1 k1 sb1 k_sb1 vm0 X eT E hS hk hZ hown E_sa1 FC_sa1 FV_sa1 A_sb1 CQ hne_sa1
  have CR := CR.trans CQ
  have H := CQ.1
  have S_C := S_C.ext E
  have E_1 := E_1.ext E
  have C_1 := C_1.ext E
  have V_1 := V_1.ext E
  have A_1 := A_1.ext E
  have Z0 := Nat.le_trans Z0 E.1
  refine own_callV X hx hZ (y := (⟨"java/lang/String", "equals", "(Ljava/lang/Object;)Z"⟩ : MethodName)) a1 [(.ref sa1)] hown (own_w hw 41 rfl) (own_w hw 42 rfl) (own_w hw 44 rfl) (own_w hw 43 rfl) (own_w hw 16 rfl) (own_w hw 45 rfl) (by decide) (rm_eq7_6 l Z a0 hw [] a1 sa1 b1 sb1 cs x0 x1 x2 x3 x4 x5 x6 h1 n0 Z0 S_C hcs E_1 C_1 V_1 E_sa1 FC_sa1 FV_sa1 _ _ A_1 A_sb1) E_1 eT (W := 0) (by decide) (by decide) (cells' := 2) (slots' := 28) rfl rfl (by decide) (by decide) (by rw [hml]; rfl) (lenOf own_pd_28Ljava2flang2fObject3b29Z rfl) rfl (S := []) rfl (Nat.le_of_eq rfl) (hb hby own_d_prog_41_method_3_code_3) (pc' := 6) rfl ?_
  intro v T h2 L lc X eT hq fN
  obtain ⟨rfl, Nq, hqe⟩ := hq
  have N := fN _ N Nq
  rw [hqe] at eT
  show own_W p e below (own_PostS Z own_EL s (Q_ak7 Z a1 b1 cs x0 x1 x2 x3 x4 x5 x6 h0 n0) 4 40) T m 6 #[.val (.ref a1)] [(.int (0 : Int32))]
  refine own_ifN X hx (hb hby own_d_prog_41_method_3_code_6) (pc' := 9) rfl (show (0 : Int32) = (0 : Int32) from (by decide)) ?_
  refine own_aloadN X hx (hb hby own_d_prog_41_method_3_code_9) (pc' := 10) rfl rfl rfl ?_
  refine own_ldcS X hx hZ hown (own_w hw 52 rfl) (own_wS hw) eT hS hk hEL own_mem_52 H [(.int (45 : Int32)), (.int (104 : Int32))] (2 : Int32) own_txt_52 (by decide) rfl (hb hby own_d_prog_41_method_3_code_10) (pc' := 12) rfl 8 (by decide) (by decide) (cells' := 4) (slots' := 40) rfl rfl (by decide) (by decide) ?_
  intro sa3 T h3 k1 sb3 k_sb3 vm0 X eT E hS hk hZ hown E_sa3 FC_sa3 FV_sa3 A_sb3 CQ hne_sa3
  have CR := CR.trans CQ
  have H := CQ.1
  have S_C := S_C.ext E
  have E_1 := E_1.ext E
  have C_1 := C_1.ext E
  have V_1 := V_1.ext E
  have A_1 := A_1.ext E
  have E_sa1 := E_sa1.ext E
  have FC_sa1 := FC_sa1.ext E
  have FV_sa1 := FV_sa1.ext E
  have A_sb1 := A_sb1.ext E
  have Z0 := Nat.le_trans Z0 E.1
  refine own_callV X hx hZ (y := (⟨"java/lang/String", "equals", "(Ljava/lang/Object;)Z"⟩ : MethodName)) a1 [(.ref sa3)] hown (own_w hw 41 rfl) (own_w hw 42 rfl) (own_w hw 44 rfl) (own_w hw 43 rfl) (own_w hw 16 rfl) (own_w hw 45 rfl) (by decide) (rm_eq7_2 l Z a0 hw [] a1 sa3 b1 sb3 cs x0 x1 x2 x3 x4 x5 x6 h3 n0 Z0 S_C hcs E_1 C_1 V_1 E_sa3 FC_sa3 FV_sa3 _ _ A_1 A_sb3) E_1 eT (W := 0) (by decide) (by decide) (cells' := 4) (slots' := 40) rfl rfl (by decide) (by decide) (by rw [hml]; rfl) (lenOf own_pd_28Ljava2flang2fObject3b29Z rfl) rfl (S := []) rfl (Nat.le_of_eq rfl) (hb hby own_d_prog_41_method_3_code_12) (pc' := 15) rfl ?_
  intro v T h4 L lc X eT hq fN
  obtain ⟨rfl, Nq, hqe⟩ := hq
  have N := fN _ N Nq
  rw [hqe] at eT
  show own_W p e below (own_PostS Z own_EL s (Q_ak7 Z a1 b1 cs x0 x1 x2 x3 x4 x5 x6 h0 n0) 4 40) T m 15 #[.val (.ref a1)] [(.int (0 : Int32))]
  refine own_ifY X hx (hb hby own_d_prog_41_method_3_code_15) (by decide) (pc' := 22) rfl (show (0 : Int32) = (0 : Int32) from (by decide)) ?_
  refine own_iconst X hx (0 : Int32) (hb hby own_d_prog_41_method_3_code_22) (pc' := 23) rfl rfl ?_
  refine own_retIS X hx hlk hZ eT hh hS hk hEL H CR (t := .boolean) (w' := (.int (0 : Int32))) Bd.returns (hb hby own_d_prog_41_method_3_code_23) rfl rfl (by simp) (by decide) (by decide) ?_
  rw [eT]
  exact ⟨rfl, N⟩
theorem own_pd_28IIIJ29C : parseMethodDescriptor "(IIIJ)C" = some ⟨[.int, .int, .int, .long], some .char⟩ := by decide +kernel
theorem own_pd_28ICCCCCCC29Ljava2flang2fString3b : parseMethodDescriptor "(ICCCCCCC)Ljava/lang/String;" = some ⟨[.int, .char, .char, .char, .char, .char, .char, .char], some (.object "java/lang/String")⟩ := by decide +kernel
theorem own_pd_28Ljava2flang2fString3b29Z : parseMethodDescriptor "(Ljava/lang/String;)Z" = some ⟨[(.object "java/lang/String")], some .boolean⟩ := by decide +kernel
theorem ef_law (m : MethodId) (x0 : Int64) (x1 : Int64) (x2 : Int32) : entryFrame m #[(.long x0), (.long x1), (.int x2)] maxLocals = mkF m 0 #[.val (.long x0), .second, .val (.long x1), .second, .val (.int x2), .unset, .unset, .unset, .unset, .unset, .unset, .unset, .unset, .unset, .unset, .unset, .unset, .unset] [] := by first | (simp [entryFrame, mkF, argsToLocals, Value.category, maxLocals]; done) | rfl
def Q_law (Z : State) (q0 q1 : Int64) (p2 cs : Int32) (h0 : Heap) (n0 : Nat) (v : Option Value) (h : Heap) (L : List Loc) : Prop := v = some (.int 1) ∧ Fr n0 L
set_option maxRecDepth 65536 in
set_option maxHeartbeats 40000000 in
theorem rm_law (l : Launch) (Z : State) (a0 : Array Value) (hw : ∀ d ∈ tables_1, d.before a0 Z = true) (hEL : EW Z a0 own_EL) (ws : List Jvm.Cond) (q0 q1 : Int64) (p2 cs : Int32) (h0 : Heap) (n0 : Nat) (Z0 : n0 ≤ h0.size) (S_C : Sta Z h0 "java/lang/String" "COMPACT_STRINGS" "Z" (.int cs)) (hcs : ¬ cs = 0) :
    MetFree l x (head1 (Jvm.Cond.code x code maxLocals ret :: ws) room_1) (fun a U => a = #[(.long q0), (.long q1), (.int p2)] ∧ Z.Warmed39 U.vm ∧ U.heap = h0 ∧ CHv Z own_EL U.vm h0) (fun _ _ _ _ _ => True) (fun _ U o U' => ∃ v L, o = .returned v ∧ Q_law Z q0 q1 p2 cs h0 n0 v U'.heap L ∧ CHr Z own_EL U.vm U.heap U'.vm U'.heap ∧ ReturnedEndW U o U' L room_1.cells room_1.slots) := by
  refine MetFree.of_bodySF (plainFor_of_name own_pn_com_example_bleeper_bleeper_cli_ArgumentsAsksForHelpPinLaw) hisR ?_
  intro p e s m args below meth c s₁ Bd hml0 hP hK
  obtain ⟨rfl, hZ, hh, H⟩ := hP
  have hx := Bd.exec
  have hby := Bd.bytes
  have hml : c.maxLocals = 18 := hml0
  have hown : s.vm.findClass "com/example/bleeper/bleeper/cli/ArgumentsAsksForHelpPinLaw" = some m.cls := findClass_of_methodNamed Bd.named
  have hnm := (name_of_methodNamed Bd.named Bd.method).1
  have hlk := Bd.notSynchronized
  obtain ⟨lc, hlc⟩ : ∃ lc : List Loc, lc = [] := ⟨_, rfl⟩
  have X : Stand p l e room_1 s m #[(.long q0), (.long q1), (.int p2)] below meth c s₁ lc 0 0 := hlc ▸ Stand.of_body Bd
  have eT : s₁.heap = h0 := by rw [← hh, Bd.state]; rfl
  have N : Fr n0 lc := hlc ▸ Fr.nil n0
  obtain ⟨vm0, hvm⟩ : ∃ v : Vm, v = s.vm := ⟨_, rfl⟩
  have X : Stand p l e room_1 (s.setVm vm0) m #[(.long q0), (.long q1), (.int p2)] below meth c s₁ lc 0 0 := by rw [hvm]; exact X
  have hZ : Z.Warmed39 (s.setVm vm0).vm := by rw [hvm]; exact hZ
  have hown : (s.setVm vm0).vm.findClass "com/example/bleeper/bleeper/cli/ArgumentsAsksForHelpPinLaw" = some m.cls := by rw [hvm]; exact hown
  have hS : s.Since vm0 h0.size := by rw [hvm]; exact (State.WarmedH.refl s).since _
  have hk : h0.size ≤ h0.size := Nat.le_refl _
  have CR : CHr Z own_EL s.vm h0 vm0 h0 := by rw [hvm]; exact CHr.refl H
  have H : CHv Z own_EL vm0 h0 := by rw [hvm]; exact H
  refine own_enterS (ef_law m q0 q1 p2) ?_
  obtain ⟨T, hT⟩ : ∃ T : State, T = s₁ := ⟨_, rfl⟩
  rw [← hT] at X eT ⊢
  show own_W p e below (own_PostS Z own_EL s (Q_law Z q0 q1 p2 cs h0 n0) 24 3200) T m 0 #[.val (.long q0), .second, .val (.long q1), .second, .val (.int p2), .unset, .unset, .unset, .unset, .unset, .unset, .unset, .unset, .unset, .unset, .unset, .unset, .unset] []
  refine own_iload X hx (hb hby at_0) (pc' := 2) rfl rfl ?_
  refine own_bipush X hx (7 : Int32) (hb hby at_2) (pc' := 4) rfl rfl ?_
  refine own_iand X hx (hb hby at_4) (pc' := 5) rfl ?_
  refine own_istore X hx (hb hby at_5) (pc' := 7) rfl (Ls' := #[.val (.long q0), .second, .val (.long q1), .second, .val (.int p2), .val (.int (p2 &&& (7 : Int32))), .unset, .unset, .unset, .unset, .unset, .unset, .unset, .unset, .unset, .unset, .unset, .unset]) rfl ?_
  refine own_iload X hx (hb hby at_7) (pc' := 9) rfl rfl ?_
  refine own_iconst X hx (3 : Int32) (hb hby at_9) (pc' := 10) rfl rfl ?_
  refine own_iushr X hx (hb hby at_10) (pc' := 11) rfl ?_
  refine own_iconst X hx (3 : Int32) (hb hby at_11) (pc' := 12) rfl rfl ?_
  refine own_iand X hx (hb hby at_12) (pc' := 13) rfl ?_
  refine own_istore X hx (hb hby at_13) (pc' := 15) rfl (Ls' := #[.val (.long q0), .second, .val (.long q1), .second, .val (.int p2), .val (.int (p2 &&& (7 : Int32))), .val (.int ((XT.ushr p2 (3 : Int32)) &&& (3 : Int32))), .unset, .unset, .unset, .unset, .unset, .unset, .unset, .unset, .unset, .unset, .unset]) rfl ?_
  refine own_iload X hx (hb hby at_15) (pc' := 17) rfl rfl ?_
  refine own_iload X hx (hb hby at_17) (pc' := 19) rfl rfl ?_
  refine own_iconst X hx (0 : Int32) (hb hby at_19) (pc' := 20) rfl rfl ?_
  refine own_lloadN X hx (hb hby at_20) (pc' := 21) rfl rfl ?_
  refine own_callS X hx hZ [(.int ((XT.ushr p2 (3 : Int32)) &&& (3 : Int32))), (.int p2), (.int (0 : Int32)), (.long q0)] hown (own_w hw 0 rfl) (own_w hw 1 rfl) (own_w hw 2 rfl) (own_w hw 3 rfl) (by decide) (rm_pick l Z a0 hw [] ((XT.ushr p2 (3 : Int32)) &&& (3 : Int32)) p2 (0 : Int32) q0 h0 n0 Z0) eT (W := 0) (by decide) (by decide) (cells' := 0) (slots' := 0) rfl rfl (by decide) (by decide) (by rw [hml]; rfl) (lenOf own_pd_28IIIJ29C rfl) rfl (S := []) rfl (Nat.le_of_eq rfl) (hb hby at_21) (pc' := 24) rfl ?_
  intro v T h1 L lc X eT hq fN
  obtain ⟨d0, rfl, Nq, hqe, bd0⟩ := hq
  have N := fN _ N Nq
  rw [hqe] at eT
  show own_W p e below (own_PostS Z own_EL s (Q_law Z q0 q1 p2 cs h0 n0) 24 3200) T m 24 #[.val (.long q0), .second, .val (.long q1), .second, .val (.int p2), .val (.int (p2 &&& (7 : Int32))), .val (.int ((XT.ushr p2 (3 : Int32)) &&& (3 : Int32))), .unset, .unset, .unset, .unset, .unset, .unset, .unset, .unset, .unset, .unset, .unset] [(.int d0)]
  refine own_istore X hx (hb hby at_24) (pc' := 26) rfl (Ls' := #[.val (.long q0), .second, .val (.long q1), .second, .val (.int p2), .val (.int (p2 &&& (7 : Int32))), .val (.int ((XT.ushr p2 (3 : Int32)) &&& (3 : Int32))), .val (.int d0), .unset, .unset, .unset, .unset, .unset, .unset, .unset, .unset, .unset, .unset]) rfl ?_
  refine own_iload X hx (hb hby at_26) (pc' := 28) rfl rfl ?_
  refine own_iload X hx (hb hby at_28) (pc' := 30) rfl rfl ?_
  refine own_iconst X hx (1 : Int32) (hb hby at_30) (pc' := 31) rfl rfl ?_
  refine own_lloadN X hx (hb hby at_31) (pc' := 32) rfl rfl ?_
  refine own_bipush X hx (10 : Int32) (hb hby at_32) (pc' := 34) rfl rfl ?_
  refine own_lushr X hx (hb hby at_34) (pc' := 35) rfl ?_
  refine own_callS X hx hZ [(.int ((XT.ushr p2 (3 : Int32)) &&& (3 : Int32))), (.int p2), (.int (1 : Int32)), (.long (XT.ushrL q0 (10 : Int32)))] hown (own_w hw 0 rfl) (own_w hw 1 rfl) (own_w hw 2 rfl) (own_w hw 3 rfl) (by decide) (rm_pick l Z a0 hw [] ((XT.ushr p2 (3 : Int32)) &&& (3 : Int32)) p2 (1 : Int32) (XT.ushrL q0 (10 : Int32)) h0 n0 Z0) eT (W := 0) (by decide) (by decide) (cells' := 0) (slots' := 0) rfl rfl (by decide) (by decide) (by rw [hml]; rfl) (lenOf own_pd_28IIIJ29C rfl) rfl (S := []) rfl (Nat.le_of_eq rfl) (hb hby at_35) (pc' := 38) rfl ?_
  intro v T h2 L lc X eT hq fN
  obtain ⟨d1, rfl, Nq, hqe, bd1⟩ := hq
  have N := fN _ N Nq
  rw [hqe] at eT
  show own_W p e below (own_PostS Z own_EL s (Q_law Z q0 q1 p2 cs h0 n0) 24 3200) T m 38 #[.val (.long q0), .second, .val (.long q1), .second, .val (.int p2), .val (.int (p2 &&& (7 : Int32))), .val (.int ((XT.ushr p2 (3 : Int32)) &&& (3 : Int32))), .val (.int d0), .unset, .unset, .unset, .unset, .unset, .unset, .unset, .unset, .unset, .unset] [(.int d1)]
  refine own_istore X hx (hb hby at_38) (pc' := 40) rfl (Ls' := #[.val (.long q0), .second, .val (.long q1), .second, .val (.int p2), .val (.int (p2 &&& (7 : Int32))), .val (.int ((XT.ushr p2 (3 : Int32)) &&& (3 : Int32))), .val (.int d0), .val (.int d1), .unset, .unset, .unset, .unset, .unset, .unset, .unset, .unset, .unset]) rfl ?_
  refine own_iload X hx (hb hby at_40) (pc' := 42) rfl rfl ?_
  refine own_iload X hx (hb hby at_42) (pc' := 44) rfl rfl ?_
  refine own_iconst X hx (2 : Int32) (hb hby at_44) (pc' := 45) rfl rfl ?_
  refine own_lloadN X hx (hb hby at_45) (pc' := 46) rfl rfl ?_
  refine own_bipush X hx (20 : Int32) (hb hby at_46) (pc' := 48) rfl rfl ?_
  refine own_lushr X hx (hb hby at_48) (pc' := 49) rfl ?_
  refine own_callS X hx hZ [(.int ((XT.ushr p2 (3 : Int32)) &&& (3 : Int32))), (.int p2), (.int (2 : Int32)), (.long (XT.ushrL q0 (20 : Int32)))] hown (own_w hw 0 rfl) (own_w hw 1 rfl) (own_w hw 2 rfl) (own_w hw 3 rfl) (by decide) (rm_pick l Z a0 hw [] ((XT.ushr p2 (3 : Int32)) &&& (3 : Int32)) p2 (2 : Int32) (XT.ushrL q0 (20 : Int32)) h0 n0 Z0) eT (W := 0) (by decide) (by decide) (cells' := 0) (slots' := 0) rfl rfl (by decide) (by decide) (by rw [hml]; rfl) (lenOf own_pd_28IIIJ29C rfl) rfl (S := []) rfl (Nat.le_of_eq rfl) (hb hby at_49) (pc' := 52) rfl ?_
  intro v T h3 L lc X eT hq fN
  obtain ⟨d2, rfl, Nq, hqe, bd2⟩ := hq
  have N := fN _ N Nq
  rw [hqe] at eT
  show own_W p e below (own_PostS Z own_EL s (Q_law Z q0 q1 p2 cs h0 n0) 24 3200) T m 52 #[.val (.long q0), .second, .val (.long q1), .second, .val (.int p2), .val (.int (p2 &&& (7 : Int32))), .val (.int ((XT.ushr p2 (3 : Int32)) &&& (3 : Int32))), .val (.int d0), .val (.int d1), .unset, .unset, .unset, .unset, .unset, .unset, .unset, .unset, .unset] [(.int d2)]
  refine own_istore X hx (hb hby at_52) (pc' := 54) rfl (Ls' := #[.val (.long q0), .second, .val (.long q1), .second, .val (.int p2), .val (.int (p2 &&& (7 : Int32))), .val (.int ((XT.ushr p2 (3 : Int32)) &&& (3 : Int32))), .val (.int d0), .val (.int d1), .val (.int d2), .unset, .unset, .unset, .unset, .unset, .unset, .unset, .unset]) rfl ?_
  refine own_iload X hx (hb hby at_54) (pc' := 56) rfl rfl ?_
  refine own_iload X hx (hb hby at_56) (pc' := 58) rfl rfl ?_
  refine own_iconst X hx (3 : Int32) (hb hby at_58) (pc' := 59) rfl rfl ?_
  refine own_lloadN X hx (hb hby at_59) (pc' := 60) rfl rfl ?_
  refine own_bipush X hx (30 : Int32) (hb hby at_60) (pc' := 62) rfl rfl ?_
  refine own_lushr X hx (hb hby at_62) (pc' := 63) rfl ?_
  refine own_callS X hx hZ [(.int ((XT.ushr p2 (3 : Int32)) &&& (3 : Int32))), (.int p2), (.int (3 : Int32)), (.long (XT.ushrL q0 (30 : Int32)))] hown (own_w hw 0 rfl) (own_w hw 1 rfl) (own_w hw 2 rfl) (own_w hw 3 rfl) (by decide) (rm_pick l Z a0 hw [] ((XT.ushr p2 (3 : Int32)) &&& (3 : Int32)) p2 (3 : Int32) (XT.ushrL q0 (30 : Int32)) h0 n0 Z0) eT (W := 0) (by decide) (by decide) (cells' := 0) (slots' := 0) rfl rfl (by decide) (by decide) (by rw [hml]; rfl) (lenOf own_pd_28IIIJ29C rfl) rfl (S := []) rfl (Nat.le_of_eq rfl) (hb hby at_63) (pc' := 66) rfl ?_
  intro v T h4 L lc X eT hq fN
  obtain ⟨d3, rfl, Nq, hqe, bd3⟩ := hq
  have N := fN _ N Nq
  rw [hqe] at eT
  show own_W p e below (own_PostS Z own_EL s (Q_law Z q0 q1 p2 cs h0 n0) 24 3200) T m 66 #[.val (.long q0), .second, .val (.long q1), .second, .val (.int p2), .val (.int (p2 &&& (7 : Int32))), .val (.int ((XT.ushr p2 (3 : Int32)) &&& (3 : Int32))), .val (.int d0), .val (.int d1), .val (.int d2), .unset, .unset, .unset, .unset, .unset, .unset, .unset, .unset] [(.int d3)]
  refine own_istore X hx (hb hby at_66) (pc' := 68) rfl (Ls' := #[.val (.long q0), .second, .val (.long q1), .second, .val (.int p2), .val (.int (p2 &&& (7 : Int32))), .val (.int ((XT.ushr p2 (3 : Int32)) &&& (3 : Int32))), .val (.int d0), .val (.int d1), .val (.int d2), .val (.int d3), .unset, .unset, .unset, .unset, .unset, .unset, .unset]) rfl ?_
  refine own_iload X hx (hb hby at_68) (pc' := 70) rfl rfl ?_
  refine own_iload X hx (hb hby at_70) (pc' := 72) rfl rfl ?_
  refine own_iconst X hx (4 : Int32) (hb hby at_72) (pc' := 73) rfl rfl ?_
  refine own_lloadN X hx (hb hby at_73) (pc' := 74) rfl rfl ?_
  refine own_bipush X hx (40 : Int32) (hb hby at_74) (pc' := 76) rfl rfl ?_
  refine own_lushr X hx (hb hby at_76) (pc' := 77) rfl ?_
  refine own_callS X hx hZ [(.int ((XT.ushr p2 (3 : Int32)) &&& (3 : Int32))), (.int p2), (.int (4 : Int32)), (.long (XT.ushrL q0 (40 : Int32)))] hown (own_w hw 0 rfl) (own_w hw 1 rfl) (own_w hw 2 rfl) (own_w hw 3 rfl) (by decide) (rm_pick l Z a0 hw [] ((XT.ushr p2 (3 : Int32)) &&& (3 : Int32)) p2 (4 : Int32) (XT.ushrL q0 (40 : Int32)) h0 n0 Z0) eT (W := 0) (by decide) (by decide) (cells' := 0) (slots' := 0) rfl rfl (by decide) (by decide) (by rw [hml]; rfl) (lenOf own_pd_28IIIJ29C rfl) rfl (S := []) rfl (Nat.le_of_eq rfl) (hb hby at_77) (pc' := 80) rfl ?_
  intro v T h5 L lc X eT hq fN
  obtain ⟨d4, rfl, Nq, hqe, bd4⟩ := hq
  have N := fN _ N Nq
  rw [hqe] at eT
  show own_W p e below (own_PostS Z own_EL s (Q_law Z q0 q1 p2 cs h0 n0) 24 3200) T m 80 #[.val (.long q0), .second, .val (.long q1), .second, .val (.int p2), .val (.int (p2 &&& (7 : Int32))), .val (.int ((XT.ushr p2 (3 : Int32)) &&& (3 : Int32))), .val (.int d0), .val (.int d1), .val (.int d2), .val (.int d3), .unset, .unset, .unset, .unset, .unset, .unset, .unset] [(.int d4)]
  refine own_istore X hx (hb hby at_80) (pc' := 82) rfl (Ls' := #[.val (.long q0), .second, .val (.long q1), .second, .val (.int p2), .val (.int (p2 &&& (7 : Int32))), .val (.int ((XT.ushr p2 (3 : Int32)) &&& (3 : Int32))), .val (.int d0), .val (.int d1), .val (.int d2), .val (.int d3), .val (.int d4), .unset, .unset, .unset, .unset, .unset, .unset]) rfl ?_
  refine own_iload X hx (hb hby at_82) (pc' := 84) rfl rfl ?_
  refine own_iload X hx (hb hby at_84) (pc' := 86) rfl rfl ?_
  refine own_iconst X hx (5 : Int32) (hb hby at_86) (pc' := 87) rfl rfl ?_
  refine own_lloadN X hx (hb hby at_87) (pc' := 88) rfl rfl ?_
  refine own_bipush X hx (50 : Int32) (hb hby at_88) (pc' := 90) rfl rfl ?_
  refine own_lushr X hx (hb hby at_90) (pc' := 91) rfl ?_
  refine own_callS X hx hZ [(.int ((XT.ushr p2 (3 : Int32)) &&& (3 : Int32))), (.int p2), (.int (5 : Int32)), (.long (XT.ushrL q0 (50 : Int32)))] hown (own_w hw 0 rfl) (own_w hw 1 rfl) (own_w hw 2 rfl) (own_w hw 3 rfl) (by decide) (rm_pick l Z a0 hw [] ((XT.ushr p2 (3 : Int32)) &&& (3 : Int32)) p2 (5 : Int32) (XT.ushrL q0 (50 : Int32)) h0 n0 Z0) eT (W := 0) (by decide) (by decide) (cells' := 0) (slots' := 0) rfl rfl (by decide) (by decide) (by rw [hml]; rfl) (lenOf own_pd_28IIIJ29C rfl) rfl (S := []) rfl (Nat.le_of_eq rfl) (hb hby at_91) (pc' := 94) rfl ?_
  intro v T h6 L lc X eT hq fN
  obtain ⟨d5, rfl, Nq, hqe, bd5⟩ := hq
  have N := fN _ N Nq
  rw [hqe] at eT
  show own_W p e below (own_PostS Z own_EL s (Q_law Z q0 q1 p2 cs h0 n0) 24 3200) T m 94 #[.val (.long q0), .second, .val (.long q1), .second, .val (.int p2), .val (.int (p2 &&& (7 : Int32))), .val (.int ((XT.ushr p2 (3 : Int32)) &&& (3 : Int32))), .val (.int d0), .val (.int d1), .val (.int d2), .val (.int d3), .val (.int d4), .unset, .unset, .unset, .unset, .unset, .unset] [(.int d5)]
  refine own_istore X hx (hb hby at_94) (pc' := 96) rfl (Ls' := #[.val (.long q0), .second, .val (.long q1), .second, .val (.int p2), .val (.int (p2 &&& (7 : Int32))), .val (.int ((XT.ushr p2 (3 : Int32)) &&& (3 : Int32))), .val (.int d0), .val (.int d1), .val (.int d2), .val (.int d3), .val (.int d4), .val (.int d5), .unset, .unset, .unset, .unset, .unset]) rfl ?_
  refine own_iload X hx (hb hby at_96) (pc' := 98) rfl rfl ?_
  refine own_iload X hx (hb hby at_98) (pc' := 100) rfl rfl ?_
  refine own_bipush X hx (6 : Int32) (hb hby at_100) (pc' := 102) rfl rfl ?_
  refine own_lloadN X hx (hb hby at_102) (pc' := 103) rfl rfl ?_
  refine own_callS X hx hZ [(.int ((XT.ushr p2 (3 : Int32)) &&& (3 : Int32))), (.int p2), (.int (6 : Int32)), (.long q1)] hown (own_w hw 0 rfl) (own_w hw 1 rfl) (own_w hw 2 rfl) (own_w hw 3 rfl) (by decide) (rm_pick l Z a0 hw [] ((XT.ushr p2 (3 : Int32)) &&& (3 : Int32)) p2 (6 : Int32) q1 h0 n0 Z0) eT (W := 0) (by decide) (by decide) (cells' := 0) (slots' := 0) rfl rfl (by decide) (by decide) (by rw [hml]; rfl) (lenOf own_pd_28IIIJ29C rfl) rfl (S := []) rfl (Nat.le_of_eq rfl) (hb hby at_103) (pc' := 106) rfl ?_
  intro v T h7 L lc X eT hq fN
  obtain ⟨d6, rfl, Nq, hqe, bd6⟩ := hq
  have N := fN _ N Nq
  rw [hqe] at eT
  show own_W p e below (own_PostS Z own_EL s (Q_law Z q0 q1 p2 cs h0 n0) 24 3200) T m 106 #[.val (.long q0), .second, .val (.long q1), .second, .val (.int p2), .val (.int (p2 &&& (7 : Int32))), .val (.int ((XT.ushr p2 (3 : Int32)) &&& (3 : Int32))), .val (.int d0), .val (.int d1), .val (.int d2), .val (.int d3), .val (.int d4), .val (.int d5), .unset, .unset, .unset, .unset, .unset] [(.int d6)]
  refine own_istore X hx (hb hby at_106) (pc' := 108) rfl (Ls' := #[.val (.long q0), .second, .val (.long q1), .second, .val (.int p2), .val (.int (p2 &&& (7 : Int32))), .val (.int ((XT.ushr p2 (3 : Int32)) &&& (3 : Int32))), .val (.int d0), .val (.int d1), .val (.int d2), .val (.int d3), .val (.int d4), .val (.int d5), .val (.int d6), .unset, .unset, .unset, .unset]) rfl ?_
  obtain ⟨ln, h_ln⟩ : ∃ z, z = (p2 &&& (7 : Int32)) := ⟨_, rfl⟩
  rw [← h_ln]
  have b_ln := own_n8 p2
  rw [← h_ln] at b_ln
  rcases b_ln with q | q | q | q | q | q | q | q
  · rw [q]
    show own_W p e below (own_PostS Z own_EL s (Q_law Z q0 q1 p2 cs h0 n0) 24 3200) T m 108 #[.val (.long q0), .second, .val (.long q1), .second, .val (.int p2), .val (.int (0 : Int32)), .val (.int ((XT.ushr p2 (3 : Int32)) &&& (3 : Int32))), .val (.int d0), .val (.int d1), .val (.int d2), .val (.int d3), .val (.int d4), .val (.int d5), .val (.int d6), .unset, .unset, .unset, .unset] []
    refine own_iload X hx (hb hby at_108) (pc' := 110) rfl rfl ?_
    refine own_iload X hx (hb hby at_110) (pc' := 112) rfl rfl ?_
    refine own_iload X hx (hb hby at_112) (pc' := 114) rfl rfl ?_
    refine own_iload X hx (hb hby at_114) (pc' := 116) rfl rfl ?_
    refine own_iload X hx (hb hby at_116) (pc' := 118) rfl rfl ?_
    refine own_iload X hx (hb hby at_118) (pc' := 120) rfl rfl ?_
    refine own_iload X hx (hb hby at_120) (pc' := 122) rfl rfl ?_
    refine own_iload X hx (hb hby at_122) (pc' := 124) rfl rfl ?_
    refine own_callSS X hx hZ [(.int (0 : Int32)), (.int d0), (.int d1), (.int d2), (.int d3), (.int d4), (.int d5), (.int d6)] hown (own_w hw 11 rfl) (own_w hw 12 rfl) (own_w hw 2 rfl) (own_w hw 13 rfl) (by decide) (rm_mk0 l Z a0 hw hEL [] cs d0 d1 d2 d3 d4 d5 d6 h0 n0 Z0 S_C hcs bd0 bd1 bd2 bd3 bd4 bd5 bd6) eT hS hk hEL H (W := 0) (by decide) (by decide) (cells' := 6) (slots' := 12) rfl rfl (by decide) (by decide) (by rw [hml]; rfl) (lenOf own_pd_28ICCCCCCC29Ljava2flang2fString3b rfl) rfl (S := []) rfl (Nat.le_of_eq rfl) (hb hby at_124) (pc' := 127) rfl ?_
    intro v T h8 L lc vm0 k1 X eT hS hk hZ hown CQ hq fN
    obtain ⟨sa, sb, kb, rfl, Nq, Kq, E_s, C_s, V_s, A_s⟩ := hq
    have N := fN _ N Nq
    have CR := CR.trans CQ
    have H := CQ.1
    have S_C := own_sta_keep S_C Kq ns0
    have Z0 := Nat.le_trans Z0 Kq.1
    show own_W p e below (own_PostS Z own_EL s (Q_law Z q0 q1 p2 cs h0 n0) 24 3200) T m 127 #[.val (.long q0), .second, .val (.long q1), .second, .val (.int p2), .val (.int (0 : Int32)), .val (.int ((XT.ushr p2 (3 : Int32)) &&& (3 : Int32))), .val (.int d0), .val (.int d1), .val (.int d2), .val (.int d3), .val (.int d4), .val (.int d5), .val (.int d6), .unset, .unset, .unset, .unset] [(.ref sa)]
    refine own_astore X hx (hb hby at_127) (pc' := 129) rfl rfl (Ls' := #[.val (.long q0), .second, .val (.long q1), .second, .val (.int p2), .val (.int (0 : Int32)), .val (.int ((XT.ushr p2 (3 : Int32)) &&& (3 : Int32))), .val (.int d0), .val (.int d1), .val (.int d2), .val (.int d3), .val (.int d4), .val (.int d5), .val (.int d6), .val (.ref sa), .unset, .unset, .unset]) rfl ?_
    refine own_iload X hx (hb hby at_129) (pc' := 131) rfl rfl ?_
    refine own_bipush X hx (6 : Int32) (hb hby at_131) (pc' := 133) rfl rfl ?_
    refine own_icmpY X hx (hb hby at_133) (by decide) (pc' := 182) rfl (show ¬ ((0 : Int32) = (6 : Int32)) from (by decide)) ?_
    refine own_iconst X hx (0 : Int32) (hb hby at_182) (pc' := 183) rfl rfl ?_
    refine own_istore X hx (hb hby at_183) (pc' := 185) rfl (Ls' := #[.val (.long q0), .second, .val (.long q1), .second, .val (.int p2), .val (.int (0 : Int32)), .val (.int ((XT.ushr p2 (3 : Int32)) &&& (3 : Int32))), .val (.int d0), .val (.int d1), .val (.int d2), .val (.int d3), .val (.int d4), .val (.int d5), .val (.int d6), .val (.ref sa), .val (.int (0 : Int32)), .unset, .unset]) rfl ?_
    refine own_iload X hx (hb hby at_185) (pc' := 187) rfl rfl ?_
    refine own_iconst X hx (2 : Int32) (hb hby at_187) (pc' := 188) rfl rfl ?_
    refine own_icmpY X hx (hb hby at_188) (by decide) (pc' := 209) rfl (show ¬ ((0 : Int32) = (2 : Int32)) from (by decide)) ?_
    refine own_iconst X hx (0 : Int32) (hb hby at_209) (pc' := 210) rfl rfl ?_
    refine own_istore X hx (hb hby at_210) (pc' := 212) rfl (Ls' := #[.val (.long q0), .second, .val (.long q1), .second, .val (.int p2), .val (.int (0 : Int32)), .val (.int ((XT.ushr p2 (3 : Int32)) &&& (3 : Int32))), .val (.int d0), .val (.int d1), .val (.int d2), .val (.int d3), .val (.int d4), .val (.int d5), .val (.int d6), .val (.ref sa), .val (.int (0 : Int32)), .val (.int (0 : Int32)), .unset]) rfl ?_
    refine own_iload X hx (hb hby at_212) (pc' := 214) rfl rfl ?_
    refine own_ifN X hx (hb hby at_214) (pc' := 217) rfl (show (0 : Int32) = (0 : Int32) from (by decide)) ?_
    refine own_iload X hx (hb hby at_217) (pc' := 219) rfl rfl ?_
    refine own_ifY X hx (hb hby at_219) (by decide) (pc' := 226) rfl (show (0 : Int32) = (0 : Int32) from (by decide)) ?_
    refine own_iconst X hx (0 : Int32) (hb hby at_226) (pc' := 227) rfl rfl ?_
    refine own_istore X hx (hb hby at_227) (pc' := 229) rfl (Ls' := #[.val (.long q0), .second, .val (.long q1), .second, .val (.int p2), .val (.int (0 : Int32)), .val (.int ((XT.ushr p2 (3 : Int32)) &&& (3 : Int32))), .val (.int d0), .val (.int d1), .val (.int d2), .val (.int d3), .val (.int d4), .val (.int d5), .val (.int d6), .val (.ref sa), .val (.int (0 : Int32)), .val (.int (0 : Int32)), .val (.int (0 : Int32))]) rfl ?_
    refine own_aload X hx (hb hby at_229) (pc' := 231) rfl rfl rfl ?_
    refine own_callSS X hx hZ [(.ref sa)] hown (own_w hw 36 rfl) (own_w hw 37 rfl) (own_w hw 38 rfl) (own_w hw 39 rfl) (by decide) (rm_ak0 l Z a0 hw hEL [] sa sb cs  h8 n0 Z0 S_C hcs E_s C_s V_s _ A_s) eT hS hk hEL H (W := 0) (by decide) (by decide) (cells' := 10) (slots' := 52) rfl rfl (by decide) (by decide) (by rw [hml]; rfl) (lenOf own_pd_28Ljava2flang2fString3b29Z rfl) rfl (S := []) rfl (Nat.le_of_eq rfl) (hb hby at_231) (pc' := 234) rfl ?_
    intro v T h9 L lc vm0 k1 X eT hS hk hZ hown CQ hq fN
    obtain ⟨rfl, Nq⟩ := hq
    have N := fN _ N Nq
    have CR := CR.trans CQ
    have H := CQ.1
    show own_W p e below (own_PostS Z own_EL s (Q_law Z q0 q1 p2 cs h0 n0) 24 3200) T m 234 #[.val (.long q0), .second, .val (.long q1), .second, .val (.int p2), .val (.int (0 : Int32)), .val (.int ((XT.ushr p2 (3 : Int32)) &&& (3 : Int32))), .val (.int d0), .val (.int d1), .val (.int d2), .val (.int d3), .val (.int d4), .val (.int d5), .val (.int d6), .val (.ref sa), .val (.int (0 : Int32)), .val (.int (0 : Int32)), .val (.int (0 : Int32))] [(.int (0 : Int32))]
    refine own_iload X hx (hb hby at_234) (pc' := 236) rfl rfl ?_
    refine own_icmpN X hx (hb hby at_236) (pc' := 239) rfl (show (0 : Int32) = (0 : Int32) from (by decide)) ?_
    refine own_iconst X hx (1 : Int32) (hb hby at_239) (pc' := 240) rfl rfl ?_
    refine own_goto X hx (hb hby at_240) (by decide) (pc' := 244) rfl ?_
    refine own_retIS X hx hlk hZ eT hh hS hk hEL H CR (t := .boolean) (w' := (.int (1 : Int32))) Bd.returns (hb hby at_244) rfl rfl (by simp) (by decide) (by decide) ?_
    rw [eT]
    exact ⟨rfl, N⟩
  · rw [q]
    show own_W p e below (own_PostS Z own_EL s (Q_law Z q0 q1 p2 cs h0 n0) 24 3200) T m 108 #[.val (.long q0), .second, .val (.long q1), .second, .val (.int p2), .val (.int (1 : Int32)), .val (.int ((XT.ushr p2 (3 : Int32)) &&& (3 : Int32))), .val (.int d0), .val (.int d1), .val (.int d2), .val (.int d3), .val (.int d4), .val (.int d5), .val (.int d6), .unset, .unset, .unset, .unset] []
    refine own_iload X hx (hb hby at_108) (pc' := 110) rfl rfl ?_
    refine own_iload X hx (hb hby at_110) (pc' := 112) rfl rfl ?_
    refine own_iload X hx (hb hby at_112) (pc' := 114) rfl rfl ?_
    refine own_iload X hx (hb hby at_114) (pc' := 116) rfl rfl ?_
    refine own_iload X hx (hb hby at_116) (pc' := 118) rfl rfl ?_
    refine own_iload X hx (hb hby at_118) (pc' := 120) rfl rfl ?_
    refine own_iload X hx (hb hby at_120) (pc' := 122) rfl rfl ?_
    refine own_iload X hx (hb hby at_122) (pc' := 124) rfl rfl ?_
    refine own_callSS X hx hZ [(.int (1 : Int32)), (.int d0), (.int d1), (.int d2), (.int d3), (.int d4), (.int d5), (.int d6)] hown (own_w hw 11 rfl) (own_w hw 12 rfl) (own_w hw 2 rfl) (own_w hw 13 rfl) (by decide) (rm_mk1 l Z a0 hw hEL [] cs d0 d1 d2 d3 d4 d5 d6 h0 n0 Z0 S_C hcs bd0 bd1 bd2 bd3 bd4 bd5 bd6) eT hS hk hEL H (W := 0) (by decide) (by decide) (cells' := 3) (slots' := 6) rfl rfl (by decide) (by decide) (by rw [hml]; rfl) (lenOf own_pd_28ICCCCCCC29Ljava2flang2fString3b rfl) rfl (S := []) rfl (Nat.le_of_eq rfl) (hb hby at_124) (pc' := 127) rfl ?_
    intro v T h10 L lc vm0 k1 X eT hS hk hZ hown CQ hq fN
    obtain ⟨sa, sb, kb, rfl, Nq, Kq, E_s, C_s, V_s, A_s⟩ := hq
    have N := fN _ N Nq
    have CR := CR.trans CQ
    have H := CQ.1
    have S_C := own_sta_keep S_C Kq ns0
    have Z0 := Nat.le_trans Z0 Kq.1
    show own_W p e below (own_PostS Z own_EL s (Q_law Z q0 q1 p2 cs h0 n0) 24 3200) T m 127 #[.val (.long q0), .second, .val (.long q1), .second, .val (.int p2), .val (.int (1 : Int32)), .val (.int ((XT.ushr p2 (3 : Int32)) &&& (3 : Int32))), .val (.int d0), .val (.int d1), .val (.int d2), .val (.int d3), .val (.int d4), .val (.int d5), .val (.int d6), .unset, .unset, .unset, .unset] [(.ref sa)]
    refine own_astore X hx (hb hby at_127) (pc' := 129) rfl rfl (Ls' := #[.val (.long q0), .second, .val (.long q1), .second, .val (.int p2), .val (.int (1 : Int32)), .val (.int ((XT.ushr p2 (3 : Int32)) &&& (3 : Int32))), .val (.int d0), .val (.int d1), .val (.int d2), .val (.int d3), .val (.int d4), .val (.int d5), .val (.int d6), .val (.ref sa), .unset, .unset, .unset]) rfl ?_
    refine own_iload X hx (hb hby at_129) (pc' := 131) rfl rfl ?_
    refine own_bipush X hx (6 : Int32) (hb hby at_131) (pc' := 133) rfl rfl ?_
    refine own_icmpY X hx (hb hby at_133) (by decide) (pc' := 182) rfl (show ¬ ((1 : Int32) = (6 : Int32)) from (by decide)) ?_
    refine own_iconst X hx (0 : Int32) (hb hby at_182) (pc' := 183) rfl rfl ?_
    refine own_istore X hx (hb hby at_183) (pc' := 185) rfl (Ls' := #[.val (.long q0), .second, .val (.long q1), .second, .val (.int p2), .val (.int (1 : Int32)), .val (.int ((XT.ushr p2 (3 : Int32)) &&& (3 : Int32))), .val (.int d0), .val (.int d1), .val (.int d2), .val (.int d3), .val (.int d4), .val (.int d5), .val (.int d6), .val (.ref sa), .val (.int (0 : Int32)), .unset, .unset]) rfl ?_
    refine own_iload X hx (hb hby at_185) (pc' := 187) rfl rfl ?_
    refine own_iconst X hx (2 : Int32) (hb hby at_187) (pc' := 188) rfl rfl ?_
    refine own_icmpY X hx (hb hby at_188) (by decide) (pc' := 209) rfl (show ¬ ((1 : Int32) = (2 : Int32)) from (by decide)) ?_
    refine own_iconst X hx (0 : Int32) (hb hby at_209) (pc' := 210) rfl rfl ?_
    refine own_istore X hx (hb hby at_210) (pc' := 212) rfl (Ls' := #[.val (.long q0), .second, .val (.long q1), .second, .val (.int p2), .val (.int (1 : Int32)), .val (.int ((XT.ushr p2 (3 : Int32)) &&& (3 : Int32))), .val (.int d0), .val (.int d1), .val (.int d2), .val (.int d3), .val (.int d4), .val (.int d5), .val (.int d6), .val (.ref sa), .val (.int (0 : Int32)), .val (.int (0 : Int32)), .unset]) rfl ?_
    refine own_iload X hx (hb hby at_212) (pc' := 214) rfl rfl ?_
    refine own_ifN X hx (hb hby at_214) (pc' := 217) rfl (show (0 : Int32) = (0 : Int32) from (by decide)) ?_
    refine own_iload X hx (hb hby at_217) (pc' := 219) rfl rfl ?_
    refine own_ifY X hx (hb hby at_219) (by decide) (pc' := 226) rfl (show (0 : Int32) = (0 : Int32) from (by decide)) ?_
    refine own_iconst X hx (0 : Int32) (hb hby at_226) (pc' := 227) rfl rfl ?_
    refine own_istore X hx (hb hby at_227) (pc' := 229) rfl (Ls' := #[.val (.long q0), .second, .val (.long q1), .second, .val (.int p2), .val (.int (1 : Int32)), .val (.int ((XT.ushr p2 (3 : Int32)) &&& (3 : Int32))), .val (.int d0), .val (.int d1), .val (.int d2), .val (.int d3), .val (.int d4), .val (.int d5), .val (.int d6), .val (.ref sa), .val (.int (0 : Int32)), .val (.int (0 : Int32)), .val (.int (0 : Int32))]) rfl ?_
    refine own_aload X hx (hb hby at_229) (pc' := 231) rfl rfl rfl ?_
    refine own_callSS X hx hZ [(.ref sa)] hown (own_w hw 36 rfl) (own_w hw 37 rfl) (own_w hw 38 rfl) (own_w hw 39 rfl) (by decide) (rm_ak1 l Z a0 hw hEL [] sa sb cs (nar .byte d0.toInt8.toInt32) h10 n0 Z0 S_C hcs E_s C_s V_s _ A_s) eT hS hk hEL H (W := 0) (by decide) (by decide) (cells' := 7) (slots' := 46) rfl rfl (by decide) (by decide) (by rw [hml]; rfl) (lenOf own_pd_28Ljava2flang2fString3b29Z rfl) rfl (S := []) rfl (Nat.le_of_eq rfl) (hb hby at_231) (pc' := 234) rfl ?_
    intro v T h11 L lc vm0 k1 X eT hS hk hZ hown CQ hq fN
    obtain ⟨rfl, Nq⟩ := hq
    have N := fN _ N Nq
    have CR := CR.trans CQ
    have H := CQ.1
    show own_W p e below (own_PostS Z own_EL s (Q_law Z q0 q1 p2 cs h0 n0) 24 3200) T m 234 #[.val (.long q0), .second, .val (.long q1), .second, .val (.int p2), .val (.int (1 : Int32)), .val (.int ((XT.ushr p2 (3 : Int32)) &&& (3 : Int32))), .val (.int d0), .val (.int d1), .val (.int d2), .val (.int d3), .val (.int d4), .val (.int d5), .val (.int d6), .val (.ref sa), .val (.int (0 : Int32)), .val (.int (0 : Int32)), .val (.int (0 : Int32))] [(.int (0 : Int32))]
    refine own_iload X hx (hb hby at_234) (pc' := 236) rfl rfl ?_
    refine own_icmpN X hx (hb hby at_236) (pc' := 239) rfl (show (0 : Int32) = (0 : Int32) from (by decide)) ?_
    refine own_iconst X hx (1 : Int32) (hb hby at_239) (pc' := 240) rfl rfl ?_
    refine own_goto X hx (hb hby at_240) (by decide) (pc' := 244) rfl ?_
    refine own_retIS X hx hlk hZ eT hh hS hk hEL H CR (t := .boolean) (w' := (.int (1 : Int32))) Bd.returns (hb hby at_244) rfl rfl (by simp) (by decide) (by decide) ?_
    rw [eT]
    exact ⟨rfl, N⟩
  · rw [q]
    show own_W p e below (own_PostS Z own_EL s (Q_law Z q0 q1 p2 cs h0 n0) 24 3200) T m 108 #[.val (.long q0), .second, .val (.long q1), .second, .val (.int p2), .val (.int (2 : Int32)), .val (.int ((XT.ushr p2 (3 : Int32)) &&& (3 : Int32))), .val (.int d0), .val (.int d1), .val (.int d2), .val (.int d3), .val (.int d4), .val (.int d5), .val (.int d6), .unset, .unset, .unset, .unset] []
    refine own_iload X hx (hb hby at_108) (pc' := 110) rfl rfl ?_
    refine own_iload X hx (hb hby at_110) (pc' := 112) rfl rfl ?_
    refine own_iload X hx (hb hby at_112) (pc' := 114) rfl rfl ?_
    refine own_iload X hx (hb hby at_114) (pc' := 116) rfl rfl ?_
    refine own_iload X hx (hb hby at_116) (pc' := 118) rfl rfl ?_
    refine own_iload X hx (hb hby at_118) (pc' := 120) rfl rfl ?_
    refine own_iload X hx (hb hby at_120) (pc' := 122) rfl rfl ?_
    refine own_iload X hx (hb hby at_122) (pc' := 124) rfl rfl ?_
    refine own_callSS X hx hZ [(.int (2 : Int32)), (.int d0), (.int d1), (.int d2), (.int d3), (.int d4), (.int d5), (.int d6)] hown (own_w hw 11 rfl) (own_w hw 12 rfl) (own_w hw 2 rfl) (own_w hw 13 rfl) (by decide) (rm_mk2 l Z a0 hw hEL [] cs d0 d1 d2 d3 d4 d5 d6 h0 n0 Z0 S_C hcs bd0 bd1 bd2 bd3 bd4 bd5 bd6) eT hS hk hEL H (W := 0) (by decide) (by decide) (cells' := 3) (slots' := 8) rfl rfl (by decide) (by decide) (by rw [hml]; rfl) (lenOf own_pd_28ICCCCCCC29Ljava2flang2fString3b rfl) rfl (S := []) rfl (Nat.le_of_eq rfl) (hb hby at_124) (pc' := 127) rfl ?_
    intro v T h12 L lc vm0 k1 X eT hS hk hZ hown CQ hq fN
    obtain ⟨sa, sb, kb, rfl, Nq, Kq, E_s, C_s, V_s, A_s⟩ := hq
    have N := fN _ N Nq
    have CR := CR.trans CQ
    have H := CQ.1
    have S_C := own_sta_keep S_C Kq ns0
    have Z0 := Nat.le_trans Z0 Kq.1
    show own_W p e below (own_PostS Z own_EL s (Q_law Z q0 q1 p2 cs h0 n0) 24 3200) T m 127 #[.val (.long q0), .second, .val (.long q1), .second, .val (.int p2), .val (.int (2 : Int32)), .val (.int ((XT.ushr p2 (3 : Int32)) &&& (3 : Int32))), .val (.int d0), .val (.int d1), .val (.int d2), .val (.int d3), .val (.int d4), .val (.int d5), .val (.int d6), .unset, .unset, .unset, .unset] [(.ref sa)]
    refine own_astore X hx (hb hby at_127) (pc' := 129) rfl rfl (Ls' := #[.val (.long q0), .second, .val (.long q1), .second, .val (.int p2), .val (.int (2 : Int32)), .val (.int ((XT.ushr p2 (3 : Int32)) &&& (3 : Int32))), .val (.int d0), .val (.int d1), .val (.int d2), .val (.int d3), .val (.int d4), .val (.int d5), .val (.int d6), .val (.ref sa), .unset, .unset, .unset]) rfl ?_
    refine own_iload X hx (hb hby at_129) (pc' := 131) rfl rfl ?_
    refine own_bipush X hx (6 : Int32) (hb hby at_131) (pc' := 133) rfl rfl ?_
    refine own_icmpY X hx (hb hby at_133) (by decide) (pc' := 182) rfl (show ¬ ((2 : Int32) = (6 : Int32)) from (by decide)) ?_
    refine own_iconst X hx (0 : Int32) (hb hby at_182) (pc' := 183) rfl rfl ?_
    refine own_istore X hx (hb hby at_183) (pc' := 185) rfl (Ls' := #[.val (.long q0), .second, .val (.long q1), .second, .val (.int p2), .val (.int (2 : Int32)), .val (.int ((XT.ushr p2 (3 : Int32)) &&& (3 : Int32))), .val (.int d0), .val (.int d1), .val (.int d2), .val (.int d3), .val (.int d4), .val (.int d5), .val (.int d6), .val (.ref sa), .val (.int (0 : Int32)), .unset, .unset]) rfl ?_
    refine own_iload X hx (hb hby at_185) (pc' := 187) rfl rfl ?_
    refine own_iconst X hx (2 : Int32) (hb hby at_187) (pc' := 188) rfl rfl ?_
    refine own_icmpN X hx (hb hby at_188) (pc' := 191) rfl (show (2 : Int32) = (2 : Int32) from (by decide)) ?_
    refine own_iload X hx (hb hby at_191) (pc' := 193) rfl rfl ?_
    refine own_bipush X hx (45 : Int32) (hb hby at_193) (pc' := 195) rfl rfl ?_
    refine own_icmp X hx (hb hby at_195) (by decide) (pcY := 209) (pcN := 198) rfl rfl (fun (hc195 : ¬ (d0 = (45 : Int32))) => ?_) (fun (hc195 : d0 = (45 : Int32)) => ?_)
    · refine own_iconst X hx (0 : Int32) (hb hby at_209) (pc' := 210) rfl rfl ?_
      refine own_istore X hx (hb hby at_210) (pc' := 212) rfl (Ls' := #[.val (.long q0), .second, .val (.long q1), .second, .val (.int p2), .val (.int (2 : Int32)), .val (.int ((XT.ushr p2 (3 : Int32)) &&& (3 : Int32))), .val (.int d0), .val (.int d1), .val (.int d2), .val (.int d3), .val (.int d4), .val (.int d5), .val (.int d6), .val (.ref sa), .val (.int (0 : Int32)), .val (.int (0 : Int32)), .unset]) rfl ?_
      refine own_iload X hx (hb hby at_212) (pc' := 214) rfl rfl ?_
      refine own_ifN X hx (hb hby at_214) (pc' := 217) rfl (show (0 : Int32) = (0 : Int32) from (by decide)) ?_
      refine own_iload X hx (hb hby at_217) (pc' := 219) rfl rfl ?_
      refine own_ifY X hx (hb hby at_219) (by decide) (pc' := 226) rfl (show (0 : Int32) = (0 : Int32) from (by decide)) ?_
      refine own_iconst X hx (0 : Int32) (hb hby at_226) (pc' := 227) rfl rfl ?_
      refine own_istore X hx (hb hby at_227) (pc' := 229) rfl (Ls' := #[.val (.long q0), .second, .val (.long q1), .second, .val (.int p2), .val (.int (2 : Int32)), .val (.int ((XT.ushr p2 (3 : Int32)) &&& (3 : Int32))), .val (.int d0), .val (.int d1), .val (.int d2), .val (.int d3), .val (.int d4), .val (.int d5), .val (.int d6), .val (.ref sa), .val (.int (0 : Int32)), .val (.int (0 : Int32)), .val (.int (0 : Int32))]) rfl ?_
      refine own_aload X hx (hb hby at_229) (pc' := 231) rfl rfl rfl ?_
      refine own_callSS X hx hZ [(.ref sa)] hown (own_w hw 36 rfl) (own_w hw 37 rfl) (own_w hw 38 rfl) (own_w hw 39 rfl) (by decide) (rm_ak2 l Z a0 hw hEL [] sa sb cs (nar .byte d0.toInt8.toInt32) (nar .byte d1.toInt8.toInt32) h12 n0 Z0 S_C hcs E_s C_s V_s _ A_s) eT hS hk hEL H (W := 0) (by decide) (by decide) (cells' := 7) (slots' := 48) rfl rfl (by decide) (by decide) (by rw [hml]; rfl) (lenOf own_pd_28Ljava2flang2fString3b29Z rfl) rfl (S := []) rfl (Nat.le_of_eq rfl) (hb hby at_231) (pc' := 234) rfl ?_
      intro v T h13 L lc vm0 k1 X eT hS hk hZ hown CQ hq fN
      obtain ⟨rfl, Nq⟩ := hq
      have N := fN _ N Nq
      have CR := CR.trans CQ
      have H := CQ.1
      show own_W p e below (own_PostS Z own_EL s (Q_law Z q0 q1 p2 cs h0 n0) 24 3200) T m 234 #[.val (.long q0), .second, .val (.long q1), .second, .val (.int p2), .val (.int (2 : Int32)), .val (.int ((XT.ushr p2 (3 : Int32)) &&& (3 : Int32))), .val (.int d0), .val (.int d1), .val (.int d2), .val (.int d3), .val (.int d4), .val (.int d5), .val (.int d6), .val (.ref sa), .val (.int (0 : Int32)), .val (.int (0 : Int32)), .val (.int (0 : Int32))] [(.int (own_eqv [(nar .byte d0.toInt8.toInt32), (nar .byte d1.toInt8.toInt32)] [(45 : Int32), (104 : Int32)]))]
      refine own_iload X hx (hb hby at_234) (pc' := 236) rfl rfl ?_
      refine own_icmpN X hx (hb hby at_236) (pc' := 239) rfl (show (own_eqv [(nar .byte d0.toInt8.toInt32), (nar .byte d1.toInt8.toInt32)] [(45 : Int32), (104 : Int32)]) = (0 : Int32) from (own_ecF fun e => hc195 ((own_lo bd0 (l := (45 : Int32)) (by decide)).mp e))) ?_
      refine own_iconst X hx (1 : Int32) (hb hby at_239) (pc' := 240) rfl rfl ?_
      refine own_goto X hx (hb hby at_240) (by decide) (pc' := 244) rfl ?_
      refine own_retIS X hx hlk hZ eT hh hS hk hEL H CR (t := .boolean) (w' := (.int (1 : Int32))) Bd.returns (hb hby at_244) rfl rfl (by simp) (by decide) (by decide) ?_
      rw [eT]
      exact ⟨rfl, N⟩
    · refine own_iload X hx (hb hby at_198) (pc' := 200) rfl rfl ?_
      refine own_bipush X hx (104 : Int32) (hb hby at_200) (pc' := 202) rfl rfl ?_
      refine own_icmp X hx (hb hby at_202) (by decide) (pcY := 209) (pcN := 205) rfl rfl (fun (hc202 : ¬ (d1 = (104 : Int32))) => ?_) (fun (hc202 : d1 = (104 : Int32)) => ?_)
      · refine own_iconst X hx (0 : Int32) (hb hby at_209) (pc' := 210) rfl rfl ?_
        refine own_istore X hx (hb hby at_210) (pc' := 212) rfl (Ls' := #[.val (.long q0), .second, .val (.long q1), .second, .val (.int p2), .val (.int (2 : Int32)), .val (.int ((XT.ushr p2 (3 : Int32)) &&& (3 : Int32))), .val (.int d0), .val (.int d1), .val (.int d2), .val (.int d3), .val (.int d4), .val (.int d5), .val (.int d6), .val (.ref sa), .val (.int (0 : Int32)), .val (.int (0 : Int32)), .unset]) rfl ?_
        refine own_iload X hx (hb hby at_212) (pc' := 214) rfl rfl ?_
        refine own_ifN X hx (hb hby at_214) (pc' := 217) rfl (show (0 : Int32) = (0 : Int32) from (by decide)) ?_
        refine own_iload X hx (hb hby at_217) (pc' := 219) rfl rfl ?_
        refine own_ifY X hx (hb hby at_219) (by decide) (pc' := 226) rfl (show (0 : Int32) = (0 : Int32) from (by decide)) ?_
        refine own_iconst X hx (0 : Int32) (hb hby at_226) (pc' := 227) rfl rfl ?_
        refine own_istore X hx (hb hby at_227) (pc' := 229) rfl (Ls' := #[.val (.long q0), .second, .val (.long q1), .second, .val (.int p2), .val (.int (2 : Int32)), .val (.int ((XT.ushr p2 (3 : Int32)) &&& (3 : Int32))), .val (.int d0), .val (.int d1), .val (.int d2), .val (.int d3), .val (.int d4), .val (.int d5), .val (.int d6), .val (.ref sa), .val (.int (0 : Int32)), .val (.int (0 : Int32)), .val (.int (0 : Int32))]) rfl ?_
        refine own_aload X hx (hb hby at_229) (pc' := 231) rfl rfl rfl ?_
        refine own_callSS X hx hZ [(.ref sa)] hown (own_w hw 36 rfl) (own_w hw 37 rfl) (own_w hw 38 rfl) (own_w hw 39 rfl) (by decide) (rm_ak2 l Z a0 hw hEL [] sa sb cs (nar .byte d0.toInt8.toInt32) (nar .byte d1.toInt8.toInt32) h12 n0 Z0 S_C hcs E_s C_s V_s _ A_s) eT hS hk hEL H (W := 0) (by decide) (by decide) (cells' := 7) (slots' := 48) rfl rfl (by decide) (by decide) (by rw [hml]; rfl) (lenOf own_pd_28Ljava2flang2fString3b29Z rfl) rfl (S := []) rfl (Nat.le_of_eq rfl) (hb hby at_231) (pc' := 234) rfl ?_
        intro v T h14 L lc vm0 k1 X eT hS hk hZ hown CQ hq fN
        obtain ⟨rfl, Nq⟩ := hq
        have N := fN _ N Nq
        have CR := CR.trans CQ
        have H := CQ.1
        show own_W p e below (own_PostS Z own_EL s (Q_law Z q0 q1 p2 cs h0 n0) 24 3200) T m 234 #[.val (.long q0), .second, .val (.long q1), .second, .val (.int p2), .val (.int (2 : Int32)), .val (.int ((XT.ushr p2 (3 : Int32)) &&& (3 : Int32))), .val (.int d0), .val (.int d1), .val (.int d2), .val (.int d3), .val (.int d4), .val (.int d5), .val (.int d6), .val (.ref sa), .val (.int (0 : Int32)), .val (.int (0 : Int32)), .val (.int (0 : Int32))] [(.int (own_eqv [(nar .byte d0.toInt8.toInt32), (nar .byte d1.toInt8.toInt32)] [(45 : Int32), (104 : Int32)]))]
        refine own_iload X hx (hb hby at_234) (pc' := 236) rfl rfl ?_
        refine own_icmpN X hx (hb hby at_236) (pc' := 239) rfl (show (own_eqv [(nar .byte d0.toInt8.toInt32), (nar .byte d1.toInt8.toInt32)] [(45 : Int32), (104 : Int32)]) = (0 : Int32) from ((own_ecT ((own_lo bd0 (l := (45 : Int32)) (by decide)).mpr hc195)).trans (own_ecF fun e => hc202 ((own_lo bd1 (l := (104 : Int32)) (by decide)).mp e)))) ?_
        refine own_iconst X hx (1 : Int32) (hb hby at_239) (pc' := 240) rfl rfl ?_
        refine own_goto X hx (hb hby at_240) (by decide) (pc' := 244) rfl ?_
        refine own_retIS X hx hlk hZ eT hh hS hk hEL H CR (t := .boolean) (w' := (.int (1 : Int32))) Bd.returns (hb hby at_244) rfl rfl (by simp) (by decide) (by decide) ?_
        rw [eT]
        exact ⟨rfl, N⟩
      · refine own_iconst X hx (1 : Int32) (hb hby at_205) (pc' := 206) rfl rfl ?_
        refine own_goto X hx (hb hby at_206) (by decide) (pc' := 210) rfl ?_
        refine own_istore X hx (hb hby at_210) (pc' := 212) rfl (Ls' := #[.val (.long q0), .second, .val (.long q1), .second, .val (.int p2), .val (.int (2 : Int32)), .val (.int ((XT.ushr p2 (3 : Int32)) &&& (3 : Int32))), .val (.int d0), .val (.int d1), .val (.int d2), .val (.int d3), .val (.int d4), .val (.int d5), .val (.int d6), .val (.ref sa), .val (.int (0 : Int32)), .val (.int (1 : Int32)), .unset]) rfl ?_
        refine own_iload X hx (hb hby at_212) (pc' := 214) rfl rfl ?_
        refine own_ifN X hx (hb hby at_214) (pc' := 217) rfl (show (0 : Int32) = (0 : Int32) from (by decide)) ?_
        refine own_iload X hx (hb hby at_217) (pc' := 219) rfl rfl ?_
        refine own_ifN X hx (hb hby at_219) (pc' := 222) rfl (show ¬ ((1 : Int32) = (0 : Int32)) from (by decide)) ?_
        refine own_iconst X hx (1 : Int32) (hb hby at_222) (pc' := 223) rfl rfl ?_
        refine own_goto X hx (hb hby at_223) (by decide) (pc' := 227) rfl ?_
        refine own_istore X hx (hb hby at_227) (pc' := 229) rfl (Ls' := #[.val (.long q0), .second, .val (.long q1), .second, .val (.int p2), .val (.int (2 : Int32)), .val (.int ((XT.ushr p2 (3 : Int32)) &&& (3 : Int32))), .val (.int d0), .val (.int d1), .val (.int d2), .val (.int d3), .val (.int d4), .val (.int d5), .val (.int d6), .val (.ref sa), .val (.int (0 : Int32)), .val (.int (1 : Int32)), .val (.int (1 : Int32))]) rfl ?_
        refine own_aload X hx (hb hby at_229) (pc' := 231) rfl rfl rfl ?_
        refine own_callSS X hx hZ [(.ref sa)] hown (own_w hw 36 rfl) (own_w hw 37 rfl) (own_w hw 38 rfl) (own_w hw 39 rfl) (by decide) (rm_ak2 l Z a0 hw hEL [] sa sb cs (nar .byte d0.toInt8.toInt32) (nar .byte d1.toInt8.toInt32) h12 n0 Z0 S_C hcs E_s C_s V_s _ A_s) eT hS hk hEL H (W := 0) (by decide) (by decide) (cells' := 7) (slots' := 48) rfl rfl (by decide) (by decide) (by rw [hml]; rfl) (lenOf own_pd_28Ljava2flang2fString3b29Z rfl) rfl (S := []) rfl (Nat.le_of_eq rfl) (hb hby at_231) (pc' := 234) rfl ?_
        intro v T h15 L lc vm0 k1 X eT hS hk hZ hown CQ hq fN
        obtain ⟨rfl, Nq⟩ := hq
        have N := fN _ N Nq
        have CR := CR.trans CQ
        have H := CQ.1
        show own_W p e below (own_PostS Z own_EL s (Q_law Z q0 q1 p2 cs h0 n0) 24 3200) T m 234 #[.val (.long q0), .second, .val (.long q1), .second, .val (.int p2), .val (.int (2 : Int32)), .val (.int ((XT.ushr p2 (3 : Int32)) &&& (3 : Int32))), .val (.int d0), .val (.int d1), .val (.int d2), .val (.int d3), .val (.int d4), .val (.int d5), .val (.int d6), .val (.ref sa), .val (.int (0 : Int32)), .val (.int (1 : Int32)), .val (.int (1 : Int32))] [(.int (own_eqv [(nar .byte d0.toInt8.toInt32), (nar .byte d1.toInt8.toInt32)] [(45 : Int32), (104 : Int32)]))]
        refine own_iload X hx (hb hby at_234) (pc' := 236) rfl rfl ?_
        refine own_icmpN X hx (hb hby at_236) (pc' := 239) rfl (show (own_eqv [(nar .byte d0.toInt8.toInt32), (nar .byte d1.toInt8.toInt32)] [(45 : Int32), (104 : Int32)]) = (1 : Int32) from ((own_ecT ((own_lo bd0 (l := (45 : Int32)) (by decide)).mpr hc195)).trans ((own_ecT ((own_lo bd1 (l := (104 : Int32)) (by decide)).mpr hc202)).trans rfl))) ?_
        refine own_iconst X hx (1 : Int32) (hb hby at_239) (pc' := 240) rfl rfl ?_
        refine own_goto X hx (hb hby at_240) (by decide) (pc' := 244) rfl ?_
        refine own_retIS X hx hlk hZ eT hh hS hk hEL H CR (t := .boolean) (w' := (.int (1 : Int32))) Bd.returns (hb hby at_244) rfl rfl (by simp) (by decide) (by decide) ?_
        rw [eT]
        exact ⟨rfl, N⟩
  · rw [q]
    show own_W p e below (own_PostS Z own_EL s (Q_law Z q0 q1 p2 cs h0 n0) 24 3200) T m 108 #[.val (.long q0), .second, .val (.long q1), .second, .val (.int p2), .val (.int (3 : Int32)), .val (.int ((XT.ushr p2 (3 : Int32)) &&& (3 : Int32))), .val (.int d0), .val (.int d1), .val (.int d2), .val (.int d3), .val (.int d4), .val (.int d5), .val (.int d6), .unset, .unset, .unset, .unset] []
    refine own_iload X hx (hb hby at_108) (pc' := 110) rfl rfl ?_
    refine own_iload X hx (hb hby at_110) (pc' := 112) rfl rfl ?_
    refine own_iload X hx (hb hby at_112) (pc' := 114) rfl rfl ?_
    refine own_iload X hx (hb hby at_114) (pc' := 116) rfl rfl ?_
    refine own_iload X hx (hb hby at_116) (pc' := 118) rfl rfl ?_
    refine own_iload X hx (hb hby at_118) (pc' := 120) rfl rfl ?_
    refine own_iload X hx (hb hby at_120) (pc' := 122) rfl rfl ?_
    refine own_iload X hx (hb hby at_122) (pc' := 124) rfl rfl ?_
    refine own_callSS X hx hZ [(.int (3 : Int32)), (.int d0), (.int d1), (.int d2), (.int d3), (.int d4), (.int d5), (.int d6)] hown (own_w hw 11 rfl) (own_w hw 12 rfl) (own_w hw 2 rfl) (own_w hw 13 rfl) (by decide) (rm_mk3 l Z a0 hw hEL [] cs d0 d1 d2 d3 d4 d5 d6 h0 n0 Z0 S_C hcs bd0 bd1 bd2 bd3 bd4 bd5 bd6) eT hS hk hEL H (W := 0) (by decide) (by decide) (cells' := 3) (slots' := 10) rfl rfl (by decide) (by decide) (by rw [hml]; rfl) (lenOf own_pd_28ICCCCCCC29Ljava2flang2fString3b rfl) rfl (S := []) rfl (Nat.le_of_eq rfl) (hb hby at_124) (pc' := 127) rfl ?_
    intro v T h16 L lc vm0 k1 X eT hS hk hZ hown CQ hq fN
    obtain ⟨sa, sb, kb, rfl, Nq, Kq, E_s, C_s, V_s, A_s⟩ := hq
    have N := fN _ N Nq
    have CR := CR.trans CQ
    have H := CQ.1
    have S_C := own_sta_keep S_C Kq ns0
    have Z0 := Nat.le_trans Z0 Kq.1
    show own_W p e below (own_PostS Z own_EL s (Q_law Z q0 q1 p2 cs h0 n0) 24 3200) T m 127 #[.val (.long q0), .second, .val (.long q1), .second, .val (.int p2), .val (.int (3 : Int32)), .val (.int ((XT.ushr p2 (3 : Int32)) &&& (3 : Int32))), .val (.int d0), .val (.int d1), .val (.int d2), .val (.int d3), .val (.int d4), .val (.int d5), .val (.int d6), .unset, .unset, .unset, .unset] [(.ref sa)]
    refine own_astore X hx (hb hby at_127) (pc' := 129) rfl rfl (Ls' := #[.val (.long q0), .second, .val (.long q1), .second, .val (.int p2), .val (.int (3 : Int32)), .val (.int ((XT.ushr p2 (3 : Int32)) &&& (3 : Int32))), .val (.int d0), .val (.int d1), .val (.int d2), .val (.int d3), .val (.int d4), .val (.int d5), .val (.int d6), .val (.ref sa), .unset, .unset, .unset]) rfl ?_
    refine own_iload X hx (hb hby at_129) (pc' := 131) rfl rfl ?_
    refine own_bipush X hx (6 : Int32) (hb hby at_131) (pc' := 133) rfl rfl ?_
    refine own_icmpY X hx (hb hby at_133) (by decide) (pc' := 182) rfl (show ¬ ((3 : Int32) = (6 : Int32)) from (by decide)) ?_
    refine own_iconst X hx (0 : Int32) (hb hby at_182) (pc' := 183) rfl rfl ?_
    refine own_istore X hx (hb hby at_183) (pc' := 185) rfl (Ls' := #[.val (.long q0), .second, .val (.long q1), .second, .val (.int p2), .val (.int (3 : Int32)), .val (.int ((XT.ushr p2 (3 : Int32)) &&& (3 : Int32))), .val (.int d0), .val (.int d1), .val (.int d2), .val (.int d3), .val (.int d4), .val (.int d5), .val (.int d6), .val (.ref sa), .val (.int (0 : Int32)), .unset, .unset]) rfl ?_
    refine own_iload X hx (hb hby at_185) (pc' := 187) rfl rfl ?_
    refine own_iconst X hx (2 : Int32) (hb hby at_187) (pc' := 188) rfl rfl ?_
    refine own_icmpY X hx (hb hby at_188) (by decide) (pc' := 209) rfl (show ¬ ((3 : Int32) = (2 : Int32)) from (by decide)) ?_
    refine own_iconst X hx (0 : Int32) (hb hby at_209) (pc' := 210) rfl rfl ?_
    refine own_istore X hx (hb hby at_210) (pc' := 212) rfl (Ls' := #[.val (.long q0), .second, .val (.long q1), .second, .val (.int p2), .val (.int (3 : Int32)), .val (.int ((XT.ushr p2 (3 : Int32)) &&& (3 : Int32))), .val (.int d0), .val (.int d1), .val (.int d2), .val (.int d3), .val (.int d4), .val (.int d5), .val (.int d6), .val (.ref sa), .val (.int (0 : Int32)), .val (.int (0 : Int32)), .unset]) rfl ?_
    refine own_iload X hx (hb hby at_212) (pc' := 214) rfl rfl ?_
    refine own_ifN X hx (hb hby at_214) (pc' := 217) rfl (show (0 : Int32) = (0 : Int32) from (by decide)) ?_
    refine own_iload X hx (hb hby at_217) (pc' := 219) rfl rfl ?_
    refine own_ifY X hx (hb hby at_219) (by decide) (pc' := 226) rfl (show (0 : Int32) = (0 : Int32) from (by decide)) ?_
    refine own_iconst X hx (0 : Int32) (hb hby at_226) (pc' := 227) rfl rfl ?_
    refine own_istore X hx (hb hby at_227) (pc' := 229) rfl (Ls' := #[.val (.long q0), .second, .val (.long q1), .second, .val (.int p2), .val (.int (3 : Int32)), .val (.int ((XT.ushr p2 (3 : Int32)) &&& (3 : Int32))), .val (.int d0), .val (.int d1), .val (.int d2), .val (.int d3), .val (.int d4), .val (.int d5), .val (.int d6), .val (.ref sa), .val (.int (0 : Int32)), .val (.int (0 : Int32)), .val (.int (0 : Int32))]) rfl ?_
    refine own_aload X hx (hb hby at_229) (pc' := 231) rfl rfl rfl ?_
    refine own_callSS X hx hZ [(.ref sa)] hown (own_w hw 36 rfl) (own_w hw 37 rfl) (own_w hw 38 rfl) (own_w hw 39 rfl) (by decide) (rm_ak3 l Z a0 hw hEL [] sa sb cs (nar .byte d0.toInt8.toInt32) (nar .byte d1.toInt8.toInt32) (nar .byte d2.toInt8.toInt32) h16 n0 Z0 S_C hcs E_s C_s V_s _ A_s) eT hS hk hEL H (W := 0) (by decide) (by decide) (cells' := 7) (slots' := 50) rfl rfl (by decide) (by decide) (by rw [hml]; rfl) (lenOf own_pd_28Ljava2flang2fString3b29Z rfl) rfl (S := []) rfl (Nat.le_of_eq rfl) (hb hby at_231) (pc' := 234) rfl ?_
    intro v T h17 L lc vm0 k1 X eT hS hk hZ hown CQ hq fN
    obtain ⟨rfl, Nq⟩ := hq
    have N := fN _ N Nq
    have CR := CR.trans CQ
    have H := CQ.1
    show own_W p e below (own_PostS Z own_EL s (Q_law Z q0 q1 p2 cs h0 n0) 24 3200) T m 234 #[.val (.long q0), .second, .val (.long q1), .second, .val (.int p2), .val (.int (3 : Int32)), .val (.int ((XT.ushr p2 (3 : Int32)) &&& (3 : Int32))), .val (.int d0), .val (.int d1), .val (.int d2), .val (.int d3), .val (.int d4), .val (.int d5), .val (.int d6), .val (.ref sa), .val (.int (0 : Int32)), .val (.int (0 : Int32)), .val (.int (0 : Int32))] [(.int (0 : Int32))]
    refine own_iload X hx (hb hby at_234) (pc' := 236) rfl rfl ?_
    refine own_icmpN X hx (hb hby at_236) (pc' := 239) rfl (show (0 : Int32) = (0 : Int32) from (by decide)) ?_
    refine own_iconst X hx (1 : Int32) (hb hby at_239) (pc' := 240) rfl rfl ?_
    refine own_goto X hx (hb hby at_240) (by decide) (pc' := 244) rfl ?_
    refine own_retIS X hx hlk hZ eT hh hS hk hEL H CR (t := .boolean) (w' := (.int (1 : Int32))) Bd.returns (hb hby at_244) rfl rfl (by simp) (by decide) (by decide) ?_
    rw [eT]
    exact ⟨rfl, N⟩
  · rw [q]
    show own_W p e below (own_PostS Z own_EL s (Q_law Z q0 q1 p2 cs h0 n0) 24 3200) T m 108 #[.val (.long q0), .second, .val (.long q1), .second, .val (.int p2), .val (.int (4 : Int32)), .val (.int ((XT.ushr p2 (3 : Int32)) &&& (3 : Int32))), .val (.int d0), .val (.int d1), .val (.int d2), .val (.int d3), .val (.int d4), .val (.int d5), .val (.int d6), .unset, .unset, .unset, .unset] []
    refine own_iload X hx (hb hby at_108) (pc' := 110) rfl rfl ?_
    refine own_iload X hx (hb hby at_110) (pc' := 112) rfl rfl ?_
    refine own_iload X hx (hb hby at_112) (pc' := 114) rfl rfl ?_
    refine own_iload X hx (hb hby at_114) (pc' := 116) rfl rfl ?_
    refine own_iload X hx (hb hby at_116) (pc' := 118) rfl rfl ?_
    refine own_iload X hx (hb hby at_118) (pc' := 120) rfl rfl ?_
    refine own_iload X hx (hb hby at_120) (pc' := 122) rfl rfl ?_
    refine own_iload X hx (hb hby at_122) (pc' := 124) rfl rfl ?_
    refine own_callSS X hx hZ [(.int (4 : Int32)), (.int d0), (.int d1), (.int d2), (.int d3), (.int d4), (.int d5), (.int d6)] hown (own_w hw 11 rfl) (own_w hw 12 rfl) (own_w hw 2 rfl) (own_w hw 13 rfl) (by decide) (rm_mk4 l Z a0 hw hEL [] cs d0 d1 d2 d3 d4 d5 d6 h0 n0 Z0 S_C hcs bd0 bd1 bd2 bd3 bd4 bd5 bd6) eT hS hk hEL H (W := 0) (by decide) (by decide) (cells' := 3) (slots' := 12) rfl rfl (by decide) (by decide) (by rw [hml]; rfl) (lenOf own_pd_28ICCCCCCC29Ljava2flang2fString3b rfl) rfl (S := []) rfl (Nat.le_of_eq rfl) (hb hby at_124) (pc' := 127) rfl ?_
    intro v T h18 L lc vm0 k1 X eT hS hk hZ hown CQ hq fN
    obtain ⟨sa, sb, kb, rfl, Nq, Kq, E_s, C_s, V_s, A_s⟩ := hq
    have N := fN _ N Nq
    have CR := CR.trans CQ
    have H := CQ.1
    have S_C := own_sta_keep S_C Kq ns0
    have Z0 := Nat.le_trans Z0 Kq.1
    show own_W p e below (own_PostS Z own_EL s (Q_law Z q0 q1 p2 cs h0 n0) 24 3200) T m 127 #[.val (.long q0), .second, .val (.long q1), .second, .val (.int p2), .val (.int (4 : Int32)), .val (.int ((XT.ushr p2 (3 : Int32)) &&& (3 : Int32))), .val (.int d0), .val (.int d1), .val (.int d2), .val (.int d3), .val (.int d4), .val (.int d5), .val (.int d6), .unset, .unset, .unset, .unset] [(.ref sa)]
    refine own_astore X hx (hb hby at_127) (pc' := 129) rfl rfl (Ls' := #[.val (.long q0), .second, .val (.long q1), .second, .val (.int p2), .val (.int (4 : Int32)), .val (.int ((XT.ushr p2 (3 : Int32)) &&& (3 : Int32))), .val (.int d0), .val (.int d1), .val (.int d2), .val (.int d3), .val (.int d4), .val (.int d5), .val (.int d6), .val (.ref sa), .unset, .unset, .unset]) rfl ?_
    refine own_iload X hx (hb hby at_129) (pc' := 131) rfl rfl ?_
    refine own_bipush X hx (6 : Int32) (hb hby at_131) (pc' := 133) rfl rfl ?_
    refine own_icmpY X hx (hb hby at_133) (by decide) (pc' := 182) rfl (show ¬ ((4 : Int32) = (6 : Int32)) from (by decide)) ?_
    refine own_iconst X hx (0 : Int32) (hb hby at_182) (pc' := 183) rfl rfl ?_
    refine own_istore X hx (hb hby at_183) (pc' := 185) rfl (Ls' := #[.val (.long q0), .second, .val (.long q1), .second, .val (.int p2), .val (.int (4 : Int32)), .val (.int ((XT.ushr p2 (3 : Int32)) &&& (3 : Int32))), .val (.int d0), .val (.int d1), .val (.int d2), .val (.int d3), .val (.int d4), .val (.int d5), .val (.int d6), .val (.ref sa), .val (.int (0 : Int32)), .unset, .unset]) rfl ?_
    refine own_iload X hx (hb hby at_185) (pc' := 187) rfl rfl ?_
    refine own_iconst X hx (2 : Int32) (hb hby at_187) (pc' := 188) rfl rfl ?_
    refine own_icmpY X hx (hb hby at_188) (by decide) (pc' := 209) rfl (show ¬ ((4 : Int32) = (2 : Int32)) from (by decide)) ?_
    refine own_iconst X hx (0 : Int32) (hb hby at_209) (pc' := 210) rfl rfl ?_
    refine own_istore X hx (hb hby at_210) (pc' := 212) rfl (Ls' := #[.val (.long q0), .second, .val (.long q1), .second, .val (.int p2), .val (.int (4 : Int32)), .val (.int ((XT.ushr p2 (3 : Int32)) &&& (3 : Int32))), .val (.int d0), .val (.int d1), .val (.int d2), .val (.int d3), .val (.int d4), .val (.int d5), .val (.int d6), .val (.ref sa), .val (.int (0 : Int32)), .val (.int (0 : Int32)), .unset]) rfl ?_
    refine own_iload X hx (hb hby at_212) (pc' := 214) rfl rfl ?_
    refine own_ifN X hx (hb hby at_214) (pc' := 217) rfl (show (0 : Int32) = (0 : Int32) from (by decide)) ?_
    refine own_iload X hx (hb hby at_217) (pc' := 219) rfl rfl ?_
    refine own_ifY X hx (hb hby at_219) (by decide) (pc' := 226) rfl (show (0 : Int32) = (0 : Int32) from (by decide)) ?_
    refine own_iconst X hx (0 : Int32) (hb hby at_226) (pc' := 227) rfl rfl ?_
    refine own_istore X hx (hb hby at_227) (pc' := 229) rfl (Ls' := #[.val (.long q0), .second, .val (.long q1), .second, .val (.int p2), .val (.int (4 : Int32)), .val (.int ((XT.ushr p2 (3 : Int32)) &&& (3 : Int32))), .val (.int d0), .val (.int d1), .val (.int d2), .val (.int d3), .val (.int d4), .val (.int d5), .val (.int d6), .val (.ref sa), .val (.int (0 : Int32)), .val (.int (0 : Int32)), .val (.int (0 : Int32))]) rfl ?_
    refine own_aload X hx (hb hby at_229) (pc' := 231) rfl rfl rfl ?_
    refine own_callSS X hx hZ [(.ref sa)] hown (own_w hw 36 rfl) (own_w hw 37 rfl) (own_w hw 38 rfl) (own_w hw 39 rfl) (by decide) (rm_ak4 l Z a0 hw hEL [] sa sb cs (nar .byte d0.toInt8.toInt32) (nar .byte d1.toInt8.toInt32) (nar .byte d2.toInt8.toInt32) (nar .byte d3.toInt8.toInt32) h18 n0 Z0 S_C hcs E_s C_s V_s _ A_s) eT hS hk hEL H (W := 0) (by decide) (by decide) (cells' := 7) (slots' := 52) rfl rfl (by decide) (by decide) (by rw [hml]; rfl) (lenOf own_pd_28Ljava2flang2fString3b29Z rfl) rfl (S := []) rfl (Nat.le_of_eq rfl) (hb hby at_231) (pc' := 234) rfl ?_
    intro v T h19 L lc vm0 k1 X eT hS hk hZ hown CQ hq fN
    obtain ⟨rfl, Nq⟩ := hq
    have N := fN _ N Nq
    have CR := CR.trans CQ
    have H := CQ.1
    show own_W p e below (own_PostS Z own_EL s (Q_law Z q0 q1 p2 cs h0 n0) 24 3200) T m 234 #[.val (.long q0), .second, .val (.long q1), .second, .val (.int p2), .val (.int (4 : Int32)), .val (.int ((XT.ushr p2 (3 : Int32)) &&& (3 : Int32))), .val (.int d0), .val (.int d1), .val (.int d2), .val (.int d3), .val (.int d4), .val (.int d5), .val (.int d6), .val (.ref sa), .val (.int (0 : Int32)), .val (.int (0 : Int32)), .val (.int (0 : Int32))] [(.int (0 : Int32))]
    refine own_iload X hx (hb hby at_234) (pc' := 236) rfl rfl ?_
    refine own_icmpN X hx (hb hby at_236) (pc' := 239) rfl (show (0 : Int32) = (0 : Int32) from (by decide)) ?_
    refine own_iconst X hx (1 : Int32) (hb hby at_239) (pc' := 240) rfl rfl ?_
    refine own_goto X hx (hb hby at_240) (by decide) (pc' := 244) rfl ?_
    refine own_retIS X hx hlk hZ eT hh hS hk hEL H CR (t := .boolean) (w' := (.int (1 : Int32))) Bd.returns (hb hby at_244) rfl rfl (by simp) (by decide) (by decide) ?_
    rw [eT]
    exact ⟨rfl, N⟩
  · rw [q]
    show own_W p e below (own_PostS Z own_EL s (Q_law Z q0 q1 p2 cs h0 n0) 24 3200) T m 108 #[.val (.long q0), .second, .val (.long q1), .second, .val (.int p2), .val (.int (5 : Int32)), .val (.int ((XT.ushr p2 (3 : Int32)) &&& (3 : Int32))), .val (.int d0), .val (.int d1), .val (.int d2), .val (.int d3), .val (.int d4), .val (.int d5), .val (.int d6), .unset, .unset, .unset, .unset] []
    refine own_iload X hx (hb hby at_108) (pc' := 110) rfl rfl ?_
    refine own_iload X hx (hb hby at_110) (pc' := 112) rfl rfl ?_
    refine own_iload X hx (hb hby at_112) (pc' := 114) rfl rfl ?_
    refine own_iload X hx (hb hby at_114) (pc' := 116) rfl rfl ?_
    refine own_iload X hx (hb hby at_116) (pc' := 118) rfl rfl ?_
    refine own_iload X hx (hb hby at_118) (pc' := 120) rfl rfl ?_
    refine own_iload X hx (hb hby at_120) (pc' := 122) rfl rfl ?_
    refine own_iload X hx (hb hby at_122) (pc' := 124) rfl rfl ?_
    refine own_callSS X hx hZ [(.int (5 : Int32)), (.int d0), (.int d1), (.int d2), (.int d3), (.int d4), (.int d5), (.int d6)] hown (own_w hw 11 rfl) (own_w hw 12 rfl) (own_w hw 2 rfl) (own_w hw 13 rfl) (by decide) (rm_mk5 l Z a0 hw hEL [] cs d0 d1 d2 d3 d4 d5 d6 h0 n0 Z0 S_C hcs bd0 bd1 bd2 bd3 bd4 bd5 bd6) eT hS hk hEL H (W := 0) (by decide) (by decide) (cells' := 3) (slots' := 14) rfl rfl (by decide) (by decide) (by rw [hml]; rfl) (lenOf own_pd_28ICCCCCCC29Ljava2flang2fString3b rfl) rfl (S := []) rfl (Nat.le_of_eq rfl) (hb hby at_124) (pc' := 127) rfl ?_
    intro v T h20 L lc vm0 k1 X eT hS hk hZ hown CQ hq fN
    obtain ⟨sa, sb, kb, rfl, Nq, Kq, E_s, C_s, V_s, A_s⟩ := hq
    have N := fN _ N Nq
    have CR := CR.trans CQ
    have H := CQ.1
    have S_C := own_sta_keep S_C Kq ns0
    have Z0 := Nat.le_trans Z0 Kq.1
    show own_W p e below (own_PostS Z own_EL s (Q_law Z q0 q1 p2 cs h0 n0) 24 3200) T m 127 #[.val (.long q0), .second, .val (.long q1), .second, .val (.int p2), .val (.int (5 : Int32)), .val (.int ((XT.ushr p2 (3 : Int32)) &&& (3 : Int32))), .val (.int d0), .val (.int d1), .val (.int d2), .val (.int d3), .val (.int d4), .val (.int d5), .val (.int d6), .unset, .unset, .unset, .unset] [(.ref sa)]
    refine own_astore X hx (hb hby at_127) (pc' := 129) rfl rfl (Ls' := #[.val (.long q0), .second, .val (.long q1), .second, .val (.int p2), .val (.int (5 : Int32)), .val (.int ((XT.ushr p2 (3 : Int32)) &&& (3 : Int32))), .val (.int d0), .val (.int d1), .val (.int d2), .val (.int d3), .val (.int d4), .val (.int d5), .val (.int d6), .val (.ref sa), .unset, .unset, .unset]) rfl ?_
    refine own_iload X hx (hb hby at_129) (pc' := 131) rfl rfl ?_
    refine own_bipush X hx (6 : Int32) (hb hby at_131) (pc' := 133) rfl rfl ?_
    refine own_icmpY X hx (hb hby at_133) (by decide) (pc' := 182) rfl (show ¬ ((5 : Int32) = (6 : Int32)) from (by decide)) ?_
    refine own_iconst X hx (0 : Int32) (hb hby at_182) (pc' := 183) rfl rfl ?_
    refine own_istore X hx (hb hby at_183) (pc' := 185) rfl (Ls' := #[.val (.long q0), .second, .val (.long q1), .second, .val (.int p2), .val (.int (5 : Int32)), .val (.int ((XT.ushr p2 (3 : Int32)) &&& (3 : Int32))), .val (.int d0), .val (.int d1), .val (.int d2), .val (.int d3), .val (.int d4), .val (.int d5), .val (.int d6), .val (.ref sa), .val (.int (0 : Int32)), .unset, .unset]) rfl ?_
    refine own_iload X hx (hb hby at_185) (pc' := 187) rfl rfl ?_
    refine own_iconst X hx (2 : Int32) (hb hby at_187) (pc' := 188) rfl rfl ?_
    refine own_icmpY X hx (hb hby at_188) (by decide) (pc' := 209) rfl (show ¬ ((5 : Int32) = (2 : Int32)) from (by decide)) ?_
    refine own_iconst X hx (0 : Int32) (hb hby at_209) (pc' := 210) rfl rfl ?_
    refine own_istore X hx (hb hby at_210) (pc' := 212) rfl (Ls' := #[.val (.long q0), .second, .val (.long q1), .second, .val (.int p2), .val (.int (5 : Int32)), .val (.int ((XT.ushr p2 (3 : Int32)) &&& (3 : Int32))), .val (.int d0), .val (.int d1), .val (.int d2), .val (.int d3), .val (.int d4), .val (.int d5), .val (.int d6), .val (.ref sa), .val (.int (0 : Int32)), .val (.int (0 : Int32)), .unset]) rfl ?_
    refine own_iload X hx (hb hby at_212) (pc' := 214) rfl rfl ?_
    refine own_ifN X hx (hb hby at_214) (pc' := 217) rfl (show (0 : Int32) = (0 : Int32) from (by decide)) ?_
    refine own_iload X hx (hb hby at_217) (pc' := 219) rfl rfl ?_
    refine own_ifY X hx (hb hby at_219) (by decide) (pc' := 226) rfl (show (0 : Int32) = (0 : Int32) from (by decide)) ?_
    refine own_iconst X hx (0 : Int32) (hb hby at_226) (pc' := 227) rfl rfl ?_
    refine own_istore X hx (hb hby at_227) (pc' := 229) rfl (Ls' := #[.val (.long q0), .second, .val (.long q1), .second, .val (.int p2), .val (.int (5 : Int32)), .val (.int ((XT.ushr p2 (3 : Int32)) &&& (3 : Int32))), .val (.int d0), .val (.int d1), .val (.int d2), .val (.int d3), .val (.int d4), .val (.int d5), .val (.int d6), .val (.ref sa), .val (.int (0 : Int32)), .val (.int (0 : Int32)), .val (.int (0 : Int32))]) rfl ?_
    refine own_aload X hx (hb hby at_229) (pc' := 231) rfl rfl rfl ?_
    refine own_callSS X hx hZ [(.ref sa)] hown (own_w hw 36 rfl) (own_w hw 37 rfl) (own_w hw 38 rfl) (own_w hw 39 rfl) (by decide) (rm_ak5 l Z a0 hw hEL [] sa sb cs (nar .byte d0.toInt8.toInt32) (nar .byte d1.toInt8.toInt32) (nar .byte d2.toInt8.toInt32) (nar .byte d3.toInt8.toInt32) (nar .byte d4.toInt8.toInt32) h20 n0 Z0 S_C hcs E_s C_s V_s _ A_s) eT hS hk hEL H (W := 0) (by decide) (by decide) (cells' := 7) (slots' := 54) rfl rfl (by decide) (by decide) (by rw [hml]; rfl) (lenOf own_pd_28Ljava2flang2fString3b29Z rfl) rfl (S := []) rfl (Nat.le_of_eq rfl) (hb hby at_231) (pc' := 234) rfl ?_
    intro v T h21 L lc vm0 k1 X eT hS hk hZ hown CQ hq fN
    obtain ⟨rfl, Nq⟩ := hq
    have N := fN _ N Nq
    have CR := CR.trans CQ
    have H := CQ.1
    show own_W p e below (own_PostS Z own_EL s (Q_law Z q0 q1 p2 cs h0 n0) 24 3200) T m 234 #[.val (.long q0), .second, .val (.long q1), .second, .val (.int p2), .val (.int (5 : Int32)), .val (.int ((XT.ushr p2 (3 : Int32)) &&& (3 : Int32))), .val (.int d0), .val (.int d1), .val (.int d2), .val (.int d3), .val (.int d4), .val (.int d5), .val (.int d6), .val (.ref sa), .val (.int (0 : Int32)), .val (.int (0 : Int32)), .val (.int (0 : Int32))] [(.int (0 : Int32))]
    refine own_iload X hx (hb hby at_234) (pc' := 236) rfl rfl ?_
    refine own_icmpN X hx (hb hby at_236) (pc' := 239) rfl (show (0 : Int32) = (0 : Int32) from (by decide)) ?_
    refine own_iconst X hx (1 : Int32) (hb hby at_239) (pc' := 240) rfl rfl ?_
    refine own_goto X hx (hb hby at_240) (by decide) (pc' := 244) rfl ?_
    refine own_retIS X hx hlk hZ eT hh hS hk hEL H CR (t := .boolean) (w' := (.int (1 : Int32))) Bd.returns (hb hby at_244) rfl rfl (by simp) (by decide) (by decide) ?_
    rw [eT]
    exact ⟨rfl, N⟩
  · rw [q]
    show own_W p e below (own_PostS Z own_EL s (Q_law Z q0 q1 p2 cs h0 n0) 24 3200) T m 108 #[.val (.long q0), .second, .val (.long q1), .second, .val (.int p2), .val (.int (6 : Int32)), .val (.int ((XT.ushr p2 (3 : Int32)) &&& (3 : Int32))), .val (.int d0), .val (.int d1), .val (.int d2), .val (.int d3), .val (.int d4), .val (.int d5), .val (.int d6), .unset, .unset, .unset, .unset] []
    refine own_iload X hx (hb hby at_108) (pc' := 110) rfl rfl ?_
    refine own_iload X hx (hb hby at_110) (pc' := 112) rfl rfl ?_
    refine own_iload X hx (hb hby at_112) (pc' := 114) rfl rfl ?_
    refine own_iload X hx (hb hby at_114) (pc' := 116) rfl rfl ?_
    refine own_iload X hx (hb hby at_116) (pc' := 118) rfl rfl ?_
    refine own_iload X hx (hb hby at_118) (pc' := 120) rfl rfl ?_
    refine own_iload X hx (hb hby at_120) (pc' := 122) rfl rfl ?_
    refine own_iload X hx (hb hby at_122) (pc' := 124) rfl rfl ?_
    refine own_callSS X hx hZ [(.int (6 : Int32)), (.int d0), (.int d1), (.int d2), (.int d3), (.int d4), (.int d5), (.int d6)] hown (own_w hw 11 rfl) (own_w hw 12 rfl) (own_w hw 2 rfl) (own_w hw 13 rfl) (by decide) (rm_mk6 l Z a0 hw hEL [] cs d0 d1 d2 d3 d4 d5 d6 h0 n0 Z0 S_C hcs bd0 bd1 bd2 bd3 bd4 bd5 bd6) eT hS hk hEL H (W := 0) (by decide) (by decide) (cells' := 3) (slots' := 16) rfl rfl (by decide) (by decide) (by rw [hml]; rfl) (lenOf own_pd_28ICCCCCCC29Ljava2flang2fString3b rfl) rfl (S := []) rfl (Nat.le_of_eq rfl) (hb hby at_124) (pc' := 127) rfl ?_
    intro v T h22 L lc vm0 k1 X eT hS hk hZ hown CQ hq fN
    obtain ⟨sa, sb, kb, rfl, Nq, Kq, E_s, C_s, V_s, A_s⟩ := hq
    have N := fN _ N Nq
    have CR := CR.trans CQ
    have H := CQ.1
    have S_C := own_sta_keep S_C Kq ns0
    have Z0 := Nat.le_trans Z0 Kq.1
    show own_W p e below (own_PostS Z own_EL s (Q_law Z q0 q1 p2 cs h0 n0) 24 3200) T m 127 #[.val (.long q0), .second, .val (.long q1), .second, .val (.int p2), .val (.int (6 : Int32)), .val (.int ((XT.ushr p2 (3 : Int32)) &&& (3 : Int32))), .val (.int d0), .val (.int d1), .val (.int d2), .val (.int d3), .val (.int d4), .val (.int d5), .val (.int d6), .unset, .unset, .unset, .unset] [(.ref sa)]
    refine own_astore X hx (hb hby at_127) (pc' := 129) rfl rfl (Ls' := #[.val (.long q0), .second, .val (.long q1), .second, .val (.int p2), .val (.int (6 : Int32)), .val (.int ((XT.ushr p2 (3 : Int32)) &&& (3 : Int32))), .val (.int d0), .val (.int d1), .val (.int d2), .val (.int d3), .val (.int d4), .val (.int d5), .val (.int d6), .val (.ref sa), .unset, .unset, .unset]) rfl ?_
    refine own_iload X hx (hb hby at_129) (pc' := 131) rfl rfl ?_
    refine own_bipush X hx (6 : Int32) (hb hby at_131) (pc' := 133) rfl rfl ?_
    refine own_icmpN X hx (hb hby at_133) (pc' := 136) rfl (show (6 : Int32) = (6 : Int32) from (by decide)) ?_
    refine own_iload X hx (hb hby at_136) (pc' := 138) rfl rfl ?_
    refine own_bipush X hx (45 : Int32) (hb hby at_138) (pc' := 140) rfl rfl ?_
    refine own_icmp X hx (hb hby at_140) (by decide) (pcY := 182) (pcN := 143) rfl rfl (fun (hc140 : ¬ (d0 = (45 : Int32))) => ?_) (fun (hc140 : d0 = (45 : Int32)) => ?_)
    · refine own_iconst X hx (0 : Int32) (hb hby at_182) (pc' := 183) rfl rfl ?_
      refine own_istore X hx (hb hby at_183) (pc' := 185) rfl (Ls' := #[.val (.long q0), .second, .val (.long q1), .second, .val (.int p2), .val (.int (6 : Int32)), .val (.int ((XT.ushr p2 (3 : Int32)) &&& (3 : Int32))), .val (.int d0), .val (.int d1), .val (.int d2), .val (.int d3), .val (.int d4), .val (.int d5), .val (.int d6), .val (.ref sa), .val (.int (0 : Int32)), .unset, .unset]) rfl ?_
      refine own_iload X hx (hb hby at_185) (pc' := 187) rfl rfl ?_
      refine own_iconst X hx (2 : Int32) (hb hby at_187) (pc' := 188) rfl rfl ?_
      refine own_icmpY X hx (hb hby at_188) (by decide) (pc' := 209) rfl (show ¬ ((6 : Int32) = (2 : Int32)) from (by decide)) ?_
      refine own_iconst X hx (0 : Int32) (hb hby at_209) (pc' := 210) rfl rfl ?_
      refine own_istore X hx (hb hby at_210) (pc' := 212) rfl (Ls' := #[.val (.long q0), .second, .val (.long q1), .second, .val (.int p2), .val (.int (6 : Int32)), .val (.int ((XT.ushr p2 (3 : Int32)) &&& (3 : Int32))), .val (.int d0), .val (.int d1), .val (.int d2), .val (.int d3), .val (.int d4), .val (.int d5), .val (.int d6), .val (.ref sa), .val (.int (0 : Int32)), .val (.int (0 : Int32)), .unset]) rfl ?_
      refine own_iload X hx (hb hby at_212) (pc' := 214) rfl rfl ?_
      refine own_ifN X hx (hb hby at_214) (pc' := 217) rfl (show (0 : Int32) = (0 : Int32) from (by decide)) ?_
      refine own_iload X hx (hb hby at_217) (pc' := 219) rfl rfl ?_
      refine own_ifY X hx (hb hby at_219) (by decide) (pc' := 226) rfl (show (0 : Int32) = (0 : Int32) from (by decide)) ?_
      refine own_iconst X hx (0 : Int32) (hb hby at_226) (pc' := 227) rfl rfl ?_
      refine own_istore X hx (hb hby at_227) (pc' := 229) rfl (Ls' := #[.val (.long q0), .second, .val (.long q1), .second, .val (.int p2), .val (.int (6 : Int32)), .val (.int ((XT.ushr p2 (3 : Int32)) &&& (3 : Int32))), .val (.int d0), .val (.int d1), .val (.int d2), .val (.int d3), .val (.int d4), .val (.int d5), .val (.int d6), .val (.ref sa), .val (.int (0 : Int32)), .val (.int (0 : Int32)), .val (.int (0 : Int32))]) rfl ?_
      refine own_aload X hx (hb hby at_229) (pc' := 231) rfl rfl rfl ?_
      refine own_callSS X hx hZ [(.ref sa)] hown (own_w hw 36 rfl) (own_w hw 37 rfl) (own_w hw 38 rfl) (own_w hw 39 rfl) (by decide) (rm_ak6 l Z a0 hw hEL [] sa sb cs (nar .byte d0.toInt8.toInt32) (nar .byte d1.toInt8.toInt32) (nar .byte d2.toInt8.toInt32) (nar .byte d3.toInt8.toInt32) (nar .byte d4.toInt8.toInt32) (nar .byte d5.toInt8.toInt32) h22 n0 Z0 S_C hcs E_s C_s V_s _ A_s) eT hS hk hEL H (W := 0) (by decide) (by decide) (cells' := 7) (slots' := 56) rfl rfl (by decide) (by decide) (by rw [hml]; rfl) (lenOf own_pd_28Ljava2flang2fString3b29Z rfl) rfl (S := []) rfl (Nat.le_of_eq rfl) (hb hby at_231) (pc' := 234) rfl ?_
      intro v T h23 L lc vm0 k1 X eT hS hk hZ hown CQ hq fN
      obtain ⟨rfl, Nq⟩ := hq
      have N := fN _ N Nq
      have CR := CR.trans CQ
      have H := CQ.1
      show own_W p e below (own_PostS Z own_EL s (Q_law Z q0 q1 p2 cs h0 n0) 24 3200) T m 234 #[.val (.long q0), .second, .val (.long q1), .second, .val (.int p2), .val (.int (6 : Int32)), .val (.int ((XT.ushr p2 (3 : Int32)) &&& (3 : Int32))), .val (.int d0), .val (.int d1), .val (.int d2), .val (.int d3), .val (.int d4), .val (.int d5), .val (.int d6), .val (.ref sa), .val (.int (0 : Int32)), .val (.int (0 : Int32)), .val (.int (0 : Int32))] [(.int (own_eqv [(nar .byte d0.toInt8.toInt32), (nar .byte d1.toInt8.toInt32), (nar .byte d2.toInt8.toInt32), (nar .byte d3.toInt8.toInt32), (nar .byte d4.toInt8.toInt32), (nar .byte d5.toInt8.toInt32)] [(45 : Int32), (45 : Int32), (104 : Int32), (101 : Int32), (108 : Int32), (112 : Int32)]))]
      refine own_iload X hx (hb hby at_234) (pc' := 236) rfl rfl ?_
      refine own_icmpN X hx (hb hby at_236) (pc' := 239) rfl (show (own_eqv [(nar .byte d0.toInt8.toInt32), (nar .byte d1.toInt8.toInt32), (nar .byte d2.toInt8.toInt32), (nar .byte d3.toInt8.toInt32), (nar .byte d4.toInt8.toInt32), (nar .byte d5.toInt8.toInt32)] [(45 : Int32), (45 : Int32), (104 : Int32), (101 : Int32), (108 : Int32), (112 : Int32)]) = (0 : Int32) from (own_ecF fun e => hc140 ((own_lo bd0 (l := (45 : Int32)) (by decide)).mp e))) ?_
      refine own_iconst X hx (1 : Int32) (hb hby at_239) (pc' := 240) rfl rfl ?_
      refine own_goto X hx (hb hby at_240) (by decide) (pc' := 244) rfl ?_
      refine own_retIS X hx hlk hZ eT hh hS hk hEL H CR (t := .boolean) (w' := (.int (1 : Int32))) Bd.returns (hb hby at_244) rfl rfl (by simp) (by decide) (by decide) ?_
      rw [eT]
      exact ⟨rfl, N⟩
    · refine own_iload X hx (hb hby at_143) (pc' := 145) rfl rfl ?_
      refine own_bipush X hx (45 : Int32) (hb hby at_145) (pc' := 147) rfl rfl ?_
      refine own_icmp X hx (hb hby at_147) (by decide) (pcY := 182) (pcN := 150) rfl rfl (fun (hc147 : ¬ (d1 = (45 : Int32))) => ?_) (fun (hc147 : d1 = (45 : Int32)) => ?_)
      · refine own_iconst X hx (0 : Int32) (hb hby at_182) (pc' := 183) rfl rfl ?_
        refine own_istore X hx (hb hby at_183) (pc' := 185) rfl (Ls' := #[.val (.long q0), .second, .val (.long q1), .second, .val (.int p2), .val (.int (6 : Int32)), .val (.int ((XT.ushr p2 (3 : Int32)) &&& (3 : Int32))), .val (.int d0), .val (.int d1), .val (.int d2), .val (.int d3), .val (.int d4), .val (.int d5), .val (.int d6), .val (.ref sa), .val (.int (0 : Int32)), .unset, .unset]) rfl ?_
        refine own_iload X hx (hb hby at_185) (pc' := 187) rfl rfl ?_
        refine own_iconst X hx (2 : Int32) (hb hby at_187) (pc' := 188) rfl rfl ?_
        refine own_icmpY X hx (hb hby at_188) (by decide) (pc' := 209) rfl (show ¬ ((6 : Int32) = (2 : Int32)) from (by decide)) ?_
        refine own_iconst X hx (0 : Int32) (hb hby at_209) (pc' := 210) rfl rfl ?_
        refine own_istore X hx (hb hby at_210) (pc' := 212) rfl (Ls' := #[.val (.long q0), .second, .val (.long q1), .second, .val (.int p2), .val (.int (6 : Int32)), .val (.int ((XT.ushr p2 (3 : Int32)) &&& (3 : Int32))), .val (.int d0), .val (.int d1), .val (.int d2), .val (.int d3), .val (.int d4), .val (.int d5), .val (.int d6), .val (.ref sa), .val (.int (0 : Int32)), .val (.int (0 : Int32)), .unset]) rfl ?_
        refine own_iload X hx (hb hby at_212) (pc' := 214) rfl rfl ?_
        refine own_ifN X hx (hb hby at_214) (pc' := 217) rfl (show (0 : Int32) = (0 : Int32) from (by decide)) ?_
        refine own_iload X hx (hb hby at_217) (pc' := 219) rfl rfl ?_
        refine own_ifY X hx (hb hby at_219) (by decide) (pc' := 226) rfl (show (0 : Int32) = (0 : Int32) from (by decide)) ?_
        refine own_iconst X hx (0 : Int32) (hb hby at_226) (pc' := 227) rfl rfl ?_
        refine own_istore X hx (hb hby at_227) (pc' := 229) rfl (Ls' := #[.val (.long q0), .second, .val (.long q1), .second, .val (.int p2), .val (.int (6 : Int32)), .val (.int ((XT.ushr p2 (3 : Int32)) &&& (3 : Int32))), .val (.int d0), .val (.int d1), .val (.int d2), .val (.int d3), .val (.int d4), .val (.int d5), .val (.int d6), .val (.ref sa), .val (.int (0 : Int32)), .val (.int (0 : Int32)), .val (.int (0 : Int32))]) rfl ?_
        refine own_aload X hx (hb hby at_229) (pc' := 231) rfl rfl rfl ?_
        refine own_callSS X hx hZ [(.ref sa)] hown (own_w hw 36 rfl) (own_w hw 37 rfl) (own_w hw 38 rfl) (own_w hw 39 rfl) (by decide) (rm_ak6 l Z a0 hw hEL [] sa sb cs (nar .byte d0.toInt8.toInt32) (nar .byte d1.toInt8.toInt32) (nar .byte d2.toInt8.toInt32) (nar .byte d3.toInt8.toInt32) (nar .byte d4.toInt8.toInt32) (nar .byte d5.toInt8.toInt32) h22 n0 Z0 S_C hcs E_s C_s V_s _ A_s) eT hS hk hEL H (W := 0) (by decide) (by decide) (cells' := 7) (slots' := 56) rfl rfl (by decide) (by decide) (by rw [hml]; rfl) (lenOf own_pd_28Ljava2flang2fString3b29Z rfl) rfl (S := []) rfl (Nat.le_of_eq rfl) (hb hby at_231) (pc' := 234) rfl ?_
        intro v T h24 L lc vm0 k1 X eT hS hk hZ hown CQ hq fN
        obtain ⟨rfl, Nq⟩ := hq
        have N := fN _ N Nq
        have CR := CR.trans CQ
        have H := CQ.1
        show own_W p e below (own_PostS Z own_EL s (Q_law Z q0 q1 p2 cs h0 n0) 24 3200) T m 234 #[.val (.long q0), .second, .val (.long q1), .second, .val (.int p2), .val (.int (6 : Int32)), .val (.int ((XT.ushr p2 (3 : Int32)) &&& (3 : Int32))), .val (.int d0), .val (.int d1), .val (.int d2), .val (.int d3), .val (.int d4), .val (.int d5), .val (.int d6), .val (.ref sa), .val (.int (0 : Int32)), .val (.int (0 : Int32)), .val (.int (0 : Int32))] [(.int (own_eqv [(nar .byte d0.toInt8.toInt32), (nar .byte d1.toInt8.toInt32), (nar .byte d2.toInt8.toInt32), (nar .byte d3.toInt8.toInt32), (nar .byte d4.toInt8.toInt32), (nar .byte d5.toInt8.toInt32)] [(45 : Int32), (45 : Int32), (104 : Int32), (101 : Int32), (108 : Int32), (112 : Int32)]))]
        refine own_iload X hx (hb hby at_234) (pc' := 236) rfl rfl ?_
        refine own_icmpN X hx (hb hby at_236) (pc' := 239) rfl (show (own_eqv [(nar .byte d0.toInt8.toInt32), (nar .byte d1.toInt8.toInt32), (nar .byte d2.toInt8.toInt32), (nar .byte d3.toInt8.toInt32), (nar .byte d4.toInt8.toInt32), (nar .byte d5.toInt8.toInt32)] [(45 : Int32), (45 : Int32), (104 : Int32), (101 : Int32), (108 : Int32), (112 : Int32)]) = (0 : Int32) from ((own_ecT ((own_lo bd0 (l := (45 : Int32)) (by decide)).mpr hc140)).trans (own_ecF fun e => hc147 ((own_lo bd1 (l := (45 : Int32)) (by decide)).mp e)))) ?_
        refine own_iconst X hx (1 : Int32) (hb hby at_239) (pc' := 240) rfl rfl ?_
        refine own_goto X hx (hb hby at_240) (by decide) (pc' := 244) rfl ?_
        refine own_retIS X hx hlk hZ eT hh hS hk hEL H CR (t := .boolean) (w' := (.int (1 : Int32))) Bd.returns (hb hby at_244) rfl rfl (by simp) (by decide) (by decide) ?_
        rw [eT]
        exact ⟨rfl, N⟩
      · refine own_iload X hx (hb hby at_150) (pc' := 152) rfl rfl ?_
        refine own_bipush X hx (104 : Int32) (hb hby at_152) (pc' := 154) rfl rfl ?_
        refine own_icmp X hx (hb hby at_154) (by decide) (pcY := 182) (pcN := 157) rfl rfl (fun (hc154 : ¬ (d2 = (104 : Int32))) => ?_) (fun (hc154 : d2 = (104 : Int32)) => ?_)
        · refine own_iconst X hx (0 : Int32) (hb hby at_182) (pc' := 183) rfl rfl ?_
          refine own_istore X hx (hb hby at_183) (pc' := 185) rfl (Ls' := #[.val (.long q0), .second, .val (.long q1), .second, .val (.int p2), .val (.int (6 : Int32)), .val (.int ((XT.ushr p2 (3 : Int32)) &&& (3 : Int32))), .val (.int d0), .val (.int d1), .val (.int d2), .val (.int d3), .val (.int d4), .val (.int d5), .val (.int d6), .val (.ref sa), .val (.int (0 : Int32)), .unset, .unset]) rfl ?_
          refine own_iload X hx (hb hby at_185) (pc' := 187) rfl rfl ?_
          refine own_iconst X hx (2 : Int32) (hb hby at_187) (pc' := 188) rfl rfl ?_
          refine own_icmpY X hx (hb hby at_188) (by decide) (pc' := 209) rfl (show ¬ ((6 : Int32) = (2 : Int32)) from (by decide)) ?_
          refine own_iconst X hx (0 : Int32) (hb hby at_209) (pc' := 210) rfl rfl ?_
          refine own_istore X hx (hb hby at_210) (pc' := 212) rfl (Ls' := #[.val (.long q0), .second, .val (.long q1), .second, .val (.int p2), .val (.int (6 : Int32)), .val (.int ((XT.ushr p2 (3 : Int32)) &&& (3 : Int32))), .val (.int d0), .val (.int d1), .val (.int d2), .val (.int d3), .val (.int d4), .val (.int d5), .val (.int d6), .val (.ref sa), .val (.int (0 : Int32)), .val (.int (0 : Int32)), .unset]) rfl ?_
          refine own_iload X hx (hb hby at_212) (pc' := 214) rfl rfl ?_
          refine own_ifN X hx (hb hby at_214) (pc' := 217) rfl (show (0 : Int32) = (0 : Int32) from (by decide)) ?_
          refine own_iload X hx (hb hby at_217) (pc' := 219) rfl rfl ?_
          refine own_ifY X hx (hb hby at_219) (by decide) (pc' := 226) rfl (show (0 : Int32) = (0 : Int32) from (by decide)) ?_
          refine own_iconst X hx (0 : Int32) (hb hby at_226) (pc' := 227) rfl rfl ?_
          refine own_istore X hx (hb hby at_227) (pc' := 229) rfl (Ls' := #[.val (.long q0), .second, .val (.long q1), .second, .val (.int p2), .val (.int (6 : Int32)), .val (.int ((XT.ushr p2 (3 : Int32)) &&& (3 : Int32))), .val (.int d0), .val (.int d1), .val (.int d2), .val (.int d3), .val (.int d4), .val (.int d5), .val (.int d6), .val (.ref sa), .val (.int (0 : Int32)), .val (.int (0 : Int32)), .val (.int (0 : Int32))]) rfl ?_
          refine own_aload X hx (hb hby at_229) (pc' := 231) rfl rfl rfl ?_
          refine own_callSS X hx hZ [(.ref sa)] hown (own_w hw 36 rfl) (own_w hw 37 rfl) (own_w hw 38 rfl) (own_w hw 39 rfl) (by decide) (rm_ak6 l Z a0 hw hEL [] sa sb cs (nar .byte d0.toInt8.toInt32) (nar .byte d1.toInt8.toInt32) (nar .byte d2.toInt8.toInt32) (nar .byte d3.toInt8.toInt32) (nar .byte d4.toInt8.toInt32) (nar .byte d5.toInt8.toInt32) h22 n0 Z0 S_C hcs E_s C_s V_s _ A_s) eT hS hk hEL H (W := 0) (by decide) (by decide) (cells' := 7) (slots' := 56) rfl rfl (by decide) (by decide) (by rw [hml]; rfl) (lenOf own_pd_28Ljava2flang2fString3b29Z rfl) rfl (S := []) rfl (Nat.le_of_eq rfl) (hb hby at_231) (pc' := 234) rfl ?_
          intro v T h25 L lc vm0 k1 X eT hS hk hZ hown CQ hq fN
          obtain ⟨rfl, Nq⟩ := hq
          have N := fN _ N Nq
          have CR := CR.trans CQ
          have H := CQ.1
          show own_W p e below (own_PostS Z own_EL s (Q_law Z q0 q1 p2 cs h0 n0) 24 3200) T m 234 #[.val (.long q0), .second, .val (.long q1), .second, .val (.int p2), .val (.int (6 : Int32)), .val (.int ((XT.ushr p2 (3 : Int32)) &&& (3 : Int32))), .val (.int d0), .val (.int d1), .val (.int d2), .val (.int d3), .val (.int d4), .val (.int d5), .val (.int d6), .val (.ref sa), .val (.int (0 : Int32)), .val (.int (0 : Int32)), .val (.int (0 : Int32))] [(.int (own_eqv [(nar .byte d0.toInt8.toInt32), (nar .byte d1.toInt8.toInt32), (nar .byte d2.toInt8.toInt32), (nar .byte d3.toInt8.toInt32), (nar .byte d4.toInt8.toInt32), (nar .byte d5.toInt8.toInt32)] [(45 : Int32), (45 : Int32), (104 : Int32), (101 : Int32), (108 : Int32), (112 : Int32)]))]
          refine own_iload X hx (hb hby at_234) (pc' := 236) rfl rfl ?_
          refine own_icmpN X hx (hb hby at_236) (pc' := 239) rfl (show (own_eqv [(nar .byte d0.toInt8.toInt32), (nar .byte d1.toInt8.toInt32), (nar .byte d2.toInt8.toInt32), (nar .byte d3.toInt8.toInt32), (nar .byte d4.toInt8.toInt32), (nar .byte d5.toInt8.toInt32)] [(45 : Int32), (45 : Int32), (104 : Int32), (101 : Int32), (108 : Int32), (112 : Int32)]) = (0 : Int32) from ((own_ecT ((own_lo bd0 (l := (45 : Int32)) (by decide)).mpr hc140)).trans ((own_ecT ((own_lo bd1 (l := (45 : Int32)) (by decide)).mpr hc147)).trans (own_ecF fun e => hc154 ((own_lo bd2 (l := (104 : Int32)) (by decide)).mp e))))) ?_
          refine own_iconst X hx (1 : Int32) (hb hby at_239) (pc' := 240) rfl rfl ?_
          refine own_goto X hx (hb hby at_240) (by decide) (pc' := 244) rfl ?_
          refine own_retIS X hx hlk hZ eT hh hS hk hEL H CR (t := .boolean) (w' := (.int (1 : Int32))) Bd.returns (hb hby at_244) rfl rfl (by simp) (by decide) (by decide) ?_
          rw [eT]
          exact ⟨rfl, N⟩
        · refine own_iload X hx (hb hby at_157) (pc' := 159) rfl rfl ?_
          refine own_bipush X hx (101 : Int32) (hb hby at_159) (pc' := 161) rfl rfl ?_
          refine own_icmp X hx (hb hby at_161) (by decide) (pcY := 182) (pcN := 164) rfl rfl (fun (hc161 : ¬ (d3 = (101 : Int32))) => ?_) (fun (hc161 : d3 = (101 : Int32)) => ?_)
          · refine own_iconst X hx (0 : Int32) (hb hby at_182) (pc' := 183) rfl rfl ?_
            refine own_istore X hx (hb hby at_183) (pc' := 185) rfl (Ls' := #[.val (.long q0), .second, .val (.long q1), .second, .val (.int p2), .val (.int (6 : Int32)), .val (.int ((XT.ushr p2 (3 : Int32)) &&& (3 : Int32))), .val (.int d0), .val (.int d1), .val (.int d2), .val (.int d3), .val (.int d4), .val (.int d5), .val (.int d6), .val (.ref sa), .val (.int (0 : Int32)), .unset, .unset]) rfl ?_
            refine own_iload X hx (hb hby at_185) (pc' := 187) rfl rfl ?_
            refine own_iconst X hx (2 : Int32) (hb hby at_187) (pc' := 188) rfl rfl ?_
            refine own_icmpY X hx (hb hby at_188) (by decide) (pc' := 209) rfl (show ¬ ((6 : Int32) = (2 : Int32)) from (by decide)) ?_
            refine own_iconst X hx (0 : Int32) (hb hby at_209) (pc' := 210) rfl rfl ?_
            refine own_istore X hx (hb hby at_210) (pc' := 212) rfl (Ls' := #[.val (.long q0), .second, .val (.long q1), .second, .val (.int p2), .val (.int (6 : Int32)), .val (.int ((XT.ushr p2 (3 : Int32)) &&& (3 : Int32))), .val (.int d0), .val (.int d1), .val (.int d2), .val (.int d3), .val (.int d4), .val (.int d5), .val (.int d6), .val (.ref sa), .val (.int (0 : Int32)), .val (.int (0 : Int32)), .unset]) rfl ?_
            refine own_iload X hx (hb hby at_212) (pc' := 214) rfl rfl ?_
            refine own_ifN X hx (hb hby at_214) (pc' := 217) rfl (show (0 : Int32) = (0 : Int32) from (by decide)) ?_
            refine own_iload X hx (hb hby at_217) (pc' := 219) rfl rfl ?_
            refine own_ifY X hx (hb hby at_219) (by decide) (pc' := 226) rfl (show (0 : Int32) = (0 : Int32) from (by decide)) ?_
            refine own_iconst X hx (0 : Int32) (hb hby at_226) (pc' := 227) rfl rfl ?_
            refine own_istore X hx (hb hby at_227) (pc' := 229) rfl (Ls' := #[.val (.long q0), .second, .val (.long q1), .second, .val (.int p2), .val (.int (6 : Int32)), .val (.int ((XT.ushr p2 (3 : Int32)) &&& (3 : Int32))), .val (.int d0), .val (.int d1), .val (.int d2), .val (.int d3), .val (.int d4), .val (.int d5), .val (.int d6), .val (.ref sa), .val (.int (0 : Int32)), .val (.int (0 : Int32)), .val (.int (0 : Int32))]) rfl ?_
            refine own_aload X hx (hb hby at_229) (pc' := 231) rfl rfl rfl ?_
            refine own_callSS X hx hZ [(.ref sa)] hown (own_w hw 36 rfl) (own_w hw 37 rfl) (own_w hw 38 rfl) (own_w hw 39 rfl) (by decide) (rm_ak6 l Z a0 hw hEL [] sa sb cs (nar .byte d0.toInt8.toInt32) (nar .byte d1.toInt8.toInt32) (nar .byte d2.toInt8.toInt32) (nar .byte d3.toInt8.toInt32) (nar .byte d4.toInt8.toInt32) (nar .byte d5.toInt8.toInt32) h22 n0 Z0 S_C hcs E_s C_s V_s _ A_s) eT hS hk hEL H (W := 0) (by decide) (by decide) (cells' := 7) (slots' := 56) rfl rfl (by decide) (by decide) (by rw [hml]; rfl) (lenOf own_pd_28Ljava2flang2fString3b29Z rfl) rfl (S := []) rfl (Nat.le_of_eq rfl) (hb hby at_231) (pc' := 234) rfl ?_
            intro v T h26 L lc vm0 k1 X eT hS hk hZ hown CQ hq fN
            obtain ⟨rfl, Nq⟩ := hq
            have N := fN _ N Nq
            have CR := CR.trans CQ
            have H := CQ.1
            show own_W p e below (own_PostS Z own_EL s (Q_law Z q0 q1 p2 cs h0 n0) 24 3200) T m 234 #[.val (.long q0), .second, .val (.long q1), .second, .val (.int p2), .val (.int (6 : Int32)), .val (.int ((XT.ushr p2 (3 : Int32)) &&& (3 : Int32))), .val (.int d0), .val (.int d1), .val (.int d2), .val (.int d3), .val (.int d4), .val (.int d5), .val (.int d6), .val (.ref sa), .val (.int (0 : Int32)), .val (.int (0 : Int32)), .val (.int (0 : Int32))] [(.int (own_eqv [(nar .byte d0.toInt8.toInt32), (nar .byte d1.toInt8.toInt32), (nar .byte d2.toInt8.toInt32), (nar .byte d3.toInt8.toInt32), (nar .byte d4.toInt8.toInt32), (nar .byte d5.toInt8.toInt32)] [(45 : Int32), (45 : Int32), (104 : Int32), (101 : Int32), (108 : Int32), (112 : Int32)]))]
            refine own_iload X hx (hb hby at_234) (pc' := 236) rfl rfl ?_
            refine own_icmpN X hx (hb hby at_236) (pc' := 239) rfl (show (own_eqv [(nar .byte d0.toInt8.toInt32), (nar .byte d1.toInt8.toInt32), (nar .byte d2.toInt8.toInt32), (nar .byte d3.toInt8.toInt32), (nar .byte d4.toInt8.toInt32), (nar .byte d5.toInt8.toInt32)] [(45 : Int32), (45 : Int32), (104 : Int32), (101 : Int32), (108 : Int32), (112 : Int32)]) = (0 : Int32) from ((own_ecT ((own_lo bd0 (l := (45 : Int32)) (by decide)).mpr hc140)).trans ((own_ecT ((own_lo bd1 (l := (45 : Int32)) (by decide)).mpr hc147)).trans ((own_ecT ((own_lo bd2 (l := (104 : Int32)) (by decide)).mpr hc154)).trans (own_ecF fun e => hc161 ((own_lo bd3 (l := (101 : Int32)) (by decide)).mp e)))))) ?_
            refine own_iconst X hx (1 : Int32) (hb hby at_239) (pc' := 240) rfl rfl ?_
            refine own_goto X hx (hb hby at_240) (by decide) (pc' := 244) rfl ?_
            refine own_retIS X hx hlk hZ eT hh hS hk hEL H CR (t := .boolean) (w' := (.int (1 : Int32))) Bd.returns (hb hby at_244) rfl rfl (by simp) (by decide) (by decide) ?_
            rw [eT]
            exact ⟨rfl, N⟩
          · refine own_iload X hx (hb hby at_164) (pc' := 166) rfl rfl ?_
            refine own_bipush X hx (108 : Int32) (hb hby at_166) (pc' := 168) rfl rfl ?_
            refine own_icmp X hx (hb hby at_168) (by decide) (pcY := 182) (pcN := 171) rfl rfl (fun (hc168 : ¬ (d4 = (108 : Int32))) => ?_) (fun (hc168 : d4 = (108 : Int32)) => ?_)
            · refine own_iconst X hx (0 : Int32) (hb hby at_182) (pc' := 183) rfl rfl ?_
              refine own_istore X hx (hb hby at_183) (pc' := 185) rfl (Ls' := #[.val (.long q0), .second, .val (.long q1), .second, .val (.int p2), .val (.int (6 : Int32)), .val (.int ((XT.ushr p2 (3 : Int32)) &&& (3 : Int32))), .val (.int d0), .val (.int d1), .val (.int d2), .val (.int d3), .val (.int d4), .val (.int d5), .val (.int d6), .val (.ref sa), .val (.int (0 : Int32)), .unset, .unset]) rfl ?_
              refine own_iload X hx (hb hby at_185) (pc' := 187) rfl rfl ?_
              refine own_iconst X hx (2 : Int32) (hb hby at_187) (pc' := 188) rfl rfl ?_
              refine own_icmpY X hx (hb hby at_188) (by decide) (pc' := 209) rfl (show ¬ ((6 : Int32) = (2 : Int32)) from (by decide)) ?_
              refine own_iconst X hx (0 : Int32) (hb hby at_209) (pc' := 210) rfl rfl ?_
              refine own_istore X hx (hb hby at_210) (pc' := 212) rfl (Ls' := #[.val (.long q0), .second, .val (.long q1), .second, .val (.int p2), .val (.int (6 : Int32)), .val (.int ((XT.ushr p2 (3 : Int32)) &&& (3 : Int32))), .val (.int d0), .val (.int d1), .val (.int d2), .val (.int d3), .val (.int d4), .val (.int d5), .val (.int d6), .val (.ref sa), .val (.int (0 : Int32)), .val (.int (0 : Int32)), .unset]) rfl ?_
              refine own_iload X hx (hb hby at_212) (pc' := 214) rfl rfl ?_
              refine own_ifN X hx (hb hby at_214) (pc' := 217) rfl (show (0 : Int32) = (0 : Int32) from (by decide)) ?_
              refine own_iload X hx (hb hby at_217) (pc' := 219) rfl rfl ?_
              refine own_ifY X hx (hb hby at_219) (by decide) (pc' := 226) rfl (show (0 : Int32) = (0 : Int32) from (by decide)) ?_
              refine own_iconst X hx (0 : Int32) (hb hby at_226) (pc' := 227) rfl rfl ?_
              refine own_istore X hx (hb hby at_227) (pc' := 229) rfl (Ls' := #[.val (.long q0), .second, .val (.long q1), .second, .val (.int p2), .val (.int (6 : Int32)), .val (.int ((XT.ushr p2 (3 : Int32)) &&& (3 : Int32))), .val (.int d0), .val (.int d1), .val (.int d2), .val (.int d3), .val (.int d4), .val (.int d5), .val (.int d6), .val (.ref sa), .val (.int (0 : Int32)), .val (.int (0 : Int32)), .val (.int (0 : Int32))]) rfl ?_
              refine own_aload X hx (hb hby at_229) (pc' := 231) rfl rfl rfl ?_
              refine own_callSS X hx hZ [(.ref sa)] hown (own_w hw 36 rfl) (own_w hw 37 rfl) (own_w hw 38 rfl) (own_w hw 39 rfl) (by decide) (rm_ak6 l Z a0 hw hEL [] sa sb cs (nar .byte d0.toInt8.toInt32) (nar .byte d1.toInt8.toInt32) (nar .byte d2.toInt8.toInt32) (nar .byte d3.toInt8.toInt32) (nar .byte d4.toInt8.toInt32) (nar .byte d5.toInt8.toInt32) h22 n0 Z0 S_C hcs E_s C_s V_s _ A_s) eT hS hk hEL H (W := 0) (by decide) (by decide) (cells' := 7) (slots' := 56) rfl rfl (by decide) (by decide) (by rw [hml]; rfl) (lenOf own_pd_28Ljava2flang2fString3b29Z rfl) rfl (S := []) rfl (Nat.le_of_eq rfl) (hb hby at_231) (pc' := 234) rfl ?_
              intro v T h27 L lc vm0 k1 X eT hS hk hZ hown CQ hq fN
              obtain ⟨rfl, Nq⟩ := hq
              have N := fN _ N Nq
              have CR := CR.trans CQ
              have H := CQ.1
              show own_W p e below (own_PostS Z own_EL s (Q_law Z q0 q1 p2 cs h0 n0) 24 3200) T m 234 #[.val (.long q0), .second, .val (.long q1), .second, .val (.int p2), .val (.int (6 : Int32)), .val (.int ((XT.ushr p2 (3 : Int32)) &&& (3 : Int32))), .val (.int d0), .val (.int d1), .val (.int d2), .val (.int d3), .val (.int d4), .val (.int d5), .val (.int d6), .val (.ref sa), .val (.int (0 : Int32)), .val (.int (0 : Int32)), .val (.int (0 : Int32))] [(.int (own_eqv [(nar .byte d0.toInt8.toInt32), (nar .byte d1.toInt8.toInt32), (nar .byte d2.toInt8.toInt32), (nar .byte d3.toInt8.toInt32), (nar .byte d4.toInt8.toInt32), (nar .byte d5.toInt8.toInt32)] [(45 : Int32), (45 : Int32), (104 : Int32), (101 : Int32), (108 : Int32), (112 : Int32)]))]
              refine own_iload X hx (hb hby at_234) (pc' := 236) rfl rfl ?_
              refine own_icmpN X hx (hb hby at_236) (pc' := 239) rfl (show (own_eqv [(nar .byte d0.toInt8.toInt32), (nar .byte d1.toInt8.toInt32), (nar .byte d2.toInt8.toInt32), (nar .byte d3.toInt8.toInt32), (nar .byte d4.toInt8.toInt32), (nar .byte d5.toInt8.toInt32)] [(45 : Int32), (45 : Int32), (104 : Int32), (101 : Int32), (108 : Int32), (112 : Int32)]) = (0 : Int32) from ((own_ecT ((own_lo bd0 (l := (45 : Int32)) (by decide)).mpr hc140)).trans ((own_ecT ((own_lo bd1 (l := (45 : Int32)) (by decide)).mpr hc147)).trans ((own_ecT ((own_lo bd2 (l := (104 : Int32)) (by decide)).mpr hc154)).trans ((own_ecT ((own_lo bd3 (l := (101 : Int32)) (by decide)).mpr hc161)).trans (own_ecF fun e => hc168 ((own_lo bd4 (l := (108 : Int32)) (by decide)).mp e))))))) ?_
              refine own_iconst X hx (1 : Int32) (hb hby at_239) (pc' := 240) rfl rfl ?_
              refine own_goto X hx (hb hby at_240) (by decide) (pc' := 244) rfl ?_
              refine own_retIS X hx hlk hZ eT hh hS hk hEL H CR (t := .boolean) (w' := (.int (1 : Int32))) Bd.returns (hb hby at_244) rfl rfl (by simp) (by decide) (by decide) ?_
              rw [eT]
              exact ⟨rfl, N⟩
            · refine own_iload X hx (hb hby at_171) (pc' := 173) rfl rfl ?_
              refine own_bipush X hx (112 : Int32) (hb hby at_173) (pc' := 175) rfl rfl ?_
              refine own_icmp X hx (hb hby at_175) (by decide) (pcY := 182) (pcN := 178) rfl rfl (fun (hc175 : ¬ (d5 = (112 : Int32))) => ?_) (fun (hc175 : d5 = (112 : Int32)) => ?_)
              · refine own_iconst X hx (0 : Int32) (hb hby at_182) (pc' := 183) rfl rfl ?_
                refine own_istore X hx (hb hby at_183) (pc' := 185) rfl (Ls' := #[.val (.long q0), .second, .val (.long q1), .second, .val (.int p2), .val (.int (6 : Int32)), .val (.int ((XT.ushr p2 (3 : Int32)) &&& (3 : Int32))), .val (.int d0), .val (.int d1), .val (.int d2), .val (.int d3), .val (.int d4), .val (.int d5), .val (.int d6), .val (.ref sa), .val (.int (0 : Int32)), .unset, .unset]) rfl ?_
                refine own_iload X hx (hb hby at_185) (pc' := 187) rfl rfl ?_
                refine own_iconst X hx (2 : Int32) (hb hby at_187) (pc' := 188) rfl rfl ?_
                refine own_icmpY X hx (hb hby at_188) (by decide) (pc' := 209) rfl (show ¬ ((6 : Int32) = (2 : Int32)) from (by decide)) ?_
                refine own_iconst X hx (0 : Int32) (hb hby at_209) (pc' := 210) rfl rfl ?_
                refine own_istore X hx (hb hby at_210) (pc' := 212) rfl (Ls' := #[.val (.long q0), .second, .val (.long q1), .second, .val (.int p2), .val (.int (6 : Int32)), .val (.int ((XT.ushr p2 (3 : Int32)) &&& (3 : Int32))), .val (.int d0), .val (.int d1), .val (.int d2), .val (.int d3), .val (.int d4), .val (.int d5), .val (.int d6), .val (.ref sa), .val (.int (0 : Int32)), .val (.int (0 : Int32)), .unset]) rfl ?_
                refine own_iload X hx (hb hby at_212) (pc' := 214) rfl rfl ?_
                refine own_ifN X hx (hb hby at_214) (pc' := 217) rfl (show (0 : Int32) = (0 : Int32) from (by decide)) ?_
                refine own_iload X hx (hb hby at_217) (pc' := 219) rfl rfl ?_
                refine own_ifY X hx (hb hby at_219) (by decide) (pc' := 226) rfl (show (0 : Int32) = (0 : Int32) from (by decide)) ?_
                refine own_iconst X hx (0 : Int32) (hb hby at_226) (pc' := 227) rfl rfl ?_
                refine own_istore X hx (hb hby at_227) (pc' := 229) rfl (Ls' := #[.val (.long q0), .second, .val (.long q1), .second, .val (.int p2), .val (.int (6 : Int32)), .val (.int ((XT.ushr p2 (3 : Int32)) &&& (3 : Int32))), .val (.int d0), .val (.int d1), .val (.int d2), .val (.int d3), .val (.int d4), .val (.int d5), .val (.int d6), .val (.ref sa), .val (.int (0 : Int32)), .val (.int (0 : Int32)), .val (.int (0 : Int32))]) rfl ?_
                refine own_aload X hx (hb hby at_229) (pc' := 231) rfl rfl rfl ?_
                refine own_callSS X hx hZ [(.ref sa)] hown (own_w hw 36 rfl) (own_w hw 37 rfl) (own_w hw 38 rfl) (own_w hw 39 rfl) (by decide) (rm_ak6 l Z a0 hw hEL [] sa sb cs (nar .byte d0.toInt8.toInt32) (nar .byte d1.toInt8.toInt32) (nar .byte d2.toInt8.toInt32) (nar .byte d3.toInt8.toInt32) (nar .byte d4.toInt8.toInt32) (nar .byte d5.toInt8.toInt32) h22 n0 Z0 S_C hcs E_s C_s V_s _ A_s) eT hS hk hEL H (W := 0) (by decide) (by decide) (cells' := 7) (slots' := 56) rfl rfl (by decide) (by decide) (by rw [hml]; rfl) (lenOf own_pd_28Ljava2flang2fString3b29Z rfl) rfl (S := []) rfl (Nat.le_of_eq rfl) (hb hby at_231) (pc' := 234) rfl ?_
                intro v T h28 L lc vm0 k1 X eT hS hk hZ hown CQ hq fN
                obtain ⟨rfl, Nq⟩ := hq
                have N := fN _ N Nq
                have CR := CR.trans CQ
                have H := CQ.1
                show own_W p e below (own_PostS Z own_EL s (Q_law Z q0 q1 p2 cs h0 n0) 24 3200) T m 234 #[.val (.long q0), .second, .val (.long q1), .second, .val (.int p2), .val (.int (6 : Int32)), .val (.int ((XT.ushr p2 (3 : Int32)) &&& (3 : Int32))), .val (.int d0), .val (.int d1), .val (.int d2), .val (.int d3), .val (.int d4), .val (.int d5), .val (.int d6), .val (.ref sa), .val (.int (0 : Int32)), .val (.int (0 : Int32)), .val (.int (0 : Int32))] [(.int (own_eqv [(nar .byte d0.toInt8.toInt32), (nar .byte d1.toInt8.toInt32), (nar .byte d2.toInt8.toInt32), (nar .byte d3.toInt8.toInt32), (nar .byte d4.toInt8.toInt32), (nar .byte d5.toInt8.toInt32)] [(45 : Int32), (45 : Int32), (104 : Int32), (101 : Int32), (108 : Int32), (112 : Int32)]))]
                refine own_iload X hx (hb hby at_234) (pc' := 236) rfl rfl ?_
                refine own_icmpN X hx (hb hby at_236) (pc' := 239) rfl (show (own_eqv [(nar .byte d0.toInt8.toInt32), (nar .byte d1.toInt8.toInt32), (nar .byte d2.toInt8.toInt32), (nar .byte d3.toInt8.toInt32), (nar .byte d4.toInt8.toInt32), (nar .byte d5.toInt8.toInt32)] [(45 : Int32), (45 : Int32), (104 : Int32), (101 : Int32), (108 : Int32), (112 : Int32)]) = (0 : Int32) from ((own_ecT ((own_lo bd0 (l := (45 : Int32)) (by decide)).mpr hc140)).trans ((own_ecT ((own_lo bd1 (l := (45 : Int32)) (by decide)).mpr hc147)).trans ((own_ecT ((own_lo bd2 (l := (104 : Int32)) (by decide)).mpr hc154)).trans ((own_ecT ((own_lo bd3 (l := (101 : Int32)) (by decide)).mpr hc161)).trans ((own_ecT ((own_lo bd4 (l := (108 : Int32)) (by decide)).mpr hc168)).trans (own_ecF fun e => hc175 ((own_lo bd5 (l := (112 : Int32)) (by decide)).mp e)))))))) ?_
                refine own_iconst X hx (1 : Int32) (hb hby at_239) (pc' := 240) rfl rfl ?_
                refine own_goto X hx (hb hby at_240) (by decide) (pc' := 244) rfl ?_
                refine own_retIS X hx hlk hZ eT hh hS hk hEL H CR (t := .boolean) (w' := (.int (1 : Int32))) Bd.returns (hb hby at_244) rfl rfl (by simp) (by decide) (by decide) ?_
                rw [eT]
                exact ⟨rfl, N⟩
              · refine own_iconst X hx (1 : Int32) (hb hby at_178) (pc' := 179) rfl rfl ?_
                refine own_goto X hx (hb hby at_179) (by decide) (pc' := 183) rfl ?_
                refine own_istore X hx (hb hby at_183) (pc' := 185) rfl (Ls' := #[.val (.long q0), .second, .val (.long q1), .second, .val (.int p2), .val (.int (6 : Int32)), .val (.int ((XT.ushr p2 (3 : Int32)) &&& (3 : Int32))), .val (.int d0), .val (.int d1), .val (.int d2), .val (.int d3), .val (.int d4), .val (.int d5), .val (.int d6), .val (.ref sa), .val (.int (1 : Int32)), .unset, .unset]) rfl ?_
                refine own_iload X hx (hb hby at_185) (pc' := 187) rfl rfl ?_
                refine own_iconst X hx (2 : Int32) (hb hby at_187) (pc' := 188) rfl rfl ?_
                refine own_icmpY X hx (hb hby at_188) (by decide) (pc' := 209) rfl (show ¬ ((6 : Int32) = (2 : Int32)) from (by decide)) ?_
                refine own_iconst X hx (0 : Int32) (hb hby at_209) (pc' := 210) rfl rfl ?_
                refine own_istore X hx (hb hby at_210) (pc' := 212) rfl (Ls' := #[.val (.long q0), .second, .val (.long q1), .second, .val (.int p2), .val (.int (6 : Int32)), .val (.int ((XT.ushr p2 (3 : Int32)) &&& (3 : Int32))), .val (.int d0), .val (.int d1), .val (.int d2), .val (.int d3), .val (.int d4), .val (.int d5), .val (.int d6), .val (.ref sa), .val (.int (1 : Int32)), .val (.int (0 : Int32)), .unset]) rfl ?_
                refine own_iload X hx (hb hby at_212) (pc' := 214) rfl rfl ?_
                refine own_ifY X hx (hb hby at_214) (by decide) (pc' := 222) rfl (show ¬ ((1 : Int32) = (0 : Int32)) from (by decide)) ?_
                refine own_iconst X hx (1 : Int32) (hb hby at_222) (pc' := 223) rfl rfl ?_
                refine own_goto X hx (hb hby at_223) (by decide) (pc' := 227) rfl ?_
                refine own_istore X hx (hb hby at_227) (pc' := 229) rfl (Ls' := #[.val (.long q0), .second, .val (.long q1), .second, .val (.int p2), .val (.int (6 : Int32)), .val (.int ((XT.ushr p2 (3 : Int32)) &&& (3 : Int32))), .val (.int d0), .val (.int d1), .val (.int d2), .val (.int d3), .val (.int d4), .val (.int d5), .val (.int d6), .val (.ref sa), .val (.int (1 : Int32)), .val (.int (0 : Int32)), .val (.int (1 : Int32))]) rfl ?_
                refine own_aload X hx (hb hby at_229) (pc' := 231) rfl rfl rfl ?_
                refine own_callSS X hx hZ [(.ref sa)] hown (own_w hw 36 rfl) (own_w hw 37 rfl) (own_w hw 38 rfl) (own_w hw 39 rfl) (by decide) (rm_ak6 l Z a0 hw hEL [] sa sb cs (nar .byte d0.toInt8.toInt32) (nar .byte d1.toInt8.toInt32) (nar .byte d2.toInt8.toInt32) (nar .byte d3.toInt8.toInt32) (nar .byte d4.toInt8.toInt32) (nar .byte d5.toInt8.toInt32) h22 n0 Z0 S_C hcs E_s C_s V_s _ A_s) eT hS hk hEL H (W := 0) (by decide) (by decide) (cells' := 7) (slots' := 56) rfl rfl (by decide) (by decide) (by rw [hml]; rfl) (lenOf own_pd_28Ljava2flang2fString3b29Z rfl) rfl (S := []) rfl (Nat.le_of_eq rfl) (hb hby at_231) (pc' := 234) rfl ?_
                intro v T h29 L lc vm0 k1 X eT hS hk hZ hown CQ hq fN
                obtain ⟨rfl, Nq⟩ := hq
                have N := fN _ N Nq
                have CR := CR.trans CQ
                have H := CQ.1
                show own_W p e below (own_PostS Z own_EL s (Q_law Z q0 q1 p2 cs h0 n0) 24 3200) T m 234 #[.val (.long q0), .second, .val (.long q1), .second, .val (.int p2), .val (.int (6 : Int32)), .val (.int ((XT.ushr p2 (3 : Int32)) &&& (3 : Int32))), .val (.int d0), .val (.int d1), .val (.int d2), .val (.int d3), .val (.int d4), .val (.int d5), .val (.int d6), .val (.ref sa), .val (.int (1 : Int32)), .val (.int (0 : Int32)), .val (.int (1 : Int32))] [(.int (own_eqv [(nar .byte d0.toInt8.toInt32), (nar .byte d1.toInt8.toInt32), (nar .byte d2.toInt8.toInt32), (nar .byte d3.toInt8.toInt32), (nar .byte d4.toInt8.toInt32), (nar .byte d5.toInt8.toInt32)] [(45 : Int32), (45 : Int32), (104 : Int32), (101 : Int32), (108 : Int32), (112 : Int32)]))]
                refine own_iload X hx (hb hby at_234) (pc' := 236) rfl rfl ?_
                refine own_icmpN X hx (hb hby at_236) (pc' := 239) rfl (show (own_eqv [(nar .byte d0.toInt8.toInt32), (nar .byte d1.toInt8.toInt32), (nar .byte d2.toInt8.toInt32), (nar .byte d3.toInt8.toInt32), (nar .byte d4.toInt8.toInt32), (nar .byte d5.toInt8.toInt32)] [(45 : Int32), (45 : Int32), (104 : Int32), (101 : Int32), (108 : Int32), (112 : Int32)]) = (1 : Int32) from ((own_ecT ((own_lo bd0 (l := (45 : Int32)) (by decide)).mpr hc140)).trans ((own_ecT ((own_lo bd1 (l := (45 : Int32)) (by decide)).mpr hc147)).trans ((own_ecT ((own_lo bd2 (l := (104 : Int32)) (by decide)).mpr hc154)).trans ((own_ecT ((own_lo bd3 (l := (101 : Int32)) (by decide)).mpr hc161)).trans ((own_ecT ((own_lo bd4 (l := (108 : Int32)) (by decide)).mpr hc168)).trans ((own_ecT ((own_lo bd5 (l := (112 : Int32)) (by decide)).mpr hc175)).trans rfl))))))) ?_
                refine own_iconst X hx (1 : Int32) (hb hby at_239) (pc' := 240) rfl rfl ?_
                refine own_goto X hx (hb hby at_240) (by decide) (pc' := 244) rfl ?_
                refine own_retIS X hx hlk hZ eT hh hS hk hEL H CR (t := .boolean) (w' := (.int (1 : Int32))) Bd.returns (hb hby at_244) rfl rfl (by simp) (by decide) (by decide) ?_
                rw [eT]
                exact ⟨rfl, N⟩
  · rw [q]
    show own_W p e below (own_PostS Z own_EL s (Q_law Z q0 q1 p2 cs h0 n0) 24 3200) T m 108 #[.val (.long q0), .second, .val (.long q1), .second, .val (.int p2), .val (.int (7 : Int32)), .val (.int ((XT.ushr p2 (3 : Int32)) &&& (3 : Int32))), .val (.int d0), .val (.int d1), .val (.int d2), .val (.int d3), .val (.int d4), .val (.int d5), .val (.int d6), .unset, .unset, .unset, .unset] []
    refine own_iload X hx (hb hby at_108) (pc' := 110) rfl rfl ?_
    refine own_iload X hx (hb hby at_110) (pc' := 112) rfl rfl ?_
    refine own_iload X hx (hb hby at_112) (pc' := 114) rfl rfl ?_
    refine own_iload X hx (hb hby at_114) (pc' := 116) rfl rfl ?_
    refine own_iload X hx (hb hby at_116) (pc' := 118) rfl rfl ?_
    refine own_iload X hx (hb hby at_118) (pc' := 120) rfl rfl ?_
    refine own_iload X hx (hb hby at_120) (pc' := 122) rfl rfl ?_
    refine own_iload X hx (hb hby at_122) (pc' := 124) rfl rfl ?_
    refine own_callSS X hx hZ [(.int (7 : Int32)), (.int d0), (.int d1), (.int d2), (.int d3), (.int d4), (.int d5), (.int d6)] hown (own_w hw 11 rfl) (own_w hw 12 rfl) (own_w hw 2 rfl) (own_w hw 13 rfl) (by decide) (rm_mk7 l Z a0 hw hEL [] cs d0 d1 d2 d3 d4 d5 d6 h0 n0 Z0 S_C hcs bd0 bd1 bd2 bd3 bd4 bd5 bd6) eT hS hk hEL H (W := 0) (by decide) (by decide) (cells' := 3) (slots' := 18) rfl rfl (by decide) (by decide) (by rw [hml]; rfl) (lenOf own_pd_28ICCCCCCC29Ljava2flang2fString3b rfl) rfl (S := []) rfl (Nat.le_of_eq rfl) (hb hby at_124) (pc' := 127) rfl ?_
    intro v T h30 L lc vm0 k1 X eT hS hk hZ hown CQ hq fN
    obtain ⟨sa, sb, kb, rfl, Nq, Kq, E_s, C_s, V_s, A_s⟩ := hq
    have N := fN _ N Nq
    have CR := CR.trans CQ
    have H := CQ.1
    have S_C := own_sta_keep S_C Kq ns0
    have Z0 := Nat.le_trans Z0 Kq.1
    show own_W p e below (own_PostS Z own_EL s (Q_law Z q0 q1 p2 cs h0 n0) 24 3200) T m 127 #[.val (.long q0), .second, .val (.long q1), .second, .val (.int p2), .val (.int (7 : Int32)), .val (.int ((XT.ushr p2 (3 : Int32)) &&& (3 : Int32))), .val (.int d0), .val (.int d1), .val (.int d2), .val (.int d3), .val (.int d4), .val (.int d5), .val (.int d6), .unset, .unset, .unset, .unset] [(.ref sa)]
    refine own_astore X hx (hb hby at_127) (pc' := 129) rfl rfl (Ls' := #[.val (.long q0), .second, .val (.long q1), .second, .val (.int p2), .val (.int (7 : Int32)), .val (.int ((XT.ushr p2 (3 : Int32)) &&& (3 : Int32))), .val (.int d0), .val (.int d1), .val (.int d2), .val (.int d3), .val (.int d4), .val (.int d5), .val (.int d6), .val (.ref sa), .unset, .unset, .unset]) rfl ?_
    refine own_iload X hx (hb hby at_129) (pc' := 131) rfl rfl ?_
    refine own_bipush X hx (6 : Int32) (hb hby at_131) (pc' := 133) rfl rfl ?_
    refine own_icmpY X hx (hb hby at_133) (by decide) (pc' := 182) rfl (show ¬ ((7 : Int32) = (6 : Int32)) from (by decide)) ?_
    refine own_iconst X hx (0 : Int32) (hb hby at_182) (pc' := 183) rfl rfl ?_
    refine own_istore X hx (hb hby at_183) (pc' := 185) rfl (Ls' := #[.val (.long q0), .second, .val (.long q1), .second, .val (.int p2), .val (.int (7 : Int32)), .val (.int ((XT.ushr p2 (3 : Int32)) &&& (3 : Int32))), .val (.int d0), .val (.int d1), .val (.int d2), .val (.int d3), .val (.int d4), .val (.int d5), .val (.int d6), .val (.ref sa), .val (.int (0 : Int32)), .unset, .unset]) rfl ?_
    refine own_iload X hx (hb hby at_185) (pc' := 187) rfl rfl ?_
    refine own_iconst X hx (2 : Int32) (hb hby at_187) (pc' := 188) rfl rfl ?_
    refine own_icmpY X hx (hb hby at_188) (by decide) (pc' := 209) rfl (show ¬ ((7 : Int32) = (2 : Int32)) from (by decide)) ?_
    refine own_iconst X hx (0 : Int32) (hb hby at_209) (pc' := 210) rfl rfl ?_
    refine own_istore X hx (hb hby at_210) (pc' := 212) rfl (Ls' := #[.val (.long q0), .second, .val (.long q1), .second, .val (.int p2), .val (.int (7 : Int32)), .val (.int ((XT.ushr p2 (3 : Int32)) &&& (3 : Int32))), .val (.int d0), .val (.int d1), .val (.int d2), .val (.int d3), .val (.int d4), .val (.int d5), .val (.int d6), .val (.ref sa), .val (.int (0 : Int32)), .val (.int (0 : Int32)), .unset]) rfl ?_
    refine own_iload X hx (hb hby at_212) (pc' := 214) rfl rfl ?_
    refine own_ifN X hx (hb hby at_214) (pc' := 217) rfl (show (0 : Int32) = (0 : Int32) from (by decide)) ?_
    refine own_iload X hx (hb hby at_217) (pc' := 219) rfl rfl ?_
    refine own_ifY X hx (hb hby at_219) (by decide) (pc' := 226) rfl (show (0 : Int32) = (0 : Int32) from (by decide)) ?_
    refine own_iconst X hx (0 : Int32) (hb hby at_226) (pc' := 227) rfl rfl ?_
    refine own_istore X hx (hb hby at_227) (pc' := 229) rfl (Ls' := #[.val (.long q0), .second, .val (.long q1), .second, .val (.int p2), .val (.int (7 : Int32)), .val (.int ((XT.ushr p2 (3 : Int32)) &&& (3 : Int32))), .val (.int d0), .val (.int d1), .val (.int d2), .val (.int d3), .val (.int d4), .val (.int d5), .val (.int d6), .val (.ref sa), .val (.int (0 : Int32)), .val (.int (0 : Int32)), .val (.int (0 : Int32))]) rfl ?_
    refine own_aload X hx (hb hby at_229) (pc' := 231) rfl rfl rfl ?_
    refine own_callSS X hx hZ [(.ref sa)] hown (own_w hw 36 rfl) (own_w hw 37 rfl) (own_w hw 38 rfl) (own_w hw 39 rfl) (by decide) (rm_ak7 l Z a0 hw hEL [] sa sb cs (nar .byte d0.toInt8.toInt32) (nar .byte d1.toInt8.toInt32) (nar .byte d2.toInt8.toInt32) (nar .byte d3.toInt8.toInt32) (nar .byte d4.toInt8.toInt32) (nar .byte d5.toInt8.toInt32) (nar .byte d6.toInt8.toInt32) h30 n0 Z0 S_C hcs E_s C_s V_s _ A_s) eT hS hk hEL H (W := 0) (by decide) (by decide) (cells' := 7) (slots' := 58) rfl rfl (by decide) (by decide) (by rw [hml]; rfl) (lenOf own_pd_28Ljava2flang2fString3b29Z rfl) rfl (S := []) rfl (Nat.le_of_eq rfl) (hb hby at_231) (pc' := 234) rfl ?_
    intro v T h31 L lc vm0 k1 X eT hS hk hZ hown CQ hq fN
    obtain ⟨rfl, Nq⟩ := hq
    have N := fN _ N Nq
    have CR := CR.trans CQ
    have H := CQ.1
    show own_W p e below (own_PostS Z own_EL s (Q_law Z q0 q1 p2 cs h0 n0) 24 3200) T m 234 #[.val (.long q0), .second, .val (.long q1), .second, .val (.int p2), .val (.int (7 : Int32)), .val (.int ((XT.ushr p2 (3 : Int32)) &&& (3 : Int32))), .val (.int d0), .val (.int d1), .val (.int d2), .val (.int d3), .val (.int d4), .val (.int d5), .val (.int d6), .val (.ref sa), .val (.int (0 : Int32)), .val (.int (0 : Int32)), .val (.int (0 : Int32))] [(.int (0 : Int32))]
    refine own_iload X hx (hb hby at_234) (pc' := 236) rfl rfl ?_
    refine own_icmpN X hx (hb hby at_236) (pc' := 239) rfl (show (0 : Int32) = (0 : Int32) from (by decide)) ?_
    refine own_iconst X hx (1 : Int32) (hb hby at_239) (pc' := 240) rfl rfl ?_
    refine own_goto X hx (hb hby at_240) (by decide) (pc' := 244) rfl ?_
    refine own_retIS X hx hlk hZ eT hh hS hk hEL H CR (t := .boolean) (w' := (.int (1 : Int32))) Bd.returns (hb hby at_244) rfl rfl (by simp) (by decide) (by decide) ?_
    rw [eT]
    exact ⟨rfl, N⟩
set_option maxRecDepth 65536 in
set_option maxHeartbeats 40000000 in
theorem comes_1 {Post : Tables → Env → Array Value → State → Outcome → State → Prop} (hpost : ∀ tb e args s v u, (limb_1_1.after args s (.returned v) u = true ∧ limb_1_2.after args s (.returned v) u = true ∧ True) → ReturnedEndW s (.returned v) u (Jvm.fieldLocs frame_1_writes args s ++ Jvm.arrayLocs frame_1_arrays args s ++ Jvm.staticLocs frame_1_statics s) 24 3200 → Post tb e args s (.returned v) u) :
    ArmFor flags0 classFile x code maxLocals ret World_1 tables_1 room_1 Calls_1 rest_1 Pre_1 Post := by
  intro l hfl _ _ p e ha hc hk s m args below hf hA hF happ hP
  obtain ⟨hcalls, hrest, hpre⟩ := hP
  obtain ⟨-, -, -, hnamed, -, -, -, hat⟩ := (Spec.applies_iff hf).mp happ
  obtain ⟨hg, hn⟩ := and_e (Cond.before_iff.mp (show (Jvm.Cond.and given_1 narrow_1).before args s = true from hpre))
  obtain ⟨gc, gr0⟩ := and_e hg
  obtain ⟨ga0, gr1⟩ := and_e gr0
  obtain ⟨ga1, gr2⟩ := and_e gr1
  obtain ⟨w0, w1, w2, rfl⟩ : ∃ w0 w1 w2 : Value, args = #[w0, w1, w2] := by
    have hs : args.size = 3 := by simpa [Cond.value, given_1] using gc
    obtain ⟨L⟩ := args
    match L, hs with
    | [w0, w1, w2], _ => exact ⟨w0, w1, w2, rfl⟩
  have hw := fun d (hd : d ∈ tables_1) => atoms_spec (ws := Jvm.Cond.code x code maxLocals ret :: tables_1) hat d (List.mem_cons_of_mem _ hd)
  obtain ⟨i0, ei0⟩ := isL_v ga0
  obtain rfl : w0 = (.long i0) := Option.some.inj ei0
  obtain ⟨i1, ei1⟩ := isL_v ga1
  obtain rfl : w1 = (.long i1) := Option.some.inj ei1
  obtain ⟨i2, ei2⟩ := is_v gr2
  obtain rfl : w2 = (.int i2) := Option.some.inj ei2
  obtain ⟨hsets, hown0⟩ := atoms_of _ (rest_1_c_eq ▸ (show rest_1_c.before _ s = true from hrest))
  obtain ⟨cs, ecs⟩ := is_v (Cond.before_iff.mp (hsets _ (List.mem_of_getElem? (i := 1) rfl)))
  have SC := Sta.start ecs (Or.inl (hsets _ (List.mem_of_getElem? (i := 0) rfl)))
  have hcs : ¬ cs = 0 := fun q => by
      have z := not_v (Cond.before_iff.mp (hsets _ (List.mem_of_getElem? (i := 2) rfl)))
      rw [q] at ecs
      have u := eq_i ecs (Term.int_eval (0)) rfl
      rw [u] at z; cases z
  obtain ⟨fm, efm, hfm⟩ := isR_v (Cond.before_iff.mp (hsets _ (List.mem_of_getElem? (i := 8) rfl)))
  have SM := Sta.start efm (Or.inl (hsets _ (List.mem_of_getElem? (i := 7) rfl)))
  have hEL : EW s _ own_EL := (EW.cons (own_w hw 40 rfl) own_txt_40.1 (EW.cons (own_w hw 52 rfl) own_txt_52.1 (EW.cons (own_w hw 28 rfl) own_txt_28.1 EW.nil)))
  have H0 : CHv s own_EL s.vm s.heap := CHv.start hEL (fun p hp => hcalls.1 p hp) (hsets _ (List.mem_of_getElem? (i := 2) rfl)) (own_w hw 29 rfl) (own_w hw 15 rfl)
  obtain ⟨n, o, h1, h2, h3, _, L, rfl, ⟨rfl, N⟩, -, hq⟩ := rm_law l s _ hw hEL tables_1 i0 i1 i2 cs s.heap s.heap.size (Nat.le_refl _) SC hcs p e ha hc hk s m _ below hf ((Spec.applies_iff_loose hf).mp happ).1 ⟨rfl, State.Warmed39.refl s, rfl, H0⟩ trivial
  refine ⟨n, _, h1, h2, h3, hpost _ _ _ _ _ _ ⟨Cond.after_iff.mpr rfl, Cond.after_iff.mpr (eq_i res_at (Term.int_eval (1)) rfl), trivial⟩ ⟨hq.1, hq.2.1, hq.2.2.1, (hq.2.2.2.sift fun y hy => Or.inr (N y hy)).mono (by decide) (by decide)⟩⟩
theorem main_1_1 : Claimed_1_1 := comes_1 fun _ _ _ _ _ _ h hF => ⟨h.1, hF⟩
theorem main_1_2 : Claimed_1_2 := comes_1 fun _ _ _ _ _ _ h hF => ⟨h.2.1, hF⟩
end Jvm.Pilot.@@N@@
namespace Jvm.Pilot.@@N@@
open Jvm Jvm.ClassFile Sem Op Lib Jvm.Free Jvm.Stand Jvm.Pilot.@@N@@.Jvm.D
/-! MADE BY PROGRAM (witnessworld.py) out of the Statement's table words and the real class files: 20 classes; the members and pool entries that the words name. The judged class is class 1, her method 5. -/
namespace start1
open Jvm.ClassFile
def u (s : String) : CpInfo := .utf8 (stringToUtf16 s)
/-- a pool by its gaps: so many unusable entries, then the entry; so many at the end -/
def gap : Nat → List CpInfo → List CpInfo
  | 0, r => r
  | n + 1, r => .unusable :: gap n r
def poolList (es : List (Nat × CpInfo)) (last : Nat) : List CpInfo := es.foldr (fun e r => gap e.1 (e.2 :: r)) (gap last [])
def pool (es : List (Nat × CpInfo)) (last : Nat) : Array CpInfo := ⟨poolList es last⟩
def fileOf (pool : Array CpInfo) (this : Nat) (attrs : Array Attribute := #[]) (ms : Array MethodInfo := #[]) (fl : Nat := 33) (sup : Nat := 0) (ifs : Array Nat := #[]) (fds : Array FieldInfo := #[]) : ClassFile where
  minorVersion := 0
  majorVersion := 65
  constantPool := pool
  accessFlags := fl
  thisClass := this
  superClass := sup
  interfaces := ifs
  fields := fds
  methods := ms
  attributes := attrs
def plain (name : String) (sup : Option ClassId) : Class where
  name := name
  kind := .ordinary
  loader := none
  accessFlags := 33
  super := sup
  interfaces := #[]
  cf := none
  fields := #[]
  methods := #[]
  instanceTypes := #[]
  staticTypes := #[]
  resolved := #[]
  callSites := []
  init := .initialized
  statics := none
  mirror := none

def pool0 : Array CpInfo := pool [(5, u "<init>"), (0, u "()V"), (1, .class_ 10), (1, u "java/lang/Object")] 113

def k0c0 : Code := { maxStack := 0, maxLocals := 1, code := object_method_1_code, exceptionTable := #[], attributes := #[] }
def k0m0 : Method := { name := "<init>", desc := "()V", sig := { parameters := [], returnType := none }, accessFlags := 1, code := some k0c0 }
/-- java/lang/Object -/
def k0 : Class := { plain "java/lang/Object" none with
  accessFlags := 33
  interfaces := #[]
  cf := some (fileOf pool0 8 #[] #[{ accessFlags := 1, nameIndex := 5, descriptorIndex := 6, attributes := #[] }] 33 0 #[] #[])
  fields := #[]
  methods := #[k0m0]
  instanceTypes := #[]
  staticTypes := #[]
  resolved := Array.replicate 124 none
  statics := none }

def pool1 : Array CpInfo := pool [(2, .class_ 4), (1, u "java/lang/Object"), (0, u "<init>"), (0, u "()V"), (0, .long 1023), (1, .methodref 10 11), (0, .class_ 12), (0, .nameAndType 13 14), (0, u "com/example/bleeper/bleeper/cli/ArgumentsAsksForHelpPinLaw"), (0, u "templ"), (0, u "(II)I"), (0, .methodref 10 16), (0, .nameAndType 17 18), (0, u "draw"), (0, u "(J)C"), (0, .class_ 20), (0, u "java/lang/String"), (0, .methodref 19 22), (0, .nameAndType 5 23), (0, u "([C)V"), (0, .methodref 10 25), (0, .nameAndType 26 27), (0, u "pick"), (0, u "(IIIJ)C"), (0, .methodref 10 29), (0, .nameAndType 30 31), (0, u "make"), (0, u "(ICCCCCCC)Ljava/lang/String;"), (0, .methodref 33 34), (0, .class_ 35), (0, .nameAndType 36 37), (0, u "com/example/bleeper/bleeper/cli/Arguments"), (0, u "asksForHelp"), (0, u "(Ljava/lang/String;)Z"), (3, u "law"), (0, u "(JJI)Z")] 2

def k1m0 : Method := { name := "<init>", desc := "()V", sig := { parameters := [], returnType := none }, accessFlags := 2, code := none }
def k1c1 : Code := { maxStack := 4, maxLocals := 4, code := method_2_code, exceptionTable := #[], attributes := #[] }
def k1m1 : Method := { name := "draw", desc := "(J)C", sig := { parameters := [.long], returnType := some .char }, accessFlags := 10, code := some k1c1 }
def k1c2 : Code := { maxStack := 2, maxLocals := 2, code := method_3_code, exceptionTable := #[], attributes := #[] }
def k1m2 : Method := { name := "templ", desc := "(II)I", sig := { parameters := [.int, .int], returnType := some .int }, accessFlags := 10, code := some k1c2 }
def k1c3 : Code := { maxStack := 3, maxLocals := 6, code := method_4_code, exceptionTable := #[], attributes := #[] }
def k1m3 : Method := { name := "pick", desc := "(IIIJ)C", sig := { parameters := [.int, .int, .int, .long], returnType := some .char }, accessFlags := 10, code := some k1c3 }
def k1c4 : Code := { maxStack := 6, maxLocals := 8, code := method_5_code, exceptionTable := #[], attributes := #[] }
def k1m4 : Method := { name := "make", desc := "(ICCCCCCC)Ljava/lang/String;", sig := { parameters := [.int, .char, .char, .char, .char, .char, .char, .char], returnType := some (.object "java/lang/String") }, accessFlags := 10, code := some k1c4 }
def k1c5 : Code := { maxStack := 8, maxLocals := 18, code := code, exceptionTable := #[], attributes := #[] }
def k1m5 : Method := { name := "law", desc := "(JJI)Z", sig := { parameters := [.long, .long, .int], returnType := some .boolean }, accessFlags := 9, code := some k1c5 }
/-- com/example/bleeper/bleeper/cli/ArgumentsAsksForHelpPinLaw -/
def k1 : Class := { plain "com/example/bleeper/bleeper/cli/ArgumentsAsksForHelpPinLaw" (some 0) with
  accessFlags := 49
  interfaces := #[]
  cf := some (fileOf pool1 10 #[] #[{ accessFlags := 2, nameIndex := 5, descriptorIndex := 6, attributes := #[] }, { accessFlags := 10, nameIndex := 17, descriptorIndex := 18, attributes := #[] }, { accessFlags := 10, nameIndex := 13, descriptorIndex := 14, attributes := #[] }, { accessFlags := 10, nameIndex := 26, descriptorIndex := 27, attributes := #[] }, { accessFlags := 10, nameIndex := 30, descriptorIndex := 31, attributes := #[] }, { accessFlags := 9, nameIndex := 41, descriptorIndex := 42, attributes := #[] }] 49 2 #[] #[])
  fields := #[]
  methods := #[k1m0, k1m1, k1m2, k1m3, k1m4, k1m5]
  instanceTypes := #[]
  staticTypes := #[]
  resolved := Array.replicate 45 none
  statics := none }

def pool2 : Array CpInfo := pool [(1, .class_ 2), (0, u "java/io/Serializable"), (0, .class_ 4), (0, u "java/lang/Object")] 2

/-- java/io/Serializable -/
def k2 : Class := { plain "java/io/Serializable" (some 0) with
  accessFlags := 1537
  interfaces := #[]
  cf := some (fileOf pool2 1 #[] #[] 1537 3 #[] #[])
  fields := #[]
  methods := #[]
  instanceTypes := #[]
  staticTypes := #[]
  resolved := Array.replicate 7 none
  statics := none }

def pool3 : Array CpInfo := pool [(1, .class_ 2), (0, u "java/lang/Comparable"), (0, .class_ 4), (0, u "java/lang/Object")] 7

/-- java/lang/Comparable -/
def k3 : Class := { plain "java/lang/Comparable" (some 0) with
  accessFlags := 1537
  interfaces := #[]
  cf := some (fileOf pool3 1 #[] #[] 1537 3 #[] #[])
  fields := #[]
  methods := #[]
  instanceTypes := #[]
  staticTypes := #[]
  resolved := Array.replicate 12 none
  statics := none }

def pool4 : Array CpInfo := pool [(2, .class_ 4), (1, u "java/lang/CharSequence"), (42, .class_ 48), (0, u "java/lang/CharSequence$1CodePointIterator"), (10, .class_ 60), (0, u "java/lang/CharSequence$1CharIterator"), (5, .class_ 67), (0, u "java/lang/Object")] 63

/-- java/lang/CharSequence -/
def k4 : Class := { plain "java/lang/CharSequence" (some 0) with
  accessFlags := 1537
  interfaces := #[]
  cf := some (fileOf pool4 2 #[.nestMembers #[47, 59]] #[] 1537 66 #[] #[])
  fields := #[]
  methods := #[]
  instanceTypes := #[]
  staticTypes := #[]
  resolved := Array.replicate 131 none
  statics := none }

def pool5 : Array CpInfo := pool [(1, .class_ 2), (0, u "java/lang/constant/Constable"), (0, .class_ 4), (0, u "java/lang/Object")] 6

/-- java/lang/constant/Constable -/
def k5 : Class := { plain "java/lang/constant/Constable" (some 0) with
  accessFlags := 1537
  interfaces := #[]
  cf := some (fileOf pool5 1 #[] #[] 1537 3 #[] #[])
  fields := #[]
  methods := #[]
  instanceTypes := #[]
  staticTypes := #[]
  resolved := Array.replicate 11 none
  statics := none }

def pool6 : Array CpInfo := pool [(1, .class_ 2), (0, u "java/lang/constant/ConstantDesc"), (0, .class_ 4), (0, u "java/lang/Object")] 32

/-- java/lang/constant/ConstantDesc -/
def k6 : Class := { plain "java/lang/constant/ConstantDesc" (some 0) with
  accessFlags := 1537
  interfaces := #[]
  cf := some (fileOf pool6 1 #[] #[] 1537 3 #[] #[])
  fields := #[]
  methods := #[]
  instanceTypes := #[]
  staticTypes := #[]
  resolved := Array.replicate 37 none
  statics := none }

def pool7 : Array CpInfo := pool [(1, .methodref 2 3), (0, .class_ 4), (0, .nameAndType 5 6), (0, u "java/lang/Object"), (0, u "<init>"), (0, u "()V"), (0, .string 8), (0, u ""), (0, .fieldref 10 11), (0, .class_ 12), (0, .nameAndType 13 14), (0, u "java/lang/String"), (0, u "value"), (0, u "[B"), (0, .fieldref 10 16), (0, .nameAndType 17 18), (0, u "coder"), (0, u "B"), (2, u "hash"), (0, u "I"), (2, u "hashIsZero"), (0, u "Z"), (0, .methodref 10 28), (0, .nameAndType 5 29), (0, u "([CIILjava/lang/Void;)V"), (8, .fieldref 10 39), (0, .nameAndType 40 26), (0, u "COMPACT_STRINGS"), (1, .class_ 44), (1, u "java/lang/StringUTF16"), (0, u "compress"), (1, .methodref 42 48), (0, .nameAndType 49 50), (0, u "coderFromArrayLen"), (0, u "([BI)B"), (56, .class_ 109), (1, u "java/lang/StringLatin1"), (67, .methodref 42 178), (0, .nameAndType 45 179), (0, u "([CII)[B"), (361, .methodref 107 542), (0, .nameAndType 543 544), (0, u "equals"), (0, u "([B[B)Z"), (28, u "(Ljava/lang/Object;)Z"), (1, .class_ 576), (0, u "java/lang/CharSequence"), (22, u "CASE_INSENSITIVE_ORDER"), (0, u "Ljava/util/Comparator;"), (409, u "([C)V"), (90, u "serialPersistentFields"), (0, u "[Ljava/io/ObjectStreamField;"), (0, .class_ 1104), (0, u "java/lang/String$CaseInsensitiveComparator"), (1, .class_ 1107), (0, u "java/io/Serializable"), (0, .class_ 1109), (0, u "java/lang/Comparable"), (0, .class_ 1111), (0, u "java/lang/constant/Constable"), (0, .class_ 1113), (0, u "java/lang/constant/ConstantDesc"), (2, u "serialVersionUID"), (0, u "J"), (3, u "REPL"), (0, u "C"), (2, u "LATIN1"), (1, u "UTF16")] 323

def k7m0 : Method := { name := "<init>", desc := "()V", sig := { parameters := [], returnType := none }, accessFlags := 1, code := none }
def k7c1 : Code := { maxStack := 5, maxLocals := 2, code := jdk_42_method_3_code, exceptionTable := #[], attributes := #[] }
def k7m1 : Method := { name := "<init>", desc := "([C)V", sig := { parameters := [(.array .char)], returnType := none }, accessFlags := 1, code := some k7c1 }
def k7c2 : Code := { maxStack := 2, maxLocals := 3, code := jdk_42_method_66_code, exceptionTable := #[], attributes := #[] }
def k7m2 : Method := { name := "equals", desc := "(Ljava/lang/Object;)Z", sig := { parameters := [(.object "java/lang/Object")], returnType := some .boolean }, accessFlags := 1, code := some k7c2 }
def k7c3 : Code := { maxStack := 4, maxLocals := 6, code := jdk_42_method_149_code, exceptionTable := #[], attributes := #[] }
def k7m3 : Method := { name := "<init>", desc := "([CIILjava/lang/Void;)V", sig := { parameters := [(.array .char), .int, .int, (.object "java/lang/Void")], returnType := none }, accessFlags := 2, code := some k7c3 }
/-- java/lang/String -/
def k7 : Class := { plain "java/lang/String" (some 0) with
  accessFlags := 49
  interfaces := #[2, 3, 4, 5, 6]
  cf := some (fileOf pool7 10 #[.nestMembers #[1103]] #[{ accessFlags := 1, nameIndex := 5, descriptorIndex := 6, attributes := #[] }, { accessFlags := 1, nameIndex := 5, descriptorIndex := 1010, attributes := #[] }, { accessFlags := 1, nameIndex := 543, descriptorIndex := 573, attributes := #[] }, { accessFlags := 2, nameIndex := 5, descriptorIndex := 29, attributes := #[] }] 49 2 #[1106, 1108, 575, 1110, 1112] #[{ accessFlags := 18, nameIndex := 13, descriptorIndex := 14, attributes := #[] }, { accessFlags := 18, nameIndex := 17, descriptorIndex := 18, attributes := #[] }, { accessFlags := 2, nameIndex := 21, descriptorIndex := 22, attributes := #[] }, { accessFlags := 2, nameIndex := 25, descriptorIndex := 26, attributes := #[] }, { accessFlags := 26, nameIndex := 1116, descriptorIndex := 1117, attributes := #[] }, { accessFlags := 24, nameIndex := 40, descriptorIndex := 26, attributes := #[] }, { accessFlags := 26, nameIndex := 1101, descriptorIndex := 1102, attributes := #[] }, { accessFlags := 26, nameIndex := 1121, descriptorIndex := 1122, attributes := #[] }, { accessFlags := 25, nameIndex := 599, descriptorIndex := 600, attributes := #[] }, { accessFlags := 24, nameIndex := 1125, descriptorIndex := 18, attributes := #[] }, { accessFlags := 24, nameIndex := 1127, descriptorIndex := 18, attributes := #[] }])
  fields := #[{ name := "value", type := (.array .byte), accessFlags := 18, slot := 0, constantValue := 0 }, { name := "coder", type := .byte, accessFlags := 18, slot := 1, constantValue := 0 }, { name := "hash", type := .int, accessFlags := 2, slot := 2, constantValue := 0 }, { name := "hashIsZero", type := .boolean, accessFlags := 2, slot := 3, constantValue := 0 }, { name := "serialVersionUID", type := .long, accessFlags := 26, slot := 0, constantValue := 0 }, { name := "COMPACT_STRINGS", type := .boolean, accessFlags := 24, slot := 1, constantValue := 0 }, { name := "serialPersistentFields", type := (.array (.object "java/io/ObjectStreamField")), accessFlags := 26, slot := 2, constantValue := 0 }, { name := "REPL", type := .char, accessFlags := 26, slot := 3, constantValue := 0 }, { name := "CASE_INSENSITIVE_ORDER", type := (.object "java/util/Comparator"), accessFlags := 25, slot := 4, constantValue := 0 }, { name := "LATIN1", type := .byte, accessFlags := 24, slot := 5, constantValue := 0 }, { name := "UTF16", type := .byte, accessFlags := 24, slot := 6, constantValue := 0 }]
  methods := #[k7m0, k7m1, k7m2, k7m3]
  instanceTypes := #[(.array .byte), .byte, .int, .boolean]
  staticTypes := #[.long, .boolean, (.array (.object "java/io/ObjectStreamField")), .char, (.object "java/util/Comparator"), .byte, .byte]
  resolved := Array.replicate 1451 none
  statics := some 0 }

def pool8 : Array CpInfo := pool [(2, .class_ 4), (1, u "java/lang/Object"), (6, .class_ 13), (1, u "com/example/bleeper/bleeper/cli/Arguments"), (0, u "values"), (0, u "Ljava/util/Map;"), (5, u "flags"), (0, u "Ljava/util/Set;"), (5, u "operands"), (0, u "Ljava/util/List;"), (2, u "command"), (0, u "Lcom/example/bleeper/bleeper/cli/Arguments$Command;"), (14, .class_ 50), (1, u "com/example/bleeper/bleeper/cli/Arguments$Command"), (6, .class_ 58), (0, u "com/example/bleeper/bleeper/cli/Arguments$Option"), (4, .methodref 64 65), (0, .class_ 66), (0, .nameAndType 67 68), (0, u "java/lang/String"), (0, u "equals"), (0, u "(Ljava/lang/Object;)Z"), (3, u "(Ljava/lang/String;)Z"), (22, u "asksForHelp"), (2, u "helpAsked"), (0, u "Z"), (3, u "Ljava/lang/String;"), (21, .string 126), (0, u "--help"), (0, .string 128), (0, u "-h"), (110, u "END_OF_OPTIONS"), (1, u "HELP"), (0, u "SHORT_HELP")] 58

def k8c0 : Code := { maxStack := 2, maxLocals := 1, code := prog_41_method_3_code, exceptionTable := #[], attributes := #[] }
def k8m0 : Method := { name := "asksForHelp", desc := "(Ljava/lang/String;)Z", sig := { parameters := [(.object "java/lang/String")], returnType := some .boolean }, accessFlags := 8, code := some k8c0 }
/-- com/example/bleeper/bleeper/cli/Arguments -/
def k8 : Class := { plain "com/example/bleeper/bleeper/cli/Arguments" (some 0) with
  accessFlags := 32
  interfaces := #[]
  cf := some (fileOf pool8 11 #[.nestMembers #[57, 48]] #[{ accessFlags := 8, nameIndex := 95, descriptorIndex := 72, attributes := #[] }] 32 2 #[] #[{ accessFlags := 24, nameIndex := 239, descriptorIndex := 103, attributes := #[] }, { accessFlags := 24, nameIndex := 241, descriptorIndex := 103, attributes := #[] }, { accessFlags := 24, nameIndex := 242, descriptorIndex := 103, attributes := #[] }, { accessFlags := 18, nameIndex := 32, descriptorIndex := 33, attributes := #[] }, { accessFlags := 18, nameIndex := 14, descriptorIndex := 15, attributes := #[] }, { accessFlags := 18, nameIndex := 21, descriptorIndex := 22, attributes := #[] }, { accessFlags := 18, nameIndex := 28, descriptorIndex := 29, attributes := #[] }, { accessFlags := 2, nameIndex := 98, descriptorIndex := 99, attributes := #[] }])
  fields := #[{ name := "END_OF_OPTIONS", type := (.object "java/lang/String"), accessFlags := 24, slot := 0, constantValue := 0 }, { name := "HELP", type := (.object "java/lang/String"), accessFlags := 24, slot := 1, constantValue := 0 }, { name := "SHORT_HELP", type := (.object "java/lang/String"), accessFlags := 24, slot := 2, constantValue := 0 }, { name := "command", type := (.object "com/example/bleeper/bleeper/cli/Arguments$Command"), accessFlags := 18, slot := 0, constantValue := 0 }, { name := "values", type := (.object "java/util/Map"), accessFlags := 18, slot := 1, constantValue := 0 }, { name := "flags", type := (.object "java/util/Set"), accessFlags := 18, slot := 2, constantValue := 0 }, { name := "operands", type := (.object "java/util/List"), accessFlags := 18, slot := 3, constantValue := 0 }, { name := "helpAsked", type := .boolean, accessFlags := 2, slot := 4, constantValue := 0 }]
  methods := #[k8m0]
  instanceTypes := #[(.object "com/example/bleeper/bleeper/cli/Arguments$Command"), (.object "java/util/Map"), (.object "java/util/Set"), (.object "java/util/List"), .boolean]
  staticTypes := #[(.object "java/lang/String"), (.object "java/lang/String"), (.object "java/lang/String")]
  resolved := Array.replicate 301 none
  statics := none }

def pool9 : Array CpInfo := pool [(4, .class_ 6), (1, u "java/lang/Object"), (0, u "<init>"), (0, u "()V"), (5, .class_ 16), (1, u "java/lang/StringLatin1"), (104, u "$assertionsDisabled"), (0, u "Z"), (98, .class_ 223), (1, u "java/lang/StringLatin1$LinesSpliterator"), (57, u "equals"), (0, u "([B[B)Z"), (107, .class_ 391), (0, u "java/lang/StringLatin1$CharsSpliterator")] 3

def k9m0 : Method := { name := "<init>", desc := "()V", sig := { parameters := [], returnType := none }, accessFlags := 0, code := none }
def k9c1 : Code := { maxStack := 3, maxLocals := 3, code := jdk_43_method_13_code, exceptionTable := #[], attributes := #[] }
def k9m1 : Method := { name := "equals", desc := "([B[B)Z", sig := { parameters := [(.array .byte), (.array .byte)], returnType := some .boolean }, accessFlags := 9, code := some k9c1 }
/-- java/lang/StringLatin1 -/
def k9 : Class := { plain "java/lang/StringLatin1" (some 0) with
  accessFlags := 48
  interfaces := #[]
  cf := some (fileOf pool9 14 #[.nestMembers #[390, 221]] #[{ accessFlags := 0, nameIndex := 7, descriptorIndex := 8, attributes := #[] }, { accessFlags := 9, nameIndex := 281, descriptorIndex := 282, attributes := #[] }] 48 4 #[] #[{ accessFlags := 4120, nameIndex := 121, descriptorIndex := 122, attributes := #[] }])
  fields := #[{ name := "$assertionsDisabled", type := .boolean, accessFlags := 4120, slot := 0, constantValue := 0 }]
  methods := #[k9m0, k9m1]
  instanceTypes := #[]
  staticTypes := #[.boolean]
  resolved := Array.replicate 395 none
  statics := none }

def pool10 : Array CpInfo := pool [(6, .class_ 8), (1, u "java/lang/Object"), (0, u "<init>"), (0, u "()V"), (1, .class_ 14), (1, u "java/lang/StringUTF16"), (31, u "$assertionsDisabled"), (0, u "Z"), (13, u "HI_BYTE_SHIFT"), (0, u "I"), (2, u "LO_BYTE_SHIFT"), (49, .methodref 12 116), (0, .nameAndType 117 118), (0, u "compress"), (0, u "([CI[BII)I"), (3, u "([CII)[B"), (138, u "coderFromArrayLen"), (0, u "([BI)B"), (106, .class_ 371), (1, u "java/lang/StringUTF16$LinesSpliterator"), (58, u "MAX_LENGTH"), (196, .class_ 628), (0, u "java/lang/StringUTF16$CodePointsSpliterator"), (0, .class_ 630), (0, u "java/lang/StringUTF16$CharsSpliterator")] 4

def k10m0 : Method := { name := "<init>", desc := "()V", sig := { parameters := [], returnType := none }, accessFlags := 0, code := none }
def k10c1 : Code := { maxStack := 2, maxLocals := 2, code := jdk_52_method_15_code, exceptionTable := #[], attributes := #[] }
def k10m1 : Method := { name := "coderFromArrayLen", desc := "([BI)B", sig := { parameters := [(.array .byte), .int], returnType := some .byte }, accessFlags := 8, code := some k10c1 }
def k10c2 : Code := { maxStack := 5, maxLocals := 6, code := jdk_52_method_16_code, exceptionTable := #[], attributes := #[] }
def k10m2 : Method := { name := "compress", desc := "([CII)[B", sig := { parameters := [(.array .char), .int, .int], returnType := some (.array .byte) }, accessFlags := 9, code := some k10c2 }
def k10c3 : Code := { maxStack := 3, maxLocals := 7, code := jdk_52_method_21_code, exceptionTable := #[], attributes := #[] }
def k10m3 : Method := { name := "compress", desc := "([CI[BII)I", sig := { parameters := [(.array .char), .int, (.array .byte), .int, .int], returnType := some .int }, accessFlags := 9, code := some k10c3 }
/-- java/lang/StringUTF16 -/
def k10 : Class := { plain "java/lang/StringUTF16" (some 0) with
  accessFlags := 48
  interfaces := #[]
  cf := some (fileOf pool10 12 #[.nestMembers #[627, 629, 369]] #[{ accessFlags := 0, nameIndex := 9, descriptorIndex := 10, attributes := #[] }, { accessFlags := 8, nameIndex := 261, descriptorIndex := 262, attributes := #[] }, { accessFlags := 9, nameIndex := 117, descriptorIndex := 122, attributes := #[] }, { accessFlags := 9, nameIndex := 117, descriptorIndex := 118, attributes := #[] }] 48 6 #[] #[{ accessFlags := 26, nameIndex := 61, descriptorIndex := 62, attributes := #[] }, { accessFlags := 26, nameIndex := 65, descriptorIndex := 62, attributes := #[] }, { accessFlags := 24, nameIndex := 430, descriptorIndex := 62, attributes := #[] }, { accessFlags := 4120, nameIndex := 46, descriptorIndex := 47, attributes := #[] }])
  fields := #[{ name := "HI_BYTE_SHIFT", type := .int, accessFlags := 26, slot := 0, constantValue := 0 }, { name := "LO_BYTE_SHIFT", type := .int, accessFlags := 26, slot := 1, constantValue := 0 }, { name := "MAX_LENGTH", type := .int, accessFlags := 24, slot := 2, constantValue := 0 }, { name := "$assertionsDisabled", type := .boolean, accessFlags := 4120, slot := 3, constantValue := 0 }]
  methods := #[k10m0, k10m1, k10m2, k10m3]
  instanceTypes := #[]
  staticTypes := #[.int, .int, .int, .boolean]
  resolved := Array.replicate 635 none
  statics := none }

def pool11 : Array CpInfo := pool [(2, .class_ 4), (1, u "java/lang/Object"), (0, u "<init>"), (0, u "()V"), (17, .class_ 26), (1, u "jdk/internal/util/Preconditions"), (28, .class_ 56), (0, u "jdk/internal/util/Preconditions$4"), (57, .class_ 115), (0, u "jdk/internal/util/Preconditions$1"), (7, u "SIOOBE_FORMATTER"), (0, u "Ljava/util/function/BiFunction;"), (0, .class_ 126), (0, u "jdk/internal/util/Preconditions$2"), (3, u "AIOOBE_FORMATTER"), (0, .class_ 132), (0, u "jdk/internal/util/Preconditions$3"), (3, u "IOOBE_FORMATTER")] 57

def k11m0 : Method := { name := "<init>", desc := "()V", sig := { parameters := [], returnType := none }, accessFlags := 1, code := none }
/-- jdk/internal/util/Preconditions -/
def k11 : Class := { plain "jdk/internal/util/Preconditions" (some 0) with
  accessFlags := 33
  interfaces := #[]
  cf := some (fileOf pool11 24 #[.nestMembers #[55, 131, 125, 114]] #[{ accessFlags := 1, nameIndex := 5, descriptorIndex := 6, attributes := #[] }] 33 2 #[] #[{ accessFlags := 25, nameIndex := 123, descriptorIndex := 124, attributes := #[] }, { accessFlags := 25, nameIndex := 130, descriptorIndex := 124, attributes := #[] }, { accessFlags := 25, nameIndex := 136, descriptorIndex := 124, attributes := #[] }])
  fields := #[{ name := "SIOOBE_FORMATTER", type := (.object "java/util/function/BiFunction"), accessFlags := 25, slot := 0, constantValue := 0 }, { name := "AIOOBE_FORMATTER", type := (.object "java/util/function/BiFunction"), accessFlags := 25, slot := 1, constantValue := 0 }, { name := "IOOBE_FORMATTER", type := (.object "java/util/function/BiFunction"), accessFlags := 25, slot := 2, constantValue := 0 }]
  methods := #[k11m0]
  instanceTypes := #[]
  staticTypes := #[(.object "java/util/function/BiFunction"), (.object "java/util/function/BiFunction"), (.object "java/util/function/BiFunction")]
  resolved := Array.replicate 194 none
  statics := some 1 }

def pool12 : Array CpInfo := pool [(9, u "<init>"), (6, .class_ 18), (1, u "java/lang/Object"), (0, u "()V"), (1, .class_ 23), (1, u "jdk/internal/util/ArraysSupport"), (0, u "LOG2_ARRAY_LONG_INDEX_SCALE"), (0, u "I"), (2, u "U"), (0, u "Ljdk/internal/misc/Unsafe;"), (8, u "BIG_ENDIAN"), (0, u "Z"), (8, u "LOG2_BYTE_BIT_SIZE"), (4, u "LOG2_ARRAY_INT_INDEX_SCALE"), (54, u "JLA"), (0, u "Ljdk/internal/access/JavaLangAccess;"), (11, u "LOG2_ARRAY_BOOLEAN_INDEX_SCALE"), (9, u "LOG2_ARRAY_BYTE_INDEX_SCALE"), (5, u "LOG2_ARRAY_CHAR_INDEX_SCALE"), (5, u "LOG2_ARRAY_SHORT_INDEX_SCALE"), (18, u "LOG2_ARRAY_FLOAT_INDEX_SCALE"), (24, u "LOG2_ARRAY_DOUBLE_INDEX_SCALE"), (89, u "T_BOOLEAN"), (2, u "T_CHAR"), (1, u "T_FLOAT"), (1, u "T_DOUBLE"), (1, u "T_BYTE"), (1, u "T_SHORT"), (1, u "T_INT"), (1, u "T_LONG"), (1, u "SOFT_MAX_ARRAY_LENGTH")] 83

def k12m0 : Method := { name := "<init>", desc := "()V", sig := { parameters := [], returnType := none }, accessFlags := 2, code := none }
/-- jdk/internal/util/ArraysSupport -/
def k12 : Class := { plain "jdk/internal/util/ArraysSupport" (some 0) with
  accessFlags := 33
  interfaces := #[]
  cf := some (fileOf pool12 21 #[] #[{ accessFlags := 2, nameIndex := 9, descriptorIndex := 19, attributes := #[] }] 33 16 #[] #[{ accessFlags := 24, nameIndex := 28, descriptorIndex := 29, attributes := #[] }, { accessFlags := 26, nameIndex := 38, descriptorIndex := 39, attributes := #[] }, { accessFlags := 25, nameIndex := 121, descriptorIndex := 25, attributes := #[] }, { accessFlags := 25, nameIndex := 131, descriptorIndex := 25, attributes := #[] }, { accessFlags := 25, nameIndex := 137, descriptorIndex := 25, attributes := #[] }, { accessFlags := 25, nameIndex := 143, descriptorIndex := 25, attributes := #[] }, { accessFlags := 25, nameIndex := 53, descriptorIndex := 25, attributes := #[] }, { accessFlags := 25, nameIndex := 24, descriptorIndex := 25, attributes := #[] }, { accessFlags := 25, nameIndex := 162, descriptorIndex := 25, attributes := #[] }, { accessFlags := 25, nameIndex := 187, descriptorIndex := 25, attributes := #[] }, { accessFlags := 26, nameIndex := 48, descriptorIndex := 25, attributes := #[] }, { accessFlags := 25, nameIndex := 277, descriptorIndex := 25, attributes := #[] }, { accessFlags := 25, nameIndex := 280, descriptorIndex := 25, attributes := #[] }, { accessFlags := 25, nameIndex := 282, descriptorIndex := 25, attributes := #[] }, { accessFlags := 25, nameIndex := 284, descriptorIndex := 25, attributes := #[] }, { accessFlags := 25, nameIndex := 286, descriptorIndex := 25, attributes := #[] }, { accessFlags := 25, nameIndex := 288, descriptorIndex := 25, attributes := #[] }, { accessFlags := 25, nameIndex := 290, descriptorIndex := 25, attributes := #[] }, { accessFlags := 25, nameIndex := 292, descriptorIndex := 25, attributes := #[] }, { accessFlags := 26, nameIndex := 108, descriptorIndex := 109, attributes := #[] }, { accessFlags := 25, nameIndex := 294, descriptorIndex := 25, attributes := #[] }])
  fields := #[{ name := "U", type := (.object "jdk/internal/misc/Unsafe"), accessFlags := 24, slot := 0, constantValue := 0 }, { name := "BIG_ENDIAN", type := .boolean, accessFlags := 26, slot := 1, constantValue := 0 }, { name := "LOG2_ARRAY_BOOLEAN_INDEX_SCALE", type := .int, accessFlags := 25, slot := 2, constantValue := 0 }, { name := "LOG2_ARRAY_BYTE_INDEX_SCALE", type := .int, accessFlags := 25, slot := 3, constantValue := 0 }, { name := "LOG2_ARRAY_CHAR_INDEX_SCALE", type := .int, accessFlags := 25, slot := 4, constantValue := 0 }, { name := "LOG2_ARRAY_SHORT_INDEX_SCALE", type := .int, accessFlags := 25, slot := 5, constantValue := 0 }, { name := "LOG2_ARRAY_INT_INDEX_SCALE", type := .int, accessFlags := 25, slot := 6, constantValue := 0 }, { name := "LOG2_ARRAY_LONG_INDEX_SCALE", type := .int, accessFlags := 25, slot := 7, constantValue := 0 }, { name := "LOG2_ARRAY_FLOAT_INDEX_SCALE", type := .int, accessFlags := 25, slot := 8, constantValue := 0 }, { name := "LOG2_ARRAY_DOUBLE_INDEX_SCALE", type := .int, accessFlags := 25, slot := 9, constantValue := 0 }, { name := "LOG2_BYTE_BIT_SIZE", type := .int, accessFlags := 26, slot := 10, constantValue := 0 }, { name := "T_BOOLEAN", type := .int, accessFlags := 25, slot := 11, constantValue := 0 }, { name := "T_CHAR", type := .int, accessFlags := 25, slot := 12, constantValue := 0 }, { name := "T_FLOAT", type := .int, accessFlags := 25, slot := 13, constantValue := 0 }, { name := "T_DOUBLE", type := .int, accessFlags := 25, slot := 14, constantValue := 0 }, { name := "T_BYTE", type := .int, accessFlags := 25, slot := 15, constantValue := 0 }, { name := "T_SHORT", type := .int, accessFlags := 25, slot := 16, constantValue := 0 }, { name := "T_INT", type := .int, accessFlags := 25, slot := 17, constantValue := 0 }, { name := "T_LONG", type := .int, accessFlags := 25, slot := 18, constantValue := 0 }, { name := "JLA", type := (.object "jdk/internal/access/JavaLangAccess"), accessFlags := 26, slot := 19, constantValue := 0 }, { name := "SOFT_MAX_ARRAY_LENGTH", type := .int, accessFlags := 25, slot := 20, constantValue := 0 }]
  methods := #[k12m0]
  instanceTypes := #[]
  staticTypes := #[(.object "jdk/internal/misc/Unsafe"), .boolean, .int, .int, .int, .int, .int, .int, .int, .int, .int, .int, .int, .int, .int, .int, .int, .int, .int, (.object "jdk/internal/access/JavaLangAccess"), .int]
  resolved := Array.replicate 378 none
  statics := none }

def pool13 : Array CpInfo := pool [(1, u "java/lang/Cloneable"), (0, .class_ 1), (0, u "java/lang/Object"), (0, .class_ 3)] 3

/-- java/lang/Cloneable -/
def k13 : Class := { plain "java/lang/Cloneable" (some 0) with
  accessFlags := 1537
  interfaces := #[]
  cf := some (fileOf pool13 2 #[] #[] 1537 4 #[] #[])
  fields := #[]
  methods := #[]
  instanceTypes := #[]
  staticTypes := #[]
  resolved := Array.replicate 8 none
  statics := none }

/-- the primitive byte -/
def k14 : Class := { plain "byte" none with kind := .primitive 'B', accessFlags := 0x411 }
/-- [B -/
def k15 : Class := { plain "[B" (some 0) with kind := .array 14 .byte, interfaces := #[13, 2], accessFlags := 1041 }

/-- the primitive char -/
def k16 : Class := { plain "char" none with kind := .primitive 'C', accessFlags := 0x411 }
/-- [C -/
def k17 : Class := { plain "[C" (some 0) with kind := .array 16 .char, interfaces := #[13, 2], accessFlags := 1041 }

/-- the primitive int -/
def k18 : Class := { plain "int" none with kind := .primitive 'I', accessFlags := 0x411 }
/-- [I -/
def k19 : Class := { plain "[I" (some 0) with kind := .array 18 .int, interfaces := #[13, 2], accessFlags := 1041 }

def heap : Heap := #[{ cls := 7, slots := #[.long 0, .int 1, .null, .int 0, .null, .int 0, .int 0], vm := .statics 7 },
  { cls := 11, slots := #[.null, .null, .null], vm := .statics 11 }]
def classes : Array Class := #[k0, k1, k2, k3, k4, k5, k6, k7, k8, k9, k10, k11, k12, k13, k14, k15, k16, k17, k18, k19]
def interned : List (Array UInt16 × Addr) := []
def slotsUsed : Nat := 10
def theMethod : MethodId := ⟨1, 5⟩
def args0 : Array Value := #[.long 1, .long 1, .int 1]
def aboutOver (below : List Frame) : State where
  vm := { classes := classes, interned := interned.toArray }
  heap := heap
  slotsUsed := slotsUsed
  threads := #[{ frames := .invoking theMethod args0 :: below }]
def below0 : List Frame := [.native { method := ⟨0, 0⟩, args := #[] }]
def about1 : State := aboutOver below0
def p0 : Program := .bare "" "" ""
def e0 : Env := launch0.env 0 0 0
theorem w_frames : about1.frames = Frame.invoking theMethod args0 :: below0 := rfl
set_option maxRecDepth 65536 in
theorem w_args : argsFit about1.vm theMethod args0 = true := by decide +kernel
set_option maxRecDepth 65536 in
theorem w_heap : heapFits about1 = true := by decide +kernel
set_option maxRecDepth 65536 in
theorem w_runnable : about1.curStatus? = some .runnable := by decide +kernel
set_option maxRecDepth 65536 in
theorem w_alone : about1.alone = true := by decide +kernel
set_option maxRecDepth 65536 in
theorem w_named : about1.methodNamed? x = some theMethod := by decide +kernel
set_option maxRecDepth 65536 in
theorem w_hears : about1.hears theMethod below0 = true := by decide +kernel
set_option maxRecDepth 65536 in
theorem w_ripe : about1.ripe theMethod args0 below0 = true := by decide +kernel
theorem w_running : about1.status = .running := rfl
set_option maxRecDepth 65536 in
theorem w_room : about1.hasRoom e0.platform room_1 = true :=
  launch0.hasRoom_least _ room_1 (by decide +kernel) (by decide +kernel) (by decide +kernel) (by decide +kernel) (by decide +kernel) (by decide +kernel)
theorem allAtoms_all (ts : List Jvm.Cond) (a : Array Jvm.Value) (st : Jvm.State) : (allAtoms ts).before a st = ts.all (fun c => c.before a st) := by
  induction ts with
  | nil => rfl
  | cons c t ih =>
    show (Jvm.Cond.and c (allAtoms t)).before a st = _
    rw [Jvm.Cond.before_and, ih, List.all_cons]
def words1 : List Jvm.Cond := Jvm.Cond.code x code maxLocals ret :: tables_1
/-- a 'code' word, met by the world's own term for the bytes: nothing is compared byte by byte -/
theorem code_word {y : MethodName} {bytes : ByteArray} {mx : Nat} {rt : Option FieldType} {a : Array Value} {s : State} {m : MethodId} {meth : Method} {c : Code} (h1 : s.methodNamed? y = some m) (h2 : s.vm.method? m = some meth) (h3 : meth.code = some c) (h4 : c.code = bytes)
    (h5 : (c.maxLocals == mx && c.exceptionTable.isEmpty && decide (c.maxStack ≤ mostOperands) && decide (meth.sig.returnType = rt) && !meth.locks && decide (parseMethodDescriptor y.desc = some meth.sig)) = true) : (Jvm.Cond.code y bytes mx rt).before a s = true := by
  simp only [Bool.and_eq_true, beq_iff_eq, Bool.not_eq_true', decide_eq_true_eq] at h5
  obtain ⟨⟨⟨⟨⟨g1, g2⟩, g3⟩, g4⟩, g5⟩, g6⟩ := h5
  simp [Cond.before, Cond.holds, Cond.value, h1, h2, h3, h4, g1, g2, g3, g4, g5, g6]
def isCode : Jvm.Cond → Bool
  | .code _ _ _ _ => true
  | _ => false
theorem all_split {L : List Jvm.Cond} {P : Jvm.Cond → Bool} (h1 : L.all (fun c => isCode c || P c) = true) (h2 : ∀ c ∈ L.filter isCode, P c = true) : L.all P = true := by
  refine List.all_eq_true.mpr fun c hc => ?_
  have h := List.all_eq_true.mp h1 c hc
  rcases Bool.eq_false_or_eq_true (isCode c) with hi | hi
  · exact h2 c (List.mem_filter.mpr ⟨hc, hi⟩)
  · simpa [hi] using h
set_option maxRecDepth 65536 in
theorem w_c0 : (Jvm.Cond.code x code maxLocals ret).before args0 about1 = true := code_word (m := ⟨1, 5⟩) (meth := k1m5) (c := k1c5) (by decide +kernel) rfl rfl rfl (by decide +kernel)
set_option maxRecDepth 65536 in
theorem w_c1 : (Jvm.Cond.code ({ cls := "com/example/bleeper/bleeper/cli/ArgumentsAsksForHelpPinLaw", name := "pick", desc := "(IIIJ)C" } : Jvm.MethodName) method_4_code (6 : Nat) (Option.some Jvm.ClassFile.FieldType.char)).before args0 about1 = true := code_word (m := ⟨1, 3⟩) (meth := k1m3) (c := k1c3) (by decide +kernel) rfl rfl rfl (by decide +kernel)
set_option maxRecDepth 65536 in
theorem w_c2 : (Jvm.Cond.code ({ cls := "com/example/bleeper/bleeper/cli/ArgumentsAsksForHelpPinLaw", name := "templ", desc := "(II)I" } : Jvm.MethodName) method_3_code (2 : Nat) (Option.some Jvm.ClassFile.FieldType.int)).before args0 about1 = true := code_word (m := ⟨1, 2⟩) (meth := k1m2) (c := k1c2) (by decide +kernel) rfl rfl rfl (by decide +kernel)
set_option maxRecDepth 65536 in
theorem w_c3 : (Jvm.Cond.code ({ cls := "com/example/bleeper/bleeper/cli/ArgumentsAsksForHelpPinLaw", name := "draw", desc := "(J)C" } : Jvm.MethodName) method_2_code (4 : Nat) (Option.some Jvm.ClassFile.FieldType.char)).before args0 about1 = true := code_word (m := ⟨1, 1⟩) (meth := k1m1) (c := k1c1) (by decide +kernel) rfl rfl rfl (by decide +kernel)
set_option maxRecDepth 65536 in
theorem w_c4 : (Jvm.Cond.code ({ cls := "com/example/bleeper/bleeper/cli/ArgumentsAsksForHelpPinLaw", name := "make", desc := "(ICCCCCCC)Ljava/lang/String;" } : Jvm.MethodName) method_5_code (8 : Nat) (Option.some (Jvm.ClassFile.FieldType.object "java/lang/String"))).before args0 about1 = true := code_word (m := ⟨1, 4⟩) (meth := k1m4) (c := k1c4) (by decide +kernel) rfl rfl rfl (by decide +kernel)
set_option maxRecDepth 65536 in
theorem w_c5 : (Jvm.Cond.code ({ cls := "java/lang/String", name := "<init>", desc := "([C)V" } : Jvm.MethodName) jdk_42_method_3_code (2 : Nat) (Option.none : Option Jvm.ClassFile.FieldType)).before args0 about1 = true := code_word (m := ⟨7, 1⟩) (meth := k7m1) (c := k7c1) (by decide +kernel) rfl rfl rfl (by decide +kernel)
set_option maxRecDepth 65536 in
theorem w_c6 : (Jvm.Cond.code ({ cls := "java/lang/String", name := "<init>", desc := "([CIILjava/lang/Void;)V" } : Jvm.MethodName) jdk_42_method_149_code (6 : Nat) (Option.none : Option Jvm.ClassFile.FieldType)).before args0 about1 = true := code_word (m := ⟨7, 3⟩) (meth := k7m3) (c := k7c3) (by decide +kernel) rfl rfl rfl (by decide +kernel)
set_option maxRecDepth 65536 in
theorem w_c7 : (Jvm.Cond.code ({ cls := "java/lang/Object", name := "<init>", desc := "()V" } : Jvm.MethodName) object_method_1_code (1 : Nat) (Option.none : Option Jvm.ClassFile.FieldType)).before args0 about1 = true := code_word (m := ⟨0, 0⟩) (meth := k0m0) (c := k0c0) (by decide +kernel) rfl rfl rfl (by decide +kernel)
set_option maxRecDepth 65536 in
theorem w_c8 : (Jvm.Cond.code ({ cls := "com/example/bleeper/bleeper/cli/Arguments", name := "asksForHelp", desc := "(Ljava/lang/String;)Z" } : Jvm.MethodName) prog_41_method_3_code (1 : Nat) (Option.some Jvm.ClassFile.FieldType.boolean)).before args0 about1 = true := code_word (m := ⟨8, 0⟩) (meth := k8m0) (c := k8c0) (by decide +kernel) rfl rfl rfl (by decide +kernel)
set_option maxRecDepth 65536 in
theorem w_c9 : (Jvm.Cond.code ({ cls := "java/lang/String", name := "equals", desc := "(Ljava/lang/Object;)Z" } : Jvm.MethodName) jdk_42_method_66_code (3 : Nat) (Option.some Jvm.ClassFile.FieldType.boolean)).before args0 about1 = true := code_word (m := ⟨7, 2⟩) (meth := k7m2) (c := k7c2) (by decide +kernel) rfl rfl rfl (by decide +kernel)
set_option maxRecDepth 65536 in
theorem w_c10 : (Jvm.Cond.code ({ cls := "java/lang/StringLatin1", name := "equals", desc := "([B[B)Z" } : Jvm.MethodName) jdk_43_method_13_code (3 : Nat) (Option.some Jvm.ClassFile.FieldType.boolean)).before args0 about1 = true := code_word (m := ⟨9, 1⟩) (meth := k9m1) (c := k9c1) (by decide +kernel) rfl rfl rfl (by decide +kernel)
set_option maxRecDepth 65536 in
theorem w_c11 : (Jvm.Cond.code ({ cls := "java/lang/StringUTF16", name := "compress", desc := "([CII)[B" } : Jvm.MethodName) jdk_52_method_16_code (6 : Nat) (Option.some (Jvm.ClassFile.FieldType.array Jvm.ClassFile.FieldType.byte))).before args0 about1 = true := code_word (m := ⟨10, 2⟩) (meth := k10m2) (c := k10c2) (by decide +kernel) rfl rfl rfl (by decide +kernel)
set_option maxRecDepth 65536 in
theorem w_c12 : (Jvm.Cond.code ({ cls := "java/lang/StringUTF16", name := "compress", desc := "([CI[BII)I" } : Jvm.MethodName) jdk_52_method_21_code (7 : Nat) (Option.some Jvm.ClassFile.FieldType.int)).before args0 about1 = true := code_word (m := ⟨10, 3⟩) (meth := k10m3) (c := k10c3) (by decide +kernel) rfl rfl rfl (by decide +kernel)
set_option maxRecDepth 65536 in
theorem w_c13 : (Jvm.Cond.code ({ cls := "java/lang/StringUTF16", name := "coderFromArrayLen", desc := "([BI)B" } : Jvm.MethodName) jdk_52_method_15_code (2 : Nat) (Option.some Jvm.ClassFile.FieldType.byte)).before args0 about1 = true := code_word (m := ⟨10, 1⟩) (meth := k10m1) (c := k10c1) (by decide +kernel) rfl rfl rfl (by decide +kernel)
def codes1 : List Jvm.Cond := [Jvm.Cond.code x code maxLocals ret, Jvm.Cond.code ({ cls := "com/example/bleeper/bleeper/cli/ArgumentsAsksForHelpPinLaw", name := "pick", desc := "(IIIJ)C" } : Jvm.MethodName) method_4_code (6 : Nat) (Option.some Jvm.ClassFile.FieldType.char), Jvm.Cond.code ({ cls := "com/example/bleeper/bleeper/cli/ArgumentsAsksForHelpPinLaw", name := "templ", desc := "(II)I" } : Jvm.MethodName) method_3_code (2 : Nat) (Option.some Jvm.ClassFile.FieldType.int), Jvm.Cond.code ({ cls := "com/example/bleeper/bleeper/cli/ArgumentsAsksForHelpPinLaw", name := "draw", desc := "(J)C" } : Jvm.MethodName) method_2_code (4 : Nat) (Option.some Jvm.ClassFile.FieldType.char), Jvm.Cond.code ({ cls := "com/example/bleeper/bleeper/cli/ArgumentsAsksForHelpPinLaw", name := "make", desc := "(ICCCCCCC)Ljava/lang/String;" } : Jvm.MethodName) method_5_code (8 : Nat) (Option.some (Jvm.ClassFile.FieldType.object "java/lang/String")), Jvm.Cond.code ({ cls := "java/lang/String", name := "<init>", desc := "([C)V" } : Jvm.MethodName) jdk_42_method_3_code (2 : Nat) (Option.none : Option Jvm.ClassFile.FieldType), Jvm.Cond.code ({ cls := "java/lang/String", name := "<init>", desc := "([CIILjava/lang/Void;)V" } : Jvm.MethodName) jdk_42_method_149_code (6 : Nat) (Option.none : Option Jvm.ClassFile.FieldType), Jvm.Cond.code ({ cls := "java/lang/Object", name := "<init>", desc := "()V" } : Jvm.MethodName) object_method_1_code (1 : Nat) (Option.none : Option Jvm.ClassFile.FieldType), Jvm.Cond.code ({ cls := "com/example/bleeper/bleeper/cli/Arguments", name := "asksForHelp", desc := "(Ljava/lang/String;)Z" } : Jvm.MethodName) prog_41_method_3_code (1 : Nat) (Option.some Jvm.ClassFile.FieldType.boolean), Jvm.Cond.code ({ cls := "java/lang/String", name := "equals", desc := "(Ljava/lang/Object;)Z" } : Jvm.MethodName) jdk_42_method_66_code (3 : Nat) (Option.some Jvm.ClassFile.FieldType.boolean), Jvm.Cond.code ({ cls := "java/lang/StringLatin1", name := "equals", desc := "([B[B)Z" } : Jvm.MethodName) jdk_43_method_13_code (3 : Nat) (Option.some Jvm.ClassFile.FieldType.boolean), Jvm.Cond.code ({ cls := "java/lang/StringUTF16", name := "compress", desc := "([CII)[B" } : Jvm.MethodName) jdk_52_method_16_code (6 : Nat) (Option.some (Jvm.ClassFile.FieldType.array Jvm.ClassFile.FieldType.byte)), Jvm.Cond.code ({ cls := "java/lang/StringUTF16", name := "compress", desc := "([CI[BII)I" } : Jvm.MethodName) jdk_52_method_21_code (7 : Nat) (Option.some Jvm.ClassFile.FieldType.int), Jvm.Cond.code ({ cls := "java/lang/StringUTF16", name := "coderFromArrayLen", desc := "([BI)B" } : Jvm.MethodName) jdk_52_method_15_code (2 : Nat) (Option.some Jvm.ClassFile.FieldType.byte)]
set_option maxRecDepth 65536 in
theorem codes_eq : words1.filter isCode = codes1 := rfl
theorem w_codes : ∀ c ∈ words1.filter isCode, c.before args0 about1 = true := by
  rw [codes_eq]
  intro c hc
  simp only [codes1, List.mem_cons, List.not_mem_nil, or_false] at hc
  rcases hc with rfl | rfl | rfl | rfl | rfl | rfl | rfl | rfl | rfl | rfl | rfl | rfl | rfl | rfl
  · exact w_c0
  · exact w_c1
  · exact w_c2
  · exact w_c3
  · exact w_c4
  · exact w_c5
  · exact w_c6
  · exact w_c7
  · exact w_c8
  · exact w_c9
  · exact w_c10
  · exact w_c11
  · exact w_c12
  · exact w_c13
set_option maxRecDepth 65536 in
theorem w_t1 : (words1.take 24).all (fun c => isCode c || c.before args0 about1) = true := by decide +kernel
set_option maxRecDepth 65536 in
theorem w_t2 : ((words1.drop 24).take 24).all (fun c => isCode c || c.before args0 about1) = true := by decide +kernel
set_option maxRecDepth 65536 in
theorem w_t3 : ((words1.drop 24).drop 24).all (fun c => isCode c || c.before args0 about1) = true := by decide +kernel
theorem w_tables : (allAtoms (Jvm.Cond.code x code maxLocals ret :: tables_1)).before args0 about1 = true := by
  rw [allAtoms_all]
  show words1.all (fun c => c.before args0 about1) = true
  refine all_split ?_ w_codes
  rw [← List.take_append_drop 24 words1, List.all_append, w_t1, ← List.take_append_drop 24 (words1.drop 24), List.all_append, w_t2, w_t3]
  rfl
set_option maxRecDepth 65536 in
theorem w_rest : rest_1_c.before args0 about1 = true := by decide +kernel
set_option maxRecDepth 65536 in
theorem w_case : (Jvm.Cond.and given_1 narrow_1).before args0 about1 = true := by decide +kernel
set_option maxRecDepth 65536 in
theorem w_consts : constsHeld consts_1 about1 := Jvm.Lit.constsHeldB_iff.mp (by decide +kernel)
theorem w_applies : (headSpec (Jvm.Cond.code x code maxLocals ret :: tables_1) room_1).applies x e0.platform about1 = true :=
  (Spec.applies_iff w_frames).mpr ⟨w_running, w_runnable, w_alone, w_named, w_hears, w_ripe, w_room, w_tables⟩
theorem atStart : AtStart classFile x code maxLocals ret World_1 tables_1 room_1 Calls_1 rest_1 Pre_1 launch0 p0 e0 about1 theMethod args0 below0 :=
  ⟨lists_1, trivial, launch0.admits_env _ _ _, launch0.least_env, fairChoices_fair.cas, fairChoices_fair.clock, w_frames, w_args, w_heap, w_applies, ⟨w_consts, trivial⟩, w_rest, w_case⟩
end start1
theorem witness_1 : WitnessClaimed_1 := ⟨start1.p0, start1.e0, start1.about1, start1.theMethod, start1.args0, start1.below0, start1.atStart⟩
end Jvm.Pilot.@@N@@
