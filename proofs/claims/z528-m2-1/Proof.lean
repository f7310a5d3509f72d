import JvmDerived
import JvmDerived.Pilot.@@N@@Statement
import JvmDerived.Pilot.@@N@@Code
set_option linter.unusedVariables false
set_option linter.unusedSimpArgs false
namespace Jvm.Pilot.@@N@@
open Jvm Jvm.ClassFile Sem Op Lib Jvm.Free Jvm.Stand Jvm.LawKit Jvm.RoadKit Bundle Jvm.Pilot.@@N@@.Jvm.D
/-! ## The walk goes forward from its goal: own_W says that the run from here ends as Q asks. -/
def own_Post (s : State) (Q : Option Value → Heap → List Loc → Prop) (kc ks : Nat) (o : Outcome) (s₂ : State) : Prop := ∃ v L, o = .returned v ∧ Q v s₂.heap L ∧ FrameEnd s o s₂ L kc ks
def own_Fin (p : Program) (e : Env) (below : List Frame) (P : Outcome → State → Prop) (A : State) : Prop :=
  ∃ s₂ o, Steps p.tables e below A s₂ ∧ s₂.status = .running ∧ Ended s₂ below o ∧ P o s₂
def own_W (p : Program) (e : Env) (below : List Frame) (P : Outcome → State → Prop) (T : State) (m : MethodId) (pc : Nat) (Ls : Array Slot) (S : List Value) : Prop :=
  own_Fin p e below P (T.setTop (mkF m pc Ls S))
theorem own_w {Z : State} {a0 : Array Value} (hw : ∀ d ∈ tables_1, d.before a0 Z = true) (i : Nat) {d : Jvm.Cond} (h : tables_1[i]? = some d) : d.before a0 Z = true := hw d (List.mem_of_getElem? h)
section OwnKit
variable {p : Program} {l : Launch} {e : Env} {R : Room} {s : State} {m : MethodId} {args : Array Value} {below : List Frame} {meth : Method} {c : Code} {T : State} {locs : List Loc} {cells slots : Nat} {Z : State} {a0 : Array Value} {h : Heap}
  {P : Outcome → State → Prop} {Q : Option Value → Heap → List Loc → Prop} {kc ks : Nat} {pc pc' : Nat} {Ls Ls' : Array Slot} {S : List Value}
theorem own_go {A B : State} (st : ∀ t, Steps p.tables e below B t → Steps p.tables e below A t) (K : own_Fin p e below P B) : own_Fin p e below P A :=
  let ⟨s₂, o, h1, r⟩ := K; ⟨s₂, o, st _ h1, r⟩
theorem own_enter {ml : Nat} (q : entryFrame m args ml = mkF m 0 Ls []) (K : own_W p e below (own_Post s Q kc ks) T m 0 Ls []) :
    ∃ s₂ o, Steps p.tables e below (T.setTop (entryFrame m args ml)) s₂ ∧ s₂.status = .running ∧ Ended s₂ below o ∧ ∃ v L, o = .returned v ∧ Q v s₂.heap L ∧ FrameEnd s o s₂ L kc ks := by
  rw [q]; exact K
theorem own_iloadN (X : Stand p l e R s m args below meth c T locs cells slots) (hx : p.tables.exec = Jvm.exec) {k : Fin 4} {v : Int32} (hd : decode c.code pc = .ok (.iload_n k, 1)) (hp : pc + 1 = pc') (hl : Ls[k.val]? = some (.val (.int v))) (K : own_W p e below P T m pc' Ls (.int v :: S)) : own_W p e below P T m pc Ls S := by
  subst hp; exact own_go (fun t => XS.iloadN (g := mkF m pc Ls S) X.here hx rfl hd hl) K
theorem own_iload (X : Stand p l e R s m args below meth c T locs cells slots) (hx : p.tables.exec = Jvm.exec) {k : Nat} {v : Int32} (hd : decode c.code pc = .ok (.iload k, 2)) (hp : pc + 2 = pc') (hl : Ls[k]? = some (.val (.int v))) (K : own_W p e below P T m pc' Ls (.int v :: S)) : own_W p e below P T m pc Ls S := by
  subst hp; exact own_go (fun t => XS.iload (g := mkF m pc Ls S) X.here hx rfl hd hl) K
theorem own_lloadN (X : Stand p l e R s m args below meth c T locs cells slots) (hx : p.tables.exec = Jvm.exec) {k : Fin 4} {v : Int64} (hd : decode c.code pc = .ok (.lload_n k, 1)) (hp : pc + 1 = pc') (hl : Ls[k.val]? = some (.val (.long v))) (K : own_W p e below P T m pc' Ls (.long v :: S)) : own_W p e below P T m pc Ls S := by
  subst hp; exact own_go (fun t => XT.lloadN (g := mkF m pc Ls S) X.here hx rfl hd hl) K
theorem own_lload (X : Stand p l e R s m args below meth c T locs cells slots) (hx : p.tables.exec = Jvm.exec) {k : Nat} {v : Int64} (hd : decode c.code pc = .ok (.lload k, 2)) (hp : pc + 2 = pc') (hl : Ls[k]? = some (.val (.long v))) (K : own_W p e below P T m pc' Ls (.long v :: S)) : own_W p e below P T m pc Ls S := by
  subst hp; exact own_go (fun t => XT.lload (g := mkF m pc Ls S) X.here hx rfl hd hl) K
theorem own_aloadN (X : Stand p l e R s m args below meth c T locs cells slots) (hx : p.tables.exec = Jvm.exec) {k : Fin 4} {v : Value} (hd : decode c.code pc = .ok (.aload_n k, 1)) (hp : pc + 1 = pc') (hl : Ls[k.val]? = some (.val v)) (hv : v.isRef = true) (K : own_W p e below P T m pc' Ls (v :: S)) : own_W p e below P T m pc Ls S := by
  subst hp; exact own_go (fun t => XS.aloadN (g := mkF m pc Ls S) X.here hx rfl hd hl hv) K
theorem own_aload (X : Stand p l e R s m args below meth c T locs cells slots) (hx : p.tables.exec = Jvm.exec) {k : Nat} {v : Value} (hd : decode c.code pc = .ok (.aload k, 2)) (hp : pc + 2 = pc') (hl : Ls[k]? = some (.val v)) (hv : v.isRef = true) (K : own_W p e below P T m pc' Ls (v :: S)) : own_W p e below P T m pc Ls S := by
  subst hp; exact own_go (fun t => XS.aload (g := mkF m pc Ls S) X.here hx rfl hd hl hv) K
theorem own_istoreN (X : Stand p l e R s m args below meth c T locs cells slots) (hx : p.tables.exec = Jvm.exec) {k : Fin 4} {v : Int32} (hd : decode c.code pc = .ok (.istore_n k, 1)) (hp : pc + 1 = pc') (hl : storeLocals Ls k.val (.int v) = some Ls') (K : own_W p e below P T m pc' Ls' S) : own_W p e below P T m pc Ls (.int v :: S) := by
  subst hp; exact own_go (fun t => XS.istoreN (g := mkF m pc Ls (.int v :: S)) X.here hx rfl hd rfl hl) K
theorem own_istore (X : Stand p l e R s m args below meth c T locs cells slots) (hx : p.tables.exec = Jvm.exec) {k : Nat} {v : Int32} (hd : decode c.code pc = .ok (.istore k, 2)) (hp : pc + 2 = pc') (hl : storeLocals Ls k (.int v) = some Ls') (K : own_W p e below P T m pc' Ls' S) : own_W p e below P T m pc Ls (.int v :: S) := by
  subst hp; exact own_go (fun t => XS.istore (g := mkF m pc Ls (.int v :: S)) X.here hx rfl hd rfl hl) K
theorem own_lstoreN (X : Stand p l e R s m args below meth c T locs cells slots) (hx : p.tables.exec = Jvm.exec) {k : Fin 4} {v : Int64} (hd : decode c.code pc = .ok (.lstore_n k, 1)) (hp : pc + 1 = pc') (hl : storeLocals Ls k.val (.long v) = some Ls') (K : own_W p e below P T m pc' Ls' S) : own_W p e below P T m pc Ls (.long v :: S) := by
  subst hp; exact own_go (fun t => XT.lstoreN (g := mkF m pc Ls (.long v :: S)) X.here hx rfl hd rfl hl) K
theorem own_lstore (X : Stand p l e R s m args below meth c T locs cells slots) (hx : p.tables.exec = Jvm.exec) {k : Nat} {v : Int64} (hd : decode c.code pc = .ok (.lstore k, 2)) (hp : pc + 2 = pc') (hl : storeLocals Ls k (.long v) = some Ls') (K : own_W p e below P T m pc' Ls' S) : own_W p e below P T m pc Ls (.long v :: S) := by
  subst hp; exact own_go (fun t => XT.lstore (g := mkF m pc Ls (.long v :: S)) X.here hx rfl hd rfl hl) K
theorem own_astoreN (X : Stand p l e R s m args below meth c T locs cells slots) (hx : p.tables.exec = Jvm.exec) {k : Fin 4} {v : Value} (hd : decode c.code pc = .ok (.astore_n k, 1)) (hp : pc + 1 = pc') (hv : v.isRef = true) (hl : storeLocals Ls k.val v = some Ls') (K : own_W p e below P T m pc' Ls' S) : own_W p e below P T m pc Ls (v :: S) := by
  subst hp; exact own_go (fun t => XS.astoreN (g := mkF m pc Ls (v :: S)) X.here hx rfl hd rfl hv hl) K
theorem own_astore (X : Stand p l e R s m args below meth c T locs cells slots) (hx : p.tables.exec = Jvm.exec) {k : Nat} {v : Value} (hd : decode c.code pc = .ok (.astore k, 2)) (hp : pc + 2 = pc') (hv : v.isRef = true) (hl : storeLocals Ls k v = some Ls') (K : own_W p e below P T m pc' Ls' S) : own_W p e below P T m pc Ls (v :: S) := by
  subst hp; exact own_go (fun t => XS.astore (g := mkF m pc Ls (v :: S)) X.here hx rfl hd rfl hv hl) K
theorem own_iconst (X : Stand p l e R s m args below meth c T locs cells slots) (hx : p.tables.exec = Jvm.exec) {i : Int} (v : Int32) (hd : decode c.code pc = .ok (.iconst i, 1)) (hp : pc + 1 = pc') (hv : Int32.ofInt i = v) (K : own_W p e below P T m pc' Ls (.int v :: S)) : own_W p e below P T m pc Ls S := by
  subst hp hv; exact own_go (fun t => XS.iconst (g := mkF m pc Ls S) X.here hx rfl hd) K
theorem own_bipush (X : Stand p l e R s m args below meth c T locs cells slots) (hx : p.tables.exec = Jvm.exec) {i : Int} (v : Int32) (hd : decode c.code pc = .ok (.bipush i, 2)) (hp : pc + 2 = pc') (hv : (Int8.ofInt i).toInt32 = v) (K : own_W p e below P T m pc' Ls (.int v :: S)) : own_W p e below P T m pc Ls S := by
  subst hp; exact own_go (fun t => XT.bipushV (g := mkF m pc Ls S) X.here hx rfl v hd hv) K
theorem own_sipush (X : Stand p l e R s m args below meth c T locs cells slots) (hx : p.tables.exec = Jvm.exec) {i : Int} (v : Int32) (hd : decode c.code pc = .ok (.sipush i, 3)) (hp : pc + 3 = pc') (hv : (Int16.ofInt i).toInt32 = v) (K : own_W p e below P T m pc' Ls (.int v :: S)) : own_W p e below P T m pc Ls S := by
  subst hp; exact own_go (fun t => XT.sipushV (g := mkF m pc Ls S) X.here hx rfl v hd hv) K
theorem own_lconst (X : Stand p l e R s m args below meth c T locs cells slots) (hx : p.tables.exec = Jvm.exec) {k : Fin 2} (v : Int64) (hd : decode c.code pc = .ok (.lconst k, 1)) (hp : pc + 1 = pc') (hv : Int64.ofNat k = v) (K : own_W p e below P T m pc' Ls (.long v :: S)) : own_W p e below P T m pc Ls S := by
  subst hp; exact own_go (fun t => XT.lconstV (g := mkF m pc Ls S) X.here hx rfl v hd hv) K
theorem own_aconst_null (X : Stand p l e R s m args below meth c T locs cells slots) (hx : p.tables.exec = Jvm.exec) (hd : decode c.code pc = .ok (.aconst_null, 1)) (hp : pc + 1 = pc') (K : own_W p e below P T m pc' Ls (.null :: S)) : own_W p e below P T m pc Ls S := by
  subst hp; exact own_go (fun t => XS.aconstNull (g := mkF m pc Ls S) X.here hx rfl hd) K
theorem own_ldc (X : Stand p l e R s m args below meth c T locs cells slots) (hx : p.tables.exec = Jvm.exec) (hZ : Z.Warmed39 s.vm) {own : String} {index : Nat} {v : Int32} (hown : s.vm.findClass own = some m.cls) (w : (Cond.constant own index v).before a0 Z = true) (hd : decode c.code pc = .ok (.ldc index, 2)) (hp : pc + 2 = pc') (K : own_W p e below P T m pc' Ls (.int v :: S)) : own_W p e below P T m pc Ls S := by
  subst hp; exact own_go (fun t => X.ldcI (g := mkF m pc Ls S) hx hown (mvT hZ w) rfl hd) K
theorem own_ldc2 (X : Stand p l e R s m args below meth c T locs cells slots) (hx : p.tables.exec = Jvm.exec) (hZ : Z.Warmed39 s.vm) {own : String} {index : Nat} {v : Int64} (hown : s.vm.findClass own = some m.cls) (w : (Cond.constantLong own index v).before a0 Z = true) (hd : decode c.code pc = .ok (.ldc2_w index, 3)) (hp : pc + 3 = pc') (K : own_W p e below P T m pc' Ls (.long v :: S)) : own_W p e below P T m pc Ls S := by
  subst hp; exact own_go (fun t => X.ldc2J (g := mkF m pc Ls S) hx hown (mvT hZ w) rfl hd) K
theorem own_iadd (X : Stand p l e R s m args below meth c T locs cells slots) (hx : p.tables.exec = Jvm.exec) {x y : Int32} (hd : decode c.code pc = .ok (.iadd, 1)) (hp : pc + 1 = pc') (K : own_W p e below P T m pc' Ls (.int (x + y) :: S)) : own_W p e below P T m pc Ls (.int y :: .int x :: S) := by
  subst hp; exact own_go (fun t => XS.iadd (g := mkF m pc Ls (.int y :: .int x :: S)) X.here hx rfl hd rfl) K
theorem own_isub (X : Stand p l e R s m args below meth c T locs cells slots) (hx : p.tables.exec = Jvm.exec) {x y : Int32} (hd : decode c.code pc = .ok (.isub, 1)) (hp : pc + 1 = pc') (K : own_W p e below P T m pc' Ls (.int (x - y) :: S)) : own_W p e below P T m pc Ls (.int y :: .int x :: S) := by
  subst hp; exact own_go (fun t => XS.isub (g := mkF m pc Ls (.int y :: .int x :: S)) X.here hx rfl hd rfl) K
theorem own_imul (X : Stand p l e R s m args below meth c T locs cells slots) (hx : p.tables.exec = Jvm.exec) {x y : Int32} (hd : decode c.code pc = .ok (.imul, 1)) (hp : pc + 1 = pc') (K : own_W p e below P T m pc' Ls (.int (x * y) :: S)) : own_W p e below P T m pc Ls (.int y :: .int x :: S) := by
  subst hp; exact own_go (fun t => XS.imul (g := mkF m pc Ls (.int y :: .int x :: S)) X.here hx rfl hd rfl) K
theorem own_iand (X : Stand p l e R s m args below meth c T locs cells slots) (hx : p.tables.exec = Jvm.exec) {x y : Int32} (hd : decode c.code pc = .ok (.iand, 1)) (hp : pc + 1 = pc') (K : own_W p e below P T m pc' Ls (.int (x &&& y) :: S)) : own_W p e below P T m pc Ls (.int y :: .int x :: S) := by
  subst hp; exact own_go (fun t => XS.iand (g := mkF m pc Ls (.int y :: .int x :: S)) X.here hx rfl hd rfl) K
theorem own_ior (X : Stand p l e R s m args below meth c T locs cells slots) (hx : p.tables.exec = Jvm.exec) {x y : Int32} (hd : decode c.code pc = .ok (.ior, 1)) (hp : pc + 1 = pc') (K : own_W p e below P T m pc' Ls (.int (x ||| y) :: S)) : own_W p e below P T m pc Ls (.int y :: .int x :: S) := by
  subst hp; exact own_go (fun t => XT.ior (g := mkF m pc Ls (.int y :: .int x :: S)) X.here hx rfl hd rfl) K
theorem own_ixor (X : Stand p l e R s m args below meth c T locs cells slots) (hx : p.tables.exec = Jvm.exec) {x y : Int32} (hd : decode c.code pc = .ok (.ixor, 1)) (hp : pc + 1 = pc') (K : own_W p e below P T m pc' Ls (.int (x ^^^ y) :: S)) : own_W p e below P T m pc Ls (.int y :: .int x :: S) := by
  subst hp; exact own_go (fun t => XT.ixor (g := mkF m pc Ls (.int y :: .int x :: S)) X.here hx rfl hd rfl) K
theorem own_ishl (X : Stand p l e R s m args below meth c T locs cells slots) (hx : p.tables.exec = Jvm.exec) {x y : Int32} (hd : decode c.code pc = .ok (.ishl, 1)) (hp : pc + 1 = pc') (K : own_W p e below P T m pc' Ls (.int (x <<< (y &&& 31)) :: S)) : own_W p e below P T m pc Ls (.int y :: .int x :: S) := by
  subst hp; exact own_go (fun t => XT.ishl (g := mkF m pc Ls (.int y :: .int x :: S)) X.here hx rfl hd rfl) K
theorem own_ishr (X : Stand p l e R s m args below meth c T locs cells slots) (hx : p.tables.exec = Jvm.exec) {x y : Int32} (hd : decode c.code pc = .ok (.ishr, 1)) (hp : pc + 1 = pc') (K : own_W p e below P T m pc' Ls (.int (x >>> (y &&& 31)) :: S)) : own_W p e below P T m pc Ls (.int y :: .int x :: S) := by
  subst hp; exact own_go (fun t => XT.ishr (g := mkF m pc Ls (.int y :: .int x :: S)) X.here hx rfl hd rfl) K
theorem own_iushr (X : Stand p l e R s m args below meth c T locs cells slots) (hx : p.tables.exec = Jvm.exec) {x y : Int32} (hd : decode c.code pc = .ok (.iushr, 1)) (hp : pc + 1 = pc') (K : own_W p e below P T m pc' Ls (.int (XT.ushr x y) :: S)) : own_W p e below P T m pc Ls (.int y :: .int x :: S) := by
  subst hp; exact own_go (fun t => XT.iushr (g := mkF m pc Ls (.int y :: .int x :: S)) X.here hx rfl hd rfl) K
theorem own_ladd (X : Stand p l e R s m args below meth c T locs cells slots) (hx : p.tables.exec = Jvm.exec) {x y : Int64} (hd : decode c.code pc = .ok (.ladd, 1)) (hp : pc + 1 = pc') (K : own_W p e below P T m pc' Ls (.long (x + y) :: S)) : own_W p e below P T m pc Ls (.long y :: .long x :: S) := by
  subst hp; exact own_go (fun t => XT.ladd (g := mkF m pc Ls (.long y :: .long x :: S)) X.here hx rfl hd rfl) K
theorem own_lsub (X : Stand p l e R s m args below meth c T locs cells slots) (hx : p.tables.exec = Jvm.exec) {x y : Int64} (hd : decode c.code pc = .ok (.lsub, 1)) (hp : pc + 1 = pc') (K : own_W p e below P T m pc' Ls (.long (x - y) :: S)) : own_W p e below P T m pc Ls (.long y :: .long x :: S) := by
  subst hp; exact own_go (fun t => XT.lsub (g := mkF m pc Ls (.long y :: .long x :: S)) X.here hx rfl hd rfl) K
theorem own_lmul (X : Stand p l e R s m args below meth c T locs cells slots) (hx : p.tables.exec = Jvm.exec) {x y : Int64} (hd : decode c.code pc = .ok (.lmul, 1)) (hp : pc + 1 = pc') (K : own_W p e below P T m pc' Ls (.long (x * y) :: S)) : own_W p e below P T m pc Ls (.long y :: .long x :: S) := by
  subst hp; exact own_go (fun t => XT.lmul (g := mkF m pc Ls (.long y :: .long x :: S)) X.here hx rfl hd rfl) K
theorem own_land (X : Stand p l e R s m args below meth c T locs cells slots) (hx : p.tables.exec = Jvm.exec) {x y : Int64} (hd : decode c.code pc = .ok (.land, 1)) (hp : pc + 1 = pc') (K : own_W p e below P T m pc' Ls (.long (x &&& y) :: S)) : own_W p e below P T m pc Ls (.long y :: .long x :: S) := by
  subst hp; exact own_go (fun t => XT.land (g := mkF m pc Ls (.long y :: .long x :: S)) X.here hx rfl hd rfl) K
theorem own_lor (X : Stand p l e R s m args below meth c T locs cells slots) (hx : p.tables.exec = Jvm.exec) {x y : Int64} (hd : decode c.code pc = .ok (.lor, 1)) (hp : pc + 1 = pc') (K : own_W p e below P T m pc' Ls (.long (x ||| y) :: S)) : own_W p e below P T m pc Ls (.long y :: .long x :: S) := by
  subst hp; exact own_go (fun t => XT.lor (g := mkF m pc Ls (.long y :: .long x :: S)) X.here hx rfl hd rfl) K
theorem own_lxor (X : Stand p l e R s m args below meth c T locs cells slots) (hx : p.tables.exec = Jvm.exec) {x y : Int64} (hd : decode c.code pc = .ok (.lxor, 1)) (hp : pc + 1 = pc') (K : own_W p e below P T m pc' Ls (.long (x ^^^ y) :: S)) : own_W p e below P T m pc Ls (.long y :: .long x :: S) := by
  subst hp; exact own_go (fun t => XT.lxor (g := mkF m pc Ls (.long y :: .long x :: S)) X.here hx rfl hd rfl) K
theorem own_lshl (X : Stand p l e R s m args below meth c T locs cells slots) (hx : p.tables.exec = Jvm.exec) {x : Int64} {y : Int32} (hd : decode c.code pc = .ok (.lshl, 1)) (hp : pc + 1 = pc') (K : own_W p e below P T m pc' Ls (.long (x <<< (y.toInt64 &&& 63)) :: S)) : own_W p e below P T m pc Ls (.int y :: .long x :: S) := by
  subst hp; exact own_go (fun t => XT.lshl (g := mkF m pc Ls (.int y :: .long x :: S)) X.here hx rfl hd rfl) K
theorem own_lshr (X : Stand p l e R s m args below meth c T locs cells slots) (hx : p.tables.exec = Jvm.exec) {x : Int64} {y : Int32} (hd : decode c.code pc = .ok (.lshr, 1)) (hp : pc + 1 = pc') (K : own_W p e below P T m pc' Ls (.long (x >>> (y.toInt64 &&& 63)) :: S)) : own_W p e below P T m pc Ls (.int y :: .long x :: S) := by
  subst hp; exact own_go (fun t => XT.lshr (g := mkF m pc Ls (.int y :: .long x :: S)) X.here hx rfl hd rfl) K
theorem own_lushr (X : Stand p l e R s m args below meth c T locs cells slots) (hx : p.tables.exec = Jvm.exec) {x : Int64} {y : Int32} (hd : decode c.code pc = .ok (.lushr, 1)) (hp : pc + 1 = pc') (K : own_W p e below P T m pc' Ls (.long (XT.ushrL x y) :: S)) : own_W p e below P T m pc Ls (.int y :: .long x :: S) := by
  subst hp; exact own_go (fun t => XT.lushr (g := mkF m pc Ls (.int y :: .long x :: S)) X.here hx rfl hd rfl) K
theorem own_idiv (X : Stand p l e R s m args below meth c T locs cells slots) (hx : p.tables.exec = Jvm.exec) {x y : Int32} (hd : decode c.code pc = .ok (.idiv, 1)) (hp : pc + 1 = pc') (hy : y ≠ 0) (K : own_W p e below P T m pc' Ls (.int (x / y) :: S)) : own_W p e below P T m pc Ls (.int y :: .int x :: S) := by
  subst hp; exact own_go (fun t => XS.idiv (g := mkF m pc Ls (.int y :: .int x :: S)) X.here hx rfl hd rfl hy) K
theorem own_irem (X : Stand p l e R s m args below meth c T locs cells slots) (hx : p.tables.exec = Jvm.exec) {x y : Int32} (hd : decode c.code pc = .ok (.irem, 1)) (hp : pc + 1 = pc') (hy : y ≠ 0) (K : own_W p e below P T m pc' Ls (.int (x % y) :: S)) : own_W p e below P T m pc Ls (.int y :: .int x :: S) := by
  subst hp; exact own_go (fun t => iremM (g := mkF m pc Ls (.int y :: .int x :: S)) X hx rfl hd rfl hy) K
theorem own_ldiv (X : Stand p l e R s m args below meth c T locs cells slots) (hx : p.tables.exec = Jvm.exec) {x y : Int64} (hd : decode c.code pc = .ok (.ldiv, 1)) (hp : pc + 1 = pc') (hy : y ≠ 0) (K : own_W p e below P T m pc' Ls (.long (x / y) :: S)) : own_W p e below P T m pc Ls (.long y :: .long x :: S) := by
  subst hp; exact own_go (fun t => XT.ldiv (g := mkF m pc Ls (.long y :: .long x :: S)) X.here hx rfl hd rfl hy) K
theorem own_lrem (X : Stand p l e R s m args below meth c T locs cells slots) (hx : p.tables.exec = Jvm.exec) {x y : Int64} (hd : decode c.code pc = .ok (.lrem, 1)) (hp : pc + 1 = pc') (hy : y ≠ 0) (K : own_W p e below P T m pc' Ls (.long (x % y) :: S)) : own_W p e below P T m pc Ls (.long y :: .long x :: S) := by
  subst hp; rw [← lrem_mod] at K; exact own_go (fun t => XT.lrem (g := mkF m pc Ls (.long y :: .long x :: S)) X.here hx rfl hd rfl hy) K
theorem own_ineg (X : Stand p l e R s m args below meth c T locs cells slots) (hx : p.tables.exec = Jvm.exec) {x : Int32} (hd : decode c.code pc = .ok (.ineg, 1)) (hp : pc + 1 = pc') (K : own_W p e below P T m pc' Ls (.int (-x) :: S)) : own_W p e below P T m pc Ls (.int x :: S) := by
  subst hp; exact own_go (fun t => XS.ineg (g := mkF m pc Ls (.int x :: S)) X.here hx rfl hd rfl) K
theorem own_lneg (X : Stand p l e R s m args below meth c T locs cells slots) (hx : p.tables.exec = Jvm.exec) {x : Int64} (hd : decode c.code pc = .ok (.lneg, 1)) (hp : pc + 1 = pc') (K : own_W p e below P T m pc' Ls (.long (-x) :: S)) : own_W p e below P T m pc Ls (.long x :: S) := by
  subst hp; exact own_go (fun t => XT.lneg (g := mkF m pc Ls (.long x :: S)) X.here hx rfl hd rfl) K
theorem own_i2l (X : Stand p l e R s m args below meth c T locs cells slots) (hx : p.tables.exec = Jvm.exec) {x : Int32} (hd : decode c.code pc = .ok (.i2l, 1)) (hp : pc + 1 = pc') (K : own_W p e below P T m pc' Ls (.long (x.toInt64) :: S)) : own_W p e below P T m pc Ls (.int x :: S) := by
  subst hp; exact own_go (fun t => XT.i2l (g := mkF m pc Ls (.int x :: S)) X.here hx rfl hd rfl) K
theorem own_l2i (X : Stand p l e R s m args below meth c T locs cells slots) (hx : p.tables.exec = Jvm.exec) {x : Int64} (hd : decode c.code pc = .ok (.l2i, 1)) (hp : pc + 1 = pc') (K : own_W p e below P T m pc' Ls (.int (x.toInt32) :: S)) : own_W p e below P T m pc Ls (.long x :: S) := by
  subst hp; exact own_go (fun t => XT.l2i (g := mkF m pc Ls (.long x :: S)) X.here hx rfl hd rfl) K
theorem own_i2b (X : Stand p l e R s m args below meth c T locs cells slots) (hx : p.tables.exec = Jvm.exec) {x : Int32} (hd : decode c.code pc = .ok (.i2b, 1)) (hp : pc + 1 = pc') (K : own_W p e below P T m pc' Ls (.int (x.toInt8.toInt32) :: S)) : own_W p e below P T m pc Ls (.int x :: S) := by
  subst hp; exact own_go (fun t => XT.i2b (g := mkF m pc Ls (.int x :: S)) X.here hx rfl hd rfl) K
theorem own_i2c (X : Stand p l e R s m args below meth c T locs cells slots) (hx : p.tables.exec = Jvm.exec) {x : Int32} (hd : decode c.code pc = .ok (.i2c, 1)) (hp : pc + 1 = pc') (K : own_W p e below P T m pc' Ls (.int (x.toUInt32.toUInt16.toUInt32.toInt32) :: S)) : own_W p e below P T m pc Ls (.int x :: S) := by
  subst hp; exact own_go (fun t => XT.i2c (g := mkF m pc Ls (.int x :: S)) X.here hx rfl hd rfl) K
theorem own_i2s (X : Stand p l e R s m args below meth c T locs cells slots) (hx : p.tables.exec = Jvm.exec) {x : Int32} (hd : decode c.code pc = .ok (.i2s, 1)) (hp : pc + 1 = pc') (K : own_W p e below P T m pc' Ls (.int (x.toInt16.toInt32) :: S)) : own_W p e below P T m pc Ls (.int x :: S) := by
  subst hp; exact own_go (fun t => XT.i2s (g := mkF m pc Ls (.int x :: S)) X.here hx rfl hd rfl) K
theorem own_iinc (X : Stand p l e R s m args below meth c T locs cells slots) (hx : p.tables.exec = Jvm.exec) {k : Nat} {cst : Int} {x : Int32} (v : Int32) (hd : decode c.code pc = .ok (.iinc k cst, 3)) (hp : pc + 3 = pc') (hv : Int32.ofInt cst = v) (hl : Ls[k]? = some (.val (.int x))) (hl' : storeLocals Ls k (.int (x + v)) = some Ls') (K : own_W p e below P T m pc' Ls' S) : own_W p e below P T m pc Ls S := by
  subst hp; exact own_go (fun t => XT.iincV (g := mkF m pc Ls S) X.here hx rfl v hd hv hl hl') K
theorem own_dup (X : Stand p l e R s m args below meth c T locs cells slots) (hx : p.tables.exec = Jvm.exec) {x : Value} (hd : decode c.code pc = .ok (.dup, 1)) (hp : pc + 1 = pc') (hc : x.category = 1) (K : own_W p e below P T m pc' Ls (x :: x :: S)) : own_W p e below P T m pc Ls (x :: S) := by
  subst hp; exact own_go (fun t => XS.dup (g := mkF m pc Ls (x :: S)) X.here hx rfl hd rfl hc) K
theorem own_pop (X : Stand p l e R s m args below meth c T locs cells slots) (hx : p.tables.exec = Jvm.exec) {x : Value} (hd : decode c.code pc = .ok (.pop, 1)) (hp : pc + 1 = pc') (hc : x.category = 1) (K : own_W p e below P T m pc' Ls S) : own_W p e below P T m pc Ls (x :: S) := by
  subst hp; exact own_go (fun t => XT.pop (g := mkF m pc Ls (x :: S)) X.here hx rfl hd rfl hc) K
theorem own_dup2 (X : Stand p l e R s m args below meth c T locs cells slots) (hx : p.tables.exec = Jvm.exec) {x y : Value} (hd : decode c.code pc = .ok (.dup2, 1)) (hp : pc + 1 = pc') (hc : x.category = 1) (hc' : y.category = 1) (K : own_W p e below P T m pc' Ls (x :: y :: x :: y :: S)) : own_W p e below P T m pc Ls (x :: y :: S) := by
  subst hp; exact own_go (fun t => XT.dup2 (g := mkF m pc Ls (x :: y :: S)) X.here hx rfl hd rfl hc hc') K
theorem own_goto (X : Stand p l e R s m args below meth c T locs cells slots) (hx : p.tables.exec = Jvm.exec) {o : Int} (hd : decode c.code pc = .ok (.goto o, 3)) (ho : 0 ≤ (pc : Int) + o) (hp : ((pc : Int) + o).toNat = pc') (K : own_W p e below P T m pc' Ls S) : own_W p e below P T m pc Ls S :=
  own_go (fun t => XS.goto (g := mkF m pc Ls S) X.here hx rfl (pc0 := pc) (pc' := pc') rfl hd ho hp) K
/-- what a taken branch tells (own_P), what one that isn't taken tells (own_N) -/
def own_P : ClassFile.Cond → Int32 → Int32 → Prop
  | .eq, x, y => x = y
  | .ne, x, y => ¬ x = y
  | .lt, x, y => x < y
  | .ge, x, y => ¬ x < y
  | .gt, x, y => y < x
  | .le, x, y => ¬ y < x
def own_N : ClassFile.Cond → Int32 → Int32 → Prop
  | .eq, x, y => ¬ x = y
  | .ne, x, y => x = y
  | .lt, x, y => ¬ x < y
  | .ge, x, y => x < y
  | .gt, x, y => ¬ y < x
  | .le, x, y => y < x
theorem own_holdsT {cd : ClassFile.Cond} {x y : Int32} (q : own_P cd x y) : if_icmp.holds cd x y = true := by
  cases cd <;> first | exact (teq q).1 | exact (feq q).2 | exact (tlt q).1 | exact (flt q).2.1 | exact (tlt q).2.2.1 | exact (flt q).2.2.2
theorem own_holdsF {cd : ClassFile.Cond} {x y : Int32} (q : own_N cd x y) : if_icmp.holds cd x y = false := by
  cases cd <;> first | exact (feq q).1 | exact (teq q).2 | exact (flt q).1 | exact (tlt q).2.1 | exact (flt q).2.2.1 | exact (tlt q).2.2.2
theorem own_or (cd : ClassFile.Cond) (x y : Int32) : own_P cd x y ∨ own_N cd x y := by
  cases cd
  · exact Classical.em (x = y)
  · exact (Classical.em (x = y)).symm
  · exact Classical.em (x < y)
  · exact (Classical.em (x < y)).symm
  · exact Classical.em (y < x)
  · exact (Classical.em (y < x)).symm
theorem own_icmpY (X : Stand p l e R s m args below meth c T locs cells slots) (hx : p.tables.exec = Jvm.exec) {cd : ClassFile.Cond} {x y : Int32} {o : Int} (hd : decode c.code pc = .ok (.if_icmp cd o, 3)) (ho : 0 ≤ (pc : Int) + o) (hp : ((pc : Int) + o).toNat = pc') (q : own_P cd x y) (K : own_W p e below P T m pc' Ls S) : own_W p e below P T m pc Ls (.int y :: .int x :: S) :=
  own_go (fun t => XS.icmpYes (g := mkF m pc Ls (.int y :: .int x :: S)) X.here hx rfl (pc0 := pc) (pc' := pc') rfl hd rfl (own_holdsT q) ho hp) K
theorem own_icmpN (X : Stand p l e R s m args below meth c T locs cells slots) (hx : p.tables.exec = Jvm.exec) {cd : ClassFile.Cond} {x y : Int32} {o : Int} (hd : decode c.code pc = .ok (.if_icmp cd o, 3)) (hp : pc + 3 = pc') (q : own_N cd x y) (K : own_W p e below P T m pc' Ls S) : own_W p e below P T m pc Ls (.int y :: .int x :: S) := by
  subst hp; exact own_go (fun t => XS.icmpNo (g := mkF m pc Ls (.int y :: .int x :: S)) X.here hx rfl hd rfl (own_holdsF q)) K
theorem own_icmp (X : Stand p l e R s m args below meth c T locs cells slots) (hx : p.tables.exec = Jvm.exec) {cd : ClassFile.Cond} {x y : Int32} {o : Int} {pcY pcN : Nat} (hd : decode c.code pc = .ok (.if_icmp cd o, 3)) (ho : 0 ≤ (pc : Int) + o) (hY : ((pc : Int) + o).toNat = pcY) (hN : pc + 3 = pcN) (KY : own_P cd x y → own_W p e below P T m pcY Ls S) (KN : own_N cd x y → own_W p e below P T m pcN Ls S) : own_W p e below P T m pc Ls (.int y :: .int x :: S) :=
  (own_or cd x y).elim (fun q => own_icmpY X hx hd ho hY q (KY q)) (fun q => own_icmpN X hx hd hN q (KN q))
theorem own_ifY (X : Stand p l e R s m args below meth c T locs cells slots) (hx : p.tables.exec = Jvm.exec) {cd : ClassFile.Cond} {x : Int32} {o : Int} (hd : decode c.code pc = .ok (.ifCond cd o, 3)) (ho : 0 ≤ (pc : Int) + o) (hp : ((pc : Int) + o).toNat = pc') (q : own_P cd x 0) (K : own_W p e below P T m pc' Ls S) : own_W p e below P T m pc Ls (.int x :: S) :=
  own_go (fun t => XS.ifYes (g := mkF m pc Ls (.int x :: S)) X.here hx rfl (pc0 := pc) (pc' := pc') rfl hd rfl ((if0 _ _).trans (own_holdsT q)) ho hp) K
theorem own_ifN (X : Stand p l e R s m args below meth c T locs cells slots) (hx : p.tables.exec = Jvm.exec) {cd : ClassFile.Cond} {x : Int32} {o : Int} (hd : decode c.code pc = .ok (.ifCond cd o, 3)) (hp : pc + 3 = pc') (q : own_N cd x 0) (K : own_W p e below P T m pc' Ls S) : own_W p e below P T m pc Ls (.int x :: S) := by
  subst hp; exact own_go (fun t => XS.ifNo (g := mkF m pc Ls (.int x :: S)) X.here hx rfl hd rfl ((if0 _ _).trans (own_holdsF q))) K
theorem own_if (X : Stand p l e R s m args below meth c T locs cells slots) (hx : p.tables.exec = Jvm.exec) {cd : ClassFile.Cond} {x : Int32} {o : Int} {pcY pcN : Nat} (hd : decode c.code pc = .ok (.ifCond cd o, 3)) (ho : 0 ≤ (pc : Int) + o) (hY : ((pc : Int) + o).toNat = pcY) (hN : pc + 3 = pcN) (KY : own_P cd x 0 → own_W p e below P T m pcY Ls S) (KN : own_N cd x 0 → own_W p e below P T m pcN Ls S) : own_W p e below P T m pc Ls (.int x :: S) :=
  (own_or cd x 0).elim (fun q => own_ifY X hx hd ho hY q (KY q)) (fun q => own_ifN X hx hd hN q (KN q))
/-- the same of two longs: lcmp and the branch behind it, in one -/
def own_PL : ClassFile.Cond → Int64 → Int64 → Prop
  | .eq, x, y => x = y
  | .ne, x, y => ¬ x = y
  | .lt, x, y => x < y
  | .ge, x, y => ¬ x < y
  | .gt, x, y => y < x
  | .le, x, y => ¬ y < x
def own_NL : ClassFile.Cond → Int64 → Int64 → Prop
  | .eq, x, y => ¬ x = y
  | .ne, x, y => x = y
  | .lt, x, y => ¬ x < y
  | .ge, x, y => x < y
  | .gt, x, y => ¬ y < x
  | .le, x, y => y < x
theorem own_holdsLT {cd : ClassFile.Cond} {x y : Int64} (q : own_PL cd x y) : ifCond.holds cd (XT.cmpL x y) = true := by
  cases cd
  · exact XT.ll_eq_t q
  · exact XT.ll_ne_t q
  · exact XT.ll_lt_t q
  · exact XT.ll_ge_t q
  · exact XT.ll_gt_t q
  · exact XT.ll_le_t q
theorem own_holdsLF {cd : ClassFile.Cond} {x y : Int64} (q : own_NL cd x y) : ifCond.holds cd (XT.cmpL x y) = false := by
  cases cd
  · exact XT.ll_eq_f q
  · exact XT.ll_ne_f q
  · exact XT.ll_lt_f q
  · exact XT.ll_ge_f q
  · exact XT.ll_gt_f q
  · exact XT.ll_le_f q
theorem own_orL (cd : ClassFile.Cond) (x y : Int64) : own_PL cd x y ∨ own_NL cd x y := by
  cases cd
  · exact Classical.em (x = y)
  · exact (Classical.em (x = y)).symm
  · exact Classical.em (x < y)
  · exact (Classical.em (x < y)).symm
  · exact Classical.em (y < x)
  · exact (Classical.em (y < x)).symm
theorem own_lcY (X : Stand p l e R s m args below meth c T locs cells slots) (hx : p.tables.exec = Jvm.exec) {cd : ClassFile.Cond} {x y : Int64} {o : Int} (hd1 : decode c.code pc = .ok (.lcmp, 1)) (hd : decode c.code (pc + 1) = .ok (.ifCond cd o, 3)) (ho : 0 ≤ ((pc + 1 : Nat) : Int) + o) (hp : (((pc + 1 : Nat) : Int) + o).toNat = pc') (q : own_PL cd x y) (K : own_W p e below P T m pc' Ls S) : own_W p e below P T m pc Ls (.long y :: .long x :: S) :=
  own_go (fun t => XT.lcmp (g := mkF m pc Ls (.long y :: .long x :: S)) X.here hx rfl hd1 rfl) (own_go (fun t => XS.ifYes (g := mkF m (pc + 1) Ls (.int (XT.cmpL x y) :: S)) X.here hx rfl (pc0 := pc + 1) (pc' := pc') rfl hd rfl (own_holdsLT q) ho hp) K)
theorem own_lcN (X : Stand p l e R s m args below meth c T locs cells slots) (hx : p.tables.exec = Jvm.exec) {cd : ClassFile.Cond} {x y : Int64} {o : Int} (hd1 : decode c.code pc = .ok (.lcmp, 1)) (hd : decode c.code (pc + 1) = .ok (.ifCond cd o, 3)) (hp : pc + 4 = pc') (q : own_NL cd x y) (K : own_W p e below P T m pc' Ls S) : own_W p e below P T m pc Ls (.long y :: .long x :: S) := by
  subst hp; exact own_go (fun t => XT.lcmp (g := mkF m pc Ls (.long y :: .long x :: S)) X.here hx rfl hd1 rfl) (own_go (fun t => XS.ifNo (g := mkF m (pc + 1) Ls (.int (XT.cmpL x y) :: S)) X.here hx rfl hd rfl (own_holdsLF q)) K)
theorem own_lc (X : Stand p l e R s m args below meth c T locs cells slots) (hx : p.tables.exec = Jvm.exec) {cd : ClassFile.Cond} {x y : Int64} {o : Int} {pcY pcN : Nat} (hd1 : decode c.code pc = .ok (.lcmp, 1)) (hd : decode c.code (pc + 1) = .ok (.ifCond cd o, 3)) (ho : 0 ≤ ((pc + 1 : Nat) : Int) + o) (hY : (((pc + 1 : Nat) : Int) + o).toNat = pcY) (hN : pc + 4 = pcN) (KY : own_PL cd x y → own_W p e below P T m pcY Ls S) (KN : own_NL cd x y → own_W p e below P T m pcN Ls S) : own_W p e below P T m pc Ls (.long y :: .long x :: S) :=
  (own_orL cd x y).elim (fun q => own_lcY X hx hd1 hd ho hY q (KY q)) (fun q => own_lcN X hx hd1 hd hN q (KN q))
theorem own_ifnullY (X : Stand p l e R s m args below meth c T locs cells slots) (hx : p.tables.exec = Jvm.exec) {o : Int} (hd : decode c.code pc = .ok (.ifnull o, 3)) (ho : 0 ≤ (pc : Int) + o) (hp : ((pc : Int) + o).toNat = pc') (K : own_W p e below P T m pc' Ls S) : own_W p e below P T m pc Ls (.null :: S) :=
  own_go (fun t => XS.ifnullYes (g := mkF m pc Ls (.null :: S)) X.here hx rfl (pc0 := pc) (pc' := pc') rfl hd rfl ho hp) K
theorem own_ifnullN (X : Stand p l e R s m args below meth c T locs cells slots) (hx : p.tables.exec = Jvm.exec) {o : Int} {a : Addr} (hd : decode c.code pc = .ok (.ifnull o, 3)) (hp : pc + 3 = pc') (K : own_W p e below P T m pc' Ls S) : own_W p e below P T m pc Ls (.ref a :: S) := by
  subst hp; exact own_go (fun t => XS.ifnullNo (g := mkF m pc Ls (.ref a :: S)) X.here hx rfl hd rfl) K
theorem own_ifnonnullY (X : Stand p l e R s m args below meth c T locs cells slots) (hx : p.tables.exec = Jvm.exec) {o : Int} {a : Addr} (hd : decode c.code pc = .ok (.ifnonnull o, 3)) (ho : 0 ≤ (pc : Int) + o) (hp : ((pc : Int) + o).toNat = pc') (K : own_W p e below P T m pc' Ls S) : own_W p e below P T m pc Ls (.ref a :: S) :=
  own_go (fun t => XT.ifnonnullYes (g := mkF m pc Ls (.ref a :: S)) X.here hx rfl (pc0 := pc) (pc' := pc') rfl hd rfl ho hp) K
theorem own_ifnonnullN (X : Stand p l e R s m args below meth c T locs cells slots) (hx : p.tables.exec = Jvm.exec) {o : Int} (hd : decode c.code pc = .ok (.ifnonnull o, 3)) (hp : pc + 3 = pc') (K : own_W p e below P T m pc' Ls S) : own_W p e below P T m pc Ls (.null :: S) := by
  subst hp; exact own_go (fun t => XT.ifnonnullNo (g := mkF m pc Ls (.null :: S)) X.here hx rfl hd rfl) K
theorem own_acmpY (X : Stand p l e R s m args below meth c T locs cells slots) (hx : p.tables.exec = Jvm.exec) {cd : ClassFile.ACond} {x y : Value} {o : Int} (hd : decode c.code pc = .ok (.if_acmp cd o, 3)) (ho : 0 ≤ (pc : Int) + o) (hp : ((pc : Int) + o).toNat = pc') (hx' : x.isRef = true) (hy' : y.isRef = true) (q : XT.acmp cd x y = true) (K : own_W p e below P T m pc' Ls S) : own_W p e below P T m pc Ls (y :: x :: S) :=
  own_go (fun t => XT.acmpYes (g := mkF m pc Ls (y :: x :: S)) X.here hx rfl (pc0 := pc) (pc' := pc') rfl hd rfl hx' hy' q ho hp) K
theorem own_acmpN (X : Stand p l e R s m args below meth c T locs cells slots) (hx : p.tables.exec = Jvm.exec) {cd : ClassFile.ACond} {x y : Value} {o : Int} (hd : decode c.code pc = .ok (.if_acmp cd o, 3)) (hp : pc + 3 = pc') (hx' : x.isRef = true) (hy' : y.isRef = true) (q : XT.acmp cd x y = false) (K : own_W p e below P T m pc' Ls S) : own_W p e below P T m pc Ls (y :: x :: S) := by
  subst hp; exact own_go (fun t => XT.acmpNo (g := mkF m pc Ls (y :: x :: S)) X.here hx rfl hd rfl hx' hy' q) K
/-! heap -/
theorem own_getF (X : Stand p l e R s m args below meth c T locs cells slots) (hx : p.tables.exec = Jvm.exec) (hZ : Z.Warmed39 s.vm) {own R0 O n d host : String} {index : Nat} (hown : s.vm.findClass own = some m.cls) (w : (Cond.fieldLink own index R0 n d).before a0 Z = true ∨ (Cond.fieldLinkNest own index R0 n d host).before a0 Z = true) (via : Via Z R0 O n d)
    (eT : T.heap = h) {a : Addr} {v : Value} (F : Fld Z h a O n d v) (hd : decode c.code pc = .ok (.getfield index, 3)) (hp : pc + 3 = pc')
    (K : ∀ T', Stand p l e R s m args below meth c T' locs cells slots → T'.heap = h → own_W p e below P T' m pc' Ls (v :: S)) : own_W p e below P T m pc Ls (.ref a :: S) := by
  subst hp
  obtain ⟨T', X', e', st⟩ := getF X hx hZ hown w via eT F (g := mkF m pc Ls (.ref a :: S)) rfl rfl hd
  exact own_go st (K T' X' e')
theorem own_getS (X : Stand p l e R s m args below meth c T locs cells slots) (hx : p.tables.exec = Jvm.exec) (hZ : Z.Warmed39 s.vm) {own R0 O n d host : String} {index : Nat} (hown : s.vm.findClass own = some m.cls) (w : (Cond.fieldLink own index R0 n d).before a0 Z = true ∨ (Cond.fieldLinkNest own index R0 n d host).before a0 Z = true) (via : Via Z R0 O n d)
    (eT : T.heap = h) {v : Value} (F : Sta Z h O n d v) (hd : decode c.code pc = .ok (.getstatic index, 3)) (hp : pc + 3 = pc')
    (K : ∀ T', Stand p l e R s m args below meth c T' locs cells slots → T'.heap = h → own_W p e below P T' m pc' Ls (v :: S)) : own_W p e below P T m pc Ls S := by
  subst hp
  obtain ⟨T', X', e', st⟩ := getS2 X hx hZ hown w via eT F (g := mkF m pc Ls S) rfl hd
  exact own_go st (K T' X' e')
theorem own_putF (X : Stand p l e R s m args below meth c T locs cells slots) (hx : p.tables.exec = Jvm.exec) (hZ : Z.Warmed39 s.vm) {own R0 O n d C : String} {index kk : Nat} {ty : FieldType} (hown : s.vm.findClass own = some m.cls) (w : (Cond.fieldLink own index R0 n d).before a0 Z = true) (via : Via Z R0 O n d)
    (eT : T.heap = h) {a : Addr} {v v' old : Value} (F : Fld Z h a O n d old) (E : Exa Z h a C) (L : (Cond.lays C O n d).before a0 Z = true ∨ ((Cond.laysFinal C O n d).before a0 Z = true ∧ own = O ∧ meth.name = "<init>")) (wi : (Cond.instantiable C kk).before a0 Z = true)
    (hty : parseFieldDescriptor d = some ty) (hn : narrow ty v = v') (hf : fits ty v' = true) (hd : decode c.code pc = .ok (.putfield index, 3)) (hp : pc + 3 = pc')
    (K : ∀ T' h' lc, Stand p l e R s m args below meth c T' lc cells slots → T'.heap = h' → Wr h h' a (Jvm.RoadKit.slotOf Z O n d) v' → (∀ n0, n0 ≤ a → Fr n0 locs → Fr n0 lc) → own_W p e below P T' m pc' Ls S) : own_W p e below P T m pc Ls (v :: .ref a :: S) := by
  subst hp
  obtain ⟨T', h', X', e', W', st⟩ := putFN X hx hZ hown w via eT F E L wi hty hn hf (g := mkF m pc Ls (v :: .ref a :: S)) rfl rfl hd
  exact own_go st (K T' h' _ X' e' W' fun _ q N => Fr.snoc X' N q)
theorem own_new (X : Stand p l e R s m args below meth c T locs cells slots) (hx : p.tables.exec = Jvm.exec) (hZ : Z.Warmed39 s.vm) {own C : String} {index n : Nat} (hown : s.vm.findClass own = some m.cls) (w : (Cond.classLink own index C).before a0 Z = true) (wi : (Cond.instantiable C n).before a0 Z = true) (wz : (Cond.initialized C).before a0 Z = true) (eT : T.heap = h)
    (hd : decode c.code pc = .ok (.new index, 3)) (hp : pc + 3 = pc') {cells' slots' : Nat} (hc' : cells + 1 = cells') (hs' : slots + n = slots') (hc : cells' ≤ R.cells) (hl : slots' ≤ R.slots)
    (K : ∀ T' h' a, Stand p l e R s m args below meth c T' locs cells' slots' → T'.heap = h' → Ext h h' → a = h.size → Exa Z h' a C → (∀ {O nm d : String} {ty : FieldType}, Laid Z a0 C O nm d → parseFieldDescriptor d = some ty → Fld Z h' a O nm d (defaultValue ty)) → own_W p e below P T' m pc' Ls (.ref a :: S)) : own_W p e below P T m pc Ls S := by
  subst hp hc' hs'
  obtain ⟨T', h', X', e', E', A', D', -, st⟩ := newO X hx hZ hown w wi wz eT (g := mkF m pc Ls S) rfl hd hc hl
  exact own_go st (K T' h' _ X' e' E' rfl A' D')
theorem own_newarr (X : Stand p l e R s m args below meth c T locs cells slots) (hx : p.tables.exec = Jvm.exec) (hZ : Z.Warmed39 s.vm) {aty : ArrayType} (w : (Cond.arrayClass (newarray.typeOf aty)).before a0 Z = true) (eT : T.heap = h) (hd : decode c.code pc = .ok (.newarray aty, 2)) (hp : pc + 2 = pc') {n : Int32}
    (hn : ¬ n < 0) (cap : Nat) (hcap : n.toNatClampNeg ≤ cap) (hb : cap * 8 ≤ 536870912) {cells' slots' : Nat} (hc' : cells + 1 = cells') (hs' : slots + cap = slots') (hc : cells' ≤ R.cells) (hl : slots' ≤ R.slots)
    (K : ∀ T' h' cA a, Stand p l e R s m args below meth c T' locs cells' slots' → T'.heap = h' → Ext h h' → a = h.size → Arv Z h' a cA (newarray.typeOf aty) n [] (defaultValue (newarray.typeOf aty)) → own_W p e below P T' m pc' Ls (.ref a :: S)) : own_W p e below P T m pc Ls (.int n :: S) := by
  subst hp hc' hs'
  obtain ⟨T', h', cA, X', e', E', A', st⟩ := newP X hx hZ w eT (g := mkF m pc Ls (.int n :: S)) rfl hd rfl hn hcap hb hc hl
  exact own_go st (K T' h' cA _ X' e' E' rfl (Arv.new A' hn))
theorem own_arrlen (X : Stand p l e R s m args below meth c T locs cells slots) (hx : p.tables.exec = Jvm.exec) (hZ : Z.Warmed39 s.vm) (eT : T.heap = h) {a : Addr} {k : ClassId} {ty : FieldType} {n : Int32} {vs : List Value} {dv : Value} (A : Arv Z h a k ty n vs dv) (hd : decode c.code pc = .ok (.arraylength, 1)) (hp : pc + 1 = pc')
    (K : own_W p e below P T m pc' Ls (.int n :: S)) : own_W p e below P T m pc Ls (.ref a :: S) := by
  subst hp
  obtain ⟨cl, Ar, -, Sz, M, -⟩ := A
  have q := len_of Sz M
  rw [← q] at K
  exact own_go (fun t => X.arraylength hx (cell := cl) (by rw [eT]; exact Ar.1) (State.isArrayOf_alike hZ.alike Ar.2.1) (g := mkF m pc Ls (.ref a :: S)) rfl rfl hd t) K
theorem own_iaload (X : Stand p l e R s m args below meth c T locs cells slots) (hx : p.tables.exec = Jvm.exec) (hZ : Z.Warmed39 s.vm) (eT : T.heap = h) {a : Addr} {k : ClassId} {n : Int32} {vs : List Value} {dv : Value} (A : Arv Z h a k .int n vs dv) {j : Int32} {v : Value} (hj : ¬ j < 0 ∧ j < n) (hv : vs.getD j.toNatClampNeg dv = v) (hd : decode c.code pc = .ok (.iaload, 1)) (hp : pc + 1 = pc')
    (K : own_W p e below P T m pc' Ls (v :: S)) : own_W p e below P T m pc Ls (.int j :: .ref a :: S) := by
  subst hp
  obtain ⟨cl, Ar, -, Sz, M, H, -⟩ := A
  have hin := inb_of Sz hj
  exact own_go (fun t => X.iaload hx (cell := cl) (j := j) (v := v) (by rw [eT]; exact Ar.1) (State.isArrayOf_alike hZ.alike Ar.2.1) Ar.2.2 hin (H.at hin hv) (g := mkF m pc Ls (.int j :: .ref a :: S)) rfl rfl hd t) K
theorem own_laload (X : Stand p l e R s m args below meth c T locs cells slots) (hx : p.tables.exec = Jvm.exec) (hZ : Z.Warmed39 s.vm) (eT : T.heap = h) {a : Addr} {k : ClassId} {n : Int32} {vs : List Value} {dv : Value} (A : Arv Z h a k .long n vs dv) {j : Int32} {v : Value} (hj : ¬ j < 0 ∧ j < n) (hv : vs.getD j.toNatClampNeg dv = v) (hd : decode c.code pc = .ok (.laload, 1)) (hp : pc + 1 = pc')
    (K : own_W p e below P T m pc' Ls (v :: S)) : own_W p e below P T m pc Ls (.int j :: .ref a :: S) := by
  subst hp
  obtain ⟨cl, Ar, -, Sz, M, H, -⟩ := A
  have hin := inb_of Sz hj
  exact own_go (fun t => X.laload hx (cell := cl) (j := j) (v := v) (by rw [eT]; exact Ar.1) (State.isArrayOf_alike hZ.alike Ar.2.1) Ar.2.2 hin (H.at hin hv) (g := mkF m pc Ls (.int j :: .ref a :: S)) rfl rfl hd t) K
theorem own_caload (X : Stand p l e R s m args below meth c T locs cells slots) (hx : p.tables.exec = Jvm.exec) (hZ : Z.Warmed39 s.vm) (eT : T.heap = h) {a : Addr} {k : ClassId} {n : Int32} {vs : List Value} {dv : Value} (A : Arv Z h a k .char n vs dv) {j : Int32} {v : Value} (hj : ¬ j < 0 ∧ j < n) (hv : vs.getD j.toNatClampNeg dv = v) (hd : decode c.code pc = .ok (.caload, 1)) (hp : pc + 1 = pc')
    (K : own_W p e below P T m pc' Ls (v :: S)) : own_W p e below P T m pc Ls (.int j :: .ref a :: S) := by
  subst hp
  obtain ⟨cl, Ar, -, Sz, M, H, -⟩ := A
  have hin := inb_of Sz hj
  exact own_go (fun t => X.caload hx (cell := cl) (j := j) (v := v) (by rw [eT]; exact Ar.1) (State.isArrayOf_alike hZ.alike Ar.2.1) Ar.2.2 hin (H.at hin hv) (g := mkF m pc Ls (.int j :: .ref a :: S)) rfl rfl hd t) K
theorem own_baloadB (X : Stand p l e R s m args below meth c T locs cells slots) (hx : p.tables.exec = Jvm.exec) (hZ : Z.Warmed39 s.vm) (eT : T.heap = h) {a : Addr} {k : ClassId} {n : Int32} {vs : List Value} {dv : Value} (A : Arv Z h a k .byte n vs dv) {j : Int32} {v : Value} (hj : ¬ j < 0 ∧ j < n) (hv : vs.getD j.toNatClampNeg dv = v) (hd : decode c.code pc = .ok (.baload, 1)) (hp : pc + 1 = pc')
    (K : own_W p e below P T m pc' Ls (v :: S)) : own_W p e below P T m pc Ls (.int j :: .ref a :: S) := by
  subst hp
  obtain ⟨cl, Ar, -, Sz, M, H, -⟩ := A
  have hin := inb_of Sz hj
  exact own_go (fun t => X.baloadBytes hx (cell := cl) (j := j) (v := v) (by rw [eT]; exact Ar.1) (State.isArrayOf_alike hZ.alike Ar.2.1) Ar.2.2 hin (H.at hin hv) (g := mkF m pc Ls (.int j :: .ref a :: S)) rfl rfl hd t) K
theorem own_baloadZ (X : Stand p l e R s m args below meth c T locs cells slots) (hx : p.tables.exec = Jvm.exec) (hZ : Z.Warmed39 s.vm) (eT : T.heap = h) {a : Addr} {k : ClassId} {n : Int32} {vs : List Value} {dv : Value} (A : Arv Z h a k .boolean n vs dv) {j : Int32} {v : Value} (hj : ¬ j < 0 ∧ j < n) (hv : vs.getD j.toNatClampNeg dv = v) (hd : decode c.code pc = .ok (.baload, 1)) (hp : pc + 1 = pc')
    (K : own_W p e below P T m pc' Ls (v :: S)) : own_W p e below P T m pc Ls (.int j :: .ref a :: S) := by
  subst hp
  obtain ⟨cl, Ar, -, Sz, M, H, -⟩ := A
  have hin := inb_of Sz hj
  exact own_go (fun t => X.baloadBooleans hx (cell := cl) (j := j) (v := v) (by rw [eT]; exact Ar.1) (State.isArrayOf_alike hZ.alike Ar.2.1) Ar.2.2 hin (H.at hin hv) (g := mkF m pc Ls (.int j :: .ref a :: S)) rfl rfl hd t) K
theorem own_aaload (X : Stand p l e R s m args below meth c T locs cells slots) (hx : p.tables.exec = Jvm.exec) (hZ : Z.Warmed39 s.vm) (eT : T.heap = h) {a : Addr} {k : ClassId} {ty : FieldType} (hty : ty.isReference = true) {n : Int32} {vs : List Value} {dv : Value} (A : Arv Z h a k ty n vs dv) {j : Int32} {v : Value} (hj : ¬ j < 0 ∧ j < n) (hv : vs.getD j.toNatClampNeg dv = v) (hd : decode c.code pc = .ok (.aaload, 1)) (hp : pc + 1 = pc')
    (K : own_W p e below P T m pc' Ls (v :: S)) : own_W p e below P T m pc Ls (.int j :: .ref a :: S) := by
  subst hp
  obtain ⟨cl, Ar, -, Sz, M, H, -⟩ := A
  have hin := inb_of Sz hj
  exact own_go (fun t => X.aaload hx (cell := cl) (j := j) (v := v) (by rw [eT]; exact Ar.1) (State.isArrayOf_alike hZ.alike Ar.2.1) hty Ar.2.2 hin (H.at hin hv) (g := mkF m pc Ls (.int j :: .ref a :: S)) rfl rfl hd t) K
theorem own_iastore (X : Stand p l e R s m args below meth c T locs cells slots) (hx : p.tables.exec = Jvm.exec) (hZ : Z.Warmed39 s.vm) (eT : T.heap = h) {a : Addr} {k : ClassId} {n : Int32} {vs : List Value} {dv : Value} (A : Arv Z h a k .int n vs dv) {j : Int32} {x : Int32} (hj : ¬ j < 0 ∧ j < n) (i : Nat) (hi : j.toNatClampNeg = i) (hlen : i < vs.length) (hd : decode c.code pc = .ok (.iastore, 1)) (hp : pc + 1 = pc')
    (K : ∀ T' h' lc, Stand p l e R s m args below meth c T' lc cells slots → T'.heap = h' → Keep h h' [a] → Arv Z h' a k .int n (vs.set i (.int x)) dv → (∀ n0, n0 ≤ a → Fr n0 locs → Fr n0 lc) → own_W p e below P T' m pc' Ls S) : own_W p e below P T m pc Ls (.int x :: .int j :: .ref a :: S) := by
  subst hp
  obtain ⟨cl, Ar, q1, Sz, M, H, G⟩ := A
  obtain ⟨T', h', X', e', W', st⟩ := stI X hx hZ eT Ar (inb_of Sz hj) (g := mkF m pc Ls (.int x :: .int j :: .ref a :: S)) rfl rfl hd
  exact own_go st (K T' h' _ X' e' (Keep.of_wr W') (Arv.set Ar q1 Sz M H G rfl W' i hi hlen) fun _ q N => Fr.snoc X' N q)
theorem own_lastore (X : Stand p l e R s m args below meth c T locs cells slots) (hx : p.tables.exec = Jvm.exec) (hZ : Z.Warmed39 s.vm) (eT : T.heap = h) {a : Addr} {k : ClassId} {n : Int32} {vs : List Value} {dv : Value} (A : Arv Z h a k .long n vs dv) {j : Int32} {x : Int64} (hj : ¬ j < 0 ∧ j < n) (i : Nat) (hi : j.toNatClampNeg = i) (hlen : i < vs.length) (hd : decode c.code pc = .ok (.lastore, 1)) (hp : pc + 1 = pc')
    (K : ∀ T' h' lc, Stand p l e R s m args below meth c T' lc cells slots → T'.heap = h' → Keep h h' [a] → Arv Z h' a k .long n (vs.set i (.long x)) dv → (∀ n0, n0 ≤ a → Fr n0 locs → Fr n0 lc) → own_W p e below P T' m pc' Ls S) : own_W p e below P T m pc Ls (.long x :: .int j :: .ref a :: S) := by
  subst hp
  obtain ⟨cl, Ar, q1, Sz, M, H, G⟩ := A
  obtain ⟨T', h', X', e', W', st⟩ := stJ X hx hZ eT Ar (inb_of Sz hj) (g := mkF m pc Ls (.long x :: .int j :: .ref a :: S)) rfl rfl hd
  exact own_go st (K T' h' _ X' e' (Keep.of_wr W') (Arv.set Ar q1 Sz M H G rfl W' i hi hlen) fun _ q N => Fr.snoc X' N q)
theorem own_castore (X : Stand p l e R s m args below meth c T locs cells slots) (hx : p.tables.exec = Jvm.exec) (hZ : Z.Warmed39 s.vm) (eT : T.heap = h) {a : Addr} {k : ClassId} {n : Int32} {vs : List Value} {dv : Value} (A : Arv Z h a k .char n vs dv) {j : Int32} {x : Int32} (hj : ¬ j < 0 ∧ j < n) (i : Nat) (hi : j.toNatClampNeg = i) (hlen : i < vs.length) (hd : decode c.code pc = .ok (.castore, 1)) (hp : pc + 1 = pc')
    (K : ∀ T' h' lc, Stand p l e R s m args below meth c T' lc cells slots → T'.heap = h' → Keep h h' [a] → Arv Z h' a k .char n (vs.set i (.int (nar .char x))) dv → (∀ n0, n0 ≤ a → Fr n0 locs → Fr n0 lc) → own_W p e below P T' m pc' Ls S) : own_W p e below P T m pc Ls (.int x :: .int j :: .ref a :: S) := by
  subst hp
  obtain ⟨cl, Ar, q1, Sz, M, H, G⟩ := A
  obtain ⟨T', h', X', e', W', st⟩ := stC X hx hZ eT Ar (inb_of Sz hj) (g := mkF m pc Ls (.int x :: .int j :: .ref a :: S)) rfl rfl hd
  exact own_go st (K T' h' _ X' e' (Keep.of_wr W') (Arv.set Ar q1 Sz M H G (fits_nar_char x) W' i hi hlen) fun _ q N => Fr.snoc X' N q)
theorem own_bastoreZ (X : Stand p l e R s m args below meth c T locs cells slots) (hx : p.tables.exec = Jvm.exec) (hZ : Z.Warmed39 s.vm) (eT : T.heap = h) {a : Addr} {k : ClassId} {n : Int32} {vs : List Value} {dv : Value} (A : Arv Z h a k .boolean n vs dv) {j : Int32} {x : Int32} (hj : ¬ j < 0 ∧ j < n) (i : Nat) (hi : j.toNatClampNeg = i) (hlen : i < vs.length) (hd : decode c.code pc = .ok (.bastore, 1)) (hp : pc + 1 = pc')
    (K : ∀ T' h' lc, Stand p l e R s m args below meth c T' lc cells slots → T'.heap = h' → Keep h h' [a] → Arv Z h' a k .boolean n (vs.set i (.int (nar .boolean x))) dv → (∀ n0, n0 ≤ a → Fr n0 locs → Fr n0 lc) → own_W p e below P T' m pc' Ls S) : own_W p e below P T m pc Ls (.int x :: .int j :: .ref a :: S) := by
  subst hp
  obtain ⟨cl, Ar, q1, Sz, M, H, G⟩ := A
  obtain ⟨T', h', X', e', W', st⟩ := stZ X hx hZ eT Ar (inb_of Sz hj) (g := mkF m pc Ls (.int x :: .int j :: .ref a :: S)) rfl rfl hd
  exact own_go st (K T' h' _ X' e' (Keep.of_wr W') (Arv.set Ar q1 Sz M H G (fits_nar_bool x) W' i hi hlen) fun _ q N => Fr.snoc X' N q)
theorem own_bastoreB (X : Stand p l e R s m args below meth c T locs cells slots) (hx : p.tables.exec = Jvm.exec) (hZ : Z.Warmed39 s.vm) (eT : T.heap = h) {a : Addr} {k : ClassId} {n : Int32} {vs : List Value} {dv : Value} (A : Arv Z h a k .byte n vs dv) {j : Int32} {x : Int32} (hj : ¬ j < 0 ∧ j < n) (i : Nat) (hi : j.toNatClampNeg = i) (hlen : i < vs.length) (hd : decode c.code pc = .ok (.bastore, 1)) (hp : pc + 1 = pc')
    (K : ∀ T' h' lc, Stand p l e R s m args below meth c T' lc cells slots → T'.heap = h' → Keep h h' [a] → Arv Z h' a k .byte n (vs.set i (.int (nar .byte x))) dv → (∀ n0, n0 ≤ a → Fr n0 locs → Fr n0 lc) → own_W p e below P T' m pc' Ls S) : own_W p e below P T m pc Ls (.int x :: .int j :: .ref a :: S) := by
  subst hp
  obtain ⟨cl, Ar, q1, Sz, M, H, G⟩ := A
  obtain ⟨T', h', X', e', W', st⟩ := stB X hx hZ eT Ar (inb_of Sz hj) (g := mkF m pc Ls (.int x :: .int j :: .ref a :: S)) rfl rfl hd
  exact own_go st (K T' h' _ X' e' (Keep.of_wr W') (Arv.set Ar q1 Sz M H G (fits_nar_byte x) W' i hi hlen) fun _ q N => Fr.snoc X' N q)
theorem own_cast (X : Stand p l e R s m args below meth c T locs cells slots) (hx : p.tables.exec = Jvm.exec) (hZ : Z.Warmed39 s.vm) {own C : String} {index : Nat} (hown : s.vm.findClass own = some m.cls) (w : (Cond.classLink own index C).before a0 Z = true) (eT : T.heap = h) {a : Addr} (E : Exa Z h a C) (hd : decode c.code pc = .ok (.checkcast index, 3)) (hp : pc + 3 = pc')
    (K : ∀ T', Stand p l e R s m args below meth c T' locs cells slots → T'.heap = h → own_W p e below P T' m pc' Ls (.ref a :: S)) : own_W p e below P T m pc Ls (.ref a :: S) := by
  subst hp
  obtain ⟨T', X', e', st⟩ := castY X hx hZ hown w eT (Ins.self E) (g := mkF m pc Ls (.ref a :: S)) rfl rfl hd
  exact own_go st (K T' X' e')
theorem own_inst (X : Stand p l e R s m args below meth c T locs cells slots) (hx : p.tables.exec = Jvm.exec) (hZ : Z.Warmed39 s.vm) {own C : String} {index : Nat} (hown : s.vm.findClass own = some m.cls) (w : (Cond.classLink own index C).before a0 Z = true) (eT : T.heap = h) {a : Addr} (E : Exa Z h a C) (hd : decode c.code pc = .ok (.instanceof index, 3)) (hp : pc + 3 = pc')
    (K : ∀ T', Stand p l e R s m args below meth c T' locs cells slots → T'.heap = h → own_W p e below P T' m pc' Ls (.int 1 :: S)) : own_W p e below P T m pc Ls (.ref a :: S) := by
  subst hp
  obtain ⟨T', X', e', st⟩ := instY X hx hZ hown w eT (Ins.self E) (g := mkF m pc Ls (.ref a :: S)) rfl rfl hd
  exact own_go st (K T' X' e')
theorem own_acmpne (X : Stand p l e R s m args below meth c T locs cells slots) (hx : p.tables.exec = Jvm.exec) {x y : Addr} {o : Int} {pcY pcN : Nat} (hd : decode c.code pc = .ok (.if_acmp .ne o, 3)) (ho : 0 ≤ (pc : Int) + o) (hY : ((pc : Int) + o).toNat = pcY) (hN : pc + 3 = pcN) (KY : ¬ x = y → own_W p e below P T m pcY Ls S) (KN : x = y → own_W p e below P T m pcN Ls S) : own_W p e below P T m pc Ls (.ref y :: .ref x :: S) :=
  (Classical.em (x = y)).elim (fun q => own_acmpN X hx hd hN rfl rfl (XT.aa_ne_f (congrArg Value.ref q)) (KN q)) (fun q => own_acmpY X hx hd ho hY rfl rfl (XT.aa_ne_t fun z => q (Value.ref.inj z)) (KY q))
theorem own_sta_keep {h' : Heap} {ws : List Addr} {C n d : String} {v : Value} (F : Sta Z h C n d v) (K : Keep h h' ws) (hn : ∀ x ∈ ws, ∀ cell : Cell, h[x]? = some cell → cell.vm.isStatics = false) : Sta Z h' C n d v := by
  obtain ⟨cf, i, k, f, st, cell, h1, h2, h3, h4, h5, h6, h7⟩ := F
  exact ⟨cf, i, k, f, st, cell, h1, h2, h3, h4, K.2.1 _ _ h5 (fun q => by rw [hn _ q _ h5] at h6; cases h6), h6, h7⟩
theorem own_ns_exa {a : Addr} {C : String} (E : Exa Z h a C) : ∀ cell : Cell, h[a]? = some cell → cell.vm.isStatics = false := fun cell hc => by
  obtain ⟨c', k, h1, h2, h3, h4, h5⟩ := E
  cases h1.symm.trans hc; exact h4
theorem own_ns_arv {a : Addr} {k : ClassId} {ty : FieldType} {z : Int32} {vs : List Value} {dv : Value} (A : Arv Z h a k ty z vs dv) : ∀ cell : Cell, h[a]? = some cell → cell.vm.isStatics = false := fun cell hc => by
  obtain ⟨c', Ar, -⟩ := A
  cases Ar.1.symm.trans hc; exact Ar.plain
theorem own_callS (X : Stand p l e R s m args below meth c T locs cells slots) (hx : p.tables.exec = Jvm.exec) (hZ : Z.Warmed39 s.vm) {own : String} {index : Nat} {y : MethodName} {bytes : ByteArray} {maxL : Nat} {ret : Option FieldType} {rm : Room} {Qc : Option Value → Heap → List Loc → Prop} {as' : Array Value} {S' : List Value} (argsL : List Value)
    (hown : s.vm.findClass own = some m.cls) (w1 : (Cond.methodLink own index y).before a0 Z = true) (w2 : (Cond.static y).before a0 Z = true) (w3 : (Cond.initialized y.cls).before a0 Z = true) (w4 : (Cond.code y bytes maxL ret).before a0 Z = true) (hy : y.cls ≠ "java/lang/invoke/MethodHandle" ∧ y.cls ≠ "java/lang/invoke/VarHandle")
    (hM : MetFree l y (head1 [Cond.code y bytes maxL ret] rm) (fun a U => a = as' ∧ Z.Warmed39 U.vm ∧ U.heap = h) (fun _ _ _ _ _ => True) (fun _ U o U' => ∃ v L, o = .returned v ∧ Qc v U'.heap L ∧ FrameEnd U o U' L rm.cells rm.slots))
    (eT : T.heap = h) {W cells' slots' : Nat} (hf : rm.frames + 1 ≤ R.frames) (hl : W + (maxL + 11) + rm.locals ≤ R.locals) (hc' : cells + rm.cells = cells') (hs' : slots + rm.slots = slots') (hc : cells' ≤ R.cells) (hs : slots' ≤ R.slots) (hsize : Ls.size = c.maxLocals) (hlen : ∀ sig, parseMethodDescriptor y.desc = some sig → argsL.length = sig.parameters.length) (has : argsL.toArray = as') (hstk : S' = argsL.reverse ++ S) (hW : 2 * 0 + (S.map fun v => v.category).sum ≤ W) (hd : decode c.code pc = .ok (.invokestatic index, 3)) (hp : pc + 3 = pc')
    (K : ∀ v T' h' L lc, Stand p l e R s m args below meth c T' lc cells' slots' → T'.heap = h' → Qc v h' L → (∀ n0, Fr n0 locs → Fr n0 L → Fr n0 lc) → own_W p e below P T' m pc' Ls (v.toList ++ S)) : own_W p e below P T m pc Ls S' := by
  subst hp hc' hs'
  obtain ⟨v, vm₁, ⟨T1, L1, k1, n1⟩, -, X1, ⟨Lc1, hQ1, l1, y1, z1⟩, st1⟩ := Jvm.LawKit.callS X hx hown (mvT hZ w1) (mvT hZ w2) (mvT hZ w3) (mvT hZ w4) hy (backOf hM hZ w4 w3 hf hl) (g := mkF m pc Ls S') rfl hsize (argsL := argsL) (rest := S) hlen hstk hW hd (fun _ _ => ⟨has, eT, hc, hs⟩)
  dsimp only [Pt.U, Pt.locs, Pt.cells, Pt.slots] at X1 l1 y1 z1 st1 hQ1
  subst l1 y1 z1
  exact own_go st1 (K v T1 _ Lc1 _ X1 rfl hQ1 fun _ a b => Fr.app a b)
theorem own_callN (X : Stand p l e R s m args below meth c T locs cells slots) (hx : p.tables.exec = Jvm.exec) (hZ : Z.Warmed39 s.vm) {own : String} {index : Nat} {y : MethodName} {bytes : ByteArray} {maxL : Nat} {rm : Room} {Qc : Option Value → Heap → List Loc → Prop} {as' : Array Value} {S' : List Value} (a : Addr) (argsL : List Value) (hy1 : y.name = "<init>")
    (hown : s.vm.findClass own = some m.cls) (w1 : (Cond.methodLink own index y).before a0 Z = true) (w2 : (Cond.instanceMethod y).before a0 Z = true) (w3 : (Cond.initialized y.cls).before a0 Z = true) (w4 : (Cond.code y bytes maxL none).before a0 Z = true) (hy : y.cls ≠ "java/lang/invoke/MethodHandle" ∧ y.cls ≠ "java/lang/invoke/VarHandle")
    (hM : MetFree l y (head1 [Cond.code y bytes maxL none] rm) (fun a U => a = as' ∧ Z.Warmed39 U.vm ∧ U.heap = h) (fun _ _ _ _ _ => True) (fun _ U o U' => ∃ v L, o = .returned v ∧ Qc v U'.heap L ∧ FrameEnd U o U' L rm.cells rm.slots))
    (eT : T.heap = h) {W cells' slots' : Nat} (hf : rm.frames + 1 ≤ R.frames) (hl : W + (maxL + 11) + rm.locals ≤ R.locals) (hc' : cells + rm.cells = cells') (hs' : slots + rm.slots = slots') (hc : cells' ≤ R.cells) (hs : slots' ≤ R.slots) (hsize : Ls.size = c.maxLocals) (hlen : ∀ sig, parseMethodDescriptor y.desc = some sig → argsL.length = sig.parameters.length) (has : (.ref a :: argsL).toArray = as') (hstk : S' = argsL.reverse ++ .ref a :: S) (hW : 2 * 0 + (S.map fun v => v.category).sum ≤ W) (hd : decode c.code pc = .ok (.invokespecial index, 3)) (hp : pc + 3 = pc')
    (K : ∀ v T' h' L lc, Stand p l e R s m args below meth c T' lc cells' slots' → T'.heap = h' → Qc v h' L → (∀ n0, Fr n0 locs → Fr n0 L → Fr n0 lc) → own_W p e below P T' m pc' Ls (v.toList ++ S)) : own_W p e below P T m pc Ls S' := by
  subst hp hc' hs'
  obtain ⟨v, vm₁, ⟨T1, L1, k1, n1⟩, -, X1, ⟨Lc1, hQ1, l1, y1, z1⟩, st1⟩ := X.specialBack hx hy1 hown (mvT hZ w1) (mvT hZ w2) (mvT hZ w4) hy (backOf hM hZ w4 w3 hf hl) (g := mkF m pc Ls S') rfl hsize (Steps.refl _) (a := a) (argsL := argsL) (rest := S) hlen hstk hW hd (fun _ _ => ⟨has, eT, hc, hs⟩)
  dsimp only [Pt.U, Pt.locs, Pt.cells, Pt.slots] at X1 l1 y1 z1 st1 hQ1
  subst l1 y1 z1
  exact own_go (fun t k => st1.trans k) (K v T1 _ Lc1 _ X1 rfl hQ1 fun _ a b => Fr.app a b)
theorem own_callV (X : Stand p l e R s m args below meth c T locs cells slots) (hx : p.tables.exec = Jvm.exec) (hZ : Z.Warmed39 s.vm) {own C : String} {index : Nat} {y : MethodName} {bytes : ByteArray} {maxL : Nat} {ret : Option FieldType} {rm : Room} {Qc : Option Value → Heap → List Loc → Prop} {as' : Array Value} {S' : List Value} (a : Addr) (argsL : List Value)
    (hown : s.vm.findClass own = some m.cls) (w1 : (Cond.methodLink own index y).before a0 Z = true) (w2 : (Cond.declares y).before a0 Z = true) (w5 : (Cond.selects C y y).before a0 Z = true) (w6 : (Cond.instanceMethod y).before a0 Z = true) (w3 : (Cond.initialized y.cls).before a0 Z = true) (w4 : (Cond.code y bytes maxL ret).before a0 Z = true) (hy : y.cls ≠ "java/lang/invoke/MethodHandle" ∧ y.cls ≠ "java/lang/invoke/VarHandle")
    (hM : MetFree l y (head1 [Cond.code y bytes maxL ret] rm) (fun a U => a = as' ∧ Z.Warmed39 U.vm ∧ U.heap = h) (fun _ _ _ _ _ => True) (fun _ U o U' => ∃ v L, o = .returned v ∧ Qc v U'.heap L ∧ FrameEnd U o U' L rm.cells rm.slots))
    (E : Exa Z h a C) (eT : T.heap = h) {W cells' slots' : Nat} (hf : rm.frames + 1 ≤ R.frames) (hl : W + (maxL + 11) + rm.locals ≤ R.locals) (hc' : cells + rm.cells = cells') (hs' : slots + rm.slots = slots') (hc : cells' ≤ R.cells) (hs : slots' ≤ R.slots) (hsize : Ls.size = c.maxLocals) (hlen : ∀ sig, parseMethodDescriptor y.desc = some sig → argsL.length = sig.parameters.length) (has : (.ref a :: argsL).toArray = as') (hstk : S' = argsL.reverse ++ .ref a :: S) (hW : 2 * 0 + (S.map fun v => v.category).sum ≤ W) (hd : decode c.code pc = .ok (.invokevirtual index, 3)) (hp : pc + 3 = pc')
    (K : ∀ v T' h' L lc, Stand p l e R s m args below meth c T' lc cells' slots' → T'.heap = h' → Qc v h' L → (∀ n0, Fr n0 locs → Fr n0 L → Fr n0 lc) → own_W p e below P T' m pc' Ls (v.toList ++ S)) : own_W p e below P T m pc Ls S' := by
  subst hp hc' hs'
  obtain ⟨cq, kq, qa, qb, qc⟩ := isOf hZ eT E
  obtain ⟨v, vm₁, ⟨T1, L1, k1, n1⟩, -, X1, ⟨Lc1, hQ1, l1, y1, z1⟩, st1⟩ := X.virtualBack hx hown (mvT hZ w1) (mvT hZ w2) (notFace_of_selects (args := #[]) (mvT hZ w5)) (mvT hZ w5) (mvT hZ w6) hy (backOf hM hZ w4 w3 hf hl) qa qc (g := mkF m pc Ls S') rfl hsize (Steps.refl _) (argsL := argsL) (rest := S) hlen hstk hW hd (fun _ _ => ⟨has, eT, hc, hs⟩)
  dsimp only [Pt.U, Pt.locs, Pt.cells, Pt.slots] at X1 l1 y1 z1 st1 hQ1
  subst l1 y1 z1
  exact own_go (fun t k => st1.trans k) (K v T1 _ Lc1 _ X1 rfl hQ1 fun _ a b => Fr.app a b)
theorem own_initO (X : Stand p l e R s m args below meth c T locs cells slots) (hx : p.tables.exec = Jvm.exec) (hZ : Z.Warmed39 s.vm) {own : String} {idx : Nat} (hown : s.vm.findClass own = some m.cls) (w1 : (Cond.methodLink own idx Lib.objectInit).before a0 Z = true) (w2 : (Cond.instanceMethod Lib.objectInit).before a0 Z = true) (w3 : (Cond.code Lib.objectInit ⟨#[0xb1]⟩ 1 none).before a0 Z = true) (eT : T.heap = h)
    (hsize : Ls.size = c.maxLocals) {a : Addr} (hd : decode c.code pc = .ok (.invokespecial idx, 3)) (hp : pc + 3 = pc') (hf : 1 ≤ R.frames) {W : Nat} (hW : 2 * 0 + (S.map fun v => v.category).sum ≤ W) (hl : W + 12 ≤ R.locals)
    (K : ∀ T', Stand p l e R s m args below meth c T' locs cells slots → T'.heap = h → own_W p e below P T' m pc' Ls S) : own_W p e below P T m pc Ls (.ref a :: S) := by
  subst hp
  obtain ⟨T', X', e', st⟩ := initO X hx hZ hown w1 w2 w3 eT (g := mkF m pc Ls (.ref a :: S)) rfl hsize rfl hd hf (W := W) hW hl
  exact own_go st (K T' X' e')
/-! returns -/
theorem own_retI (X : Stand p l e R s m args below meth c T locs cells slots) (hx : p.tables.exec = Jvm.exec) (hlk : meth.locks = false) {t : FieldType} {w w' : Value} (hret : meth.sig.returnType = some t) (hd : decode c.code pc = .ok (.ireturn, 1)) {z : Int32} (hw : w = .int z) (hn : narrow t w = w') (ht : t = .int ∨ t = .boolean ∨ t = .byte ∨ t = .char ∨ t = .short) (hc : cells ≤ kc) (hs : slots ≤ ks) (hq : Q (some w') T.heap locs) : own_W p e below (own_Post s Q kc ks) T m pc Ls (w :: S) := by
  subst hw
  obtain ⟨fs, hr, hrun, hended, hW, hsame⟩ := X.leave (v := some w') (fun h => by rw [hret] at h; cases h) hlk
  refine ⟨_, _, ?_, hrun, hended, _, _, rfl, hq, ⟨_, rfl⟩, hW, hsame.mono hc hs⟩
  have hm' : T.vm.method? m = some meth := X.method'
  show Steps p.tables e below (T.setTop { method := m, pc := pc, locals := Ls, stack := _ :: S, locked := none }) _
  rcases ht with rfl | rfl | rfl | rfl | rfl
  all_goals
    jvm_step X.here [X.here.top, hx, hd, hm', hret, hn]
    first | (intro acts; rw [hr _ acts rfl rfl rfl]) | rw [hr _ _ rfl rfl rfl]
    exact Steps.refl _
theorem own_retJ (X : Stand p l e R s m args below meth c T locs cells slots) (hx : p.tables.exec = Jvm.exec) (hlk : meth.locks = false) {z : Int64} (hret : meth.sig.returnType = some .long) (hd : decode c.code pc = .ok (.lreturn, 1)) (hc : cells ≤ kc) (hs : slots ≤ ks) (hq : Q (some (.long z)) T.heap locs) : own_W p e below (own_Post s Q kc ks) T m pc Ls (.long z :: S) := by
  obtain ⟨fs, hr, hrun, hended, hW, hsame⟩ := X.leave (v := some (.long z)) (fun h => by rw [hret] at h; cases h) hlk
  exact ⟨_, _, retOut X hx hret rfl (Or.inr (Or.inl ⟨rfl, rfl, z, rfl⟩)) hd hr, hrun, hended, _, _, rfl, hq, ⟨_, rfl⟩, hW, hsame.mono hc hs⟩
theorem own_retA (X : Stand p l e R s m args below meth c T locs cells slots) (hx : p.tables.exec = Jvm.exec) (hlk : meth.locks = false) {t : FieldType} {w : Value} (hret : meth.sig.returnType = some t) (hd : decode c.code pc = .ok (.areturn, 1)) (ht : t.isReference = true) (hw : w.isRef = true) (hn : narrow t w = w) (hc : cells ≤ kc) (hs : slots ≤ ks) (hq : Q (some w) T.heap locs) : own_W p e below (own_Post s Q kc ks) T m pc Ls (w :: S) := by
  obtain ⟨fs, hr, hrun, hended, hW, hsame⟩ := X.leave (v := some w) (fun h => by rw [hret] at h; cases h) hlk
  exact ⟨_, _, retOut X hx hret hn (Or.inr (Or.inr (Or.inr (Or.inr ⟨rfl, ht, hw⟩)))) hd hr, hrun, hended, _, _, rfl, hq, ⟨_, rfl⟩, hW, hsame.mono hc hs⟩
theorem own_ret0 (X : Stand p l e R s m args below meth c T locs cells slots) (hx : p.tables.exec = Jvm.exec) (hlk : meth.locks = false) (hret : meth.sig.returnType = none) (hd : decode c.code pc = .ok (.return_, 1)) (hc : cells ≤ kc) (hs : slots ≤ ks) (hq : Q none T.heap locs) : own_W p e below (own_Post s Q kc ks) T m pc Ls [] := by
  obtain ⟨fs, hr, hrun, hended, hW, hsame⟩ := X.leave (v := none) (fun _ => rfl) hlk
  exact ⟨_, _, X.returnOut hx hret hd hr, hrun, hended, _, _, rfl, hq, ⟨_, rfl⟩, hW, hsame.mono hc hs⟩
end OwnKit
/-! ## the wide walk: String constants may be loaded; the Stand is over the start with the tables at hand (s.setVm vm0) -/
def own_PostS (Z : State) (EL : List (String × Nat)) (s : State) (Q : Option Value → Heap → List Loc → Prop) (kc ks : Nat) (o : Outcome) (s₂ : State) : Prop := ∃ v L, o = .returned v ∧ Q v s₂.heap L ∧ CHr Z EL s.vm s.heap s₂.vm s₂.heap ∧ ReturnedEndW s o s₂ L kc ks
theorem own_endW {s t : State} {o : Outcome} {L : List Loc} {k n k' n' : Nat} (h : ReturnedEndW s o t L k n) (hk : k ≤ k') (hn : n ≤ n') : ReturnedEndW s o t L k' n' := ⟨h.1, h.2.1, h.2.2.1, h.2.2.2.mono hk hn⟩
section OwnKit3
variable {p : Program} {l : Launch} {e : Env} {R : Room} {s : State} {m : MethodId} {args : Array Value} {below : List Frame} {meth : Method} {c : Code} {T : State} {locs : List Loc} {cells slots : Nat} {Z : State} {a0 : Array Value} {h h0 : Heap}
  {P : Outcome → State → Prop} {Q : Option Value → Heap → List Loc → Prop} {kc ks : Nat} {pc pc' : Nat} {Ls Ls' : Array Slot} {S : List Value} {EL : List (String × Nat)} {vm0 : Vm} {k0 : Nat}
theorem own_enterS {ml : Nat} (q : entryFrame m args ml = mkF m 0 Ls []) (K : own_W p e below (own_PostS Z EL s Q kc ks) T m 0 Ls []) :
    ∃ s₂ o, Steps p.tables e below (T.setTop (entryFrame m args ml)) s₂ ∧ s₂.status = .running ∧ Ended s₂ below o ∧ ∃ v L, o = .returned v ∧ Q v s₂.heap L ∧ CHr Z EL s.vm s.heap s₂.vm s₂.heap ∧ ReturnedEndW s o s₂ L kc ks := by
  rw [q]; exact K
theorem own_ldcS (X : Stand p l e R (s.setVm vm0) m args below meth c T locs cells slots) (hx : p.tables.exec = Jvm.exec) (hZ : Z.Warmed39 (s.setVm vm0).vm) {own text : String} {index : Nat} (hown : (s.setVm vm0).vm.findClass own = some m.cls) (w : (Cond.stringLink own index text).before a0 Z = true) (wS : ∀ a ∈ Bundle.stringAtoms, a.before a0 Z = true)
    (eT : T.heap = h) (hS : s.Since vm0 k0) (hk : k0 ≤ h.size) (hEL : EW Z a0 EL) (hmem : (own, index) ∈ EL) (H : CHv Z EL vm0 h) (vs : List Value) (z : Int32) (ht : (∀ c ∈ text.toList, c.toNat < 256) ∧ text.toList.map (fun c => Value.int (Jvm.Lit.byteI c.toNat.toUInt16)) = vs) (hz : ¬ z < 0) (hl : z.toNatClampNeg = vs.length)
    (hd : decode c.code pc = .ok (.ldc index, 2)) (hp : pc + 2 = pc') (n : Nat) (hn : 4 * text.toList.length ≤ n) (hbig : n ≤ 536870912) {cells' slots' : Nat} (hc' : cells + 2 = cells') (hs' : slots + (n + 4) = slots') (hc : cells' ≤ R.cells) (hl' : slots' ≤ R.slots)
    (K : ∀ a T' h' k1 b k vm1, Stand p l e R (s.setVm vm1) m args below meth c T' locs cells' slots' → T'.heap = h' → Ext h h' → s.Since vm1 k1 → k1 ≤ h'.size → Z.Warmed39 (s.setVm vm1).vm → (s.setVm vm1).vm.findClass own = some m.cls →
      Exa Z h' a "java/lang/String" → Fld Z h' a "java/lang/String" "coder" "B" (.int 0) → Fld Z h' a "java/lang/String" "value" "[B" (.ref b) → Arv Z h' b k .byte z vs (.int 0) → CHr Z EL vm0 h vm1 h' → (∀ x, Safe Z EL vm1 h' x → x ≠ a ∧ x ≠ b) → own_W p e below P T' m pc' Ls (.ref a :: S)) : own_W p e below P T m pc Ls S := by
  subst hp hc' hs'
  obtain ⟨a, T', h', k1, b, k, X', e', E', S', hk', hZ', ho', Ea, Fc, Fv, Av, -, -, C', -, hne, st⟩ := ldcCH X hx hZ hown w wS eT hS hk hEL hmem H ht hz hl (g := mkF m pc Ls S) rfl hd hn hbig hc hl'
  exact own_go st (K a T' h' k1 b k T'.vm X' e' E' S' hk' hZ' ho' Ea Fc Fv Av C' hne)
theorem own_callSS (X : Stand p l e R (s.setVm vm0) m args below meth c T locs cells slots) (hx : p.tables.exec = Jvm.exec) (hZ : Z.Warmed39 (s.setVm vm0).vm) {own : String} {index : Nat} {y : MethodName} {bytes : ByteArray} {maxL : Nat} {ret : Option FieldType} {rm : Room} {Qc : Option Value → Heap → List Loc → Prop} {as' : Array Value} {S' : List Value} (argsL : List Value)
    (hown : (s.setVm vm0).vm.findClass own = some m.cls) (w1 : (Cond.methodLink own index y).before a0 Z = true) (w2 : (Cond.static y).before a0 Z = true) (w3 : (Cond.initialized y.cls).before a0 Z = true) (w4 : (Cond.code y bytes maxL ret).before a0 Z = true) (hy : y.cls ≠ "java/lang/invoke/MethodHandle" ∧ y.cls ≠ "java/lang/invoke/VarHandle")
    (hM : MetFree l y (head1 [Cond.code y bytes maxL ret] rm) (fun a U => a = as' ∧ Z.Warmed39 U.vm ∧ U.heap = h ∧ CHv Z EL U.vm h) (fun _ _ _ _ _ => True) (fun _ U o U' => ∃ v L, o = .returned v ∧ Qc v U'.heap L ∧ CHr Z EL U.vm U.heap U'.vm U'.heap ∧ ReturnedEndW U o U' L rm.cells rm.slots))
    (eT : T.heap = h) (hS : s.Since vm0 k0) (hk : k0 ≤ h.size) (hEL : EW Z a0 EL) (H : CHv Z EL vm0 h) {W cells' slots' : Nat} (hf : rm.frames + 1 ≤ R.frames) (hl : W + (maxL + 11) + rm.locals ≤ R.locals) (hc' : cells + rm.cells = cells') (hs' : slots + rm.slots = slots') (hc : cells' ≤ R.cells) (hs : slots' ≤ R.slots) (hsize : Ls.size = c.maxLocals)
    (hlen : ∀ sig, parseMethodDescriptor y.desc = some sig → argsL.length = sig.parameters.length) (has : argsL.toArray = as') (hstk : S' = argsL.reverse ++ S) (hW : 2 * 0 + (S.map fun v => v.category).sum ≤ W) (hd : decode c.code pc = .ok (.invokestatic index, 3)) (hp : pc + 3 = pc')
    (K : ∀ v T' h' L lc vm1 k1, Stand p l e R (s.setVm vm1) m args below meth c T' lc cells' slots' → T'.heap = h' → s.Since vm1 k1 → k1 ≤ h'.size → Z.Warmed39 (s.setVm vm1).vm → (s.setVm vm1).vm.findClass own = some m.cls → CHr Z EL vm0 h vm1 h' → Qc v h' L → (∀ n0, Fr n0 locs → Fr n0 L → Fr n0 lc) → own_W p e below P T' m pc' Ls (v.toList ++ S)) : own_W p e below P T m pc Ls S' := by
  subst hp hc' hs' eT
  obtain ⟨v, vm₁, ⟨T1, L1, k1, n1⟩, -, X1, S1, g1, ⟨Lc1, hQ1, l1, y1, z1, C1⟩, st1⟩ := callSS X hx hown (mvT hZ w1) (mvT hZ w2) (mvT hZ w3) (mvT hZ w4) hy (backOfSH (s := s) (vm0 := vm0) hM hZ w4 w3 hf hl hEL H) (g := mkF m pc Ls S') rfl hsize (argsL := argsL) (rest := S) hlen hstk hW hd (fun _ _ => ⟨has, rfl, hc, hs⟩)
  dsimp only [Pt.U, Pt.locs, Pt.cells, Pt.slots] at X1 l1 y1 z1 st1 hQ1 S1 g1 C1
  subst l1 y1 z1
  obtain ⟨X2, S2, Z2, o2⟩ := rebS hS hk X1 S1 g1 hZ hown
  exact own_go (fun t k => st1.trans k) (K v T1 _ Lc1 _ _ _ X2 rfl S2 (Nat.le_refl _) Z2 o2 C1 hQ1 fun _ a b => Fr.app a b)
theorem own_callNS (X : Stand p l e R (s.setVm vm0) m args below meth c T locs cells slots) (hx : p.tables.exec = Jvm.exec) (hZ : Z.Warmed39 (s.setVm vm0).vm) {own : String} {index : Nat} {y : MethodName} {bytes : ByteArray} {maxL : Nat} {rm : Room} {Qc : Option Value → Heap → List Loc → Prop} {as' : Array Value} {S' : List Value} (a : Addr) (argsL : List Value) (hy1 : y.name = "<init>")
    (hown : (s.setVm vm0).vm.findClass own = some m.cls) (w1 : (Cond.methodLink own index y).before a0 Z = true) (w2 : (Cond.instanceMethod y).before a0 Z = true) (w3 : (Cond.initialized y.cls).before a0 Z = true) (w4 : (Cond.code y bytes maxL none).before a0 Z = true) (hy : y.cls ≠ "java/lang/invoke/MethodHandle" ∧ y.cls ≠ "java/lang/invoke/VarHandle")
    (hM : MetFree l y (head1 [Cond.code y bytes maxL none] rm) (fun a U => a = as' ∧ Z.Warmed39 U.vm ∧ U.heap = h ∧ CHv Z EL U.vm h) (fun _ _ _ _ _ => True) (fun _ U o U' => ∃ v L, o = .returned v ∧ Qc v U'.heap L ∧ CHr Z EL U.vm U.heap U'.vm U'.heap ∧ ReturnedEndW U o U' L rm.cells rm.slots))
    (eT : T.heap = h) (hS : s.Since vm0 k0) (hk : k0 ≤ h.size) (hEL : EW Z a0 EL) (H : CHv Z EL vm0 h) {W cells' slots' : Nat} (hf : rm.frames + 1 ≤ R.frames) (hl : W + (maxL + 11) + rm.locals ≤ R.locals) (hc' : cells + rm.cells = cells') (hs' : slots + rm.slots = slots') (hc : cells' ≤ R.cells) (hs : slots' ≤ R.slots) (hsize : Ls.size = c.maxLocals)
    (hlen : ∀ sig, parseMethodDescriptor y.desc = some sig → argsL.length = sig.parameters.length) (has : (.ref a :: argsL).toArray = as') (hstk : S' = argsL.reverse ++ .ref a :: S) (hW : 2 * 0 + (S.map fun v => v.category).sum ≤ W) (hd : decode c.code pc = .ok (.invokespecial index, 3)) (hp : pc + 3 = pc')
    (K : ∀ v T' h' L lc vm1 k1, Stand p l e R (s.setVm vm1) m args below meth c T' lc cells' slots' → T'.heap = h' → s.Since vm1 k1 → k1 ≤ h'.size → Z.Warmed39 (s.setVm vm1).vm → (s.setVm vm1).vm.findClass own = some m.cls → CHr Z EL vm0 h vm1 h' → Qc v h' L → (∀ n0, Fr n0 locs → Fr n0 L → Fr n0 lc) → own_W p e below P T' m pc' Ls (v.toList ++ S)) : own_W p e below P T m pc Ls S' := by
  subst hp hc' hs' eT
  obtain ⟨v, vm₁, ⟨T1, L1, k1, n1⟩, -, X1, S1, g1, ⟨Lc1, hQ1, l1, y1, z1, C1⟩, st1⟩ := X.specialBackS hx hy1 hown (mvT hZ w1) (mvT hZ w2) (mvT hZ w4) hy (backOfSH (s := s) (vm0 := vm0) hM hZ w4 w3 hf hl hEL H) (g := mkF m pc Ls S') rfl hsize (Steps.refl _) (a := a) (argsL := argsL) (rest := S) hlen hstk hW hd (fun _ _ => ⟨has, rfl, hc, hs⟩)
  dsimp only [Pt.U, Pt.locs, Pt.cells, Pt.slots] at X1 l1 y1 z1 st1 hQ1 S1 g1 C1
  subst l1 y1 z1
  obtain ⟨X2, S2, Z2, o2⟩ := rebS hS hk X1 S1 g1 hZ hown
  exact own_go (fun t k => st1.trans k) (K v T1 _ Lc1 _ _ _ X2 rfl S2 (Nat.le_refl _) Z2 o2 C1 hQ1 fun _ a b => Fr.app a b)
theorem own_callVS (X : Stand p l e R (s.setVm vm0) m args below meth c T locs cells slots) (hx : p.tables.exec = Jvm.exec) (hZ : Z.Warmed39 (s.setVm vm0).vm) {own C : String} {index : Nat} {y : MethodName} {bytes : ByteArray} {maxL : Nat} {ret : Option FieldType} {rm : Room} {Qc : Option Value → Heap → List Loc → Prop} {as' : Array Value} {S' : List Value} (a : Addr) (argsL : List Value)
    (hown : (s.setVm vm0).vm.findClass own = some m.cls) (w1 : (Cond.methodLink own index y).before a0 Z = true) (w2 : (Cond.declares y).before a0 Z = true) (w5 : (Cond.selects C y y).before a0 Z = true) (w6 : (Cond.instanceMethod y).before a0 Z = true) (w3 : (Cond.initialized y.cls).before a0 Z = true) (w4 : (Cond.code y bytes maxL ret).before a0 Z = true) (hy : y.cls ≠ "java/lang/invoke/MethodHandle" ∧ y.cls ≠ "java/lang/invoke/VarHandle")
    (hM : MetFree l y (head1 [Cond.code y bytes maxL ret] rm) (fun a U => a = as' ∧ Z.Warmed39 U.vm ∧ U.heap = h ∧ CHv Z EL U.vm h) (fun _ _ _ _ _ => True) (fun _ U o U' => ∃ v L, o = .returned v ∧ Qc v U'.heap L ∧ CHr Z EL U.vm U.heap U'.vm U'.heap ∧ ReturnedEndW U o U' L rm.cells rm.slots))
    (E : Exa Z h a C) (eT : T.heap = h) (hS : s.Since vm0 k0) (hk : k0 ≤ h.size) (hEL : EW Z a0 EL) (H : CHv Z EL vm0 h) {W cells' slots' : Nat} (hf : rm.frames + 1 ≤ R.frames) (hl : W + (maxL + 11) + rm.locals ≤ R.locals) (hc' : cells + rm.cells = cells') (hs' : slots + rm.slots = slots') (hc : cells' ≤ R.cells) (hs : slots' ≤ R.slots) (hsize : Ls.size = c.maxLocals)
    (hlen : ∀ sig, parseMethodDescriptor y.desc = some sig → argsL.length = sig.parameters.length) (has : (.ref a :: argsL).toArray = as') (hstk : S' = argsL.reverse ++ .ref a :: S) (hW : 2 * 0 + (S.map fun v => v.category).sum ≤ W) (hd : decode c.code pc = .ok (.invokevirtual index, 3)) (hp : pc + 3 = pc')
    (K : ∀ v T' h' L lc vm1 k1, Stand p l e R (s.setVm vm1) m args below meth c T' lc cells' slots' → T'.heap = h' → s.Since vm1 k1 → k1 ≤ h'.size → Z.Warmed39 (s.setVm vm1).vm → (s.setVm vm1).vm.findClass own = some m.cls → CHr Z EL vm0 h vm1 h' → Qc v h' L → (∀ n0, Fr n0 locs → Fr n0 L → Fr n0 lc) → own_W p e below P T' m pc' Ls (v.toList ++ S)) : own_W p e below P T m pc Ls S' := by
  subst hp hc' hs' eT
  obtain ⟨cq, kq, qa, qb, qc⟩ := isOf hZ rfl E
  obtain ⟨v, vm₁, ⟨T1, L1, k1, n1⟩, -, X1, S1, g1, ⟨Lc1, hQ1, l1, y1, z1, C1⟩, st1⟩ := X.virtualBackS hx hown (mvT hZ w1) (mvT hZ w2) (notFace_of_selects (args := #[]) (mvT hZ w5)) (mvT hZ w5) (mvT hZ w6) hy (backOfSH (s := s) (vm0 := vm0) hM hZ w4 w3 hf hl hEL H) qa qc (g := mkF m pc Ls S') rfl hsize (Steps.refl _) (argsL := argsL) (rest := S) hlen hstk hW hd (fun _ _ => ⟨has, rfl, hc, hs⟩)
  dsimp only [Pt.U, Pt.locs, Pt.cells, Pt.slots] at X1 l1 y1 z1 st1 hQ1 S1 g1 C1
  subst l1 y1 z1
  obtain ⟨X2, S2, Z2, o2⟩ := rebS hS hk X1 S1 g1 hZ hown
  exact own_go (fun t k => st1.trans k) (K v T1 _ Lc1 _ _ _ X2 rfl S2 (Nat.le_refl _) Z2 o2 C1 hQ1 fun _ a b => Fr.app a b)
theorem own_chr (X : Stand p l e R (s.setVm vm0) m args below meth c T locs cells slots) (hZ : Z.Warmed39 (s.setVm vm0).vm) (eT : T.heap = h) (hh : s.heap = h0) (hEL : EW Z a0 EL) (H : CHv Z EL vm0 h) (CR : CHr Z EL s.vm h0 vm0 h) (fs : List Frame) : CHr Z EL s.vm s.heap (T.setFrames fs).vm (T.setFrames fs).heap := by
  have q := CR.trans (CHv.at X hZ hEL H)
  rw [← hh, ← eT] at q
  exact q
theorem own_retIS (X : Stand p l e R (s.setVm vm0) m args below meth c T locs cells slots) (hx : p.tables.exec = Jvm.exec) (hlk : meth.locks = false) (hZ : Z.Warmed39 (s.setVm vm0).vm) (eT : T.heap = h) (hh : s.heap = h0) (hS : s.Since vm0 k0) (hk : k0 ≤ h.size) (hEL : EW Z a0 EL) (H : CHv Z EL vm0 h) (CR : CHr Z EL s.vm h0 vm0 h)
    {t : FieldType} {w w' : Value} (hret : meth.sig.returnType = some t) (hd : decode c.code pc = .ok (.ireturn, 1)) {z : Int32} (hw : w = .int z) (hn : narrow t w = w') (ht : t = .int ∨ t = .boolean ∨ t = .byte ∨ t = .char ∨ t = .short) (hc : cells ≤ kc) (hs : slots ≤ ks) (hq : Q (some w') T.heap locs) : own_W p e below (own_PostS Z EL s Q kc ks) T m pc Ls (w :: S) := by
  subst hw
  obtain ⟨fs, hr, hrun, hended, hW⟩ := X.leaveW hS (by rw [eT]; exact hk) (v := some w') (fun h => by rw [hret] at h; cases h) hlk
  refine ⟨_, _, ?_, hrun, hended, _, _, rfl, hq, own_chr X hZ eT hh hEL H CR fs, own_endW hW hc hs⟩
  have hm' : T.vm.method? m = some meth := X.method'
  show Steps p.tables e below (T.setTop { method := m, pc := pc, locals := Ls, stack := _ :: S, locked := none }) _
  rcases ht with rfl | rfl | rfl | rfl | rfl
  all_goals
    jvm_step X.here [X.here.top, hx, hd, hm', hret, hn]
    first | (intro acts; rw [hr _ acts rfl rfl rfl]) | rw [hr _ _ rfl rfl rfl]
    exact Steps.refl _
theorem own_retAS (X : Stand p l e R (s.setVm vm0) m args below meth c T locs cells slots) (hx : p.tables.exec = Jvm.exec) (hlk : meth.locks = false) (hZ : Z.Warmed39 (s.setVm vm0).vm) (eT : T.heap = h) (hh : s.heap = h0) (hS : s.Since vm0 k0) (hk : k0 ≤ h.size) (hEL : EW Z a0 EL) (H : CHv Z EL vm0 h) (CR : CHr Z EL s.vm h0 vm0 h)
    {t : FieldType} {w : Value} (hret : meth.sig.returnType = some t) (hd : decode c.code pc = .ok (.areturn, 1)) (ht : t.isReference = true) (hw : w.isRef = true) (hn : narrow t w = w) (hc : cells ≤ kc) (hs : slots ≤ ks) (hq : Q (some w) T.heap locs) : own_W p e below (own_PostS Z EL s Q kc ks) T m pc Ls (w :: S) := by
  obtain ⟨fs, hr, hrun, hended, hW⟩ := X.leaveW hS (by rw [eT]; exact hk) (v := some w) (fun h => by rw [hret] at h; cases h) hlk
  exact ⟨_, _, retOut X hx hret hn (Or.inr (Or.inr (Or.inr (Or.inr ⟨rfl, ht, hw⟩)))) hd hr, hrun, hended, _, _, rfl, hq, own_chr X hZ eT hh hEL H CR fs, own_endW hW hc hs⟩
theorem own_ret0S (X : Stand p l e R (s.setVm vm0) m args below meth c T locs cells slots) (hx : p.tables.exec = Jvm.exec) (hlk : meth.locks = false) (hZ : Z.Warmed39 (s.setVm vm0).vm) (eT : T.heap = h) (hh : s.heap = h0) (hS : s.Since vm0 k0) (hk : k0 ≤ h.size) (hEL : EW Z a0 EL) (H : CHv Z EL vm0 h) (CR : CHr Z EL s.vm h0 vm0 h)
    (hret : meth.sig.returnType = none) (hd : decode c.code pc = .ok (.return_, 1)) (hc : cells ≤ kc) (hs : slots ≤ ks) (hq : Q none T.heap locs) : own_W p e below (own_PostS Z EL s Q kc ks) T m pc Ls [] := by
  obtain ⟨fs, hr, hrun, hended, hW⟩ := X.leaveW hS (by rw [eT]; exact hk) (v := none) (fun _ => rfl) hlk
  exact ⟨_, _, X.returnOut hx hret hd hr, hrun, hended, _, _, rfl, hq, own_chr X hZ eT hh hEL H CR fs, own_endW hW hc hs⟩
end OwnKit3
/-- a String under construction (its value is null yet) is no booked literal -/
theorem own_safe_null {Z : State} {EL : List (String × Nat)} {vm : Vm} {h : Heap} {x : Addr} (hal : Z.vm.Alike vm) (E : Exa Z h x "java/lang/String") (F : Fld Z h x "java/lang/String" "value" "[B" .null) : Safe Z EL vm h x := by
  rintro ⟨p, hp, u, a, hb, q, rfl, ⟨cS, ⟨⟨s1, s2, s3, ⟨cv, kv, iv, s4, s4'⟩, ⟨cc, kc, ic, s5, s5'⟩, s6, s7, s8, s9, s10, s11, s12, s13, s14, s15, s16⟩, hfS, hcS⟩, ⟨kS, k1, k2, k3⟩, hB, hbyt⟩, hy⟩
  rcases hy with rfl | rfl
  · obtain ⟨cell, cf, k, i, f, f1, f2, f3, f4, f5, f6, f7⟩ := F
    obtain ⟨kv', z4⟩ := ff_back (Z := Z) (U := Wst Z vm h) hal s4
    have c1 : h[q.sa]? = some q.sC := s1
    cases c1.symm.trans f1
    cases z4.symm.trans f2
    cases s8.symm.trans f7
  · obtain ⟨cell, k, e1, e2, e3, e4, e5⟩ := E
    have c1 : h[q.sd]? = some q.SA := s10
    cases c1.symm.trans e1
    have hfS' : Z.vm.findClass "java/lang/String" = some q.SA.cls := e2
    have hB' : Z.vm.findClass "[B" = some q.SA.cls := by rw [← hal.findClass]; exact hB
    obtain ⟨ka, a1, a2⟩ := Vm.findClass_spec hfS'
    obtain ⟨kb, b1, b2⟩ := Vm.findClass_spec hB'
    cases a1.symm.trans b1
    exact absurd (a2.symm.trans b2) (by decide)
theorem own_arv_at {Z : State} {h : Heap} {a : Addr} {k k' : ClassId} {ty ty' : FieldType} {z z' : Int32} {vs vs' : List Value} {d d' : Value} (A : Arv Z h a k ty z vs d) (B : Arv Z h a k' ty' z' vs' d') (i : Nat) (hi : i < z.toNatClampNeg) : vs.getD i d = vs'.getD i d' := by
  obtain ⟨c1, a1, -, s1, -, h1, -⟩ := A
  obtain ⟨c2, b1, -, s2, -, h2, -⟩ := B
  cases a1.1.symm.trans b1.1
  exact Option.some.inj ((h1 i (by rw [s1]; exact hi)).symm.trans (h2 i (by rw [s1]; exact hi)))
theorem own_fld_at {Z : State} {h : Heap} {a : Addr} {C n d : String} {v w : Value} (F : Fld Z h a C n d v) (G : Fld Z h a C n d w) : v = w := Classical.byContradiction fun q => F.ne G q rfl
/-! ## A contract's usual head, in one -/
abbrev own_Met (l : Launch) (Z : State) (y : MethodName) (b : ByteArray) (ml : Nat) (rt : Option FieldType) (ws : List Jvm.Cond) (R : Room) (as : Array Value) (h0 : Heap) (Q : Option Value → Heap → List Loc → Prop) : Prop :=
  MetFree l y (head1 (Jvm.Cond.code y b ml rt :: ws) R) (fun a U => a = as ∧ Z.Warmed39 U.vm ∧ U.heap = h0) (fun _ _ _ _ _ => True) (fun _ U o U' => ∃ v L, o = .returned v ∧ Q v U'.heap L ∧ FrameEnd U o U' L R.cells R.slots)
theorem own_met {l : Launch} {Z : State} {y : MethodName} {b : ByteArray} {ml : Nat} {rt : Option FieldType} {ws : List Jvm.Cond} {R : Room} {as : Array Value} {h0 : Heap} {Q : Option Value → Heap → List Loc → Prop} {Ls : Array Slot} (n0 : Nat) {own : String} (hpl : plainName own = true) (hef : ∀ m, entryFrame m as ml = mkF m 0 Ls [])
    (K : ∀ p e s m below meth c T lc, meth.sig.returnType = rt → p.tables.exec = Jvm.exec → Z.Warmed39 s.vm → c.code = b → c.maxLocals = ml → s.vm.findClass own = some m.cls → meth.name = y.name → meth.locks = false → Stand p l e R s m as below meth c T lc 0 0 → T.heap = h0 → Fr n0 lc → own_W p e below (own_Post s Q R.cells R.slots) T m 0 Ls []) (ho : y.cls = own := by rfl) : own_Met l Z y b ml rt ws R as h0 Q := by
  subst ho
  refine MetFree.of_bodySF (plainFor_of_name hpl) hisR ?_
  intro p e s m args below meth c s₁ Bd hml0 hP hK
  obtain ⟨rfl, hZ, hh⟩ := hP
  refine own_enter (hef m) ?_
  exact K p e s m below meth c s₁ [] Bd.returns Bd.exec hZ Bd.bytes hml0 (findClass_of_methodNamed Bd.named) (name_of_methodNamed Bd.named Bd.method).1 Bd.notSynchronized (Stand.of_body Bd) (by rw [← hh, Bd.state]; rfl) (Fr.nil n0)
def own_EL : List (String × Nat) := consts_1
theorem own_mem_22 : ("java/lang/String", 7) ∈ own_EL := by simp [own_EL, consts_1]
theorem own_txt_22 : (∀ c ∈ "".toList, c.toNat < 256) ∧ "".toList.map (fun c => Value.int (Jvm.Lit.byteI c.toNat.toUInt16)) = [] := by decide +kernel
theorem own_wS {Z : State} {a0 : Array Value} (hw : ∀ d ∈ tables_1, d.before a0 Z = true) : ∀ a ∈ Bundle.stringAtoms, a.before a0 Z = true := by
  intro a ha
  simp only [Bundle.stringAtoms, List.mem_cons, List.not_mem_nil, or_false] at ha
  rcases ha with rfl | rfl | rfl | rfl | rfl | rfl | rfl
  all_goals first | exact (own_w hw 10 rfl) | exact (own_w hw 9 rfl) | exact (own_w hw 23 rfl) | exact (own_w hw 24 rfl) | exact (own_w hw 25 rfl) | exact (own_w hw 26 rfl) | exact (own_w hw 27 rfl)
def own_c16 (z : Int32) : Prop := 0 ≤ z.toInt ∧ z.toInt ≤ 65535
def own_p1 (z : Int32) : Prop := 0 ≤ z.toInt ∧ z.toInt < 128
theorem own_q0 {p : Int32} (h : own_p1 p) : ¬ p < 0 := by
  rw [Int32.lt_iff_toInt_lt]; have e : (0 : Int32).toInt = 0 := by decide
  have := h.1; omega
theorem own_q255 {p : Int32} (h : own_p1 p) : ¬ (255 : Int32) < p := by
  rw [Int32.lt_iff_toInt_lt]; have e : (255 : Int32).toInt = 255 := by decide
  have := h.2; omega
theorem own_q65 {p : Int32} (h : own_p1 p) : p < (65536 : Int32) := by
  rw [Int32.lt_iff_toInt_lt]; have e : (65536 : Int32).toInt = 65536 := by decide
  have := h.2; omega
theorem own_nc {z : Int32} (h : own_c16 z) : nar .char z = z := by
  have q := c_i2c z
  refine Int32.toInt_inj.mp ?_
  show (z.toUInt32.toUInt16.toUInt32.toInt32).toInt = _
  have := h.1; have := h.2; omega
theorem own_r16 (z : Int32) : own_c16 (nar .char z.toUInt32.toUInt16.toUInt32.toInt32) := by
  have q := c_i2c z
  have r : own_c16 z.toUInt32.toUInt16.toUInt32.toInt32 := ⟨by omega, by omega⟩
  rw [own_nc r]; exact r
theorem own_lit {z : Int32} (h : 0 ≤ z.toInt ∧ z.toInt ≤ 65535) : own_c16 (nar .char z) := by rw [own_nc h]; exact h
theorem own_lo8 {d p : Int32} (h : own_c16 d) (hl : ¬ (255 : Int32) < d) (hp : own_p1 p) : nar .byte d.toInt8.toInt32 = p.toInt8.toInt32 ↔ d = p := by
  have q := c_i2b d
  have r := c_i2b d.toInt8.toInt32
  have q' := c_i2b p
  have e : (nar .byte d.toInt8.toInt32) = d.toInt8.toInt32.toInt8.toInt32 := rfl
  have e255 : (255 : Int32).toInt = 255 := by decide
  rw [Int32.lt_iff_toInt_lt, e255] at hl
  rw [e, ← Int32.toInt_inj, ← Int32.toInt_inj]
  have := h.1; have := h.2; have := hp.1; have := hp.2
  constructor <;> intro z <;> omega
def own_lb (d : Int32) : Int32 := nar .byte (d >>> ((0 : Int32) &&& 31)).toInt8.toInt32
def own_hb (d : Int32) : Int32 := nar .byte (d >>> ((8 : Int32) &&& 31)).toInt8.toInt32
def own_gcv (d : Int32) : Int32 := nar .char (((own_lb d &&& 255) <<< ((0 : Int32) &&& 31)) ||| ((own_hb d &&& 255) <<< ((8 : Int32) &&& 31))).toUInt32.toUInt16.toUInt32.toInt32
def own_fit (d : Int32) : Int32 := if d = 9 then 0 else if d = 10 then 0 else 1
theorem own_f9 {d : Int32} (h : ¬ own_fit d = 0) : ¬ d = 9 := fun e => h (by rw [own_fit, if_pos e])
theorem own_f10 {d : Int32} (h : ¬ own_fit d = 0) : ¬ d = 10 := fun e => h (by rw [own_fit, e]; decide)
theorem own_f0 {d : Int32} (h : own_fit d = 0) : d = 9 ∨ d = 10 := by
  unfold own_fit at h
  by_cases q : d = 9
  · exact Or.inl q
  · by_cases r : d = 10
    · exact Or.inr r
    · rw [if_neg q, if_neg r] at h; exact absurd h (by decide)
theorem own_n5 (n : Int32) : (n &&& 2147483647) % 5 = (0 : Int32) ∨ (n &&& 2147483647) % 5 = (1 : Int32) ∨ (n &&& 2147483647) % 5 = (2 : Int32) ∨ (n &&& 2147483647) % 5 = (3 : Int32) ∨ (n &&& 2147483647) % 5 = (4 : Int32) := by
  have q := c_mask n 2147483647 31 (by decide) (by decide)
  have r := (c_irem (n &&& 2147483647) 5 5 (by decide)).1 (by rw [q]; omega)
  have e0 : (0 : Int32).toInt = 0 := by decide
  have e1 : (1 : Int32).toInt = 1 := by decide
  have e2 : (2 : Int32).toInt = 2 := by decide
  have e3 : (3 : Int32).toInt = 3 := by decide
  have e4 : (4 : Int32).toInt = 4 := by decide
  simp only [← Int32.toInt_inj, e0, e1, e2, e3, e4]
  omega
theorem own_by {x : Int32} : (nar .byte x.toInt8.toInt32 &&& 255).toInt = x.toInt % 256 := by
  have b0 := c_i2b x
  have b1 := c_i2b x.toInt8.toInt32
  have m : (nar .byte x.toInt8.toInt32 &&& 255).toInt = (nar .byte x.toInt8.toInt32).toInt % 256 := c_mask _ 255 8 (by decide) (by decide)
  have e : (nar .byte x.toInt8.toInt32).toInt = x.toInt8.toInt32.toInt8.toInt32.toInt := rfl
  rw [m, e]; omega
theorem own_gc {d : Int32} (h : own_c16 d) : own_gcv d = d := by
  have h0 := h.1; have h1 := h.2
  have s0 : (d >>> ((0 : Int32) &&& 31)).toInt = d.toInt / 1 := c_ishr d 0 0 (by decide)
  have s8 : (d >>> ((8 : Int32) &&& 31)).toInt = d.toInt / 256 := c_ishr d 8 8 (by decide)
  have m0 : (own_lb d &&& 255).toInt = d.toInt % 256 := by have q := own_by (x := d >>> ((0 : Int32) &&& 31)); rw [s0, Int.ediv_one] at q; exact q
  have m8 : (own_hb d &&& 255).toInt = d.toInt / 256 := by have q := own_by (x := d >>> ((8 : Int32) &&& 31)); rw [s8] at q; have r : (d.toInt / 256) % 256 = d.toInt / 256 := by omega
                                                           rw [r] at q; exact q
  obtain ⟨A, hA⟩ : ∃ A, A = (own_lb d &&& 255) <<< ((0 : Int32) &&& 31) := ⟨_, rfl⟩
  obtain ⟨B, hB⟩ : ∃ B, B = (own_hb d &&& 255) <<< ((8 : Int32) &&& 31) := ⟨_, rfl⟩
  have l0 : (A.toInt - (own_lb d &&& 255).toInt * 1) % 4294967296 = 0 := by rw [hA]; exact c_ishl (own_lb d &&& 255) 0 0 (by decide)
  have l8 : (B.toInt - (own_hb d &&& 255).toInt * 256) % 4294967296 = 0 := by rw [hB]; exact c_ishl (own_hb d &&& 255) 8 8 (by decide)
  have rA := A.le_toInt; have rA' := A.toInt_lt
  have rB := B.le_toInt; have rB' := B.toInt_lt
  have tA : A.toInt = d.toInt % 256 := by omega
  have tB : B.toInt = d.toInt / 256 * 256 := by omega
  have o := c_or' A B 8 (by decide) 256 (by decide) (by omega) (by omega) (by omega)
  have c1 := c_i2c (A ||| B)
  have c2 := c_i2c (A ||| B).toUInt32.toUInt16.toUInt32.toInt32
  unfold own_gcv
  rw [← hA, ← hB]
  refine Int32.toInt_inj.mp ?_
  show (((A ||| B).toUInt32.toUInt16.toUInt32.toInt32).toUInt32.toUInt16.toUInt32.toInt32).toInt = _
  omega
theorem own0_0 : decode method_3_code 0 = .ok (.iload_n 0, 1) := by decide +kernel
theorem own0_1 : decode method_3_code 1 = .ok (.iconst 3, 1) := by decide +kernel
theorem own0_2 : decode method_3_code 2 = .ok (.iand, 1) := by decide +kernel
theorem own0_3 : decode method_3_code 3 = .ok (.istore_n 1, 1) := by decide +kernel
theorem own0_4 : decode method_3_code 4 = .ok (.iload_n 1, 1) := by decide +kernel
theorem own0_5 : decode method_3_code 5 = .ok (.ifCond .ne 6, 3) := by decide +kernel
theorem own0_11 : decode method_3_code 11 = .ok (.iload_n 1, 1) := by decide +kernel
theorem own0_12 : decode method_3_code 12 = .ok (.iconst 1, 1) := by decide +kernel
theorem own0_13 : decode method_3_code 13 = .ok (.if_icmp .ne 6, 3) := by decide +kernel
theorem own0_19 : decode method_3_code 19 = .ok (.iload_n 0, 1) := by decide +kernel
theorem own0_20 : decode method_3_code 20 = .ok (.bipush 16, 2) := by decide +kernel
theorem own0_22 : decode method_3_code 22 = .ok (.iushr, 1) := by decide +kernel
theorem own0_23 : decode method_3_code 23 = .ok (.i2c, 1) := by decide +kernel
theorem own0_24 : decode method_3_code 24 = .ok (.ireturn, 1) := by decide +kernel
theorem own0_16 : decode method_3_code 16 = .ok (.bipush 10, 2) := by decide +kernel
theorem own0_18 : decode method_3_code 18 = .ok (.ireturn, 1) := by decide +kernel
theorem own0_8 : decode method_3_code 8 = .ok (.bipush 9, 2) := by decide +kernel
theorem own0_10 : decode method_3_code 10 = .ok (.ireturn, 1) := by decide +kernel
theorem own_pn_com_example_bleeper_bleeper_cli_FieldsCanHoldPinLaw : plainName "com/example/bleeper/bleeper/cli/FieldsCanHoldPinLaw" = true := by first | (simp [plainName, overriddenIn]; done) | decide +kernel
theorem ef2I (m : MethodId) (x0 : Int32) : entryFrame m #[(.int x0)] 2 = mkF m 0 #[.val (.int x0), .unset] [] := by first | (simp [entryFrame, mkF, argsToLocals, Value.category]; done) | rfl
def Q_draw (Z : State) (p0 : Int32) (h0 : Heap) (n0 : Nat) (v : Option Value) (h : Heap) (L : List Loc) : Prop := ∃ z : Int32, v = some (.int z) ∧ Fr n0 L ∧ h = h0 ∧ own_c16 z
set_option maxRecDepth 65536 in
set_option maxHeartbeats 40000000 in
theorem rm_draw (l : Launch) (Z : State) (a0 : Array Value) (hw : ∀ d ∈ tables_1, d.before a0 Z = true) (ws : List Jvm.Cond) (p0 : Int32) (h0 : Heap) (n0 : Nat) (Z0 : n0 ≤ h0.size)  : own_Met l Z ⟨"com/example/bleeper/bleeper/cli/FieldsCanHoldPinLaw", "draw", "(I)C"⟩ method_3_code 2 (some .char) ws ⟨0, 0, 0, 0⟩ #[(.int p0)] h0 (Q_draw Z p0 h0 n0) := by
  refine own_met n0 own_pn_com_example_bleeper_bleeper_cli_FieldsCanHoldPinLaw (fun m => ef2I m p0) ?_
  intro p e s m below meth c T lc hret hx hZ hby hml hown hnm hlk X eT N
  refine own_iloadN X hx (hb hby own0_0) (pc' := 1) rfl rfl ?_
  refine own_iconst X hx (3 : Int32) (hb hby own0_1) (pc' := 2) rfl rfl ?_
  refine own_iand X hx (hb hby own0_2) (pc' := 3) rfl ?_
  refine own_istoreN X hx (hb hby own0_3) (pc' := 4) rfl (Ls' := #[.val (.int p0), .val (.int (p0 &&& (3 : Int32)))]) rfl ?_
  refine own_iloadN X hx (hb hby own0_4) (pc' := 5) rfl rfl ?_
  refine own_if X hx (hb hby own0_5) (by decide) (pcY := 11) (pcN := 8) rfl rfl (fun (hc5 : ¬ ((p0 &&& (3 : Int32)) = (0 : Int32))) => ?_) (fun (hc5 : (p0 &&& (3 : Int32)) = (0 : Int32)) => ?_)
  · refine own_iloadN X hx (hb hby own0_11) (pc' := 12) rfl rfl ?_
    refine own_iconst X hx (1 : Int32) (hb hby own0_12) (pc' := 13) rfl rfl ?_
    refine own_icmp X hx (hb hby own0_13) (by decide) (pcY := 19) (pcN := 16) rfl rfl (fun (hc13 : ¬ ((p0 &&& (3 : Int32)) = (1 : Int32))) => ?_) (fun (hc13 : (p0 &&& (3 : Int32)) = (1 : Int32)) => ?_)
    · refine own_iloadN X hx (hb hby own0_19) (pc' := 20) rfl rfl ?_
      refine own_bipush X hx (16 : Int32) (hb hby own0_20) (pc' := 22) rfl rfl ?_
      refine own_iushr X hx (hb hby own0_22) (pc' := 23) rfl ?_
      refine own_i2c X hx (hb hby own0_23) (pc' := 24) rfl ?_
      refine own_retI X hx hlk (t := .char) (w' := (.int (nar .char (XT.ushr p0 (16 : Int32)).toUInt32.toUInt16.toUInt32.toInt32))) hret (hb hby own0_24) rfl rfl (by simp) (by decide) (by decide) ?_
      rw [eT]
      exact ⟨_, rfl, N, rfl, own_r16 _⟩
    · refine own_bipush X hx (10 : Int32) (hb hby own0_16) (pc' := 18) rfl rfl ?_
      refine own_retI X hx hlk (t := .char) (w' := (.int (nar .char (10 : Int32)))) hret (hb hby own0_18) rfl rfl (by simp) (by decide) (by decide) ?_
      rw [eT]
      exact ⟨_, rfl, N, rfl, own_lit (by decide)⟩
  · refine own_bipush X hx (9 : Int32) (hb hby own0_8) (pc' := 10) rfl rfl ?_
    refine own_retI X hx hlk (t := .char) (w' := (.int (nar .char (9 : Int32)))) hret (hb hby own0_10) rfl rfl (by simp) (by decide) (by decide) ?_
    rw [eT]
    exact ⟨_, rfl, N, rfl, own_lit (by decide)⟩
theorem own1_0 : decode method_4_code 0 = .ok (.iload_n 0, 1) := by decide +kernel
theorem own1_1 : decode method_4_code 1 = .ok (.bipush 9, 2) := by decide +kernel
theorem own1_3 : decode method_4_code 3 = .ok (.if_icmp .eq 13, 3) := by decide +kernel
theorem own1_16 : decode method_4_code 16 = .ok (.iconst 0, 1) := by decide +kernel
theorem own1_17 : decode method_4_code 17 = .ok (.ireturn, 1) := by decide +kernel
theorem own1_6 : decode method_4_code 6 = .ok (.iload_n 0, 1) := by decide +kernel
theorem own1_7 : decode method_4_code 7 = .ok (.bipush 10, 2) := by decide +kernel
theorem own1_9 : decode method_4_code 9 = .ok (.if_icmp .eq 7, 3) := by decide +kernel
theorem own1_12 : decode method_4_code 12 = .ok (.iconst 1, 1) := by decide +kernel
theorem own1_13 : decode method_4_code 13 = .ok (.goto 4, 3) := by decide +kernel
theorem ef1I (m : MethodId) (x0 : Int32) : entryFrame m #[(.int x0)] 1 = mkF m 0 #[.val (.int x0)] [] := by first | (simp [entryFrame, mkF, argsToLocals, Value.category]; done) | rfl
def Q_fits (Z : State) (p0 : Int32) (h0 : Heap) (n0 : Nat) (v : Option Value) (h : Heap) (L : List Loc) : Prop := v = some (.int (own_fit p0)) ∧ Fr n0 L ∧ h = h0
set_option maxRecDepth 65536 in
set_option maxHeartbeats 40000000 in
theorem rm_fits (l : Launch) (Z : State) (a0 : Array Value) (hw : ∀ d ∈ tables_1, d.before a0 Z = true) (ws : List Jvm.Cond) (p0 : Int32) (h0 : Heap) (n0 : Nat) (Z0 : n0 ≤ h0.size)  : own_Met l Z ⟨"com/example/bleeper/bleeper/cli/FieldsCanHoldPinLaw", "fits", "(C)Z"⟩ method_4_code 1 (some .boolean) ws ⟨0, 0, 0, 0⟩ #[(.int p0)] h0 (Q_fits Z p0 h0 n0) := by
  refine own_met n0 own_pn_com_example_bleeper_bleeper_cli_FieldsCanHoldPinLaw (fun m => ef1I m p0) ?_
  intro p e s m below meth c T lc hret hx hZ hby hml hown hnm hlk X eT N
  refine own_iloadN X hx (hb hby own1_0) (pc' := 1) rfl rfl ?_
  refine own_bipush X hx (9 : Int32) (hb hby own1_1) (pc' := 3) rfl rfl ?_
  refine own_icmp X hx (hb hby own1_3) (by decide) (pcY := 16) (pcN := 6) rfl rfl (fun (hc3 : p0 = (9 : Int32)) => ?_) (fun (hc3 : ¬ (p0 = (9 : Int32))) => ?_)
  · refine own_iconst X hx (0 : Int32) (hb hby own1_16) (pc' := 17) rfl rfl ?_
    refine own_retI X hx hlk (t := .boolean) (w' := (.int (0 : Int32))) hret (hb hby own1_17) rfl rfl (by simp) (by decide) (by decide) ?_
    rw [eT]
    exact ⟨congrArg (fun z => some (Value.int z)) (if_pos hc3).symm, N, rfl⟩
  · refine own_iloadN X hx (hb hby own1_6) (pc' := 7) rfl rfl ?_
    refine own_bipush X hx (10 : Int32) (hb hby own1_7) (pc' := 9) rfl rfl ?_
    refine own_icmp X hx (hb hby own1_9) (by decide) (pcY := 16) (pcN := 12) rfl rfl (fun (hc9 : p0 = (10 : Int32)) => ?_) (fun (hc9 : ¬ (p0 = (10 : Int32))) => ?_)
    · refine own_iconst X hx (0 : Int32) (hb hby own1_16) (pc' := 17) rfl rfl ?_
      refine own_retI X hx hlk (t := .boolean) (w' := (.int (0 : Int32))) hret (hb hby own1_17) rfl rfl (by simp) (by decide) (by decide) ?_
      rw [eT]
      exact ⟨congrArg (fun z => some (Value.int z)) ((if_neg hc3).trans (if_pos hc9)).symm, N, rfl⟩
    · refine own_iconst X hx (1 : Int32) (hb hby own1_12) (pc' := 13) rfl rfl ?_
      refine own_goto X hx (hb hby own1_13) (by decide) (pc' := 17) rfl ?_
      refine own_retI X hx hlk (t := .boolean) (w' := (.int (1 : Int32))) hret (hb hby own1_17) rfl rfl (by simp) (by decide) (by decide) ?_
      rw [eT]
      exact ⟨congrArg (fun z => some (Value.int z)) ((if_neg hc3).trans (if_neg hc9)).symm, N, rfl⟩
theorem own2_0 : decode jdk_29_method_65_code 0 = .ok (.iload_n 0, 1) := by decide +kernel
theorem own2_1 : decode jdk_29_method_65_code 1 = .ok (.iload_n 1, 1) := by decide +kernel
theorem own2_2 : decode jdk_29_method_65_code 2 = .ok (.if_icmp .lt 7, 3) := by decide +kernel
theorem own2_5 : decode jdk_29_method_65_code 5 = .ok (.iload_n 0, 1) := by decide +kernel
theorem own2_6 : decode jdk_29_method_65_code 6 = .ok (.goto 4, 3) := by decide +kernel
theorem own2_10 : decode jdk_29_method_65_code 10 = .ok (.ireturn, 1) := by decide +kernel
theorem ef_max (m : MethodId) (x0 : Int32) (x1 : Int32) : entryFrame m #[(.int x0), (.int x1)] 2 = mkF m 0 #[.val (.int x0), .val (.int x1)] [] := by first | (simp [entryFrame, mkF, argsToLocals, Value.category]; done) | rfl
def Q_max (Z : State) (p0 p1 : Int32) (h0 : Heap) (n0 : Nat) (v : Option Value) (h : Heap) (L : List Loc) : Prop := v = some (.int p0) ∧ Fr n0 L ∧ h = h0
set_option maxRecDepth 65536 in
set_option maxHeartbeats 40000000 in
theorem rm_max (l : Launch) (Z : State) (a0 : Array Value) (hw : ∀ d ∈ tables_1, d.before a0 Z = true) (ws : List Jvm.Cond) (p0 p1 : Int32) (h0 : Heap) (n0 : Nat) (Z0 : n0 ≤ h0.size) (hle : ¬ p0 < p1) :
    MetFree l (⟨"java/lang/Math", "max", "(II)I"⟩ : MethodName) (head1 (Jvm.Cond.code (⟨"java/lang/Math", "max", "(II)I"⟩ : MethodName) jdk_29_method_65_code 2 (some .int) :: ws) ({ frames := 0, cells := 0, slots := 0, locals := 0 } : Room)) (fun a U => a = #[(.int p0), (.int p1)] ∧ Z.Warmed39 U.vm ∧ U.heap = h0) (fun _ _ _ _ _ => True) (fun _ U o U' => ∃ v L, o = .returned v ∧ Q_max Z p0 p1 h0 n0 v U'.heap L ∧ FrameEnd U o U' L ({ frames := 0, cells := 0, slots := 0, locals := 0 } : Room).cells ({ frames := 0, cells := 0, slots := 0, locals := 0 } : Room).slots) := by
  refine MetFree.of_bodySF (Jvm.Free.JP.mathPlain rfl (by decide +kernel)) hisR ?_
  intro p e s m args below meth c s₁ Bd hml0 hP hK
  obtain ⟨rfl, hZ, hh⟩ := hP
  have hx := Bd.exec
  have hby := Bd.bytes
  have hml : c.maxLocals = 2 := hml0
  have hown : s.vm.findClass "java/lang/Math" = some m.cls := findClass_of_methodNamed Bd.named
  have hnm := (name_of_methodNamed Bd.named Bd.method).1
  have hlk := Bd.notSynchronized
  obtain ⟨lc, hlc⟩ : ∃ lc : List Loc, lc = [] := ⟨_, rfl⟩
  have X : Stand p l e ({ frames := 0, cells := 0, slots := 0, locals := 0 } : Room) s m #[(.int p0), (.int p1)] below meth c s₁ lc 0 0 := hlc ▸ Stand.of_body Bd
  have eT : s₁.heap = h0 := by rw [← hh, Bd.state]; rfl
  have N : Fr n0 lc := hlc ▸ Fr.nil n0
  refine own_enter (ef_max m p0 p1) ?_
  obtain ⟨T, hT⟩ : ∃ T : State, T = s₁ := ⟨_, rfl⟩
  rw [← hT] at X eT ⊢
  show own_W _ _ _ _ _ _ _ _ []
  refine own_iloadN X hx (hb hby own2_0) (pc' := 1) rfl rfl ?_
  refine own_iloadN X hx (hb hby own2_1) (pc' := 2) rfl rfl ?_
  refine own_icmpN X hx (hb hby own2_2) (pc' := 5) rfl (show ¬ (p0 < p1) from hle) ?_
  refine own_iloadN X hx (hb hby own2_5) (pc' := 6) rfl rfl ?_
  refine own_goto X hx (hb hby own2_6) (by decide) (pc' := 10) rfl ?_
  refine own_retI X hx hlk (t := .int) (w' := (.int p0)) Bd.returns (hb hby own2_10) rfl rfl (by simp) (by decide) (by decide) ?_
  rw [eT]
  exact ⟨rfl, N, rfl⟩
theorem own3_0 : decode jdk_29_method_69_code 0 = .ok (.iload_n 0, 1) := by decide +kernel
theorem own3_1 : decode jdk_29_method_69_code 1 = .ok (.iload_n 1, 1) := by decide +kernel
theorem own3_2 : decode jdk_29_method_69_code 2 = .ok (.if_icmp .gt 7, 3) := by decide +kernel
theorem own3_5 : decode jdk_29_method_69_code 5 = .ok (.iload_n 0, 1) := by decide +kernel
theorem own3_6 : decode jdk_29_method_69_code 6 = .ok (.goto 4, 3) := by decide +kernel
theorem own3_10 : decode jdk_29_method_69_code 10 = .ok (.ireturn, 1) := by decide +kernel
theorem ef_min (m : MethodId) (x0 : Int32) (x1 : Int32) : entryFrame m #[(.int x0), (.int x1)] 2 = mkF m 0 #[.val (.int x0), .val (.int x1)] [] := by first | (simp [entryFrame, mkF, argsToLocals, Value.category]; done) | rfl
def Q_min (Z : State) (p0 p1 : Int32) (h0 : Heap) (n0 : Nat) (v : Option Value) (h : Heap) (L : List Loc) : Prop := v = some (.int p0) ∧ Fr n0 L ∧ h = h0
set_option maxRecDepth 65536 in
set_option maxHeartbeats 40000000 in
theorem rm_min (l : Launch) (Z : State) (a0 : Array Value) (hw : ∀ d ∈ tables_1, d.before a0 Z = true) (ws : List Jvm.Cond) (p0 p1 : Int32) (h0 : Heap) (n0 : Nat) (Z0 : n0 ≤ h0.size) (hle : ¬ p1 < p0) :
    MetFree l (⟨"java/lang/Math", "min", "(II)I"⟩ : MethodName) (head1 (Jvm.Cond.code (⟨"java/lang/Math", "min", "(II)I"⟩ : MethodName) jdk_29_method_69_code 2 (some .int) :: ws) ({ frames := 0, cells := 0, slots := 0, locals := 0 } : Room)) (fun a U => a = #[(.int p0), (.int p1)] ∧ Z.Warmed39 U.vm ∧ U.heap = h0) (fun _ _ _ _ _ => True) (fun _ U o U' => ∃ v L, o = .returned v ∧ Q_min Z p0 p1 h0 n0 v U'.heap L ∧ FrameEnd U o U' L ({ frames := 0, cells := 0, slots := 0, locals := 0 } : Room).cells ({ frames := 0, cells := 0, slots := 0, locals := 0 } : Room).slots) := by
  refine MetFree.of_bodySF (Jvm.Free.JP.mathPlain rfl (by decide +kernel)) hisR ?_
  intro p e s m args below meth c s₁ Bd hml0 hP hK
  obtain ⟨rfl, hZ, hh⟩ := hP
  have hx := Bd.exec
  have hby := Bd.bytes
  have hml : c.maxLocals = 2 := hml0
  have hown : s.vm.findClass "java/lang/Math" = some m.cls := findClass_of_methodNamed Bd.named
  have hnm := (name_of_methodNamed Bd.named Bd.method).1
  have hlk := Bd.notSynchronized
  obtain ⟨lc, hlc⟩ : ∃ lc : List Loc, lc = [] := ⟨_, rfl⟩
  have X : Stand p l e ({ frames := 0, cells := 0, slots := 0, locals := 0 } : Room) s m #[(.int p0), (.int p1)] below meth c s₁ lc 0 0 := hlc ▸ Stand.of_body Bd
  have eT : s₁.heap = h0 := by rw [← hh, Bd.state]; rfl
  have N : Fr n0 lc := hlc ▸ Fr.nil n0
  refine own_enter (ef_min m p0 p1) ?_
  obtain ⟨T, hT⟩ : ∃ T : State, T = s₁ := ⟨_, rfl⟩
  rw [← hT] at X eT ⊢
  show own_W _ _ _ _ _ _ _ _ []
  refine own_iloadN X hx (hb hby own3_0) (pc' := 1) rfl rfl ?_
  refine own_iloadN X hx (hb hby own3_1) (pc' := 2) rfl rfl ?_
  refine own_icmpN X hx (hb hby own3_2) (pc' := 5) rfl (show ¬ (p1 < p0) from hle) ?_
  refine own_iloadN X hx (hb hby own3_5) (pc' := 6) rfl rfl ?_
  refine own_goto X hx (hb hby own3_6) (by decide) (pc' := 10) rfl ?_
  refine own_retI X hx hlk (t := .int) (w' := (.int p0)) Bd.returns (hb hby own3_10) rfl rfl (by simp) (by decide) (by decide) ?_
  rw [eT]
  exact ⟨rfl, N, rfl⟩
theorem own4_0 : decode jdk_52_method_3_code 0 = .ok (.iload_n 0, 1) := by decide +kernel
theorem own4_1 : decode jdk_52_method_3_code 1 = .ok (.ifCond .ge 11, 3) := by decide +kernel
theorem own4_12 : decode jdk_52_method_3_code 12 = .ok (.iload_n 0, 1) := by decide +kernel
theorem own4_13 : decode jdk_52_method_3_code 13 = .ok (.ldc 20, 2) := by decide +kernel
theorem own4_15 : decode jdk_52_method_3_code 15 = .ok (.if_icmp .lt 40, 3) := by decide +kernel
theorem own4_55 : decode jdk_52_method_3_code 55 = .ok (.iload_n 0, 1) := by decide +kernel
theorem own4_56 : decode jdk_52_method_3_code 56 = .ok (.iconst 1, 1) := by decide +kernel
theorem own4_57 : decode jdk_52_method_3_code 57 = .ok (.ishl, 1) := by decide +kernel
theorem own4_58 : decode jdk_52_method_3_code 58 = .ok (.ireturn, 1) := by decide +kernel
theorem own_pn_java_lang_StringUTF16 : plainName "java/lang/StringUTF16" = true := by first | (simp [plainName, overriddenIn]; done) | decide +kernel
def Q_nl1 (Z : State) (u : Int32) (h0 : Heap) (n0 : Nat) (v : Option Value) (h : Heap) (L : List Loc) : Prop := v = some (.int (2 : Int32)) ∧ Fr n0 L ∧ h = h0
set_option maxRecDepth 65536 in
set_option maxHeartbeats 40000000 in
theorem rm_nl1 (l : Launch) (Z : State) (a0 : Array Value) (hw : ∀ d ∈ tables_1, d.before a0 Z = true) (ws : List Jvm.Cond) (u : Int32) (h0 : Heap) (n0 : Nat) (Z0 : n0 ≤ h0.size)  : own_Met l Z ⟨"java/lang/StringUTF16", "newBytesLength", "(I)I"⟩ jdk_52_method_3_code 1 (some .int) ws ⟨0, 0, 0, 0⟩ #[(.int (1 : Int32))] h0 (Q_nl1 Z u h0 n0) := by
  refine own_met n0 own_pn_java_lang_StringUTF16 (fun m => ef1I m (1 : Int32)) ?_
  intro p e s m below meth c T lc hret hx hZ hby hml hown hnm hlk X eT N
  refine own_iloadN X hx (hb hby own4_0) (pc' := 1) rfl rfl ?_
  refine own_ifY X hx (hb hby own4_1) (by decide) (pc' := 12) rfl (show ¬ ((1 : Int32) < (0 : Int32)) from (by decide)) ?_
  refine own_iloadN X hx (hb hby own4_12) (pc' := 13) rfl rfl ?_
  refine own_ldc X hx hZ hown (own_w hw 99 rfl) (hb hby own4_13) (pc' := 15) rfl ?_
  refine own_icmpY X hx (hb hby own4_15) (by decide) (pc' := 55) rfl (show (1 : Int32) < (1073741823 : Int32) from (by decide)) ?_
  refine own_iloadN X hx (hb hby own4_55) (pc' := 56) rfl rfl ?_
  refine own_iconst X hx (1 : Int32) (hb hby own4_56) (pc' := 57) rfl rfl ?_
  refine own_ishl X hx (hb hby own4_57) (pc' := 58) rfl ?_
  rw [show ((1 : Int32) <<< ((1 : Int32) &&& 31)) = (2 : Int32) from by decide]
  refine own_retI X hx hlk (t := .int) (w' := (.int (2 : Int32))) hret (hb hby own4_58) rfl rfl (by simp) (by decide) (by decide) ?_
  rw [eT]
  exact ⟨rfl, N, rfl⟩
theorem own5_0 : decode jdk_52_method_2_code 0 = .ok (.iload_n 0, 1) := by decide +kernel
theorem own5_1 : decode jdk_52_method_2_code 1 = .ok (.invokestatic 11, 3) := by decide +kernel
theorem own_pd_28I29I : parseMethodDescriptor "(I)I" = some ⟨[.int], some .int⟩ := by decide +kernel
theorem own5_4 : decode jdk_52_method_2_code 4 = .ok (.newarray .byte, 2) := by decide +kernel
theorem own5_6 : decode jdk_52_method_2_code 6 = .ok (.areturn, 1) := by decide +kernel
def Q_nf1 (Z : State) (u : Int32) (h0 : Heap) (n0 : Nat) (v : Option Value) (h : Heap) (L : List Loc) : Prop := ∃ (b : Addr) (kb : ClassId), v = some (.ref b) ∧ Fr n0 L ∧ Keep h0 h [] ∧ h0.size ≤ b ∧ Arv Z h b kb .byte (2 : Int32) [(.int (0 : Int32)), (.int (0 : Int32))] (.int (0 : Int32))
set_option maxRecDepth 65536 in
set_option maxHeartbeats 40000000 in
theorem rm_nf1 (l : Launch) (Z : State) (a0 : Array Value) (hw : ∀ d ∈ tables_1, d.before a0 Z = true) (ws : List Jvm.Cond) (u : Int32) (h0 : Heap) (n0 : Nat) (Z0 : n0 ≤ h0.size)  : own_Met l Z ⟨"java/lang/StringUTF16", "newBytesFor", "(I)[B"⟩ jdk_52_method_2_code 1 (some (.array .byte)) ws ⟨1, 1, 2, 17⟩ #[(.int (1 : Int32))] h0 (Q_nf1 Z u h0 n0) := by
  refine own_met n0 own_pn_java_lang_StringUTF16 (fun m => ef1I m (1 : Int32)) ?_
  intro p e s m below meth c T lc hret hx hZ hby hml hown hnm hlk X eT N
  have Kp : Keep h0 h0 [] := Keep.refl _ _
  refine own_iloadN X hx (hb hby own5_0) (pc' := 1) rfl rfl ?_
  refine own_callS X hx hZ [(.int (1 : Int32))] hown (own_w hw 96 rfl) (own_w hw 97 rfl) (own_w hw 76 rfl) (own_w hw 98 rfl) (by decide) (rm_nl1 l Z a0 hw [] 0 h0 n0 Z0) eT (W := 0) (by decide) (by decide) (cells' := 0) (slots' := 0) rfl rfl (by decide) (by decide) (by rw [hml]; rfl) (lenOf own_pd_28I29I rfl) rfl (S := []) rfl (Nat.le_of_eq rfl) (hb hby own5_1) (pc' := 4) rfl ?_
  intro v T h1 L lc X eT hq fN
  obtain ⟨rfl, Nq, hqe⟩ := hq
  have N := fN _ N Nq
  rw [hqe] at eT
  show own_W _ _ _ _ _ _ _ _ [(.int (2 : Int32))]
  refine own_newarr X hx hZ (own_w hw 23 rfl) eT (hb hby own5_4) (pc' := 6) rfl (by decide) 2 (by decide) (by decide) (cells' := 1) (slots' := 2) rfl rfl (by decide) (by decide) ?_
  intro T h2 k_b2 b2 X eT E gb2 A_b2
  have z_b2 : n0 ≤ b2 := Nat.le_trans Z0 (Nat.le_of_eq gb2.symm)
  have s_b2 : h0.size ≤ b2 := Nat.le_trans Kp.1 (Nat.le_of_eq gb2.symm)
  have Z0 := Nat.le_trans Z0 E.1
  have Kp := Kp.ext E
  have A_b2 : Arv Z h2 b2 k_b2 .byte (2 : Int32) [(.int (0 : Int32)), (.int (0 : Int32))] (.int (0 : Int32)) := A_b2.pad (pad_rep [] (.int (0 : Int32)) 2)
  refine own_retA X hx hlk hret (hb hby own5_6) rfl rfl rfl (by decide) (by decide) ?_
  rw [eT]
  exact ⟨_, _, rfl, N, Kp, s_b2, A_b2⟩
theorem own6_0 : decode jdk_52_method_4_code 0 = .ok (.getstatic 44, 3) := by decide +kernel
theorem own6_3 : decode jdk_52_method_4_code 3 = .ok (.ifCond .ne 25, 3) := by decide +kernel
theorem own6_28 : decode jdk_52_method_4_code 28 = .ok (.iload_n 1, 1) := by decide +kernel
theorem own6_29 : decode jdk_52_method_4_code 29 = .ok (.iconst 1, 1) := by decide +kernel
theorem own6_30 : decode jdk_52_method_4_code 30 = .ok (.ishl, 1) := by decide +kernel
theorem own6_31 : decode jdk_52_method_4_code 31 = .ok (.istore_n 1, 1) := by decide +kernel
theorem own6_32 : decode jdk_52_method_4_code 32 = .ok (.aload_n 0, 1) := by decide +kernel
theorem own6_33 : decode jdk_52_method_4_code 33 = .ok (.iload_n 1, 1) := by decide +kernel
theorem own6_34 : decode jdk_52_method_4_code 34 = .ok (.iinc 1 1, 3) := by decide +kernel
theorem own6_37 : decode jdk_52_method_4_code 37 = .ok (.iload_n 2, 1) := by decide +kernel
theorem own6_38 : decode jdk_52_method_4_code 38 = .ok (.getstatic 59, 3) := by decide +kernel
theorem own6_41 : decode jdk_52_method_4_code 41 = .ok (.ishr, 1) := by decide +kernel
theorem own6_42 : decode jdk_52_method_4_code 42 = .ok (.i2b, 1) := by decide +kernel
theorem own6_43 : decode jdk_52_method_4_code 43 = .ok (.bastore, 1) := by decide +kernel
theorem own6_44 : decode jdk_52_method_4_code 44 = .ok (.aload_n 0, 1) := by decide +kernel
theorem own6_45 : decode jdk_52_method_4_code 45 = .ok (.iload_n 1, 1) := by decide +kernel
theorem own6_46 : decode jdk_52_method_4_code 46 = .ok (.iload_n 2, 1) := by decide +kernel
theorem own6_47 : decode jdk_52_method_4_code 47 = .ok (.getstatic 63, 3) := by decide +kernel
theorem own6_50 : decode jdk_52_method_4_code 50 = .ok (.ishr, 1) := by decide +kernel
theorem own6_51 : decode jdk_52_method_4_code 51 = .ok (.i2b, 1) := by decide +kernel
theorem own6_52 : decode jdk_52_method_4_code 52 = .ok (.bastore, 1) := by decide +kernel
theorem own6_53 : decode jdk_52_method_4_code 53 = .ok (.return_, 1) := by decide +kernel
theorem ef3RII (m : MethodId) (x0 : Addr) (x1 : Int32) (x2 : Int32) : entryFrame m #[(.ref x0), (.int x1), (.int x2)] 3 = mkF m 0 #[.val (.ref x0), .val (.int x1), .val (.int x2)] [] := by first | (simp [entryFrame, mkF, argsToLocals, Value.category]; done) | rfl
def Q_pu1_0 (Z : State) (ad : Addr) (kd : ClassId) (d x0 x1 : Int32) (h0 : Heap) (n0 : Nat) (v : Option Value) (h : Heap) (L : List Loc) : Prop := v = none ∧ Fr n0 L ∧ Keep h0 h [ad] ∧ Arv Z h ad kd .byte (2 : Int32) [(.int (own_lb d)), (.int (own_hb d))] (.int (0 : Int32))
set_option maxRecDepth 65536 in
set_option maxHeartbeats 40000000 in
theorem rm_pu1_0 (l : Launch) (Z : State) (a0 : Array Value) (hw : ∀ d ∈ tables_1, d.before a0 Z = true) (ws : List Jvm.Cond) (ad : Addr) (kd : ClassId) (d x0 x1 : Int32) (h0 : Heap) (n0 : Nat) (Z0 : n0 ≤ h0.size) (S_A : Sta Z h0 "java/lang/StringUTF16" "$assertionsDisabled" "Z" (.int (1 : Int32))) (S_H : Sta Z h0 "java/lang/StringUTF16" "HI_BYTE_SHIFT" "I" (.int (0 : Int32))) (S_L : Sta Z h0 "java/lang/StringUTF16" "LO_BYTE_SHIFT" "I" (.int (8 : Int32))) (A_ad : Arv Z h0 ad kd .byte (2 : Int32) [(.int x0), (.int x1)] (.int (0 : Int32))) (z_ad : n0 ≤ ad) : own_Met l Z ⟨"java/lang/StringUTF16", "putChar", "([BII)V"⟩ jdk_52_method_4_code 3 none ws ⟨0, 0, 0, 0⟩ #[(.ref ad), (.int (0 : Int32)), (.int d)] h0 (Q_pu1_0 Z ad kd d x0 x1 h0 n0) := by
  refine own_met n0 own_pn_java_lang_StringUTF16 (fun m => ef3RII m ad (0 : Int32) d) ?_
  intro p e s m below meth c T lc hret hx hZ hby hml hown hnm hlk X eT N
  have Kp : Keep h0 h0 [ad] := Keep.refl _ _
  refine own_getS X hx hZ hown (host := "") (Or.inl (own_w hw 103 rfl)) Via.refl eT S_A (hb hby own6_0) (pc' := 3) rfl ?_
  intro T X eT
  refine own_ifY X hx (hb hby own6_3) (by decide) (pc' := 28) rfl (show ¬ ((1 : Int32) = (0 : Int32)) from (by decide)) ?_
  refine own_iloadN X hx (hb hby own6_28) (pc' := 29) rfl rfl ?_
  refine own_iconst X hx (1 : Int32) (hb hby own6_29) (pc' := 30) rfl rfl ?_
  refine own_ishl X hx (hb hby own6_30) (pc' := 31) rfl ?_
  rw [show ((0 : Int32) <<< ((1 : Int32) &&& 31)) = (0 : Int32) from by decide]
  refine own_istoreN X hx (hb hby own6_31) (pc' := 32) rfl (Ls' := #[.val (.ref ad), .val (.int (0 : Int32)), .val (.int d)]) rfl ?_
  refine own_aloadN X hx (hb hby own6_32) (pc' := 33) rfl rfl rfl ?_
  refine own_iloadN X hx (hb hby own6_33) (pc' := 34) rfl rfl ?_
  refine own_iinc X hx (1 : Int32) (hb hby own6_34) (pc' := 37) rfl rfl rfl (Ls' := #[.val (.ref ad), .val (.int (1 : Int32)), .val (.int d)]) rfl ?_
  refine own_iloadN X hx (hb hby own6_37) (pc' := 38) rfl rfl ?_
  refine own_getS X hx hZ hown (host := "") (Or.inl (own_w hw 104 rfl)) Via.refl eT S_H (hb hby own6_38) (pc' := 41) rfl ?_
  intro T X eT
  refine own_ishr X hx (hb hby own6_41) (pc' := 42) rfl ?_
  refine own_i2b X hx (hb hby own6_42) (pc' := 43) rfl ?_
  refine own_bastoreB X hx hZ eT A_ad (by decide) 0 rfl (by show 0 < 2; decide) (hb hby own6_43) (pc' := 44) rfl ?_
  intro T h1 lc X eT Kq A_adn fN
  have S_A := own_sta_keep S_A Kq (nsS (own_ns_arv A_ad) ns0)
  have S_H := own_sta_keep S_H Kq (nsS (own_ns_arv A_ad) ns0)
  have S_L := own_sta_keep S_L Kq (nsS (own_ns_arv A_ad) ns0)
  have Z0 := Nat.le_trans Z0 Kq.1
  have A_ad := A_adn
  have N := fN _ z_ad N
  have Kp := Kp.trans Kq (allS (P := fun x => x ∈ [ad] ∨ h0.size ≤ x) (Or.inl (List.mem_of_getElem? (i := 0) rfl)) all0)
  have A_ad : Arv Z h1 ad _ .byte (2 : Int32) [(.int (nar .byte (d >>> ((0 : Int32) &&& 31)).toInt8.toInt32)), (.int x1)] (.int (0 : Int32)) := A_ad
  refine own_aloadN X hx (hb hby own6_44) (pc' := 45) rfl rfl rfl ?_
  refine own_iloadN X hx (hb hby own6_45) (pc' := 46) rfl rfl ?_
  refine own_iloadN X hx (hb hby own6_46) (pc' := 47) rfl rfl ?_
  refine own_getS X hx hZ hown (host := "") (Or.inl (own_w hw 105 rfl)) Via.refl eT S_L (hb hby own6_47) (pc' := 50) rfl ?_
  intro T X eT
  refine own_ishr X hx (hb hby own6_50) (pc' := 51) rfl ?_
  refine own_i2b X hx (hb hby own6_51) (pc' := 52) rfl ?_
  refine own_bastoreB X hx hZ eT A_ad (by decide) 1 rfl (by show 1 < 2; decide) (hb hby own6_52) (pc' := 53) rfl ?_
  intro T h2 lc X eT Kq A_adn fN
  have S_A := own_sta_keep S_A Kq (nsS (own_ns_arv A_ad) ns0)
  have S_H := own_sta_keep S_H Kq (nsS (own_ns_arv A_ad) ns0)
  have S_L := own_sta_keep S_L Kq (nsS (own_ns_arv A_ad) ns0)
  have Z0 := Nat.le_trans Z0 Kq.1
  have A_ad := A_adn
  have N := fN _ z_ad N
  have Kp := Kp.trans Kq (allS (P := fun x => x ∈ [ad] ∨ h0.size ≤ x) (Or.inl (List.mem_of_getElem? (i := 0) rfl)) all0)
  have A_ad : Arv Z h2 ad _ .byte (2 : Int32) [(.int (nar .byte (d >>> ((0 : Int32) &&& 31)).toInt8.toInt32)), (.int (nar .byte (d >>> ((8 : Int32) &&& 31)).toInt8.toInt32))] (.int (0 : Int32)) := A_ad
  refine own_ret0 X hx hlk hret (hb hby own6_53) (by decide) (by decide) ?_
  rw [eT]
  exact ⟨rfl, N, Kp, A_ad⟩
theorem own7_0 : decode jdk_52_method_5_code 0 = .ok (.getstatic 44, 3) := by decide +kernel
theorem own7_3 : decode jdk_52_method_5_code 3 = .ok (.ifCond .ne 25, 3) := by decide +kernel
theorem own7_28 : decode jdk_52_method_5_code 28 = .ok (.iload_n 1, 1) := by decide +kernel
theorem own7_29 : decode jdk_52_method_5_code 29 = .ok (.iconst 1, 1) := by decide +kernel
theorem own7_30 : decode jdk_52_method_5_code 30 = .ok (.ishl, 1) := by decide +kernel
theorem own7_31 : decode jdk_52_method_5_code 31 = .ok (.istore_n 1, 1) := by decide +kernel
theorem own7_32 : decode jdk_52_method_5_code 32 = .ok (.aload_n 0, 1) := by decide +kernel
theorem own7_33 : decode jdk_52_method_5_code 33 = .ok (.iload_n 1, 1) := by decide +kernel
theorem own7_34 : decode jdk_52_method_5_code 34 = .ok (.iinc 1 1, 3) := by decide +kernel
theorem own7_37 : decode jdk_52_method_5_code 37 = .ok (.baload, 1) := by decide +kernel
theorem own7_38 : decode jdk_52_method_5_code 38 = .ok (.sipush 255, 3) := by decide +kernel
theorem own7_41 : decode jdk_52_method_5_code 41 = .ok (.iand, 1) := by decide +kernel
theorem own7_42 : decode jdk_52_method_5_code 42 = .ok (.getstatic 59, 3) := by decide +kernel
theorem own7_45 : decode jdk_52_method_5_code 45 = .ok (.ishl, 1) := by decide +kernel
theorem own7_46 : decode jdk_52_method_5_code 46 = .ok (.aload_n 0, 1) := by decide +kernel
theorem own7_47 : decode jdk_52_method_5_code 47 = .ok (.iload_n 1, 1) := by decide +kernel
theorem own7_48 : decode jdk_52_method_5_code 48 = .ok (.baload, 1) := by decide +kernel
theorem own7_49 : decode jdk_52_method_5_code 49 = .ok (.sipush 255, 3) := by decide +kernel
theorem own7_52 : decode jdk_52_method_5_code 52 = .ok (.iand, 1) := by decide +kernel
theorem own7_53 : decode jdk_52_method_5_code 53 = .ok (.getstatic 63, 3) := by decide +kernel
theorem own7_56 : decode jdk_52_method_5_code 56 = .ok (.ishl, 1) := by decide +kernel
theorem own7_57 : decode jdk_52_method_5_code 57 = .ok (.ior, 1) := by decide +kernel
theorem own7_58 : decode jdk_52_method_5_code 58 = .ok (.i2c, 1) := by decide +kernel
theorem own7_59 : decode jdk_52_method_5_code 59 = .ok (.ireturn, 1) := by decide +kernel
theorem ef2RI (m : MethodId) (x0 : Addr) (x1 : Int32) : entryFrame m #[(.ref x0), (.int x1)] 2 = mkF m 0 #[.val (.ref x0), .val (.int x1)] [] := by first | (simp [entryFrame, mkF, argsToLocals, Value.category]; done) | rfl
def Q_gc1_0 (Z : State) (b : Addr) (kd : ClassId) (d0 : Int32) (h0 : Heap) (n0 : Nat) (v : Option Value) (h : Heap) (L : List Loc) : Prop := v = some (.int d0) ∧ Fr n0 L ∧ h = h0
set_option maxRecDepth 65536 in
set_option maxHeartbeats 40000000 in
theorem rm_gc1_0 (l : Launch) (Z : State) (a0 : Array Value) (hw : ∀ d ∈ tables_1, d.before a0 Z = true) (ws : List Jvm.Cond) (b : Addr) (kd : ClassId) (d0 : Int32) (h0 : Heap) (n0 : Nat) (Z0 : n0 ≤ h0.size) (S_A : Sta Z h0 "java/lang/StringUTF16" "$assertionsDisabled" "Z" (.int (1 : Int32))) (S_H : Sta Z h0 "java/lang/StringUTF16" "HI_BYTE_SHIFT" "I" (.int (0 : Int32))) (S_L : Sta Z h0 "java/lang/StringUTF16" "LO_BYTE_SHIFT" "I" (.int (8 : Int32))) (hd0 : own_c16 d0) (A_b : Arv Z h0 b kd .byte (2 : Int32) [(.int (own_lb d0)), (.int (own_hb d0))] (.int (0 : Int32))) : own_Met l Z ⟨"java/lang/StringUTF16", "getChar", "([BI)C"⟩ jdk_52_method_5_code 2 (some .char) ws ⟨0, 0, 0, 0⟩ #[(.ref b), (.int (0 : Int32))] h0 (Q_gc1_0 Z b kd d0 h0 n0) := by
  refine own_met n0 own_pn_java_lang_StringUTF16 (fun m => ef2RI m b (0 : Int32)) ?_
  intro p e s m below meth c T lc hret hx hZ hby hml hown hnm hlk X eT N
  refine own_getS X hx hZ hown (host := "") (Or.inl (own_w hw 103 rfl)) Via.refl eT S_A (hb hby own7_0) (pc' := 3) rfl ?_
  intro T X eT
  refine own_ifY X hx (hb hby own7_3) (by decide) (pc' := 28) rfl (show ¬ ((1 : Int32) = (0 : Int32)) from (by decide)) ?_
  refine own_iloadN X hx (hb hby own7_28) (pc' := 29) rfl rfl ?_
  refine own_iconst X hx (1 : Int32) (hb hby own7_29) (pc' := 30) rfl rfl ?_
  refine own_ishl X hx (hb hby own7_30) (pc' := 31) rfl ?_
  rw [show ((0 : Int32) <<< ((1 : Int32) &&& 31)) = (0 : Int32) from by decide]
  refine own_istoreN X hx (hb hby own7_31) (pc' := 32) rfl (Ls' := #[.val (.ref b), .val (.int (0 : Int32))]) rfl ?_
  refine own_aloadN X hx (hb hby own7_32) (pc' := 33) rfl rfl rfl ?_
  refine own_iloadN X hx (hb hby own7_33) (pc' := 34) rfl rfl ?_
  refine own_iinc X hx (1 : Int32) (hb hby own7_34) (pc' := 37) rfl rfl rfl (Ls' := #[.val (.ref b), .val (.int (1 : Int32))]) rfl ?_
  refine own_baloadB X hx hZ eT A_b (v := (.int (own_lb d0))) (by decide) rfl (hb hby own7_37) (pc' := 38) rfl ?_
  refine own_sipush X hx (255 : Int32) (hb hby own7_38) (pc' := 41) rfl rfl ?_
  refine own_iand X hx (hb hby own7_41) (pc' := 42) rfl ?_
  refine own_getS X hx hZ hown (host := "") (Or.inl (own_w hw 104 rfl)) Via.refl eT S_H (hb hby own7_42) (pc' := 45) rfl ?_
  intro T X eT
  refine own_ishl X hx (hb hby own7_45) (pc' := 46) rfl ?_
  refine own_aloadN X hx (hb hby own7_46) (pc' := 47) rfl rfl rfl ?_
  refine own_iloadN X hx (hb hby own7_47) (pc' := 48) rfl rfl ?_
  refine own_baloadB X hx hZ eT A_b (v := (.int (own_hb d0))) (by decide) rfl (hb hby own7_48) (pc' := 49) rfl ?_
  refine own_sipush X hx (255 : Int32) (hb hby own7_49) (pc' := 52) rfl rfl ?_
  refine own_iand X hx (hb hby own7_52) (pc' := 53) rfl ?_
  refine own_getS X hx hZ hown (host := "") (Or.inl (own_w hw 105 rfl)) Via.refl eT S_L (hb hby own7_53) (pc' := 56) rfl ?_
  intro T X eT
  refine own_ishl X hx (hb hby own7_56) (pc' := 57) rfl ?_
  refine own_ior X hx (hb hby own7_57) (pc' := 58) rfl ?_
  refine own_i2c X hx (hb hby own7_58) (pc' := 59) rfl ?_
  refine own_retI X hx hlk (t := .char) (w' := (.int (nar .char ((((own_lb d0) &&& (255 : Int32)) <<< ((0 : Int32) &&& 31)) ||| (((own_hb d0) &&& (255 : Int32)) <<< ((8 : Int32) &&& 31))).toUInt32.toUInt16.toUInt32.toInt32))) hret (hb hby own7_59) rfl rfl (by simp) (by decide) (by decide) ?_
  rw [eT]
  exact ⟨congrArg (fun z => some (Value.int z)) (own_gc hd0), N, rfl⟩
theorem own8_0 : decode jdk_52_method_14_code 0 = .ok (.iload_n 2, 1) := by decide +kernel
theorem own8_1 : decode jdk_52_method_14_code 1 = .ok (.invokestatic 107, 3) := by decide +kernel
theorem own_pd_28I295bB : parseMethodDescriptor "(I)[B" = some ⟨[.int], some (.array .byte)⟩ := by decide +kernel
theorem own8_4 : decode jdk_52_method_14_code 4 = .ok (.astore_n 3, 1) := by decide +kernel
theorem own8_5 : decode jdk_52_method_14_code 5 = .ok (.iconst 0, 1) := by decide +kernel
theorem own8_6 : decode jdk_52_method_14_code 6 = .ok (.istore 4, 2) := by decide +kernel
theorem own8_8 : decode jdk_52_method_14_code 8 = .ok (.iload 4, 2) := by decide +kernel
theorem own8_10 : decode jdk_52_method_14_code 10 = .ok (.iload_n 2, 1) := by decide +kernel
theorem own8_11 : decode jdk_52_method_14_code 11 = .ok (.if_icmp .ge 21, 3) := by decide +kernel
theorem own8_14 : decode jdk_52_method_14_code 14 = .ok (.aload_n 3, 1) := by decide +kernel
theorem own8_15 : decode jdk_52_method_14_code 15 = .ok (.iload 4, 2) := by decide +kernel
theorem own8_17 : decode jdk_52_method_14_code 17 = .ok (.aload_n 0, 1) := by decide +kernel
theorem own8_18 : decode jdk_52_method_14_code 18 = .ok (.iload_n 1, 1) := by decide +kernel
theorem own8_19 : decode jdk_52_method_14_code 19 = .ok (.caload, 1) := by decide +kernel
theorem own8_20 : decode jdk_52_method_14_code 20 = .ok (.invokestatic 111, 3) := by decide +kernel
theorem own_pd_285bBII29V : parseMethodDescriptor "([BII)V" = some ⟨[(.array .byte), .int, .int], none⟩ := by decide +kernel
theorem own8_23 : decode jdk_52_method_14_code 23 = .ok (.iinc 1 1, 3) := by decide +kernel
theorem own8_26 : decode jdk_52_method_14_code 26 = .ok (.iinc 4 1, 3) := by decide +kernel
theorem own8_29 : decode jdk_52_method_14_code 29 = .ok (.goto (-21), 3) := by decide +kernel
theorem own8_32 : decode jdk_52_method_14_code 32 = .ok (.aload_n 3, 1) := by decide +kernel
theorem own8_33 : decode jdk_52_method_14_code 33 = .ok (.areturn, 1) := by decide +kernel
theorem ef5RII (m : MethodId) (x0 : Addr) (x1 : Int32) (x2 : Int32) : entryFrame m #[(.ref x0), (.int x1), (.int x2)] 5 = mkF m 0 #[.val (.ref x0), .val (.int x1), .val (.int x2), .unset, .unset] [] := by first | (simp [entryFrame, mkF, argsToLocals, Value.category]; done) | rfl
def Q_tb1 (Z : State) (aq : Addr) (kq : ClassId) (d0 : Int32) (h0 : Heap) (n0 : Nat) (v : Option Value) (h : Heap) (L : List Loc) : Prop := ∃ (b : Addr) (kb : ClassId), v = some (.ref b) ∧ Fr n0 L ∧ Keep h0 h [] ∧ h0.size ≤ b ∧ Arv Z h b kb .byte (2 : Int32) [(.int (own_lb d0)), (.int (own_hb d0))] (.int (0 : Int32))
set_option maxRecDepth 65536 in
set_option maxHeartbeats 40000000 in
theorem rm_tb1 (l : Launch) (Z : State) (a0 : Array Value) (hw : ∀ d ∈ tables_1, d.before a0 Z = true) (ws : List Jvm.Cond) (aq : Addr) (kq : ClassId) (d0 : Int32) (h0 : Heap) (n0 : Nat) (Z0 : n0 ≤ h0.size) (S_A : Sta Z h0 "java/lang/StringUTF16" "$assertionsDisabled" "Z" (.int (1 : Int32))) (S_H : Sta Z h0 "java/lang/StringUTF16" "HI_BYTE_SHIFT" "I" (.int (0 : Int32))) (S_L : Sta Z h0 "java/lang/StringUTF16" "LO_BYTE_SHIFT" "I" (.int (8 : Int32))) (A_aq : Arv Z h0 aq kq .char (1 : Int32) [(.int d0)] (.int (0 : Int32))) : own_Met l Z ⟨"java/lang/StringUTF16", "toBytes", "([CII)[B"⟩ jdk_52_method_14_code 5 (some (.array .byte)) ws ⟨2, 1, 2, 34⟩ #[(.ref aq), (.int (0 : Int32)), (.int (1 : Int32))] h0 (Q_tb1 Z aq kq d0 h0 n0) := by
  refine own_met n0 own_pn_java_lang_StringUTF16 (fun m => ef5RII m aq (0 : Int32) (1 : Int32)) ?_
  intro p e s m below meth c T lc hret hx hZ hby hml hown hnm hlk X eT N
  have Kp : Keep h0 h0 [] := Keep.refl _ _
  refine own_iloadN X hx (hb hby own8_0) (pc' := 1) rfl rfl ?_
  refine own_callS X hx hZ [(.int (1 : Int32))] hown (own_w hw 93 rfl) (own_w hw 94 rfl) (own_w hw 76 rfl) (own_w hw 95 rfl) (by decide) (rm_nf1 l Z a0 hw [] 0 h0 n0 Z0) eT (W := 0) (by decide) (by decide) (cells' := 1) (slots' := 2) rfl rfl (by decide) (by decide) (by rw [hml]; rfl) (lenOf own_pd_28I295bB rfl) rfl (S := []) rfl (Nat.le_of_eq rfl) (hb hby own8_1) (pc' := 4) rfl ?_
  intro v T h1 L lc X eT hq fN
  obtain ⟨bb, kb, rfl, Nq, Kq, hbb, A_bb⟩ := hq
  have N := fN _ N Nq
  have lt_aq_bb : aq < bb := Nat.lt_of_lt_of_le A_aq.lt hbb
  have ne_aq_bb : aq ≠ bb := Nat.ne_of_lt lt_aq_bb
  have z_bb : n0 ≤ bb := Nat.le_trans Z0 hbb
  have s_bb : h0.size ≤ bb := Nat.le_trans Kp.1 hbb
  have S_A := own_sta_keep S_A Kq ns0
  have S_H := own_sta_keep S_H Kq ns0
  have S_L := own_sta_keep S_L Kq ns0
  have A_aq := A_aq.keep Kq nin0
  have Z0 := Nat.le_trans Z0 Kq.1
  have Kp := Kp.trans Kq all0
  show own_W _ _ _ _ _ _ _ _ [(.ref bb)]
  refine own_astoreN X hx (hb hby own8_4) (pc' := 5) rfl rfl (Ls' := #[.val (.ref aq), .val (.int (0 : Int32)), .val (.int (1 : Int32)), .val (.ref bb), .unset]) rfl ?_
  refine own_iconst X hx (0 : Int32) (hb hby own8_5) (pc' := 6) rfl rfl ?_
  refine own_istore X hx (hb hby own8_6) (pc' := 8) rfl (Ls' := #[.val (.ref aq), .val (.int (0 : Int32)), .val (.int (1 : Int32)), .val (.ref bb), .val (.int (0 : Int32))]) rfl ?_
  refine own_iload X hx (hb hby own8_8) (pc' := 10) rfl rfl ?_
  refine own_iloadN X hx (hb hby own8_10) (pc' := 11) rfl rfl ?_
  refine own_icmpN X hx (hb hby own8_11) (pc' := 14) rfl (show (0 : Int32) < (1 : Int32) from (by decide)) ?_
  refine own_aloadN X hx (hb hby own8_14) (pc' := 15) rfl rfl rfl ?_
  refine own_iload X hx (hb hby own8_15) (pc' := 17) rfl rfl ?_
  refine own_aloadN X hx (hb hby own8_17) (pc' := 18) rfl rfl rfl ?_
  refine own_iloadN X hx (hb hby own8_18) (pc' := 19) rfl rfl ?_
  refine own_caload X hx hZ eT A_aq (v := (.int d0)) (by decide) rfl (hb hby own8_19) (pc' := 20) rfl ?_
  refine own_callS X hx hZ [(.ref bb), (.int (0 : Int32)), (.int d0)] hown (own_w hw 100 rfl) (own_w hw 101 rfl) (own_w hw 76 rfl) (own_w hw 102 rfl) (by decide) (rm_pu1_0 l Z a0 hw [] bb kb d0 (0 : Int32) (0 : Int32) h1 n0 Z0 S_A S_H S_L A_bb z_bb) eT (W := 0) (by decide) (by decide) (cells' := 1) (slots' := 2) rfl rfl (by decide) (by decide) (by rw [hml]; rfl) (lenOf own_pd_285bBII29V rfl) rfl (S := []) rfl (Nat.le_of_eq rfl) (hb hby own8_20) (pc' := 23) rfl ?_
  intro v T h2 L lc X eT hq fN
  obtain ⟨rfl, Nq, Kq, A_bn⟩ := hq
  have N := fN _ N Nq
  have S_A := own_sta_keep S_A Kq (nsS (own_ns_arv A_bb) ns0)
  have S_H := own_sta_keep S_H Kq (nsS (own_ns_arv A_bb) ns0)
  have S_L := own_sta_keep S_L Kq (nsS (own_ns_arv A_bb) ns0)
  have A_aq := A_aq.keep Kq (ninS ne_aq_bb nin0)
  have Z0 := Nat.le_trans Z0 Kq.1
  have Kp := Kp.trans Kq (allS (P := fun x => x ∈ ([] : List Addr) ∨ h0.size ≤ x) (Or.inr s_bb) all0)
  have A_bb := A_bn
  show own_W _ _ _ _ _ _ _ _ []
  refine own_iinc X hx (1 : Int32) (hb hby own8_23) (pc' := 26) rfl rfl rfl (Ls' := #[.val (.ref aq), .val (.int (1 : Int32)), .val (.int (1 : Int32)), .val (.ref bb), .val (.int (0 : Int32))]) rfl ?_
  refine own_iinc X hx (1 : Int32) (hb hby own8_26) (pc' := 29) rfl rfl rfl (Ls' := #[.val (.ref aq), .val (.int (1 : Int32)), .val (.int (1 : Int32)), .val (.ref bb), .val (.int (1 : Int32))]) rfl ?_
  refine own_goto X hx (hb hby own8_29) (by decide) (pc' := 8) rfl ?_
  refine own_iload X hx (hb hby own8_8) (pc' := 10) rfl rfl ?_
  refine own_iloadN X hx (hb hby own8_10) (pc' := 11) rfl rfl ?_
  refine own_icmpY X hx (hb hby own8_11) (by decide) (pc' := 32) rfl (show ¬ ((1 : Int32) < (1 : Int32)) from (by decide)) ?_
  refine own_aloadN X hx (hb hby own8_32) (pc' := 33) rfl rfl rfl ?_
  refine own_retA X hx hlk hret (hb hby own8_33) rfl rfl rfl (by decide) (by decide) ?_
  rw [eT]
  exact ⟨bb, kb, rfl, N, Kp, s_bb, A_bb⟩
def Q_nl2 (Z : State) (u : Int32) (h0 : Heap) (n0 : Nat) (v : Option Value) (h : Heap) (L : List Loc) : Prop := v = some (.int (4 : Int32)) ∧ Fr n0 L ∧ h = h0
set_option maxRecDepth 65536 in
set_option maxHeartbeats 40000000 in
theorem rm_nl2 (l : Launch) (Z : State) (a0 : Array Value) (hw : ∀ d ∈ tables_1, d.before a0 Z = true) (ws : List Jvm.Cond) (u : Int32) (h0 : Heap) (n0 : Nat) (Z0 : n0 ≤ h0.size)  : own_Met l Z ⟨"java/lang/StringUTF16", "newBytesLength", "(I)I"⟩ jdk_52_method_3_code 1 (some .int) ws ⟨0, 0, 0, 0⟩ #[(.int (2 : Int32))] h0 (Q_nl2 Z u h0 n0) := by
  refine own_met n0 own_pn_java_lang_StringUTF16 (fun m => ef1I m (2 : Int32)) ?_
  intro p e s m below meth c T lc hret hx hZ hby hml hown hnm hlk X eT N
  refine own_iloadN X hx (hb hby own4_0) (pc' := 1) rfl rfl ?_
  refine own_ifY X hx (hb hby own4_1) (by decide) (pc' := 12) rfl (show ¬ ((2 : Int32) < (0 : Int32)) from (by decide)) ?_
  refine own_iloadN X hx (hb hby own4_12) (pc' := 13) rfl rfl ?_
  refine own_ldc X hx hZ hown (own_w hw 99 rfl) (hb hby own4_13) (pc' := 15) rfl ?_
  refine own_icmpY X hx (hb hby own4_15) (by decide) (pc' := 55) rfl (show (2 : Int32) < (1073741823 : Int32) from (by decide)) ?_
  refine own_iloadN X hx (hb hby own4_55) (pc' := 56) rfl rfl ?_
  refine own_iconst X hx (1 : Int32) (hb hby own4_56) (pc' := 57) rfl rfl ?_
  refine own_ishl X hx (hb hby own4_57) (pc' := 58) rfl ?_
  rw [show ((2 : Int32) <<< ((1 : Int32) &&& 31)) = (4 : Int32) from by decide]
  refine own_retI X hx hlk (t := .int) (w' := (.int (4 : Int32))) hret (hb hby own4_58) rfl rfl (by simp) (by decide) (by decide) ?_
  rw [eT]
  exact ⟨rfl, N, rfl⟩
def Q_nf2 (Z : State) (u : Int32) (h0 : Heap) (n0 : Nat) (v : Option Value) (h : Heap) (L : List Loc) : Prop := ∃ (b : Addr) (kb : ClassId), v = some (.ref b) ∧ Fr n0 L ∧ Keep h0 h [] ∧ h0.size ≤ b ∧ Arv Z h b kb .byte (4 : Int32) [(.int (0 : Int32)), (.int (0 : Int32)), (.int (0 : Int32)), (.int (0 : Int32))] (.int (0 : Int32))
set_option maxRecDepth 65536 in
set_option maxHeartbeats 40000000 in
theorem rm_nf2 (l : Launch) (Z : State) (a0 : Array Value) (hw : ∀ d ∈ tables_1, d.before a0 Z = true) (ws : List Jvm.Cond) (u : Int32) (h0 : Heap) (n0 : Nat) (Z0 : n0 ≤ h0.size)  : own_Met l Z ⟨"java/lang/StringUTF16", "newBytesFor", "(I)[B"⟩ jdk_52_method_2_code 1 (some (.array .byte)) ws ⟨1, 1, 4, 17⟩ #[(.int (2 : Int32))] h0 (Q_nf2 Z u h0 n0) := by
  refine own_met n0 own_pn_java_lang_StringUTF16 (fun m => ef1I m (2 : Int32)) ?_
  intro p e s m below meth c T lc hret hx hZ hby hml hown hnm hlk X eT N
  have Kp : Keep h0 h0 [] := Keep.refl _ _
  refine own_iloadN X hx (hb hby own5_0) (pc' := 1) rfl rfl ?_
  refine own_callS X hx hZ [(.int (2 : Int32))] hown (own_w hw 96 rfl) (own_w hw 97 rfl) (own_w hw 76 rfl) (own_w hw 98 rfl) (by decide) (rm_nl2 l Z a0 hw [] 0 h0 n0 Z0) eT (W := 0) (by decide) (by decide) (cells' := 0) (slots' := 0) rfl rfl (by decide) (by decide) (by rw [hml]; rfl) (lenOf own_pd_28I29I rfl) rfl (S := []) rfl (Nat.le_of_eq rfl) (hb hby own5_1) (pc' := 4) rfl ?_
  intro v T h1 L lc X eT hq fN
  obtain ⟨rfl, Nq, hqe⟩ := hq
  have N := fN _ N Nq
  rw [hqe] at eT
  show own_W _ _ _ _ _ _ _ _ [(.int (4 : Int32))]
  refine own_newarr X hx hZ (own_w hw 23 rfl) eT (hb hby own5_4) (pc' := 6) rfl (by decide) 4 (by decide) (by decide) (cells' := 1) (slots' := 4) rfl rfl (by decide) (by decide) ?_
  intro T h2 k_b2 b2 X eT E gb2 A_b2
  have z_b2 : n0 ≤ b2 := Nat.le_trans Z0 (Nat.le_of_eq gb2.symm)
  have s_b2 : h0.size ≤ b2 := Nat.le_trans Kp.1 (Nat.le_of_eq gb2.symm)
  have Z0 := Nat.le_trans Z0 E.1
  have Kp := Kp.ext E
  have A_b2 : Arv Z h2 b2 k_b2 .byte (4 : Int32) [(.int (0 : Int32)), (.int (0 : Int32)), (.int (0 : Int32)), (.int (0 : Int32))] (.int (0 : Int32)) := A_b2.pad (pad_rep [] (.int (0 : Int32)) 4)
  refine own_retA X hx hlk hret (hb hby own5_6) rfl rfl rfl (by decide) (by decide) ?_
  rw [eT]
  exact ⟨_, _, rfl, N, Kp, s_b2, A_b2⟩
def Q_pu2_0 (Z : State) (ad : Addr) (kd : ClassId) (d x0 x1 x2 x3 : Int32) (h0 : Heap) (n0 : Nat) (v : Option Value) (h : Heap) (L : List Loc) : Prop := v = none ∧ Fr n0 L ∧ Keep h0 h [ad] ∧ Arv Z h ad kd .byte (4 : Int32) [(.int (own_lb d)), (.int (own_hb d)), (.int x2), (.int x3)] (.int (0 : Int32))
set_option maxRecDepth 65536 in
set_option maxHeartbeats 40000000 in
theorem rm_pu2_0 (l : Launch) (Z : State) (a0 : Array Value) (hw : ∀ d ∈ tables_1, d.before a0 Z = true) (ws : List Jvm.Cond) (ad : Addr) (kd : ClassId) (d x0 x1 x2 x3 : Int32) (h0 : Heap) (n0 : Nat) (Z0 : n0 ≤ h0.size) (S_A : Sta Z h0 "java/lang/StringUTF16" "$assertionsDisabled" "Z" (.int (1 : Int32))) (S_H : Sta Z h0 "java/lang/StringUTF16" "HI_BYTE_SHIFT" "I" (.int (0 : Int32))) (S_L : Sta Z h0 "java/lang/StringUTF16" "LO_BYTE_SHIFT" "I" (.int (8 : Int32))) (A_ad : Arv Z h0 ad kd .byte (4 : Int32) [(.int x0), (.int x1), (.int x2), (.int x3)] (.int (0 : Int32))) (z_ad : n0 ≤ ad) : own_Met l Z ⟨"java/lang/StringUTF16", "putChar", "([BII)V"⟩ jdk_52_method_4_code 3 none ws ⟨0, 0, 0, 0⟩ #[(.ref ad), (.int (0 : Int32)), (.int d)] h0 (Q_pu2_0 Z ad kd d x0 x1 x2 x3 h0 n0) := by
  refine own_met n0 own_pn_java_lang_StringUTF16 (fun m => ef3RII m ad (0 : Int32) d) ?_
  intro p e s m below meth c T lc hret hx hZ hby hml hown hnm hlk X eT N
  have Kp : Keep h0 h0 [ad] := Keep.refl _ _
  refine own_getS X hx hZ hown (host := "") (Or.inl (own_w hw 103 rfl)) Via.refl eT S_A (hb hby own6_0) (pc' := 3) rfl ?_
  intro T X eT
  refine own_ifY X hx (hb hby own6_3) (by decide) (pc' := 28) rfl (show ¬ ((1 : Int32) = (0 : Int32)) from (by decide)) ?_
  refine own_iloadN X hx (hb hby own6_28) (pc' := 29) rfl rfl ?_
  refine own_iconst X hx (1 : Int32) (hb hby own6_29) (pc' := 30) rfl rfl ?_
  refine own_ishl X hx (hb hby own6_30) (pc' := 31) rfl ?_
  rw [show ((0 : Int32) <<< ((1 : Int32) &&& 31)) = (0 : Int32) from by decide]
  refine own_istoreN X hx (hb hby own6_31) (pc' := 32) rfl (Ls' := #[.val (.ref ad), .val (.int (0 : Int32)), .val (.int d)]) rfl ?_
  refine own_aloadN X hx (hb hby own6_32) (pc' := 33) rfl rfl rfl ?_
  refine own_iloadN X hx (hb hby own6_33) (pc' := 34) rfl rfl ?_
  refine own_iinc X hx (1 : Int32) (hb hby own6_34) (pc' := 37) rfl rfl rfl (Ls' := #[.val (.ref ad), .val (.int (1 : Int32)), .val (.int d)]) rfl ?_
  refine own_iloadN X hx (hb hby own6_37) (pc' := 38) rfl rfl ?_
  refine own_getS X hx hZ hown (host := "") (Or.inl (own_w hw 104 rfl)) Via.refl eT S_H (hb hby own6_38) (pc' := 41) rfl ?_
  intro T X eT
  refine own_ishr X hx (hb hby own6_41) (pc' := 42) rfl ?_
  refine own_i2b X hx (hb hby own6_42) (pc' := 43) rfl ?_
  refine own_bastoreB X hx hZ eT A_ad (by decide) 0 rfl (by show 0 < 4; decide) (hb hby own6_43) (pc' := 44) rfl ?_
  intro T h1 lc X eT Kq A_adn fN
  have S_A := own_sta_keep S_A Kq (nsS (own_ns_arv A_ad) ns0)
  have S_H := own_sta_keep S_H Kq (nsS (own_ns_arv A_ad) ns0)
  have S_L := own_sta_keep S_L Kq (nsS (own_ns_arv A_ad) ns0)
  have Z0 := Nat.le_trans Z0 Kq.1
  have A_ad := A_adn
  have N := fN _ z_ad N
  have Kp := Kp.trans Kq (allS (P := fun x => x ∈ [ad] ∨ h0.size ≤ x) (Or.inl (List.mem_of_getElem? (i := 0) rfl)) all0)
  have A_ad : Arv Z h1 ad _ .byte (4 : Int32) [(.int (nar .byte (d >>> ((0 : Int32) &&& 31)).toInt8.toInt32)), (.int x1), (.int x2), (.int x3)] (.int (0 : Int32)) := A_ad
  refine own_aloadN X hx (hb hby own6_44) (pc' := 45) rfl rfl rfl ?_
  refine own_iloadN X hx (hb hby own6_45) (pc' := 46) rfl rfl ?_
  refine own_iloadN X hx (hb hby own6_46) (pc' := 47) rfl rfl ?_
  refine own_getS X hx hZ hown (host := "") (Or.inl (own_w hw 105 rfl)) Via.refl eT S_L (hb hby own6_47) (pc' := 50) rfl ?_
  intro T X eT
  refine own_ishr X hx (hb hby own6_50) (pc' := 51) rfl ?_
  refine own_i2b X hx (hb hby own6_51) (pc' := 52) rfl ?_
  refine own_bastoreB X hx hZ eT A_ad (by decide) 1 rfl (by show 1 < 4; decide) (hb hby own6_52) (pc' := 53) rfl ?_
  intro T h2 lc X eT Kq A_adn fN
  have S_A := own_sta_keep S_A Kq (nsS (own_ns_arv A_ad) ns0)
  have S_H := own_sta_keep S_H Kq (nsS (own_ns_arv A_ad) ns0)
  have S_L := own_sta_keep S_L Kq (nsS (own_ns_arv A_ad) ns0)
  have Z0 := Nat.le_trans Z0 Kq.1
  have A_ad := A_adn
  have N := fN _ z_ad N
  have Kp := Kp.trans Kq (allS (P := fun x => x ∈ [ad] ∨ h0.size ≤ x) (Or.inl (List.mem_of_getElem? (i := 0) rfl)) all0)
  have A_ad : Arv Z h2 ad _ .byte (4 : Int32) [(.int (nar .byte (d >>> ((0 : Int32) &&& 31)).toInt8.toInt32)), (.int (nar .byte (d >>> ((8 : Int32) &&& 31)).toInt8.toInt32)), (.int x2), (.int x3)] (.int (0 : Int32)) := A_ad
  refine own_ret0 X hx hlk hret (hb hby own6_53) (by decide) (by decide) ?_
  rw [eT]
  exact ⟨rfl, N, Kp, A_ad⟩
def Q_gc2_0 (Z : State) (b : Addr) (kd : ClassId) (d0 d1 : Int32) (h0 : Heap) (n0 : Nat) (v : Option Value) (h : Heap) (L : List Loc) : Prop := v = some (.int d0) ∧ Fr n0 L ∧ h = h0
set_option maxRecDepth 65536 in
set_option maxHeartbeats 40000000 in
theorem rm_gc2_0 (l : Launch) (Z : State) (a0 : Array Value) (hw : ∀ d ∈ tables_1, d.before a0 Z = true) (ws : List Jvm.Cond) (b : Addr) (kd : ClassId) (d0 d1 : Int32) (h0 : Heap) (n0 : Nat) (Z0 : n0 ≤ h0.size) (S_A : Sta Z h0 "java/lang/StringUTF16" "$assertionsDisabled" "Z" (.int (1 : Int32))) (S_H : Sta Z h0 "java/lang/StringUTF16" "HI_BYTE_SHIFT" "I" (.int (0 : Int32))) (S_L : Sta Z h0 "java/lang/StringUTF16" "LO_BYTE_SHIFT" "I" (.int (8 : Int32))) (hd0 : own_c16 d0) (A_b : Arv Z h0 b kd .byte (4 : Int32) [(.int (own_lb d0)), (.int (own_hb d0)), (.int (own_lb d1)), (.int (own_hb d1))] (.int (0 : Int32))) : own_Met l Z ⟨"java/lang/StringUTF16", "getChar", "([BI)C"⟩ jdk_52_method_5_code 2 (some .char) ws ⟨0, 0, 0, 0⟩ #[(.ref b), (.int (0 : Int32))] h0 (Q_gc2_0 Z b kd d0 d1 h0 n0) := by
  refine own_met n0 own_pn_java_lang_StringUTF16 (fun m => ef2RI m b (0 : Int32)) ?_
  intro p e s m below meth c T lc hret hx hZ hby hml hown hnm hlk X eT N
  refine own_getS X hx hZ hown (host := "") (Or.inl (own_w hw 103 rfl)) Via.refl eT S_A (hb hby own7_0) (pc' := 3) rfl ?_
  intro T X eT
  refine own_ifY X hx (hb hby own7_3) (by decide) (pc' := 28) rfl (show ¬ ((1 : Int32) = (0 : Int32)) from (by decide)) ?_
  refine own_iloadN X hx (hb hby own7_28) (pc' := 29) rfl rfl ?_
  refine own_iconst X hx (1 : Int32) (hb hby own7_29) (pc' := 30) rfl rfl ?_
  refine own_ishl X hx (hb hby own7_30) (pc' := 31) rfl ?_
  rw [show ((0 : Int32) <<< ((1 : Int32) &&& 31)) = (0 : Int32) from by decide]
  refine own_istoreN X hx (hb hby own7_31) (pc' := 32) rfl (Ls' := #[.val (.ref b), .val (.int (0 : Int32))]) rfl ?_
  refine own_aloadN X hx (hb hby own7_32) (pc' := 33) rfl rfl rfl ?_
  refine own_iloadN X hx (hb hby own7_33) (pc' := 34) rfl rfl ?_
  refine own_iinc X hx (1 : Int32) (hb hby own7_34) (pc' := 37) rfl rfl rfl (Ls' := #[.val (.ref b), .val (.int (1 : Int32))]) rfl ?_
  refine own_baloadB X hx hZ eT A_b (v := (.int (own_lb d0))) (by decide) rfl (hb hby own7_37) (pc' := 38) rfl ?_
  refine own_sipush X hx (255 : Int32) (hb hby own7_38) (pc' := 41) rfl rfl ?_
  refine own_iand X hx (hb hby own7_41) (pc' := 42) rfl ?_
  refine own_getS X hx hZ hown (host := "") (Or.inl (own_w hw 104 rfl)) Via.refl eT S_H (hb hby own7_42) (pc' := 45) rfl ?_
  intro T X eT
  refine own_ishl X hx (hb hby own7_45) (pc' := 46) rfl ?_
  refine own_aloadN X hx (hb hby own7_46) (pc' := 47) rfl rfl rfl ?_
  refine own_iloadN X hx (hb hby own7_47) (pc' := 48) rfl rfl ?_
  refine own_baloadB X hx hZ eT A_b (v := (.int (own_hb d0))) (by decide) rfl (hb hby own7_48) (pc' := 49) rfl ?_
  refine own_sipush X hx (255 : Int32) (hb hby own7_49) (pc' := 52) rfl rfl ?_
  refine own_iand X hx (hb hby own7_52) (pc' := 53) rfl ?_
  refine own_getS X hx hZ hown (host := "") (Or.inl (own_w hw 105 rfl)) Via.refl eT S_L (hb hby own7_53) (pc' := 56) rfl ?_
  intro T X eT
  refine own_ishl X hx (hb hby own7_56) (pc' := 57) rfl ?_
  refine own_ior X hx (hb hby own7_57) (pc' := 58) rfl ?_
  refine own_i2c X hx (hb hby own7_58) (pc' := 59) rfl ?_
  refine own_retI X hx hlk (t := .char) (w' := (.int (nar .char ((((own_lb d0) &&& (255 : Int32)) <<< ((0 : Int32) &&& 31)) ||| (((own_hb d0) &&& (255 : Int32)) <<< ((8 : Int32) &&& 31))).toUInt32.toUInt16.toUInt32.toInt32))) hret (hb hby own7_59) rfl rfl (by simp) (by decide) (by decide) ?_
  rw [eT]
  exact ⟨congrArg (fun z => some (Value.int z)) (own_gc hd0), N, rfl⟩
def Q_pu2_1 (Z : State) (ad : Addr) (kd : ClassId) (d x0 x1 x2 x3 : Int32) (h0 : Heap) (n0 : Nat) (v : Option Value) (h : Heap) (L : List Loc) : Prop := v = none ∧ Fr n0 L ∧ Keep h0 h [ad] ∧ Arv Z h ad kd .byte (4 : Int32) [(.int x0), (.int x1), (.int (own_lb d)), (.int (own_hb d))] (.int (0 : Int32))
set_option maxRecDepth 65536 in
set_option maxHeartbeats 40000000 in
theorem rm_pu2_1 (l : Launch) (Z : State) (a0 : Array Value) (hw : ∀ d ∈ tables_1, d.before a0 Z = true) (ws : List Jvm.Cond) (ad : Addr) (kd : ClassId) (d x0 x1 x2 x3 : Int32) (h0 : Heap) (n0 : Nat) (Z0 : n0 ≤ h0.size) (S_A : Sta Z h0 "java/lang/StringUTF16" "$assertionsDisabled" "Z" (.int (1 : Int32))) (S_H : Sta Z h0 "java/lang/StringUTF16" "HI_BYTE_SHIFT" "I" (.int (0 : Int32))) (S_L : Sta Z h0 "java/lang/StringUTF16" "LO_BYTE_SHIFT" "I" (.int (8 : Int32))) (A_ad : Arv Z h0 ad kd .byte (4 : Int32) [(.int x0), (.int x1), (.int x2), (.int x3)] (.int (0 : Int32))) (z_ad : n0 ≤ ad) : own_Met l Z ⟨"java/lang/StringUTF16", "putChar", "([BII)V"⟩ jdk_52_method_4_code 3 none ws ⟨0, 0, 0, 0⟩ #[(.ref ad), (.int (1 : Int32)), (.int d)] h0 (Q_pu2_1 Z ad kd d x0 x1 x2 x3 h0 n0) := by
  refine own_met n0 own_pn_java_lang_StringUTF16 (fun m => ef3RII m ad (1 : Int32) d) ?_
  intro p e s m below meth c T lc hret hx hZ hby hml hown hnm hlk X eT N
  have Kp : Keep h0 h0 [ad] := Keep.refl _ _
  refine own_getS X hx hZ hown (host := "") (Or.inl (own_w hw 103 rfl)) Via.refl eT S_A (hb hby own6_0) (pc' := 3) rfl ?_
  intro T X eT
  refine own_ifY X hx (hb hby own6_3) (by decide) (pc' := 28) rfl (show ¬ ((1 : Int32) = (0 : Int32)) from (by decide)) ?_
  refine own_iloadN X hx (hb hby own6_28) (pc' := 29) rfl rfl ?_
  refine own_iconst X hx (1 : Int32) (hb hby own6_29) (pc' := 30) rfl rfl ?_
  refine own_ishl X hx (hb hby own6_30) (pc' := 31) rfl ?_
  rw [show ((1 : Int32) <<< ((1 : Int32) &&& 31)) = (2 : Int32) from by decide]
  refine own_istoreN X hx (hb hby own6_31) (pc' := 32) rfl (Ls' := #[.val (.ref ad), .val (.int (2 : Int32)), .val (.int d)]) rfl ?_
  refine own_aloadN X hx (hb hby own6_32) (pc' := 33) rfl rfl rfl ?_
  refine own_iloadN X hx (hb hby own6_33) (pc' := 34) rfl rfl ?_
  refine own_iinc X hx (1 : Int32) (hb hby own6_34) (pc' := 37) rfl rfl rfl (Ls' := #[.val (.ref ad), .val (.int (3 : Int32)), .val (.int d)]) rfl ?_
  refine own_iloadN X hx (hb hby own6_37) (pc' := 38) rfl rfl ?_
  refine own_getS X hx hZ hown (host := "") (Or.inl (own_w hw 104 rfl)) Via.refl eT S_H (hb hby own6_38) (pc' := 41) rfl ?_
  intro T X eT
  refine own_ishr X hx (hb hby own6_41) (pc' := 42) rfl ?_
  refine own_i2b X hx (hb hby own6_42) (pc' := 43) rfl ?_
  refine own_bastoreB X hx hZ eT A_ad (by decide) 2 rfl (by show 2 < 4; decide) (hb hby own6_43) (pc' := 44) rfl ?_
  intro T h1 lc X eT Kq A_adn fN
  have S_A := own_sta_keep S_A Kq (nsS (own_ns_arv A_ad) ns0)
  have S_H := own_sta_keep S_H Kq (nsS (own_ns_arv A_ad) ns0)
  have S_L := own_sta_keep S_L Kq (nsS (own_ns_arv A_ad) ns0)
  have Z0 := Nat.le_trans Z0 Kq.1
  have A_ad := A_adn
  have N := fN _ z_ad N
  have Kp := Kp.trans Kq (allS (P := fun x => x ∈ [ad] ∨ h0.size ≤ x) (Or.inl (List.mem_of_getElem? (i := 0) rfl)) all0)
  have A_ad : Arv Z h1 ad _ .byte (4 : Int32) [(.int x0), (.int x1), (.int (nar .byte (d >>> ((0 : Int32) &&& 31)).toInt8.toInt32)), (.int x3)] (.int (0 : Int32)) := A_ad
  refine own_aloadN X hx (hb hby own6_44) (pc' := 45) rfl rfl rfl ?_
  refine own_iloadN X hx (hb hby own6_45) (pc' := 46) rfl rfl ?_
  refine own_iloadN X hx (hb hby own6_46) (pc' := 47) rfl rfl ?_
  refine own_getS X hx hZ hown (host := "") (Or.inl (own_w hw 105 rfl)) Via.refl eT S_L (hb hby own6_47) (pc' := 50) rfl ?_
  intro T X eT
  refine own_ishr X hx (hb hby own6_50) (pc' := 51) rfl ?_
  refine own_i2b X hx (hb hby own6_51) (pc' := 52) rfl ?_
  refine own_bastoreB X hx hZ eT A_ad (by decide) 3 rfl (by show 3 < 4; decide) (hb hby own6_52) (pc' := 53) rfl ?_
  intro T h2 lc X eT Kq A_adn fN
  have S_A := own_sta_keep S_A Kq (nsS (own_ns_arv A_ad) ns0)
  have S_H := own_sta_keep S_H Kq (nsS (own_ns_arv A_ad) ns0)
  have S_L := own_sta_keep S_L Kq (nsS (own_ns_arv A_ad) ns0)
  have Z0 := Nat.le_trans Z0 Kq.1
  have A_ad := A_adn
  have N := fN _ z_ad N
  have Kp := Kp.trans Kq (allS (P := fun x => x ∈ [ad] ∨ h0.size ≤ x) (Or.inl (List.mem_of_getElem? (i := 0) rfl)) all0)
  have A_ad : Arv Z h2 ad _ .byte (4 : Int32) [(.int x0), (.int x1), (.int (nar .byte (d >>> ((0 : Int32) &&& 31)).toInt8.toInt32)), (.int (nar .byte (d >>> ((8 : Int32) &&& 31)).toInt8.toInt32))] (.int (0 : Int32)) := A_ad
  refine own_ret0 X hx hlk hret (hb hby own6_53) (by decide) (by decide) ?_
  rw [eT]
  exact ⟨rfl, N, Kp, A_ad⟩
def Q_gc2_1 (Z : State) (b : Addr) (kd : ClassId) (d0 d1 : Int32) (h0 : Heap) (n0 : Nat) (v : Option Value) (h : Heap) (L : List Loc) : Prop := v = some (.int d1) ∧ Fr n0 L ∧ h = h0
set_option maxRecDepth 65536 in
set_option maxHeartbeats 40000000 in
theorem rm_gc2_1 (l : Launch) (Z : State) (a0 : Array Value) (hw : ∀ d ∈ tables_1, d.before a0 Z = true) (ws : List Jvm.Cond) (b : Addr) (kd : ClassId) (d0 d1 : Int32) (h0 : Heap) (n0 : Nat) (Z0 : n0 ≤ h0.size) (S_A : Sta Z h0 "java/lang/StringUTF16" "$assertionsDisabled" "Z" (.int (1 : Int32))) (S_H : Sta Z h0 "java/lang/StringUTF16" "HI_BYTE_SHIFT" "I" (.int (0 : Int32))) (S_L : Sta Z h0 "java/lang/StringUTF16" "LO_BYTE_SHIFT" "I" (.int (8 : Int32))) (hd1 : own_c16 d1) (A_b : Arv Z h0 b kd .byte (4 : Int32) [(.int (own_lb d0)), (.int (own_hb d0)), (.int (own_lb d1)), (.int (own_hb d1))] (.int (0 : Int32))) : own_Met l Z ⟨"java/lang/StringUTF16", "getChar", "([BI)C"⟩ jdk_52_method_5_code 2 (some .char) ws ⟨0, 0, 0, 0⟩ #[(.ref b), (.int (1 : Int32))] h0 (Q_gc2_1 Z b kd d0 d1 h0 n0) := by
  refine own_met n0 own_pn_java_lang_StringUTF16 (fun m => ef2RI m b (1 : Int32)) ?_
  intro p e s m below meth c T lc hret hx hZ hby hml hown hnm hlk X eT N
  refine own_getS X hx hZ hown (host := "") (Or.inl (own_w hw 103 rfl)) Via.refl eT S_A (hb hby own7_0) (pc' := 3) rfl ?_
  intro T X eT
  refine own_ifY X hx (hb hby own7_3) (by decide) (pc' := 28) rfl (show ¬ ((1 : Int32) = (0 : Int32)) from (by decide)) ?_
  refine own_iloadN X hx (hb hby own7_28) (pc' := 29) rfl rfl ?_
  refine own_iconst X hx (1 : Int32) (hb hby own7_29) (pc' := 30) rfl rfl ?_
  refine own_ishl X hx (hb hby own7_30) (pc' := 31) rfl ?_
  rw [show ((1 : Int32) <<< ((1 : Int32) &&& 31)) = (2 : Int32) from by decide]
  refine own_istoreN X hx (hb hby own7_31) (pc' := 32) rfl (Ls' := #[.val (.ref b), .val (.int (2 : Int32))]) rfl ?_
  refine own_aloadN X hx (hb hby own7_32) (pc' := 33) rfl rfl rfl ?_
  refine own_iloadN X hx (hb hby own7_33) (pc' := 34) rfl rfl ?_
  refine own_iinc X hx (1 : Int32) (hb hby own7_34) (pc' := 37) rfl rfl rfl (Ls' := #[.val (.ref b), .val (.int (3 : Int32))]) rfl ?_
  refine own_baloadB X hx hZ eT A_b (v := (.int (own_lb d1))) (by decide) rfl (hb hby own7_37) (pc' := 38) rfl ?_
  refine own_sipush X hx (255 : Int32) (hb hby own7_38) (pc' := 41) rfl rfl ?_
  refine own_iand X hx (hb hby own7_41) (pc' := 42) rfl ?_
  refine own_getS X hx hZ hown (host := "") (Or.inl (own_w hw 104 rfl)) Via.refl eT S_H (hb hby own7_42) (pc' := 45) rfl ?_
  intro T X eT
  refine own_ishl X hx (hb hby own7_45) (pc' := 46) rfl ?_
  refine own_aloadN X hx (hb hby own7_46) (pc' := 47) rfl rfl rfl ?_
  refine own_iloadN X hx (hb hby own7_47) (pc' := 48) rfl rfl ?_
  refine own_baloadB X hx hZ eT A_b (v := (.int (own_hb d1))) (by decide) rfl (hb hby own7_48) (pc' := 49) rfl ?_
  refine own_sipush X hx (255 : Int32) (hb hby own7_49) (pc' := 52) rfl rfl ?_
  refine own_iand X hx (hb hby own7_52) (pc' := 53) rfl ?_
  refine own_getS X hx hZ hown (host := "") (Or.inl (own_w hw 105 rfl)) Via.refl eT S_L (hb hby own7_53) (pc' := 56) rfl ?_
  intro T X eT
  refine own_ishl X hx (hb hby own7_56) (pc' := 57) rfl ?_
  refine own_ior X hx (hb hby own7_57) (pc' := 58) rfl ?_
  refine own_i2c X hx (hb hby own7_58) (pc' := 59) rfl ?_
  refine own_retI X hx hlk (t := .char) (w' := (.int (nar .char ((((own_lb d1) &&& (255 : Int32)) <<< ((0 : Int32) &&& 31)) ||| (((own_hb d1) &&& (255 : Int32)) <<< ((8 : Int32) &&& 31))).toUInt32.toUInt16.toUInt32.toInt32))) hret (hb hby own7_59) rfl rfl (by simp) (by decide) (by decide) ?_
  rw [eT]
  exact ⟨congrArg (fun z => some (Value.int z)) (own_gc hd1), N, rfl⟩
def Q_tb2 (Z : State) (aq : Addr) (kq : ClassId) (d0 d1 : Int32) (h0 : Heap) (n0 : Nat) (v : Option Value) (h : Heap) (L : List Loc) : Prop := ∃ (b : Addr) (kb : ClassId), v = some (.ref b) ∧ Fr n0 L ∧ Keep h0 h [] ∧ h0.size ≤ b ∧ Arv Z h b kb .byte (4 : Int32) [(.int (own_lb d0)), (.int (own_hb d0)), (.int (own_lb d1)), (.int (own_hb d1))] (.int (0 : Int32))
set_option maxRecDepth 65536 in
set_option maxHeartbeats 40000000 in
theorem rm_tb2 (l : Launch) (Z : State) (a0 : Array Value) (hw : ∀ d ∈ tables_1, d.before a0 Z = true) (ws : List Jvm.Cond) (aq : Addr) (kq : ClassId) (d0 d1 : Int32) (h0 : Heap) (n0 : Nat) (Z0 : n0 ≤ h0.size) (S_A : Sta Z h0 "java/lang/StringUTF16" "$assertionsDisabled" "Z" (.int (1 : Int32))) (S_H : Sta Z h0 "java/lang/StringUTF16" "HI_BYTE_SHIFT" "I" (.int (0 : Int32))) (S_L : Sta Z h0 "java/lang/StringUTF16" "LO_BYTE_SHIFT" "I" (.int (8 : Int32))) (A_aq : Arv Z h0 aq kq .char (2 : Int32) [(.int d0), (.int d1)] (.int (0 : Int32))) : own_Met l Z ⟨"java/lang/StringUTF16", "toBytes", "([CII)[B"⟩ jdk_52_method_14_code 5 (some (.array .byte)) ws ⟨2, 1, 4, 34⟩ #[(.ref aq), (.int (0 : Int32)), (.int (2 : Int32))] h0 (Q_tb2 Z aq kq d0 d1 h0 n0) := by
  refine own_met n0 own_pn_java_lang_StringUTF16 (fun m => ef5RII m aq (0 : Int32) (2 : Int32)) ?_
  intro p e s m below meth c T lc hret hx hZ hby hml hown hnm hlk X eT N
  have Kp : Keep h0 h0 [] := Keep.refl _ _
  refine own_iloadN X hx (hb hby own8_0) (pc' := 1) rfl rfl ?_
  refine own_callS X hx hZ [(.int (2 : Int32))] hown (own_w hw 93 rfl) (own_w hw 94 rfl) (own_w hw 76 rfl) (own_w hw 95 rfl) (by decide) (rm_nf2 l Z a0 hw [] 0 h0 n0 Z0) eT (W := 0) (by decide) (by decide) (cells' := 1) (slots' := 4) rfl rfl (by decide) (by decide) (by rw [hml]; rfl) (lenOf own_pd_28I295bB rfl) rfl (S := []) rfl (Nat.le_of_eq rfl) (hb hby own8_1) (pc' := 4) rfl ?_
  intro v T h1 L lc X eT hq fN
  obtain ⟨bb, kb, rfl, Nq, Kq, hbb, A_bb⟩ := hq
  have N := fN _ N Nq
  have lt_aq_bb : aq < bb := Nat.lt_of_lt_of_le A_aq.lt hbb
  have ne_aq_bb : aq ≠ bb := Nat.ne_of_lt lt_aq_bb
  have z_bb : n0 ≤ bb := Nat.le_trans Z0 hbb
  have s_bb : h0.size ≤ bb := Nat.le_trans Kp.1 hbb
  have S_A := own_sta_keep S_A Kq ns0
  have S_H := own_sta_keep S_H Kq ns0
  have S_L := own_sta_keep S_L Kq ns0
  have A_aq := A_aq.keep Kq nin0
  have Z0 := Nat.le_trans Z0 Kq.1
  have Kp := Kp.trans Kq all0
  show own_W _ _ _ _ _ _ _ _ [(.ref bb)]
  refine own_astoreN X hx (hb hby own8_4) (pc' := 5) rfl rfl (Ls' := #[.val (.ref aq), .val (.int (0 : Int32)), .val (.int (2 : Int32)), .val (.ref bb), .unset]) rfl ?_
  refine own_iconst X hx (0 : Int32) (hb hby own8_5) (pc' := 6) rfl rfl ?_
  refine own_istore X hx (hb hby own8_6) (pc' := 8) rfl (Ls' := #[.val (.ref aq), .val (.int (0 : Int32)), .val (.int (2 : Int32)), .val (.ref bb), .val (.int (0 : Int32))]) rfl ?_
  refine own_iload X hx (hb hby own8_8) (pc' := 10) rfl rfl ?_
  refine own_iloadN X hx (hb hby own8_10) (pc' := 11) rfl rfl ?_
  refine own_icmpN X hx (hb hby own8_11) (pc' := 14) rfl (show (0 : Int32) < (2 : Int32) from (by decide)) ?_
  refine own_aloadN X hx (hb hby own8_14) (pc' := 15) rfl rfl rfl ?_
  refine own_iload X hx (hb hby own8_15) (pc' := 17) rfl rfl ?_
  refine own_aloadN X hx (hb hby own8_17) (pc' := 18) rfl rfl rfl ?_
  refine own_iloadN X hx (hb hby own8_18) (pc' := 19) rfl rfl ?_
  refine own_caload X hx hZ eT A_aq (v := (.int d0)) (by decide) rfl (hb hby own8_19) (pc' := 20) rfl ?_
  refine own_callS X hx hZ [(.ref bb), (.int (0 : Int32)), (.int d0)] hown (own_w hw 100 rfl) (own_w hw 101 rfl) (own_w hw 76 rfl) (own_w hw 102 rfl) (by decide) (rm_pu2_0 l Z a0 hw [] bb kb d0 (0 : Int32) (0 : Int32) (0 : Int32) (0 : Int32) h1 n0 Z0 S_A S_H S_L A_bb z_bb) eT (W := 0) (by decide) (by decide) (cells' := 1) (slots' := 4) rfl rfl (by decide) (by decide) (by rw [hml]; rfl) (lenOf own_pd_285bBII29V rfl) rfl (S := []) rfl (Nat.le_of_eq rfl) (hb hby own8_20) (pc' := 23) rfl ?_
  intro v T h2 L lc X eT hq fN
  obtain ⟨rfl, Nq, Kq, A_bn⟩ := hq
  have N := fN _ N Nq
  have S_A := own_sta_keep S_A Kq (nsS (own_ns_arv A_bb) ns0)
  have S_H := own_sta_keep S_H Kq (nsS (own_ns_arv A_bb) ns0)
  have S_L := own_sta_keep S_L Kq (nsS (own_ns_arv A_bb) ns0)
  have A_aq := A_aq.keep Kq (ninS ne_aq_bb nin0)
  have Z0 := Nat.le_trans Z0 Kq.1
  have Kp := Kp.trans Kq (allS (P := fun x => x ∈ ([] : List Addr) ∨ h0.size ≤ x) (Or.inr s_bb) all0)
  have A_bb := A_bn
  show own_W _ _ _ _ _ _ _ _ []
  refine own_iinc X hx (1 : Int32) (hb hby own8_23) (pc' := 26) rfl rfl rfl (Ls' := #[.val (.ref aq), .val (.int (1 : Int32)), .val (.int (2 : Int32)), .val (.ref bb), .val (.int (0 : Int32))]) rfl ?_
  refine own_iinc X hx (1 : Int32) (hb hby own8_26) (pc' := 29) rfl rfl rfl (Ls' := #[.val (.ref aq), .val (.int (1 : Int32)), .val (.int (2 : Int32)), .val (.ref bb), .val (.int (1 : Int32))]) rfl ?_
  refine own_goto X hx (hb hby own8_29) (by decide) (pc' := 8) rfl ?_
  refine own_iload X hx (hb hby own8_8) (pc' := 10) rfl rfl ?_
  refine own_iloadN X hx (hb hby own8_10) (pc' := 11) rfl rfl ?_
  refine own_icmpN X hx (hb hby own8_11) (pc' := 14) rfl (show (1 : Int32) < (2 : Int32) from (by decide)) ?_
  refine own_aloadN X hx (hb hby own8_14) (pc' := 15) rfl rfl rfl ?_
  refine own_iload X hx (hb hby own8_15) (pc' := 17) rfl rfl ?_
  refine own_aloadN X hx (hb hby own8_17) (pc' := 18) rfl rfl rfl ?_
  refine own_iloadN X hx (hb hby own8_18) (pc' := 19) rfl rfl ?_
  refine own_caload X hx hZ eT A_aq (v := (.int d1)) (by decide) rfl (hb hby own8_19) (pc' := 20) rfl ?_
  refine own_callS X hx hZ [(.ref bb), (.int (1 : Int32)), (.int d1)] hown (own_w hw 100 rfl) (own_w hw 101 rfl) (own_w hw 76 rfl) (own_w hw 102 rfl) (by decide) (rm_pu2_1 l Z a0 hw [] bb kb d1 (own_lb d0) (own_hb d0) (0 : Int32) (0 : Int32) h2 n0 Z0 S_A S_H S_L A_bb z_bb) eT (W := 0) (by decide) (by decide) (cells' := 1) (slots' := 4) rfl rfl (by decide) (by decide) (by rw [hml]; rfl) (lenOf own_pd_285bBII29V rfl) rfl (S := []) rfl (Nat.le_of_eq rfl) (hb hby own8_20) (pc' := 23) rfl ?_
  intro v T h3 L lc X eT hq fN
  obtain ⟨rfl, Nq, Kq, A_bn⟩ := hq
  have N := fN _ N Nq
  have S_A := own_sta_keep S_A Kq (nsS (own_ns_arv A_bb) ns0)
  have S_H := own_sta_keep S_H Kq (nsS (own_ns_arv A_bb) ns0)
  have S_L := own_sta_keep S_L Kq (nsS (own_ns_arv A_bb) ns0)
  have A_aq := A_aq.keep Kq (ninS ne_aq_bb nin0)
  have Z0 := Nat.le_trans Z0 Kq.1
  have Kp := Kp.trans Kq (allS (P := fun x => x ∈ ([] : List Addr) ∨ h0.size ≤ x) (Or.inr s_bb) all0)
  have A_bb := A_bn
  show own_W _ _ _ _ _ _ _ _ []
  refine own_iinc X hx (1 : Int32) (hb hby own8_23) (pc' := 26) rfl rfl rfl (Ls' := #[.val (.ref aq), .val (.int (2 : Int32)), .val (.int (2 : Int32)), .val (.ref bb), .val (.int (1 : Int32))]) rfl ?_
  refine own_iinc X hx (1 : Int32) (hb hby own8_26) (pc' := 29) rfl rfl rfl (Ls' := #[.val (.ref aq), .val (.int (2 : Int32)), .val (.int (2 : Int32)), .val (.ref bb), .val (.int (2 : Int32))]) rfl ?_
  refine own_goto X hx (hb hby own8_29) (by decide) (pc' := 8) rfl ?_
  refine own_iload X hx (hb hby own8_8) (pc' := 10) rfl rfl ?_
  refine own_iloadN X hx (hb hby own8_10) (pc' := 11) rfl rfl ?_
  refine own_icmpY X hx (hb hby own8_11) (by decide) (pc' := 32) rfl (show ¬ ((2 : Int32) < (2 : Int32)) from (by decide)) ?_
  refine own_aloadN X hx (hb hby own8_32) (pc' := 33) rfl rfl rfl ?_
  refine own_retA X hx hlk hret (hb hby own8_33) rfl rfl rfl (by decide) (by decide) ?_
  rw [eT]
  exact ⟨bb, kb, rfl, N, Kp, s_bb, A_bb⟩
def Q_nl3 (Z : State) (u : Int32) (h0 : Heap) (n0 : Nat) (v : Option Value) (h : Heap) (L : List Loc) : Prop := v = some (.int (6 : Int32)) ∧ Fr n0 L ∧ h = h0
set_option maxRecDepth 65536 in
set_option maxHeartbeats 40000000 in
theorem rm_nl3 (l : Launch) (Z : State) (a0 : Array Value) (hw : ∀ d ∈ tables_1, d.before a0 Z = true) (ws : List Jvm.Cond) (u : Int32) (h0 : Heap) (n0 : Nat) (Z0 : n0 ≤ h0.size)  : own_Met l Z ⟨"java/lang/StringUTF16", "newBytesLength", "(I)I"⟩ jdk_52_method_3_code 1 (some .int) ws ⟨0, 0, 0, 0⟩ #[(.int (3 : Int32))] h0 (Q_nl3 Z u h0 n0) := by
  refine own_met n0 own_pn_java_lang_StringUTF16 (fun m => ef1I m (3 : Int32)) ?_
  intro p e s m below meth c T lc hret hx hZ hby hml hown hnm hlk X eT N
  refine own_iloadN X hx (hb hby own4_0) (pc' := 1) rfl rfl ?_
  refine own_ifY X hx (hb hby own4_1) (by decide) (pc' := 12) rfl (show ¬ ((3 : Int32) < (0 : Int32)) from (by decide)) ?_
  refine own_iloadN X hx (hb hby own4_12) (pc' := 13) rfl rfl ?_
  refine own_ldc X hx hZ hown (own_w hw 99 rfl) (hb hby own4_13) (pc' := 15) rfl ?_
  refine own_icmpY X hx (hb hby own4_15) (by decide) (pc' := 55) rfl (show (3 : Int32) < (1073741823 : Int32) from (by decide)) ?_
  refine own_iloadN X hx (hb hby own4_55) (pc' := 56) rfl rfl ?_
  refine own_iconst X hx (1 : Int32) (hb hby own4_56) (pc' := 57) rfl rfl ?_
  refine own_ishl X hx (hb hby own4_57) (pc' := 58) rfl ?_
  rw [show ((3 : Int32) <<< ((1 : Int32) &&& 31)) = (6 : Int32) from by decide]
  refine own_retI X hx hlk (t := .int) (w' := (.int (6 : Int32))) hret (hb hby own4_58) rfl rfl (by simp) (by decide) (by decide) ?_
  rw [eT]
  exact ⟨rfl, N, rfl⟩
def Q_nf3 (Z : State) (u : Int32) (h0 : Heap) (n0 : Nat) (v : Option Value) (h : Heap) (L : List Loc) : Prop := ∃ (b : Addr) (kb : ClassId), v = some (.ref b) ∧ Fr n0 L ∧ Keep h0 h [] ∧ h0.size ≤ b ∧ Arv Z h b kb .byte (6 : Int32) [(.int (0 : Int32)), (.int (0 : Int32)), (.int (0 : Int32)), (.int (0 : Int32)), (.int (0 : Int32)), (.int (0 : Int32))] (.int (0 : Int32))
set_option maxRecDepth 65536 in
set_option maxHeartbeats 40000000 in
theorem rm_nf3 (l : Launch) (Z : State) (a0 : Array Value) (hw : ∀ d ∈ tables_1, d.before a0 Z = true) (ws : List Jvm.Cond) (u : Int32) (h0 : Heap) (n0 : Nat) (Z0 : n0 ≤ h0.size)  : own_Met l Z ⟨"java/lang/StringUTF16", "newBytesFor", "(I)[B"⟩ jdk_52_method_2_code 1 (some (.array .byte)) ws ⟨1, 1, 6, 17⟩ #[(.int (3 : Int32))] h0 (Q_nf3 Z u h0 n0) := by
  refine own_met n0 own_pn_java_lang_StringUTF16 (fun m => ef1I m (3 : Int32)) ?_
  intro p e s m below meth c T lc hret hx hZ hby hml hown hnm hlk X eT N
  have Kp : Keep h0 h0 [] := Keep.refl _ _
  refine own_iloadN X hx (hb hby own5_0) (pc' := 1) rfl rfl ?_
  refine own_callS X hx hZ [(.int (3 : Int32))] hown (own_w hw 96 rfl) (own_w hw 97 rfl) (own_w hw 76 rfl) (own_w hw 98 rfl) (by decide) (rm_nl3 l Z a0 hw [] 0 h0 n0 Z0) eT (W := 0) (by decide) (by decide) (cells' := 0) (slots' := 0) rfl rfl (by decide) (by decide) (by rw [hml]; rfl) (lenOf own_pd_28I29I rfl) rfl (S := []) rfl (Nat.le_of_eq rfl) (hb hby own5_1) (pc' := 4) rfl ?_
  intro v T h1 L lc X eT hq fN
  obtain ⟨rfl, Nq, hqe⟩ := hq
  have N := fN _ N Nq
  rw [hqe] at eT
  show own_W _ _ _ _ _ _ _ _ [(.int (6 : Int32))]
  refine own_newarr X hx hZ (own_w hw 23 rfl) eT (hb hby own5_4) (pc' := 6) rfl (by decide) 6 (by decide) (by decide) (cells' := 1) (slots' := 6) rfl rfl (by decide) (by decide) ?_
  intro T h2 k_b2 b2 X eT E gb2 A_b2
  have z_b2 : n0 ≤ b2 := Nat.le_trans Z0 (Nat.le_of_eq gb2.symm)
  have s_b2 : h0.size ≤ b2 := Nat.le_trans Kp.1 (Nat.le_of_eq gb2.symm)
  have Z0 := Nat.le_trans Z0 E.1
  have Kp := Kp.ext E
  have A_b2 : Arv Z h2 b2 k_b2 .byte (6 : Int32) [(.int (0 : Int32)), (.int (0 : Int32)), (.int (0 : Int32)), (.int (0 : Int32)), (.int (0 : Int32)), (.int (0 : Int32))] (.int (0 : Int32)) := A_b2.pad (pad_rep [] (.int (0 : Int32)) 6)
  refine own_retA X hx hlk hret (hb hby own5_6) rfl rfl rfl (by decide) (by decide) ?_
  rw [eT]
  exact ⟨_, _, rfl, N, Kp, s_b2, A_b2⟩
def Q_pu3_0 (Z : State) (ad : Addr) (kd : ClassId) (d x0 x1 x2 x3 x4 x5 : Int32) (h0 : Heap) (n0 : Nat) (v : Option Value) (h : Heap) (L : List Loc) : Prop := v = none ∧ Fr n0 L ∧ Keep h0 h [ad] ∧ Arv Z h ad kd .byte (6 : Int32) [(.int (own_lb d)), (.int (own_hb d)), (.int x2), (.int x3), (.int x4), (.int x5)] (.int (0 : Int32))
set_option maxRecDepth 65536 in
set_option maxHeartbeats 40000000 in
theorem rm_pu3_0 (l : Launch) (Z : State) (a0 : Array Value) (hw : ∀ d ∈ tables_1, d.before a0 Z = true) (ws : List Jvm.Cond) (ad : Addr) (kd : ClassId) (d x0 x1 x2 x3 x4 x5 : Int32) (h0 : Heap) (n0 : Nat) (Z0 : n0 ≤ h0.size) (S_A : Sta Z h0 "java/lang/StringUTF16" "$assertionsDisabled" "Z" (.int (1 : Int32))) (S_H : Sta Z h0 "java/lang/StringUTF16" "HI_BYTE_SHIFT" "I" (.int (0 : Int32))) (S_L : Sta Z h0 "java/lang/StringUTF16" "LO_BYTE_SHIFT" "I" (.int (8 : Int32))) (A_ad : Arv Z h0 ad kd .byte (6 : Int32) [(.int x0), (.int x1), (.int x2), (.int x3), (.int x4), (.int x5)] (.int (0 : Int32))) (z_ad : n0 ≤ ad) : own_Met l Z ⟨"java/lang/StringUTF16", "putChar", "([BII)V"⟩ jdk_52_method_4_code 3 none ws ⟨0, 0, 0, 0⟩ #[(.ref ad), (.int (0 : Int32)), (.int d)] h0 (Q_pu3_0 Z ad kd d x0 x1 x2 x3 x4 x5 h0 n0) := by
  refine own_met n0 own_pn_java_lang_StringUTF16 (fun m => ef3RII m ad (0 : Int32) d) ?_
  intro p e s m below meth c T lc hret hx hZ hby hml hown hnm hlk X eT N
  have Kp : Keep h0 h0 [ad] := Keep.refl _ _
  refine own_getS X hx hZ hown (host := "") (Or.inl (own_w hw 103 rfl)) Via.refl eT S_A (hb hby own6_0) (pc' := 3) rfl ?_
  intro T X eT
  refine own_ifY X hx (hb hby own6_3) (by decide) (pc' := 28) rfl (show ¬ ((1 : Int32) = (0 : Int32)) from (by decide)) ?_
  refine own_iloadN X hx (hb hby own6_28) (pc' := 29) rfl rfl ?_
  refine own_iconst X hx (1 : Int32) (hb hby own6_29) (pc' := 30) rfl rfl ?_
  refine own_ishl X hx (hb hby own6_30) (pc' := 31) rfl ?_
  rw [show ((0 : Int32) <<< ((1 : Int32) &&& 31)) = (0 : Int32) from by decide]
  refine own_istoreN X hx (hb hby own6_31) (pc' := 32) rfl (Ls' := #[.val (.ref ad), .val (.int (0 : Int32)), .val (.int d)]) rfl ?_
  refine own_aloadN X hx (hb hby own6_32) (pc' := 33) rfl rfl rfl ?_
  refine own_iloadN X hx (hb hby own6_33) (pc' := 34) rfl rfl ?_
  refine own_iinc X hx (1 : Int32) (hb hby own6_34) (pc' := 37) rfl rfl rfl (Ls' := #[.val (.ref ad), .val (.int (1 : Int32)), .val (.int d)]) rfl ?_
  refine own_iloadN X hx (hb hby own6_37) (pc' := 38) rfl rfl ?_
  refine own_getS X hx hZ hown (host := "") (Or.inl (own_w hw 104 rfl)) Via.refl eT S_H (hb hby own6_38) (pc' := 41) rfl ?_
  intro T X eT
  refine own_ishr X hx (hb hby own6_41) (pc' := 42) rfl ?_
  refine own_i2b X hx (hb hby own6_42) (pc' := 43) rfl ?_
  refine own_bastoreB X hx hZ eT A_ad (by decide) 0 rfl (by show 0 < 6; decide) (hb hby own6_43) (pc' := 44) rfl ?_
  intro T h1 lc X eT Kq A_adn fN
  have S_A := own_sta_keep S_A Kq (nsS (own_ns_arv A_ad) ns0)
  have S_H := own_sta_keep S_H Kq (nsS (own_ns_arv A_ad) ns0)
  have S_L := own_sta_keep S_L Kq (nsS (own_ns_arv A_ad) ns0)
  have Z0 := Nat.le_trans Z0 Kq.1
  have A_ad := A_adn
  have N := fN _ z_ad N
  have Kp := Kp.trans Kq (allS (P := fun x => x ∈ [ad] ∨ h0.size ≤ x) (Or.inl (List.mem_of_getElem? (i := 0) rfl)) all0)
  have A_ad : Arv Z h1 ad _ .byte (6 : Int32) [(.int (nar .byte (d >>> ((0 : Int32) &&& 31)).toInt8.toInt32)), (.int x1), (.int x2), (.int x3), (.int x4), (.int x5)] (.int (0 : Int32)) := A_ad
  refine own_aloadN X hx (hb hby own6_44) (pc' := 45) rfl rfl rfl ?_
  refine own_iloadN X hx (hb hby own6_45) (pc' := 46) rfl rfl ?_
  refine own_iloadN X hx (hb hby own6_46) (pc' := 47) rfl rfl ?_
  refine own_getS X hx hZ hown (host := "") (Or.inl (own_w hw 105 rfl)) Via.refl eT S_L (hb hby own6_47) (pc' := 50) rfl ?_
  intro T X eT
  refine own_ishr X hx (hb hby own6_50) (pc' := 51) rfl ?_
  refine own_i2b X hx (hb hby own6_51) (pc' := 52) rfl ?_
  refine own_bastoreB X hx hZ eT A_ad (by decide) 1 rfl (by show 1 < 6; decide) (hb hby own6_52) (pc' := 53) rfl ?_
  intro T h2 lc X eT Kq A_adn fN
  have S_A := own_sta_keep S_A Kq (nsS (own_ns_arv A_ad) ns0)
  have S_H := own_sta_keep S_H Kq (nsS (own_ns_arv A_ad) ns0)
  have S_L := own_sta_keep S_L Kq (nsS (own_ns_arv A_ad) ns0)
  have Z0 := Nat.le_trans Z0 Kq.1
  have A_ad := A_adn
  have N := fN _ z_ad N
  have Kp := Kp.trans Kq (allS (P := fun x => x ∈ [ad] ∨ h0.size ≤ x) (Or.inl (List.mem_of_getElem? (i := 0) rfl)) all0)
  have A_ad : Arv Z h2 ad _ .byte (6 : Int32) [(.int (nar .byte (d >>> ((0 : Int32) &&& 31)).toInt8.toInt32)), (.int (nar .byte (d >>> ((8 : Int32) &&& 31)).toInt8.toInt32)), (.int x2), (.int x3), (.int x4), (.int x5)] (.int (0 : Int32)) := A_ad
  refine own_ret0 X hx hlk hret (hb hby own6_53) (by decide) (by decide) ?_
  rw [eT]
  exact ⟨rfl, N, Kp, A_ad⟩
def Q_gc3_0 (Z : State) (b : Addr) (kd : ClassId) (d0 d1 d2 : Int32) (h0 : Heap) (n0 : Nat) (v : Option Value) (h : Heap) (L : List Loc) : Prop := v = some (.int d0) ∧ Fr n0 L ∧ h = h0
set_option maxRecDepth 65536 in
set_option maxHeartbeats 40000000 in
theorem rm_gc3_0 (l : Launch) (Z : State) (a0 : Array Value) (hw : ∀ d ∈ tables_1, d.before a0 Z = true) (ws : List Jvm.Cond) (b : Addr) (kd : ClassId) (d0 d1 d2 : Int32) (h0 : Heap) (n0 : Nat) (Z0 : n0 ≤ h0.size) (S_A : Sta Z h0 "java/lang/StringUTF16" "$assertionsDisabled" "Z" (.int (1 : Int32))) (S_H : Sta Z h0 "java/lang/StringUTF16" "HI_BYTE_SHIFT" "I" (.int (0 : Int32))) (S_L : Sta Z h0 "java/lang/StringUTF16" "LO_BYTE_SHIFT" "I" (.int (8 : Int32))) (hd0 : own_c16 d0) (A_b : Arv Z h0 b kd .byte (6 : Int32) [(.int (own_lb d0)), (.int (own_hb d0)), (.int (own_lb d1)), (.int (own_hb d1)), (.int (own_lb d2)), (.int (own_hb d2))] (.int (0 : Int32))) : own_Met l Z ⟨"java/lang/StringUTF16", "getChar", "([BI)C"⟩ jdk_52_method_5_code 2 (some .char) ws ⟨0, 0, 0, 0⟩ #[(.ref b), (.int (0 : Int32))] h0 (Q_gc3_0 Z b kd d0 d1 d2 h0 n0) := by
  refine own_met n0 own_pn_java_lang_StringUTF16 (fun m => ef2RI m b (0 : Int32)) ?_
  intro p e s m below meth c T lc hret hx hZ hby hml hown hnm hlk X eT N
  refine own_getS X hx hZ hown (host := "") (Or.inl (own_w hw 103 rfl)) Via.refl eT S_A (hb hby own7_0) (pc' := 3) rfl ?_
  intro T X eT
  refine own_ifY X hx (hb hby own7_3) (by decide) (pc' := 28) rfl (show ¬ ((1 : Int32) = (0 : Int32)) from (by decide)) ?_
  refine own_iloadN X hx (hb hby own7_28) (pc' := 29) rfl rfl ?_
  refine own_iconst X hx (1 : Int32) (hb hby own7_29) (pc' := 30) rfl rfl ?_
  refine own_ishl X hx (hb hby own7_30) (pc' := 31) rfl ?_
  rw [show ((0 : Int32) <<< ((1 : Int32) &&& 31)) = (0 : Int32) from by decide]
  refine own_istoreN X hx (hb hby own7_31) (pc' := 32) rfl (Ls' := #[.val (.ref b), .val (.int (0 : Int32))]) rfl ?_
  refine own_aloadN X hx (hb hby own7_32) (pc' := 33) rfl rfl rfl ?_
  refine own_iloadN X hx (hb hby own7_33) (pc' := 34) rfl rfl ?_
  refine own_iinc X hx (1 : Int32) (hb hby own7_34) (pc' := 37) rfl rfl rfl (Ls' := #[.val (.ref b), .val (.int (1 : Int32))]) rfl ?_
  refine own_baloadB X hx hZ eT A_b (v := (.int (own_lb d0))) (by decide) rfl (hb hby own7_37) (pc' := 38) rfl ?_
  refine own_sipush X hx (255 : Int32) (hb hby own7_38) (pc' := 41) rfl rfl ?_
  refine own_iand X hx (hb hby own7_41) (pc' := 42) rfl ?_
  refine own_getS X hx hZ hown (host := "") (Or.inl (own_w hw 104 rfl)) Via.refl eT S_H (hb hby own7_42) (pc' := 45) rfl ?_
  intro T X eT
  refine own_ishl X hx (hb hby own7_45) (pc' := 46) rfl ?_
  refine own_aloadN X hx (hb hby own7_46) (pc' := 47) rfl rfl rfl ?_
  refine own_iloadN X hx (hb hby own7_47) (pc' := 48) rfl rfl ?_
  refine own_baloadB X hx hZ eT A_b (v := (.int (own_hb d0))) (by decide) rfl (hb hby own7_48) (pc' := 49) rfl ?_
  refine own_sipush X hx (255 : Int32) (hb hby own7_49) (pc' := 52) rfl rfl ?_
  refine own_iand X hx (hb hby own7_52) (pc' := 53) rfl ?_
  refine own_getS X hx hZ hown (host := "") (Or.inl (own_w hw 105 rfl)) Via.refl eT S_L (hb hby own7_53) (pc' := 56) rfl ?_
  intro T X eT
  refine own_ishl X hx (hb hby own7_56) (pc' := 57) rfl ?_
  refine own_ior X hx (hb hby own7_57) (pc' := 58) rfl ?_
  refine own_i2c X hx (hb hby own7_58) (pc' := 59) rfl ?_
  refine own_retI X hx hlk (t := .char) (w' := (.int (nar .char ((((own_lb d0) &&& (255 : Int32)) <<< ((0 : Int32) &&& 31)) ||| (((own_hb d0) &&& (255 : Int32)) <<< ((8 : Int32) &&& 31))).toUInt32.toUInt16.toUInt32.toInt32))) hret (hb hby own7_59) rfl rfl (by simp) (by decide) (by decide) ?_
  rw [eT]
  exact ⟨congrArg (fun z => some (Value.int z)) (own_gc hd0), N, rfl⟩
def Q_pu3_1 (Z : State) (ad : Addr) (kd : ClassId) (d x0 x1 x2 x3 x4 x5 : Int32) (h0 : Heap) (n0 : Nat) (v : Option Value) (h : Heap) (L : List Loc) : Prop := v = none ∧ Fr n0 L ∧ Keep h0 h [ad] ∧ Arv Z h ad kd .byte (6 : Int32) [(.int x0), (.int x1), (.int (own_lb d)), (.int (own_hb d)), (.int x4), (.int x5)] (.int (0 : Int32))
set_option maxRecDepth 65536 in
set_option maxHeartbeats 40000000 in
theorem rm_pu3_1 (l : Launch) (Z : State) (a0 : Array Value) (hw : ∀ d ∈ tables_1, d.before a0 Z = true) (ws : List Jvm.Cond) (ad : Addr) (kd : ClassId) (d x0 x1 x2 x3 x4 x5 : Int32) (h0 : Heap) (n0 : Nat) (Z0 : n0 ≤ h0.size) (S_A : Sta Z h0 "java/lang/StringUTF16" "$assertionsDisabled" "Z" (.int (1 : Int32))) (S_H : Sta Z h0 "java/lang/StringUTF16" "HI_BYTE_SHIFT" "I" (.int (0 : Int32))) (S_L : Sta Z h0 "java/lang/StringUTF16" "LO_BYTE_SHIFT" "I" (.int (8 : Int32))) (A_ad : Arv Z h0 ad kd .byte (6 : Int32) [(.int x0), (.int x1), (.int x2), (.int x3), (.int x4), (.int x5)] (.int (0 : Int32))) (z_ad : n0 ≤ ad) : own_Met l Z ⟨"java/lang/StringUTF16", "putChar", "([BII)V"⟩ jdk_52_method_4_code 3 none ws ⟨0, 0, 0, 0⟩ #[(.ref ad), (.int (1 : Int32)), (.int d)] h0 (Q_pu3_1 Z ad kd d x0 x1 x2 x3 x4 x5 h0 n0) := by
  refine own_met n0 own_pn_java_lang_StringUTF16 (fun m => ef3RII m ad (1 : Int32) d) ?_
  intro p e s m below meth c T lc hret hx hZ hby hml hown hnm hlk X eT N
  have Kp : Keep h0 h0 [ad] := Keep.refl _ _
  refine own_getS X hx hZ hown (host := "") (Or.inl (own_w hw 103 rfl)) Via.refl eT S_A (hb hby own6_0) (pc' := 3) rfl ?_
  intro T X eT
  refine own_ifY X hx (hb hby own6_3) (by decide) (pc' := 28) rfl (show ¬ ((1 : Int32) = (0 : Int32)) from (by decide)) ?_
  refine own_iloadN X hx (hb hby own6_28) (pc' := 29) rfl rfl ?_
  refine own_iconst X hx (1 : Int32) (hb hby own6_29) (pc' := 30) rfl rfl ?_
  refine own_ishl X hx (hb hby own6_30) (pc' := 31) rfl ?_
  rw [show ((1 : Int32) <<< ((1 : Int32) &&& 31)) = (2 : Int32) from by decide]
  refine own_istoreN X hx (hb hby own6_31) (pc' := 32) rfl (Ls' := #[.val (.ref ad), .val (.int (2 : Int32)), .val (.int d)]) rfl ?_
  refine own_aloadN X hx (hb hby own6_32) (pc' := 33) rfl rfl rfl ?_
  refine own_iloadN X hx (hb hby own6_33) (pc' := 34) rfl rfl ?_
  refine own_iinc X hx (1 : Int32) (hb hby own6_34) (pc' := 37) rfl rfl rfl (Ls' := #[.val (.ref ad), .val (.int (3 : Int32)), .val (.int d)]) rfl ?_
  refine own_iloadN X hx (hb hby own6_37) (pc' := 38) rfl rfl ?_
  refine own_getS X hx hZ hown (host := "") (Or.inl (own_w hw 104 rfl)) Via.refl eT S_H (hb hby own6_38) (pc' := 41) rfl ?_
  intro T X eT
  refine own_ishr X hx (hb hby own6_41) (pc' := 42) rfl ?_
  refine own_i2b X hx (hb hby own6_42) (pc' := 43) rfl ?_
  refine own_bastoreB X hx hZ eT A_ad (by decide) 2 rfl (by show 2 < 6; decide) (hb hby own6_43) (pc' := 44) rfl ?_
  intro T h1 lc X eT Kq A_adn fN
  have S_A := own_sta_keep S_A Kq (nsS (own_ns_arv A_ad) ns0)
  have S_H := own_sta_keep S_H Kq (nsS (own_ns_arv A_ad) ns0)
  have S_L := own_sta_keep S_L Kq (nsS (own_ns_arv A_ad) ns0)
  have Z0 := Nat.le_trans Z0 Kq.1
  have A_ad := A_adn
  have N := fN _ z_ad N
  have Kp := Kp.trans Kq (allS (P := fun x => x ∈ [ad] ∨ h0.size ≤ x) (Or.inl (List.mem_of_getElem? (i := 0) rfl)) all0)
  have A_ad : Arv Z h1 ad _ .byte (6 : Int32) [(.int x0), (.int x1), (.int (nar .byte (d >>> ((0 : Int32) &&& 31)).toInt8.toInt32)), (.int x3), (.int x4), (.int x5)] (.int (0 : Int32)) := A_ad
  refine own_aloadN X hx (hb hby own6_44) (pc' := 45) rfl rfl rfl ?_
  refine own_iloadN X hx (hb hby own6_45) (pc' := 46) rfl rfl ?_
  refine own_iloadN X hx (hb hby own6_46) (pc' := 47) rfl rfl ?_
  refine own_getS X hx hZ hown (host := "") (Or.inl (own_w hw 105 rfl)) Via.refl eT S_L (hb hby own6_47) (pc' := 50) rfl ?_
  intro T X eT
  refine own_ishr X hx (hb hby own6_50) (pc' := 51) rfl ?_
  refine own_i2b X hx (hb hby own6_51) (pc' := 52) rfl ?_
  refine own_bastoreB X hx hZ eT A_ad (by decide) 3 rfl (by show 3 < 6; decide) (hb hby own6_52) (pc' := 53) rfl ?_
  intro T h2 lc X eT Kq A_adn fN
  have S_A := own_sta_keep S_A Kq (nsS (own_ns_arv A_ad) ns0)
  have S_H := own_sta_keep S_H Kq (nsS (own_ns_arv A_ad) ns0)
  have S_L := own_sta_keep S_L Kq (nsS (own_ns_arv A_ad) ns0)
  have Z0 := Nat.le_trans Z0 Kq.1
  have A_ad := A_adn
  have N := fN _ z_ad N
  have Kp := Kp.trans Kq (allS (P := fun x => x ∈ [ad] ∨ h0.size ≤ x) (Or.inl (List.mem_of_getElem? (i := 0) rfl)) all0)
  have A_ad : Arv Z h2 ad _ .byte (6 : Int32) [(.int x0), (.int x1), (.int (nar .byte (d >>> ((0 : Int32) &&& 31)).toInt8.toInt32)), (.int (nar .byte (d >>> ((8 : Int32) &&& 31)).toInt8.toInt32)), (.int x4), (.int x5)] (.int (0 : Int32)) := A_ad
  refine own_ret0 X hx hlk hret (hb hby own6_53) (by decide) (by decide) ?_
  rw [eT]
  exact ⟨rfl, N, Kp, A_ad⟩
def Q_gc3_1 (Z : State) (b : Addr) (kd : ClassId) (d0 d1 d2 : Int32) (h0 : Heap) (n0 : Nat) (v : Option Value) (h : Heap) (L : List Loc) : Prop := v = some (.int d1) ∧ Fr n0 L ∧ h = h0
set_option maxRecDepth 65536 in
set_option maxHeartbeats 40000000 in
theorem rm_gc3_1 (l : Launch) (Z : State) (a0 : Array Value) (hw : ∀ d ∈ tables_1, d.before a0 Z = true) (ws : List Jvm.Cond) (b : Addr) (kd : ClassId) (d0 d1 d2 : Int32) (h0 : Heap) (n0 : Nat) (Z0 : n0 ≤ h0.size) (S_A : Sta Z h0 "java/lang/StringUTF16" "$assertionsDisabled" "Z" (.int (1 : Int32))) (S_H : Sta Z h0 "java/lang/StringUTF16" "HI_BYTE_SHIFT" "I" (.int (0 : Int32))) (S_L : Sta Z h0 "java/lang/StringUTF16" "LO_BYTE_SHIFT" "I" (.int (8 : Int32))) (hd1 : own_c16 d1) (A_b : Arv Z h0 b kd .byte (6 : Int32) [(.int (own_lb d0)), (.int (own_hb d0)), (.int (own_lb d1)), (.int (own_hb d1)), (.int (own_lb d2)), (.int (own_hb d2))] (.int (0 : Int32))) : own_Met l Z ⟨"java/lang/StringUTF16", "getChar", "([BI)C"⟩ jdk_52_method_5_code 2 (some .char) ws ⟨0, 0, 0, 0⟩ #[(.ref b), (.int (1 : Int32))] h0 (Q_gc3_1 Z b kd d0 d1 d2 h0 n0) := by
  refine own_met n0 own_pn_java_lang_StringUTF16 (fun m => ef2RI m b (1 : Int32)) ?_
  intro p e s m below meth c T lc hret hx hZ hby hml hown hnm hlk X eT N
  refine own_getS X hx hZ hown (host := "") (Or.inl (own_w hw 103 rfl)) Via.refl eT S_A (hb hby own7_0) (pc' := 3) rfl ?_
  intro T X eT
  refine own_ifY X hx (hb hby own7_3) (by decide) (pc' := 28) rfl (show ¬ ((1 : Int32) = (0 : Int32)) from (by decide)) ?_
  refine own_iloadN X hx (hb hby own7_28) (pc' := 29) rfl rfl ?_
  refine own_iconst X hx (1 : Int32) (hb hby own7_29) (pc' := 30) rfl rfl ?_
  refine own_ishl X hx (hb hby own7_30) (pc' := 31) rfl ?_
  rw [show ((1 : Int32) <<< ((1 : Int32) &&& 31)) = (2 : Int32) from by decide]
  refine own_istoreN X hx (hb hby own7_31) (pc' := 32) rfl (Ls' := #[.val (.ref b), .val (.int (2 : Int32))]) rfl ?_
  refine own_aloadN X hx (hb hby own7_32) (pc' := 33) rfl rfl rfl ?_
  refine own_iloadN X hx (hb hby own7_33) (pc' := 34) rfl rfl ?_
  refine own_iinc X hx (1 : Int32) (hb hby own7_34) (pc' := 37) rfl rfl rfl (Ls' := #[.val (.ref b), .val (.int (3 : Int32))]) rfl ?_
  refine own_baloadB X hx hZ eT A_b (v := (.int (own_lb d1))) (by decide) rfl (hb hby own7_37) (pc' := 38) rfl ?_
  refine own_sipush X hx (255 : Int32) (hb hby own7_38) (pc' := 41) rfl rfl ?_
  refine own_iand X hx (hb hby own7_41) (pc' := 42) rfl ?_
  refine own_getS X hx hZ hown (host := "") (Or.inl (own_w hw 104 rfl)) Via.refl eT S_H (hb hby own7_42) (pc' := 45) rfl ?_
  intro T X eT
  refine own_ishl X hx (hb hby own7_45) (pc' := 46) rfl ?_
  refine own_aloadN X hx (hb hby own7_46) (pc' := 47) rfl rfl rfl ?_
  refine own_iloadN X hx (hb hby own7_47) (pc' := 48) rfl rfl ?_
  refine own_baloadB X hx hZ eT A_b (v := (.int (own_hb d1))) (by decide) rfl (hb hby own7_48) (pc' := 49) rfl ?_
  refine own_sipush X hx (255 : Int32) (hb hby own7_49) (pc' := 52) rfl rfl ?_
  refine own_iand X hx (hb hby own7_52) (pc' := 53) rfl ?_
  refine own_getS X hx hZ hown (host := "") (Or.inl (own_w hw 105 rfl)) Via.refl eT S_L (hb hby own7_53) (pc' := 56) rfl ?_
  intro T X eT
  refine own_ishl X hx (hb hby own7_56) (pc' := 57) rfl ?_
  refine own_ior X hx (hb hby own7_57) (pc' := 58) rfl ?_
  refine own_i2c X hx (hb hby own7_58) (pc' := 59) rfl ?_
  refine own_retI X hx hlk (t := .char) (w' := (.int (nar .char ((((own_lb d1) &&& (255 : Int32)) <<< ((0 : Int32) &&& 31)) ||| (((own_hb d1) &&& (255 : Int32)) <<< ((8 : Int32) &&& 31))).toUInt32.toUInt16.toUInt32.toInt32))) hret (hb hby own7_59) rfl rfl (by simp) (by decide) (by decide) ?_
  rw [eT]
  exact ⟨congrArg (fun z => some (Value.int z)) (own_gc hd1), N, rfl⟩
def Q_pu3_2 (Z : State) (ad : Addr) (kd : ClassId) (d x0 x1 x2 x3 x4 x5 : Int32) (h0 : Heap) (n0 : Nat) (v : Option Value) (h : Heap) (L : List Loc) : Prop := v = none ∧ Fr n0 L ∧ Keep h0 h [ad] ∧ Arv Z h ad kd .byte (6 : Int32) [(.int x0), (.int x1), (.int x2), (.int x3), (.int (own_lb d)), (.int (own_hb d))] (.int (0 : Int32))
set_option maxRecDepth 65536 in
set_option maxHeartbeats 40000000 in
theorem rm_pu3_2 (l : Launch) (Z : State) (a0 : Array Value) (hw : ∀ d ∈ tables_1, d.before a0 Z = true) (ws : List Jvm.Cond) (ad : Addr) (kd : ClassId) (d x0 x1 x2 x3 x4 x5 : Int32) (h0 : Heap) (n0 : Nat) (Z0 : n0 ≤ h0.size) (S_A : Sta Z h0 "java/lang/StringUTF16" "$assertionsDisabled" "Z" (.int (1 : Int32))) (S_H : Sta Z h0 "java/lang/StringUTF16" "HI_BYTE_SHIFT" "I" (.int (0 : Int32))) (S_L : Sta Z h0 "java/lang/StringUTF16" "LO_BYTE_SHIFT" "I" (.int (8 : Int32))) (A_ad : Arv Z h0 ad kd .byte (6 : Int32) [(.int x0), (.int x1), (.int x2), (.int x3), (.int x4), (.int x5)] (.int (0 : Int32))) (z_ad : n0 ≤ ad) : own_Met l Z ⟨"java/lang/StringUTF16", "putChar", "([BII)V"⟩ jdk_52_method_4_code 3 none ws ⟨0, 0, 0, 0⟩ #[(.ref ad), (.int (2 : Int32)), (.int d)] h0 (Q_pu3_2 Z ad kd d x0 x1 x2 x3 x4 x5 h0 n0) := by
  refine own_met n0 own_pn_java_lang_StringUTF16 (fun m => ef3RII m ad (2 : Int32) d) ?_
  intro p e s m below meth c T lc hret hx hZ hby hml hown hnm hlk X eT N
  have Kp : Keep h0 h0 [ad] := Keep.refl _ _
  refine own_getS X hx hZ hown (host := "") (Or.inl (own_w hw 103 rfl)) Via.refl eT S_A (hb hby own6_0) (pc' := 3) rfl ?_
  intro T X eT
  refine own_ifY X hx (hb hby own6_3) (by decide) (pc' := 28) rfl (show ¬ ((1 : Int32) = (0 : Int32)) from (by decide)) ?_
  refine own_iloadN X hx (hb hby own6_28) (pc' := 29) rfl rfl ?_
  refine own_iconst X hx (1 : Int32) (hb hby own6_29) (pc' := 30) rfl rfl ?_
  refine own_ishl X hx (hb hby own6_30) (pc' := 31) rfl ?_
  rw [show ((2 : Int32) <<< ((1 : Int32) &&& 31)) = (4 : Int32) from by decide]
  refine own_istoreN X hx (hb hby own6_31) (pc' := 32) rfl (Ls' := #[.val (.ref ad), .val (.int (4 : Int32)), .val (.int d)]) rfl ?_
  refine own_aloadN X hx (hb hby own6_32) (pc' := 33) rfl rfl rfl ?_
  refine own_iloadN X hx (hb hby own6_33) (pc' := 34) rfl rfl ?_
  refine own_iinc X hx (1 : Int32) (hb hby own6_34) (pc' := 37) rfl rfl rfl (Ls' := #[.val (.ref ad), .val (.int (5 : Int32)), .val (.int d)]) rfl ?_
  refine own_iloadN X hx (hb hby own6_37) (pc' := 38) rfl rfl ?_
  refine own_getS X hx hZ hown (host := "") (Or.inl (own_w hw 104 rfl)) Via.refl eT S_H (hb hby own6_38) (pc' := 41) rfl ?_
  intro T X eT
  refine own_ishr X hx (hb hby own6_41) (pc' := 42) rfl ?_
  refine own_i2b X hx (hb hby own6_42) (pc' := 43) rfl ?_
  refine own_bastoreB X hx hZ eT A_ad (by decide) 4 rfl (by show 4 < 6; decide) (hb hby own6_43) (pc' := 44) rfl ?_
  intro T h1 lc X eT Kq A_adn fN
  have S_A := own_sta_keep S_A Kq (nsS (own_ns_arv A_ad) ns0)
  have S_H := own_sta_keep S_H Kq (nsS (own_ns_arv A_ad) ns0)
  have S_L := own_sta_keep S_L Kq (nsS (own_ns_arv A_ad) ns0)
  have Z0 := Nat.le_trans Z0 Kq.1
  have A_ad := A_adn
  have N := fN _ z_ad N
  have Kp := Kp.trans Kq (allS (P := fun x => x ∈ [ad] ∨ h0.size ≤ x) (Or.inl (List.mem_of_getElem? (i := 0) rfl)) all0)
  have A_ad : Arv Z h1 ad _ .byte (6 : Int32) [(.int x0), (.int x1), (.int x2), (.int x3), (.int (nar .byte (d >>> ((0 : Int32) &&& 31)).toInt8.toInt32)), (.int x5)] (.int (0 : Int32)) := A_ad
  refine own_aloadN X hx (hb hby own6_44) (pc' := 45) rfl rfl rfl ?_
  refine own_iloadN X hx (hb hby own6_45) (pc' := 46) rfl rfl ?_
  refine own_iloadN X hx (hb hby own6_46) (pc' := 47) rfl rfl ?_
  refine own_getS X hx hZ hown (host := "") (Or.inl (own_w hw 105 rfl)) Via.refl eT S_L (hb hby own6_47) (pc' := 50) rfl ?_
  intro T X eT
  refine own_ishr X hx (hb hby own6_50) (pc' := 51) rfl ?_
  refine own_i2b X hx (hb hby own6_51) (pc' := 52) rfl ?_
  refine own_bastoreB X hx hZ eT A_ad (by decide) 5 rfl (by show 5 < 6; decide) (hb hby own6_52) (pc' := 53) rfl ?_
  intro T h2 lc X eT Kq A_adn fN
  have S_A := own_sta_keep S_A Kq (nsS (own_ns_arv A_ad) ns0)
  have S_H := own_sta_keep S_H Kq (nsS (own_ns_arv A_ad) ns0)
  have S_L := own_sta_keep S_L Kq (nsS (own_ns_arv A_ad) ns0)
  have Z0 := Nat.le_trans Z0 Kq.1
  have A_ad := A_adn
  have N := fN _ z_ad N
  have Kp := Kp.trans Kq (allS (P := fun x => x ∈ [ad] ∨ h0.size ≤ x) (Or.inl (List.mem_of_getElem? (i := 0) rfl)) all0)
  have A_ad : Arv Z h2 ad _ .byte (6 : Int32) [(.int x0), (.int x1), (.int x2), (.int x3), (.int (nar .byte (d >>> ((0 : Int32) &&& 31)).toInt8.toInt32)), (.int (nar .byte (d >>> ((8 : Int32) &&& 31)).toInt8.toInt32))] (.int (0 : Int32)) := A_ad
  refine own_ret0 X hx hlk hret (hb hby own6_53) (by decide) (by decide) ?_
  rw [eT]
  exact ⟨rfl, N, Kp, A_ad⟩
def Q_gc3_2 (Z : State) (b : Addr) (kd : ClassId) (d0 d1 d2 : Int32) (h0 : Heap) (n0 : Nat) (v : Option Value) (h : Heap) (L : List Loc) : Prop := v = some (.int d2) ∧ Fr n0 L ∧ h = h0
set_option maxRecDepth 65536 in
set_option maxHeartbeats 40000000 in
theorem rm_gc3_2 (l : Launch) (Z : State) (a0 : Array Value) (hw : ∀ d ∈ tables_1, d.before a0 Z = true) (ws : List Jvm.Cond) (b : Addr) (kd : ClassId) (d0 d1 d2 : Int32) (h0 : Heap) (n0 : Nat) (Z0 : n0 ≤ h0.size) (S_A : Sta Z h0 "java/lang/StringUTF16" "$assertionsDisabled" "Z" (.int (1 : Int32))) (S_H : Sta Z h0 "java/lang/StringUTF16" "HI_BYTE_SHIFT" "I" (.int (0 : Int32))) (S_L : Sta Z h0 "java/lang/StringUTF16" "LO_BYTE_SHIFT" "I" (.int (8 : Int32))) (hd2 : own_c16 d2) (A_b : Arv Z h0 b kd .byte (6 : Int32) [(.int (own_lb d0)), (.int (own_hb d0)), (.int (own_lb d1)), (.int (own_hb d1)), (.int (own_lb d2)), (.int (own_hb d2))] (.int (0 : Int32))) : own_Met l Z ⟨"java/lang/StringUTF16", "getChar", "([BI)C"⟩ jdk_52_method_5_code 2 (some .char) ws ⟨0, 0, 0, 0⟩ #[(.ref b), (.int (2 : Int32))] h0 (Q_gc3_2 Z b kd d0 d1 d2 h0 n0) := by
  refine own_met n0 own_pn_java_lang_StringUTF16 (fun m => ef2RI m b (2 : Int32)) ?_
  intro p e s m below meth c T lc hret hx hZ hby hml hown hnm hlk X eT N
  refine own_getS X hx hZ hown (host := "") (Or.inl (own_w hw 103 rfl)) Via.refl eT S_A (hb hby own7_0) (pc' := 3) rfl ?_
  intro T X eT
  refine own_ifY X hx (hb hby own7_3) (by decide) (pc' := 28) rfl (show ¬ ((1 : Int32) = (0 : Int32)) from (by decide)) ?_
  refine own_iloadN X hx (hb hby own7_28) (pc' := 29) rfl rfl ?_
  refine own_iconst X hx (1 : Int32) (hb hby own7_29) (pc' := 30) rfl rfl ?_
  refine own_ishl X hx (hb hby own7_30) (pc' := 31) rfl ?_
  rw [show ((2 : Int32) <<< ((1 : Int32) &&& 31)) = (4 : Int32) from by decide]
  refine own_istoreN X hx (hb hby own7_31) (pc' := 32) rfl (Ls' := #[.val (.ref b), .val (.int (4 : Int32))]) rfl ?_
  refine own_aloadN X hx (hb hby own7_32) (pc' := 33) rfl rfl rfl ?_
  refine own_iloadN X hx (hb hby own7_33) (pc' := 34) rfl rfl ?_
  refine own_iinc X hx (1 : Int32) (hb hby own7_34) (pc' := 37) rfl rfl rfl (Ls' := #[.val (.ref b), .val (.int (5 : Int32))]) rfl ?_
  refine own_baloadB X hx hZ eT A_b (v := (.int (own_lb d2))) (by decide) rfl (hb hby own7_37) (pc' := 38) rfl ?_
  refine own_sipush X hx (255 : Int32) (hb hby own7_38) (pc' := 41) rfl rfl ?_
  refine own_iand X hx (hb hby own7_41) (pc' := 42) rfl ?_
  refine own_getS X hx hZ hown (host := "") (Or.inl (own_w hw 104 rfl)) Via.refl eT S_H (hb hby own7_42) (pc' := 45) rfl ?_
  intro T X eT
  refine own_ishl X hx (hb hby own7_45) (pc' := 46) rfl ?_
  refine own_aloadN X hx (hb hby own7_46) (pc' := 47) rfl rfl rfl ?_
  refine own_iloadN X hx (hb hby own7_47) (pc' := 48) rfl rfl ?_
  refine own_baloadB X hx hZ eT A_b (v := (.int (own_hb d2))) (by decide) rfl (hb hby own7_48) (pc' := 49) rfl ?_
  refine own_sipush X hx (255 : Int32) (hb hby own7_49) (pc' := 52) rfl rfl ?_
  refine own_iand X hx (hb hby own7_52) (pc' := 53) rfl ?_
  refine own_getS X hx hZ hown (host := "") (Or.inl (own_w hw 105 rfl)) Via.refl eT S_L (hb hby own7_53) (pc' := 56) rfl ?_
  intro T X eT
  refine own_ishl X hx (hb hby own7_56) (pc' := 57) rfl ?_
  refine own_ior X hx (hb hby own7_57) (pc' := 58) rfl ?_
  refine own_i2c X hx (hb hby own7_58) (pc' := 59) rfl ?_
  refine own_retI X hx hlk (t := .char) (w' := (.int (nar .char ((((own_lb d2) &&& (255 : Int32)) <<< ((0 : Int32) &&& 31)) ||| (((own_hb d2) &&& (255 : Int32)) <<< ((8 : Int32) &&& 31))).toUInt32.toUInt16.toUInt32.toInt32))) hret (hb hby own7_59) rfl rfl (by simp) (by decide) (by decide) ?_
  rw [eT]
  exact ⟨congrArg (fun z => some (Value.int z)) (own_gc hd2), N, rfl⟩
def Q_tb3 (Z : State) (aq : Addr) (kq : ClassId) (d0 d1 d2 : Int32) (h0 : Heap) (n0 : Nat) (v : Option Value) (h : Heap) (L : List Loc) : Prop := ∃ (b : Addr) (kb : ClassId), v = some (.ref b) ∧ Fr n0 L ∧ Keep h0 h [] ∧ h0.size ≤ b ∧ Arv Z h b kb .byte (6 : Int32) [(.int (own_lb d0)), (.int (own_hb d0)), (.int (own_lb d1)), (.int (own_hb d1)), (.int (own_lb d2)), (.int (own_hb d2))] (.int (0 : Int32))
set_option maxRecDepth 65536 in
set_option maxHeartbeats 40000000 in
theorem rm_tb3 (l : Launch) (Z : State) (a0 : Array Value) (hw : ∀ d ∈ tables_1, d.before a0 Z = true) (ws : List Jvm.Cond) (aq : Addr) (kq : ClassId) (d0 d1 d2 : Int32) (h0 : Heap) (n0 : Nat) (Z0 : n0 ≤ h0.size) (S_A : Sta Z h0 "java/lang/StringUTF16" "$assertionsDisabled" "Z" (.int (1 : Int32))) (S_H : Sta Z h0 "java/lang/StringUTF16" "HI_BYTE_SHIFT" "I" (.int (0 : Int32))) (S_L : Sta Z h0 "java/lang/StringUTF16" "LO_BYTE_SHIFT" "I" (.int (8 : Int32))) (A_aq : Arv Z h0 aq kq .char (3 : Int32) [(.int d0), (.int d1), (.int d2)] (.int (0 : Int32))) : own_Met l Z ⟨"java/lang/StringUTF16", "toBytes", "([CII)[B"⟩ jdk_52_method_14_code 5 (some (.array .byte)) ws ⟨2, 1, 6, 34⟩ #[(.ref aq), (.int (0 : Int32)), (.int (3 : Int32))] h0 (Q_tb3 Z aq kq d0 d1 d2 h0 n0) := by
  refine own_met n0 own_pn_java_lang_StringUTF16 (fun m => ef5RII m aq (0 : Int32) (3 : Int32)) ?_
  intro p e s m below meth c T lc hret hx hZ hby hml hown hnm hlk X eT N
  have Kp : Keep h0 h0 [] := Keep.refl _ _
  refine own_iloadN X hx (hb hby own8_0) (pc' := 1) rfl rfl ?_
  refine own_callS X hx hZ [(.int (3 : Int32))] hown (own_w hw 93 rfl) (own_w hw 94 rfl) (own_w hw 76 rfl) (own_w hw 95 rfl) (by decide) (rm_nf3 l Z a0 hw [] 0 h0 n0 Z0) eT (W := 0) (by decide) (by decide) (cells' := 1) (slots' := 6) rfl rfl (by decide) (by decide) (by rw [hml]; rfl) (lenOf own_pd_28I295bB rfl) rfl (S := []) rfl (Nat.le_of_eq rfl) (hb hby own8_1) (pc' := 4) rfl ?_
  intro v T h1 L lc X eT hq fN
  obtain ⟨bb, kb, rfl, Nq, Kq, hbb, A_bb⟩ := hq
  have N := fN _ N Nq
  have lt_aq_bb : aq < bb := Nat.lt_of_lt_of_le A_aq.lt hbb
  have ne_aq_bb : aq ≠ bb := Nat.ne_of_lt lt_aq_bb
  have z_bb : n0 ≤ bb := Nat.le_trans Z0 hbb
  have s_bb : h0.size ≤ bb := Nat.le_trans Kp.1 hbb
  have S_A := own_sta_keep S_A Kq ns0
  have S_H := own_sta_keep S_H Kq ns0
  have S_L := own_sta_keep S_L Kq ns0
  have A_aq := A_aq.keep Kq nin0
  have Z0 := Nat.le_trans Z0 Kq.1
  have Kp := Kp.trans Kq all0
  show own_W _ _ _ _ _ _ _ _ [(.ref bb)]
  refine own_astoreN X hx (hb hby own8_4) (pc' := 5) rfl rfl (Ls' := #[.val (.ref aq), .val (.int (0 : Int32)), .val (.int (3 : Int32)), .val (.ref bb), .unset]) rfl ?_
  refine own_iconst X hx (0 : Int32) (hb hby own8_5) (pc' := 6) rfl rfl ?_
  refine own_istore X hx (hb hby own8_6) (pc' := 8) rfl (Ls' := #[.val (.ref aq), .val (.int (0 : Int32)), .val (.int (3 : Int32)), .val (.ref bb), .val (.int (0 : Int32))]) rfl ?_
  refine own_iload X hx (hb hby own8_8) (pc' := 10) rfl rfl ?_
  refine own_iloadN X hx (hb hby own8_10) (pc' := 11) rfl rfl ?_
  refine own_icmpN X hx (hb hby own8_11) (pc' := 14) rfl (show (0 : Int32) < (3 : Int32) from (by decide)) ?_
  refine own_aloadN X hx (hb hby own8_14) (pc' := 15) rfl rfl rfl ?_
  refine own_iload X hx (hb hby own8_15) (pc' := 17) rfl rfl ?_
  refine own_aloadN X hx (hb hby own8_17) (pc' := 18) rfl rfl rfl ?_
  refine own_iloadN X hx (hb hby own8_18) (pc' := 19) rfl rfl ?_
  refine own_caload X hx hZ eT A_aq (v := (.int d0)) (by decide) rfl (hb hby own8_19) (pc' := 20) rfl ?_
  refine own_callS X hx hZ [(.ref bb), (.int (0 : Int32)), (.int d0)] hown (own_w hw 100 rfl) (own_w hw 101 rfl) (own_w hw 76 rfl) (own_w hw 102 rfl) (by decide) (rm_pu3_0 l Z a0 hw [] bb kb d0 (0 : Int32) (0 : Int32) (0 : Int32) (0 : Int32) (0 : Int32) (0 : Int32) h1 n0 Z0 S_A S_H S_L A_bb z_bb) eT (W := 0) (by decide) (by decide) (cells' := 1) (slots' := 6) rfl rfl (by decide) (by decide) (by rw [hml]; rfl) (lenOf own_pd_285bBII29V rfl) rfl (S := []) rfl (Nat.le_of_eq rfl) (hb hby own8_20) (pc' := 23) rfl ?_
  intro v T h2 L lc X eT hq fN
  obtain ⟨rfl, Nq, Kq, A_bn⟩ := hq
  have N := fN _ N Nq
  have S_A := own_sta_keep S_A Kq (nsS (own_ns_arv A_bb) ns0)
  have S_H := own_sta_keep S_H Kq (nsS (own_ns_arv A_bb) ns0)
  have S_L := own_sta_keep S_L Kq (nsS (own_ns_arv A_bb) ns0)
  have A_aq := A_aq.keep Kq (ninS ne_aq_bb nin0)
  have Z0 := Nat.le_trans Z0 Kq.1
  have Kp := Kp.trans Kq (allS (P := fun x => x ∈ ([] : List Addr) ∨ h0.size ≤ x) (Or.inr s_bb) all0)
  have A_bb := A_bn
  show own_W _ _ _ _ _ _ _ _ []
  refine own_iinc X hx (1 : Int32) (hb hby own8_23) (pc' := 26) rfl rfl rfl (Ls' := #[.val (.ref aq), .val (.int (1 : Int32)), .val (.int (3 : Int32)), .val (.ref bb), .val (.int (0 : Int32))]) rfl ?_
  refine own_iinc X hx (1 : Int32) (hb hby own8_26) (pc' := 29) rfl rfl rfl (Ls' := #[.val (.ref aq), .val (.int (1 : Int32)), .val (.int (3 : Int32)), .val (.ref bb), .val (.int (1 : Int32))]) rfl ?_
  refine own_goto X hx (hb hby own8_29) (by decide) (pc' := 8) rfl ?_
  refine own_iload X hx (hb hby own8_8) (pc' := 10) rfl rfl ?_
  refine own_iloadN X hx (hb hby own8_10) (pc' := 11) rfl rfl ?_
  refine own_icmpN X hx (hb hby own8_11) (pc' := 14) rfl (show (1 : Int32) < (3 : Int32) from (by decide)) ?_
  refine own_aloadN X hx (hb hby own8_14) (pc' := 15) rfl rfl rfl ?_
  refine own_iload X hx (hb hby own8_15) (pc' := 17) rfl rfl ?_
  refine own_aloadN X hx (hb hby own8_17) (pc' := 18) rfl rfl rfl ?_
  refine own_iloadN X hx (hb hby own8_18) (pc' := 19) rfl rfl ?_
  refine own_caload X hx hZ eT A_aq (v := (.int d1)) (by decide) rfl (hb hby own8_19) (pc' := 20) rfl ?_
  refine own_callS X hx hZ [(.ref bb), (.int (1 : Int32)), (.int d1)] hown (own_w hw 100 rfl) (own_w hw 101 rfl) (own_w hw 76 rfl) (own_w hw 102 rfl) (by decide) (rm_pu3_1 l Z a0 hw [] bb kb d1 (own_lb d0) (own_hb d0) (0 : Int32) (0 : Int32) (0 : Int32) (0 : Int32) h2 n0 Z0 S_A S_H S_L A_bb z_bb) eT (W := 0) (by decide) (by decide) (cells' := 1) (slots' := 6) rfl rfl (by decide) (by decide) (by rw [hml]; rfl) (lenOf own_pd_285bBII29V rfl) rfl (S := []) rfl (Nat.le_of_eq rfl) (hb hby own8_20) (pc' := 23) rfl ?_
  intro v T h3 L lc X eT hq fN
  obtain ⟨rfl, Nq, Kq, A_bn⟩ := hq
  have N := fN _ N Nq
  have S_A := own_sta_keep S_A Kq (nsS (own_ns_arv A_bb) ns0)
  have S_H := own_sta_keep S_H Kq (nsS (own_ns_arv A_bb) ns0)
  have S_L := own_sta_keep S_L Kq (nsS (own_ns_arv A_bb) ns0)
  have A_aq := A_aq.keep Kq (ninS ne_aq_bb nin0)
  have Z0 := Nat.le_trans Z0 Kq.1
  have Kp := Kp.trans Kq (allS (P := fun x => x ∈ ([] : List Addr) ∨ h0.size ≤ x) (Or.inr s_bb) all0)
  have A_bb := A_bn
  show own_W _ _ _ _ _ _ _ _ []
  refine own_iinc X hx (1 : Int32) (hb hby own8_23) (pc' := 26) rfl rfl rfl (Ls' := #[.val (.ref aq), .val (.int (2 : Int32)), .val (.int (3 : Int32)), .val (.ref bb), .val (.int (1 : Int32))]) rfl ?_
  refine own_iinc X hx (1 : Int32) (hb hby own8_26) (pc' := 29) rfl rfl rfl (Ls' := #[.val (.ref aq), .val (.int (2 : Int32)), .val (.int (3 : Int32)), .val (.ref bb), .val (.int (2 : Int32))]) rfl ?_
  refine own_goto X hx (hb hby own8_29) (by decide) (pc' := 8) rfl ?_
  refine own_iload X hx (hb hby own8_8) (pc' := 10) rfl rfl ?_
  refine own_iloadN X hx (hb hby own8_10) (pc' := 11) rfl rfl ?_
  refine own_icmpN X hx (hb hby own8_11) (pc' := 14) rfl (show (2 : Int32) < (3 : Int32) from (by decide)) ?_
  refine own_aloadN X hx (hb hby own8_14) (pc' := 15) rfl rfl rfl ?_
  refine own_iload X hx (hb hby own8_15) (pc' := 17) rfl rfl ?_
  refine own_aloadN X hx (hb hby own8_17) (pc' := 18) rfl rfl rfl ?_
  refine own_iloadN X hx (hb hby own8_18) (pc' := 19) rfl rfl ?_
  refine own_caload X hx hZ eT A_aq (v := (.int d2)) (by decide) rfl (hb hby own8_19) (pc' := 20) rfl ?_
  refine own_callS X hx hZ [(.ref bb), (.int (2 : Int32)), (.int d2)] hown (own_w hw 100 rfl) (own_w hw 101 rfl) (own_w hw 76 rfl) (own_w hw 102 rfl) (by decide) (rm_pu3_2 l Z a0 hw [] bb kb d2 (own_lb d0) (own_hb d0) (own_lb d1) (own_hb d1) (0 : Int32) (0 : Int32) h3 n0 Z0 S_A S_H S_L A_bb z_bb) eT (W := 0) (by decide) (by decide) (cells' := 1) (slots' := 6) rfl rfl (by decide) (by decide) (by rw [hml]; rfl) (lenOf own_pd_285bBII29V rfl) rfl (S := []) rfl (Nat.le_of_eq rfl) (hb hby own8_20) (pc' := 23) rfl ?_
  intro v T h4 L lc X eT hq fN
  obtain ⟨rfl, Nq, Kq, A_bn⟩ := hq
  have N := fN _ N Nq
  have S_A := own_sta_keep S_A Kq (nsS (own_ns_arv A_bb) ns0)
  have S_H := own_sta_keep S_H Kq (nsS (own_ns_arv A_bb) ns0)
  have S_L := own_sta_keep S_L Kq (nsS (own_ns_arv A_bb) ns0)
  have A_aq := A_aq.keep Kq (ninS ne_aq_bb nin0)
  have Z0 := Nat.le_trans Z0 Kq.1
  have Kp := Kp.trans Kq (allS (P := fun x => x ∈ ([] : List Addr) ∨ h0.size ≤ x) (Or.inr s_bb) all0)
  have A_bb := A_bn
  show own_W _ _ _ _ _ _ _ _ []
  refine own_iinc X hx (1 : Int32) (hb hby own8_23) (pc' := 26) rfl rfl rfl (Ls' := #[.val (.ref aq), .val (.int (3 : Int32)), .val (.int (3 : Int32)), .val (.ref bb), .val (.int (2 : Int32))]) rfl ?_
  refine own_iinc X hx (1 : Int32) (hb hby own8_26) (pc' := 29) rfl rfl rfl (Ls' := #[.val (.ref aq), .val (.int (3 : Int32)), .val (.int (3 : Int32)), .val (.ref bb), .val (.int (3 : Int32))]) rfl ?_
  refine own_goto X hx (hb hby own8_29) (by decide) (pc' := 8) rfl ?_
  refine own_iload X hx (hb hby own8_8) (pc' := 10) rfl rfl ?_
  refine own_iloadN X hx (hb hby own8_10) (pc' := 11) rfl rfl ?_
  refine own_icmpY X hx (hb hby own8_11) (by decide) (pc' := 32) rfl (show ¬ ((3 : Int32) < (3 : Int32)) from (by decide)) ?_
  refine own_aloadN X hx (hb hby own8_32) (pc' := 33) rfl rfl rfl ?_
  refine own_retA X hx hlk hret (hb hby own8_33) rfl rfl rfl (by decide) (by decide) ?_
  rw [eT]
  exact ⟨bb, kb, rfl, N, Kp, s_bb, A_bb⟩
def Q_nl4 (Z : State) (u : Int32) (h0 : Heap) (n0 : Nat) (v : Option Value) (h : Heap) (L : List Loc) : Prop := v = some (.int (8 : Int32)) ∧ Fr n0 L ∧ h = h0
set_option maxRecDepth 65536 in
set_option maxHeartbeats 40000000 in
theorem rm_nl4 (l : Launch) (Z : State) (a0 : Array Value) (hw : ∀ d ∈ tables_1, d.before a0 Z = true) (ws : List Jvm.Cond) (u : Int32) (h0 : Heap) (n0 : Nat) (Z0 : n0 ≤ h0.size)  : own_Met l Z ⟨"java/lang/StringUTF16", "newBytesLength", "(I)I"⟩ jdk_52_method_3_code 1 (some .int) ws ⟨0, 0, 0, 0⟩ #[(.int (4 : Int32))] h0 (Q_nl4 Z u h0 n0) := by
  refine own_met n0 own_pn_java_lang_StringUTF16 (fun m => ef1I m (4 : Int32)) ?_
  intro p e s m below meth c T lc hret hx hZ hby hml hown hnm hlk X eT N
  refine own_iloadN X hx (hb hby own4_0) (pc' := 1) rfl rfl ?_
  refine own_ifY X hx (hb hby own4_1) (by decide) (pc' := 12) rfl (show ¬ ((4 : Int32) < (0 : Int32)) from (by decide)) ?_
  refine own_iloadN X hx (hb hby own4_12) (pc' := 13) rfl rfl ?_
  refine own_ldc X hx hZ hown (own_w hw 99 rfl) (hb hby own4_13) (pc' := 15) rfl ?_
  refine own_icmpY X hx (hb hby own4_15) (by decide) (pc' := 55) rfl (show (4 : Int32) < (1073741823 : Int32) from (by decide)) ?_
  refine own_iloadN X hx (hb hby own4_55) (pc' := 56) rfl rfl ?_
  refine own_iconst X hx (1 : Int32) (hb hby own4_56) (pc' := 57) rfl rfl ?_
  refine own_ishl X hx (hb hby own4_57) (pc' := 58) rfl ?_
  rw [show ((4 : Int32) <<< ((1 : Int32) &&& 31)) = (8 : Int32) from by decide]
  refine own_retI X hx hlk (t := .int) (w' := (.int (8 : Int32))) hret (hb hby own4_58) rfl rfl (by simp) (by decide) (by decide) ?_
  rw [eT]
  exact ⟨rfl, N, rfl⟩
def Q_nf4 (Z : State) (u : Int32) (h0 : Heap) (n0 : Nat) (v : Option Value) (h : Heap) (L : List Loc) : Prop := ∃ (b : Addr) (kb : ClassId), v = some (.ref b) ∧ Fr n0 L ∧ Keep h0 h [] ∧ h0.size ≤ b ∧ Arv Z h b kb .byte (8 : Int32) [(.int (0 : Int32)), (.int (0 : Int32)), (.int (0 : Int32)), (.int (0 : Int32)), (.int (0 : Int32)), (.int (0 : Int32)), (.int (0 : Int32)), (.int (0 : Int32))] (.int (0 : Int32))
set_option maxRecDepth 65536 in
set_option maxHeartbeats 40000000 in
theorem rm_nf4 (l : Launch) (Z : State) (a0 : Array Value) (hw : ∀ d ∈ tables_1, d.before a0 Z = true) (ws : List Jvm.Cond) (u : Int32) (h0 : Heap) (n0 : Nat) (Z0 : n0 ≤ h0.size)  : own_Met l Z ⟨"java/lang/StringUTF16", "newBytesFor", "(I)[B"⟩ jdk_52_method_2_code 1 (some (.array .byte)) ws ⟨1, 1, 8, 17⟩ #[(.int (4 : Int32))] h0 (Q_nf4 Z u h0 n0) := by
  refine own_met n0 own_pn_java_lang_StringUTF16 (fun m => ef1I m (4 : Int32)) ?_
  intro p e s m below meth c T lc hret hx hZ hby hml hown hnm hlk X eT N
  have Kp : Keep h0 h0 [] := Keep.refl _ _
  refine own_iloadN X hx (hb hby own5_0) (pc' := 1) rfl rfl ?_
  refine own_callS X hx hZ [(.int (4 : Int32))] hown (own_w hw 96 rfl) (own_w hw 97 rfl) (own_w hw 76 rfl) (own_w hw 98 rfl) (by decide) (rm_nl4 l Z a0 hw [] 0 h0 n0 Z0) eT (W := 0) (by decide) (by decide) (cells' := 0) (slots' := 0) rfl rfl (by decide) (by decide) (by rw [hml]; rfl) (lenOf own_pd_28I29I rfl) rfl (S := []) rfl (Nat.le_of_eq rfl) (hb hby own5_1) (pc' := 4) rfl ?_
  intro v T h1 L lc X eT hq fN
  obtain ⟨rfl, Nq, hqe⟩ := hq
  have N := fN _ N Nq
  rw [hqe] at eT
  show own_W _ _ _ _ _ _ _ _ [(.int (8 : Int32))]
  refine own_newarr X hx hZ (own_w hw 23 rfl) eT (hb hby own5_4) (pc' := 6) rfl (by decide) 8 (by decide) (by decide) (cells' := 1) (slots' := 8) rfl rfl (by decide) (by decide) ?_
  intro T h2 k_b2 b2 X eT E gb2 A_b2
  have z_b2 : n0 ≤ b2 := Nat.le_trans Z0 (Nat.le_of_eq gb2.symm)
  have s_b2 : h0.size ≤ b2 := Nat.le_trans Kp.1 (Nat.le_of_eq gb2.symm)
  have Z0 := Nat.le_trans Z0 E.1
  have Kp := Kp.ext E
  have A_b2 : Arv Z h2 b2 k_b2 .byte (8 : Int32) [(.int (0 : Int32)), (.int (0 : Int32)), (.int (0 : Int32)), (.int (0 : Int32)), (.int (0 : Int32)), (.int (0 : Int32)), (.int (0 : Int32)), (.int (0 : Int32))] (.int (0 : Int32)) := A_b2.pad (pad_rep [] (.int (0 : Int32)) 8)
  refine own_retA X hx hlk hret (hb hby own5_6) rfl rfl rfl (by decide) (by decide) ?_
  rw [eT]
  exact ⟨_, _, rfl, N, Kp, s_b2, A_b2⟩
def Q_pu4_0 (Z : State) (ad : Addr) (kd : ClassId) (d x0 x1 x2 x3 x4 x5 x6 x7 : Int32) (h0 : Heap) (n0 : Nat) (v : Option Value) (h : Heap) (L : List Loc) : Prop := v = none ∧ Fr n0 L ∧ Keep h0 h [ad] ∧ Arv Z h ad kd .byte (8 : Int32) [(.int (own_lb d)), (.int (own_hb d)), (.int x2), (.int x3), (.int x4), (.int x5), (.int x6), (.int x7)] (.int (0 : Int32))
set_option maxRecDepth 65536 in
set_option maxHeartbeats 40000000 in
theorem rm_pu4_0 (l : Launch) (Z : State) (a0 : Array Value) (hw : ∀ d ∈ tables_1, d.before a0 Z = true) (ws : List Jvm.Cond) (ad : Addr) (kd : ClassId) (d x0 x1 x2 x3 x4 x5 x6 x7 : Int32) (h0 : Heap) (n0 : Nat) (Z0 : n0 ≤ h0.size) (S_A : Sta Z h0 "java/lang/StringUTF16" "$assertionsDisabled" "Z" (.int (1 : Int32))) (S_H : Sta Z h0 "java/lang/StringUTF16" "HI_BYTE_SHIFT" "I" (.int (0 : Int32))) (S_L : Sta Z h0 "java/lang/StringUTF16" "LO_BYTE_SHIFT" "I" (.int (8 : Int32))) (A_ad : Arv Z h0 ad kd .byte (8 : Int32) [(.int x0), (.int x1), (.int x2), (.int x3), (.int x4), (.int x5), (.int x6), (.int x7)] (.int (0 : Int32))) (z_ad : n0 ≤ ad) : own_Met l Z ⟨"java/lang/StringUTF16", "putChar", "([BII)V"⟩ jdk_52_method_4_code 3 none ws ⟨0, 0, 0, 0⟩ #[(.ref ad), (.int (0 : Int32)), (.int d)] h0 (Q_pu4_0 Z ad kd d x0 x1 x2 x3 x4 x5 x6 x7 h0 n0) := by
  refine own_met n0 own_pn_java_lang_StringUTF16 (fun m => ef3RII m ad (0 : Int32) d) ?_
  intro p e s m below meth c T lc hret hx hZ hby hml hown hnm hlk X eT N
  have Kp : Keep h0 h0 [ad] := Keep.refl _ _
  refine own_getS X hx hZ hown (host := "") (Or.inl (own_w hw 103 rfl)) Via.refl eT S_A (hb hby own6_0) (pc' := 3) rfl ?_
  intro T X eT
  refine own_ifY X hx (hb hby own6_3) (by decide) (pc' := 28) rfl (show ¬ ((1 : Int32) = (0 : Int32)) from (by decide)) ?_
  refine own_iloadN X hx (hb hby own6_28) (pc' := 29) rfl rfl ?_
  refine own_iconst X hx (1 : Int32) (hb hby own6_29) (pc' := 30) rfl rfl ?_
  refine own_ishl X hx (hb hby own6_30) (pc' := 31) rfl ?_
  rw [show ((0 : Int32) <<< ((1 : Int32) &&& 31)) = (0 : Int32) from by decide]
  refine own_istoreN X hx (hb hby own6_31) (pc' := 32) rfl (Ls' := #[.val (.ref ad), .val (.int (0 : Int32)), .val (.int d)]) rfl ?_
  refine own_aloadN X hx (hb hby own6_32) (pc' := 33) rfl rfl rfl ?_
  refine own_iloadN X hx (hb hby own6_33) (pc' := 34) rfl rfl ?_
  refine own_iinc X hx (1 : Int32) (hb hby own6_34) (pc' := 37) rfl rfl rfl (Ls' := #[.val (.ref ad), .val (.int (1 : Int32)), .val (.int d)]) rfl ?_
  refine own_iloadN X hx (hb hby own6_37) (pc' := 38) rfl rfl ?_
  refine own_getS X hx hZ hown (host := "") (Or.inl (own_w hw 104 rfl)) Via.refl eT S_H (hb hby own6_38) (pc' := 41) rfl ?_
  intro T X eT
  refine own_ishr X hx (hb hby own6_41) (pc' := 42) rfl ?_
  refine own_i2b X hx (hb hby own6_42) (pc' := 43) rfl ?_
  refine own_bastoreB X hx hZ eT A_ad (by decide) 0 rfl (by show 0 < 8; decide) (hb hby own6_43) (pc' := 44) rfl ?_
  intro T h1 lc X eT Kq A_adn fN
  have S_A := own_sta_keep S_A Kq (nsS (own_ns_arv A_ad) ns0)
  have S_H := own_sta_keep S_H Kq (nsS (own_ns_arv A_ad) ns0)
  have S_L := own_sta_keep S_L Kq (nsS (own_ns_arv A_ad) ns0)
  have Z0 := Nat.le_trans Z0 Kq.1
  have A_ad := A_adn
  have N := fN _ z_ad N
  have Kp := Kp.trans Kq (allS (P := fun x => x ∈ [ad] ∨ h0.size ≤ x) (Or.inl (List.mem_of_getElem? (i := 0) rfl)) all0)
  have A_ad : Arv Z h1 ad _ .byte (8 : Int32) [(.int (nar .byte (d >>> ((0 : Int32) &&& 31)).toInt8.toInt32)), (.int x1), (.int x2), (.int x3), (.int x4), (.int x5), (.int x6), (.int x7)] (.int (0 : Int32)) := A_ad
  refine own_aloadN X hx (hb hby own6_44) (pc' := 45) rfl rfl rfl ?_
  refine own_iloadN X hx (hb hby own6_45) (pc' := 46) rfl rfl ?_
  refine own_iloadN X hx (hb hby own6_46) (pc' := 47) rfl rfl ?_
  refine own_getS X hx hZ hown (host := "") (Or.inl (own_w hw 105 rfl)) Via.refl eT S_L (hb hby own6_47) (pc' := 50) rfl ?_
  intro T X eT
  refine own_ishr X hx (hb hby own6_50) (pc' := 51) rfl ?_
  refine own_i2b X hx (hb hby own6_51) (pc' := 52) rfl ?_
  refine own_bastoreB X hx hZ eT A_ad (by decide) 1 rfl (by show 1 < 8; decide) (hb hby own6_52) (pc' := 53) rfl ?_
  intro T h2 lc X eT Kq A_adn fN
  have S_A := own_sta_keep S_A Kq (nsS (own_ns_arv A_ad) ns0)
  have S_H := own_sta_keep S_H Kq (nsS (own_ns_arv A_ad) ns0)
  have S_L := own_sta_keep S_L Kq (nsS (own_ns_arv A_ad) ns0)
  have Z0 := Nat.le_trans Z0 Kq.1
  have A_ad := A_adn
  have N := fN _ z_ad N
  have Kp := Kp.trans Kq (allS (P := fun x => x ∈ [ad] ∨ h0.size ≤ x) (Or.inl (List.mem_of_getElem? (i := 0) rfl)) all0)
  have A_ad : Arv Z h2 ad _ .byte (8 : Int32) [(.int (nar .byte (d >>> ((0 : Int32) &&& 31)).toInt8.toInt32)), (.int (nar .byte (d >>> ((8 : Int32) &&& 31)).toInt8.toInt32)), (.int x2), (.int x3), (.int x4), (.int x5), (.int x6), (.int x7)] (.int (0 : Int32)) := A_ad
  refine own_ret0 X hx hlk hret (hb hby own6_53) (by decide) (by decide) ?_
  rw [eT]
  exact ⟨rfl, N, Kp, A_ad⟩
def Q_gc4_0 (Z : State) (b : Addr) (kd : ClassId) (d0 d1 d2 d3 : Int32) (h0 : Heap) (n0 : Nat) (v : Option Value) (h : Heap) (L : List Loc) : Prop := v = some (.int d0) ∧ Fr n0 L ∧ h = h0
set_option maxRecDepth 65536 in
set_option maxHeartbeats 40000000 in
theorem rm_gc4_0 (l : Launch) (Z : State) (a0 : Array Value) (hw : ∀ d ∈ tables_1, d.before a0 Z = true) (ws : List Jvm.Cond) (b : Addr) (kd : ClassId) (d0 d1 d2 d3 : Int32) (h0 : Heap) (n0 : Nat) (Z0 : n0 ≤ h0.size) (S_A : Sta Z h0 "java/lang/StringUTF16" "$assertionsDisabled" "Z" (.int (1 : Int32))) (S_H : Sta Z h0 "java/lang/StringUTF16" "HI_BYTE_SHIFT" "I" (.int (0 : Int32))) (S_L : Sta Z h0 "java/lang/StringUTF16" "LO_BYTE_SHIFT" "I" (.int (8 : Int32))) (hd0 : own_c16 d0) (A_b : Arv Z h0 b kd .byte (8 : Int32) [(.int (own_lb d0)), (.int (own_hb d0)), (.int (own_lb d1)), (.int (own_hb d1)), (.int (own_lb d2)), (.int (own_hb d2)), (.int (own_lb d3)), (.int (own_hb d3))] (.int (0 : Int32))) : own_Met l Z ⟨"java/lang/StringUTF16", "getChar", "([BI)C"⟩ jdk_52_method_5_code 2 (some .char) ws ⟨0, 0, 0, 0⟩ #[(.ref b), (.int (0 : Int32))] h0 (Q_gc4_0 Z b kd d0 d1 d2 d3 h0 n0) := by
  refine own_met n0 own_pn_java_lang_StringUTF16 (fun m => ef2RI m b (0 : Int32)) ?_
  intro p e s m below meth c T lc hret hx hZ hby hml hown hnm hlk X eT N
  refine own_getS X hx hZ hown (host := "") (Or.inl (own_w hw 103 rfl)) Via.refl eT S_A (hb hby own7_0) (pc' := 3) rfl ?_
  intro T X eT
  refine own_ifY X hx (hb hby own7_3) (by decide) (pc' := 28) rfl (show ¬ ((1 : Int32) = (0 : Int32)) from (by decide)) ?_
  refine own_iloadN X hx (hb hby own7_28) (pc' := 29) rfl rfl ?_
  refine own_iconst X hx (1 : Int32) (hb hby own7_29) (pc' := 30) rfl rfl ?_
  refine own_ishl X hx (hb hby own7_30) (pc' := 31) rfl ?_
  rw [show ((0 : Int32) <<< ((1 : Int32) &&& 31)) = (0 : Int32) from by decide]
  refine own_istoreN X hx (hb hby own7_31) (pc' := 32) rfl (Ls' := #[.val (.ref b), .val (.int (0 : Int32))]) rfl ?_
  refine own_aloadN X hx (hb hby own7_32) (pc' := 33) rfl rfl rfl ?_
  refine own_iloadN X hx (hb hby own7_33) (pc' := 34) rfl rfl ?_
  refine own_iinc X hx (1 : Int32) (hb hby own7_34) (pc' := 37) rfl rfl rfl (Ls' := #[.val (.ref b), .val (.int (1 : Int32))]) rfl ?_
  refine own_baloadB X hx hZ eT A_b (v := (.int (own_lb d0))) (by decide) rfl (hb hby own7_37) (pc' := 38) rfl ?_
  refine own_sipush X hx (255 : Int32) (hb hby own7_38) (pc' := 41) rfl rfl ?_
  refine own_iand X hx (hb hby own7_41) (pc' := 42) rfl ?_
  refine own_getS X hx hZ hown (host := "") (Or.inl (own_w hw 104 rfl)) Via.refl eT S_H (hb hby own7_42) (pc' := 45) rfl ?_
  intro T X eT
  refine own_ishl X hx (hb hby own7_45) (pc' := 46) rfl ?_
  refine own_aloadN X hx (hb hby own7_46) (pc' := 47) rfl rfl rfl ?_
  refine own_iloadN X hx (hb hby own7_47) (pc' := 48) rfl rfl ?_
  refine own_baloadB X hx hZ eT A_b (v := (.int (own_hb d0))) (by decide) rfl (hb hby own7_48) (pc' := 49) rfl ?_
  refine own_sipush X hx (255 : Int32) (hb hby own7_49) (pc' := 52) rfl rfl ?_
  refine own_iand X hx (hb hby own7_52) (pc' := 53) rfl ?_
  refine own_getS X hx hZ hown (host := "") (Or.inl (own_w hw 105 rfl)) Via.refl eT S_L (hb hby own7_53) (pc' := 56) rfl ?_
  intro T X eT
  refine own_ishl X hx (hb hby own7_56) (pc' := 57) rfl ?_
  refine own_ior X hx (hb hby own7_57) (pc' := 58) rfl ?_
  refine own_i2c X hx (hb hby own7_58) (pc' := 59) rfl ?_
  refine own_retI X hx hlk (t := .char) (w' := (.int (nar .char ((((own_lb d0) &&& (255 : Int32)) <<< ((0 : Int32) &&& 31)) ||| (((own_hb d0) &&& (255 : Int32)) <<< ((8 : Int32) &&& 31))).toUInt32.toUInt16.toUInt32.toInt32))) hret (hb hby own7_59) rfl rfl (by simp) (by decide) (by decide) ?_
  rw [eT]
  exact ⟨congrArg (fun z => some (Value.int z)) (own_gc hd0), N, rfl⟩
def Q_pu4_1 (Z : State) (ad : Addr) (kd : ClassId) (d x0 x1 x2 x3 x4 x5 x6 x7 : Int32) (h0 : Heap) (n0 : Nat) (v : Option Value) (h : Heap) (L : List Loc) : Prop := v = none ∧ Fr n0 L ∧ Keep h0 h [ad] ∧ Arv Z h ad kd .byte (8 : Int32) [(.int x0), (.int x1), (.int (own_lb d)), (.int (own_hb d)), (.int x4), (.int x5), (.int x6), (.int x7)] (.int (0 : Int32))
set_option maxRecDepth 65536 in
set_option maxHeartbeats 40000000 in
theorem rm_pu4_1 (l : Launch) (Z : State) (a0 : Array Value) (hw : ∀ d ∈ tables_1, d.before a0 Z = true) (ws : List Jvm.Cond) (ad : Addr) (kd : ClassId) (d x0 x1 x2 x3 x4 x5 x6 x7 : Int32) (h0 : Heap) (n0 : Nat) (Z0 : n0 ≤ h0.size) (S_A : Sta Z h0 "java/lang/StringUTF16" "$assertionsDisabled" "Z" (.int (1 : Int32))) (S_H : Sta Z h0 "java/lang/StringUTF16" "HI_BYTE_SHIFT" "I" (.int (0 : Int32))) (S_L : Sta Z h0 "java/lang/StringUTF16" "LO_BYTE_SHIFT" "I" (.int (8 : Int32))) (A_ad : Arv Z h0 ad kd .byte (8 : Int32) [(.int x0), (.int x1), (.int x2), (.int x3), (.int x4), (.int x5), (.int x6), (.int x7)] (.int (0 : Int32))) (z_ad : n0 ≤ ad) : own_Met l Z ⟨"java/lang/StringUTF16", "putChar", "([BII)V"⟩ jdk_52_method_4_code 3 none ws ⟨0, 0, 0, 0⟩ #[(.ref ad), (.int (1 : Int32)), (.int d)] h0 (Q_pu4_1 Z ad kd d x0 x1 x2 x3 x4 x5 x6 x7 h0 n0) := by
  refine own_met n0 own_pn_java_lang_StringUTF16 (fun m => ef3RII m ad (1 : Int32) d) ?_
  intro p e s m below meth c T lc hret hx hZ hby hml hown hnm hlk X eT N
  have Kp : Keep h0 h0 [ad] := Keep.refl _ _
  refine own_getS X hx hZ hown (host := "") (Or.inl (own_w hw 103 rfl)) Via.refl eT S_A (hb hby own6_0) (pc' := 3) rfl ?_
  intro T X eT
  refine own_ifY X hx (hb hby own6_3) (by decide) (pc' := 28) rfl (show ¬ ((1 : Int32) = (0 : Int32)) from (by decide)) ?_
  refine own_iloadN X hx (hb hby own6_28) (pc' := 29) rfl rfl ?_
  refine own_iconst X hx (1 : Int32) (hb hby own6_29) (pc' := 30) rfl rfl ?_
  refine own_ishl X hx (hb hby own6_30) (pc' := 31) rfl ?_
  rw [show ((1 : Int32) <<< ((1 : Int32) &&& 31)) = (2 : Int32) from by decide]
  refine own_istoreN X hx (hb hby own6_31) (pc' := 32) rfl (Ls' := #[.val (.ref ad), .val (.int (2 : Int32)), .val (.int d)]) rfl ?_
  refine own_aloadN X hx (hb hby own6_32) (pc' := 33) rfl rfl rfl ?_
  refine own_iloadN X hx (hb hby own6_33) (pc' := 34) rfl rfl ?_
  refine own_iinc X hx (1 : Int32) (hb hby own6_34) (pc' := 37) rfl rfl rfl (Ls' := #[.val (.ref ad), .val (.int (3 : Int32)), .val (.int d)]) rfl ?_
  refine own_iloadN X hx (hb hby own6_37) (pc' := 38) rfl rfl ?_
  refine own_getS X hx hZ hown (host := "") (Or.inl (own_w hw 104 rfl)) Via.refl eT S_H (hb hby own6_38) (pc' := 41) rfl ?_
  intro T X eT
  refine own_ishr X hx (hb hby own6_41) (pc' := 42) rfl ?_
  refine own_i2b X hx (hb hby own6_42) (pc' := 43) rfl ?_
  refine own_bastoreB X hx hZ eT A_ad (by decide) 2 rfl (by show 2 < 8; decide) (hb hby own6_43) (pc' := 44) rfl ?_
  intro T h1 lc X eT Kq A_adn fN
  have S_A := own_sta_keep S_A Kq (nsS (own_ns_arv A_ad) ns0)
  have S_H := own_sta_keep S_H Kq (nsS (own_ns_arv A_ad) ns0)
  have S_L := own_sta_keep S_L Kq (nsS (own_ns_arv A_ad) ns0)
  have Z0 := Nat.le_trans Z0 Kq.1
  have A_ad := A_adn
  have N := fN _ z_ad N
  have Kp := Kp.trans Kq (allS (P := fun x => x ∈ [ad] ∨ h0.size ≤ x) (Or.inl (List.mem_of_getElem? (i := 0) rfl)) all0)
  have A_ad : Arv Z h1 ad _ .byte (8 : Int32) [(.int x0), (.int x1), (.int (nar .byte (d >>> ((0 : Int32) &&& 31)).toInt8.toInt32)), (.int x3), (.int x4), (.int x5), (.int x6), (.int x7)] (.int (0 : Int32)) := A_ad
  refine own_aloadN X hx (hb hby own6_44) (pc' := 45) rfl rfl rfl ?_
  refine own_iloadN X hx (hb hby own6_45) (pc' := 46) rfl rfl ?_
  refine own_iloadN X hx (hb hby own6_46) (pc' := 47) rfl rfl ?_
  refine own_getS X hx hZ hown (host := "") (Or.inl (own_w hw 105 rfl)) Via.refl eT S_L (hb hby own6_47) (pc' := 50) rfl ?_
  intro T X eT
  refine own_ishr X hx (hb hby own6_50) (pc' := 51) rfl ?_
  refine own_i2b X hx (hb hby own6_51) (pc' := 52) rfl ?_
  refine own_bastoreB X hx hZ eT A_ad (by decide) 3 rfl (by show 3 < 8; decide) (hb hby own6_52) (pc' := 53) rfl ?_
  intro T h2 lc X eT Kq A_adn fN
  have S_A := own_sta_keep S_A Kq (nsS (own_ns_arv A_ad) ns0)
  have S_H := own_sta_keep S_H Kq (nsS (own_ns_arv A_ad) ns0)
  have S_L := own_sta_keep S_L Kq (nsS (own_ns_arv A_ad) ns0)
  have Z0 := Nat.le_trans Z0 Kq.1
  have A_ad := A_adn
  have N := fN _ z_ad N
  have Kp := Kp.trans Kq (allS (P := fun x => x ∈ [ad] ∨ h0.size ≤ x) (Or.inl (List.mem_of_getElem? (i := 0) rfl)) all0)
  have A_ad : Arv Z h2 ad _ .byte (8 : Int32) [(.int x0), (.int x1), (.int (nar .byte (d >>> ((0 : Int32) &&& 31)).toInt8.toInt32)), (.int (nar .byte (d >>> ((8 : Int32) &&& 31)).toInt8.toInt32)), (.int x4), (.int x5), (.int x6), (.int x7)] (.int (0 : Int32)) := A_ad
  refine own_ret0 X hx hlk hret (hb hby own6_53) (by decide) (by decide) ?_
  rw [eT]
  exact ⟨rfl, N, Kp, A_ad⟩
def Q_gc4_1 (Z : State) (b : Addr) (kd : ClassId) (d0 d1 d2 d3 : Int32) (h0 : Heap) (n0 : Nat) (v : Option Value) (h : Heap) (L : List Loc) : Prop := v = some (.int d1) ∧ Fr n0 L ∧ h = h0
set_option maxRecDepth 65536 in
set_option maxHeartbeats 40000000 in
theorem rm_gc4_1 (l : Launch) (Z : State) (a0 : Array Value) (hw : ∀ d ∈ tables_1, d.before a0 Z = true) (ws : List Jvm.Cond) (b : Addr) (kd : ClassId) (d0 d1 d2 d3 : Int32) (h0 : Heap) (n0 : Nat) (Z0 : n0 ≤ h0.size) (S_A : Sta Z h0 "java/lang/StringUTF16" "$assertionsDisabled" "Z" (.int (1 : Int32))) (S_H : Sta Z h0 "java/lang/StringUTF16" "HI_BYTE_SHIFT" "I" (.int (0 : Int32))) (S_L : Sta Z h0 "java/lang/StringUTF16" "LO_BYTE_SHIFT" "I" (.int (8 : Int32))) (hd1 : own_c16 d1) (A_b : Arv Z h0 b kd .byte (8 : Int32) [(.int (own_lb d0)), (.int (own_hb d0)), (.int (own_lb d1)), (.int (own_hb d1)), (.int (own_lb d2)), (.int (own_hb d2)), (.int (own_lb d3)), (.int (own_hb d3))] (.int (0 : Int32))) : own_Met l Z ⟨"java/lang/StringUTF16", "getChar", "([BI)C"⟩ jdk_52_method_5_code 2 (some .char) ws ⟨0, 0, 0, 0⟩ #[(.ref b), (.int (1 : Int32))] h0 (Q_gc4_1 Z b kd d0 d1 d2 d3 h0 n0) := by
  refine own_met n0 own_pn_java_lang_StringUTF16 (fun m => ef2RI m b (1 : Int32)) ?_
  intro p e s m below meth c T lc hret hx hZ hby hml hown hnm hlk X eT N
  refine own_getS X hx hZ hown (host := "") (Or.inl (own_w hw 103 rfl)) Via.refl eT S_A (hb hby own7_0) (pc' := 3) rfl ?_
  intro T X eT
  refine own_ifY X hx (hb hby own7_3) (by decide) (pc' := 28) rfl (show ¬ ((1 : Int32) = (0 : Int32)) from (by decide)) ?_
  refine own_iloadN X hx (hb hby own7_28) (pc' := 29) rfl rfl ?_
  refine own_iconst X hx (1 : Int32) (hb hby own7_29) (pc' := 30) rfl rfl ?_
  refine own_ishl X hx (hb hby own7_30) (pc' := 31) rfl ?_
  rw [show ((1 : Int32) <<< ((1 : Int32) &&& 31)) = (2 : Int32) from by decide]
  refine own_istoreN X hx (hb hby own7_31) (pc' := 32) rfl (Ls' := #[.val (.ref b), .val (.int (2 : Int32))]) rfl ?_
  refine own_aloadN X hx (hb hby own7_32) (pc' := 33) rfl rfl rfl ?_
  refine own_iloadN X hx (hb hby own7_33) (pc' := 34) rfl rfl ?_
  refine own_iinc X hx (1 : Int32) (hb hby own7_34) (pc' := 37) rfl rfl rfl (Ls' := #[.val (.ref b), .val (.int (3 : Int32))]) rfl ?_
  refine own_baloadB X hx hZ eT A_b (v := (.int (own_lb d1))) (by decide) rfl (hb hby own7_37) (pc' := 38) rfl ?_
  refine own_sipush X hx (255 : Int32) (hb hby own7_38) (pc' := 41) rfl rfl ?_
  refine own_iand X hx (hb hby own7_41) (pc' := 42) rfl ?_
  refine own_getS X hx hZ hown (host := "") (Or.inl (own_w hw 104 rfl)) Via.refl eT S_H (hb hby own7_42) (pc' := 45) rfl ?_
  intro T X eT
  refine own_ishl X hx (hb hby own7_45) (pc' := 46) rfl ?_
  refine own_aloadN X hx (hb hby own7_46) (pc' := 47) rfl rfl rfl ?_
  refine own_iloadN X hx (hb hby own7_47) (pc' := 48) rfl rfl ?_
  refine own_baloadB X hx hZ eT A_b (v := (.int (own_hb d1))) (by decide) rfl (hb hby own7_48) (pc' := 49) rfl ?_
  refine own_sipush X hx (255 : Int32) (hb hby own7_49) (pc' := 52) rfl rfl ?_
  refine own_iand X hx (hb hby own7_52) (pc' := 53) rfl ?_
  refine own_getS X hx hZ hown (host := "") (Or.inl (own_w hw 105 rfl)) Via.refl eT S_L (hb hby own7_53) (pc' := 56) rfl ?_
  intro T X eT
  refine own_ishl X hx (hb hby own7_56) (pc' := 57) rfl ?_
  refine own_ior X hx (hb hby own7_57) (pc' := 58) rfl ?_
  refine own_i2c X hx (hb hby own7_58) (pc' := 59) rfl ?_
  refine own_retI X hx hlk (t := .char) (w' := (.int (nar .char ((((own_lb d1) &&& (255 : Int32)) <<< ((0 : Int32) &&& 31)) ||| (((own_hb d1) &&& (255 : Int32)) <<< ((8 : Int32) &&& 31))).toUInt32.toUInt16.toUInt32.toInt32))) hret (hb hby own7_59) rfl rfl (by simp) (by decide) (by decide) ?_
  rw [eT]
  exact ⟨congrArg (fun z => some (Value.int z)) (own_gc hd1), N, rfl⟩
def Q_pu4_2 (Z : State) (ad : Addr) (kd : ClassId) (d x0 x1 x2 x3 x4 x5 x6 x7 : Int32) (h0 : Heap) (n0 : Nat) (v : Option Value) (h : Heap) (L : List Loc) : Prop := v = none ∧ Fr n0 L ∧ Keep h0 h [ad] ∧ Arv Z h ad kd .byte (8 : Int32) [(.int x0), (.int x1), (.int x2), (.int x3), (.int (own_lb d)), (.int (own_hb d)), (.int x6), (.int x7)] (.int (0 : Int32))
set_option maxRecDepth 65536 in
set_option maxHeartbeats 40000000 in
theorem rm_pu4_2 (l : Launch) (Z : State) (a0 : Array Value) (hw : ∀ d ∈ tables_1, d.before a0 Z = true) (ws : List Jvm.Cond) (ad : Addr) (kd : ClassId) (d x0 x1 x2 x3 x4 x5 x6 x7 : Int32) (h0 : Heap) (n0 : Nat) (Z0 : n0 ≤ h0.size) (S_A : Sta Z h0 "java/lang/StringUTF16" "$assertionsDisabled" "Z" (.int (1 : Int32))) (S_H : Sta Z h0 "java/lang/StringUTF16" "HI_BYTE_SHIFT" "I" (.int (0 : Int32))) (S_L : Sta Z h0 "java/lang/StringUTF16" "LO_BYTE_SHIFT" "I" (.int (8 : Int32))) (A_ad : Arv Z h0 ad kd .byte (8 : Int32) [(.int x0), (.int x1), (.int x2), (.int x3), (.int x4), (.int x5), (.int x6), (.int x7)] (.int (0 : Int32))) (z_ad : n0 ≤ ad) : own_Met l Z ⟨"java/lang/StringUTF16", "putChar", "([BII)V"⟩ jdk_52_method_4_code 3 none ws ⟨0, 0, 0, 0⟩ #[(.ref ad), (.int (2 : Int32)), (.int d)] h0 (Q_pu4_2 Z ad kd d x0 x1 x2 x3 x4 x5 x6 x7 h0 n0) := by
  refine own_met n0 own_pn_java_lang_StringUTF16 (fun m => ef3RII m ad (2 : Int32) d) ?_
  intro p e s m below meth c T lc hret hx hZ hby hml hown hnm hlk X eT N
  have Kp : Keep h0 h0 [ad] := Keep.refl _ _
  refine own_getS X hx hZ hown (host := "") (Or.inl (own_w hw 103 rfl)) Via.refl eT S_A (hb hby own6_0) (pc' := 3) rfl ?_
  intro T X eT
  refine own_ifY X hx (hb hby own6_3) (by decide) (pc' := 28) rfl (show ¬ ((1 : Int32) = (0 : Int32)) from (by decide)) ?_
  refine own_iloadN X hx (hb hby own6_28) (pc' := 29) rfl rfl ?_
  refine own_iconst X hx (1 : Int32) (hb hby own6_29) (pc' := 30) rfl rfl ?_
  refine own_ishl X hx (hb hby own6_30) (pc' := 31) rfl ?_
  rw [show ((2 : Int32) <<< ((1 : Int32) &&& 31)) = (4 : Int32) from by decide]
  refine own_istoreN X hx (hb hby own6_31) (pc' := 32) rfl (Ls' := #[.val (.ref ad), .val (.int (4 : Int32)), .val (.int d)]) rfl ?_
  refine own_aloadN X hx (hb hby own6_32) (pc' := 33) rfl rfl rfl ?_
  refine own_iloadN X hx (hb hby own6_33) (pc' := 34) rfl rfl ?_
  refine own_iinc X hx (1 : Int32) (hb hby own6_34) (pc' := 37) rfl rfl rfl (Ls' := #[.val (.ref ad), .val (.int (5 : Int32)), .val (.int d)]) rfl ?_
  refine own_iloadN X hx (hb hby own6_37) (pc' := 38) rfl rfl ?_
  refine own_getS X hx hZ hown (host := "") (Or.inl (own_w hw 104 rfl)) Via.refl eT S_H (hb hby own6_38) (pc' := 41) rfl ?_
  intro T X eT
  refine own_ishr X hx (hb hby own6_41) (pc' := 42) rfl ?_
  refine own_i2b X hx (hb hby own6_42) (pc' := 43) rfl ?_
  refine own_bastoreB X hx hZ eT A_ad (by decide) 4 rfl (by show 4 < 8; decide) (hb hby own6_43) (pc' := 44) rfl ?_
  intro T h1 lc X eT Kq A_adn fN
  have S_A := own_sta_keep S_A Kq (nsS (own_ns_arv A_ad) ns0)
  have S_H := own_sta_keep S_H Kq (nsS (own_ns_arv A_ad) ns0)
  have S_L := own_sta_keep S_L Kq (nsS (own_ns_arv A_ad) ns0)
  have Z0 := Nat.le_trans Z0 Kq.1
  have A_ad := A_adn
  have N := fN _ z_ad N
  have Kp := Kp.trans Kq (allS (P := fun x => x ∈ [ad] ∨ h0.size ≤ x) (Or.inl (List.mem_of_getElem? (i := 0) rfl)) all0)
  have A_ad : Arv Z h1 ad _ .byte (8 : Int32) [(.int x0), (.int x1), (.int x2), (.int x3), (.int (nar .byte (d >>> ((0 : Int32) &&& 31)).toInt8.toInt32)), (.int x5), (.int x6), (.int x7)] (.int (0 : Int32)) := A_ad
  refine own_aloadN X hx (hb hby own6_44) (pc' := 45) rfl rfl rfl ?_
  refine own_iloadN X hx (hb hby own6_45) (pc' := 46) rfl rfl ?_
  refine own_iloadN X hx (hb hby own6_46) (pc' := 47) rfl rfl ?_
  refine own_getS X hx hZ hown (host := "") (Or.inl (own_w hw 105 rfl)) Via.refl eT S_L (hb hby own6_47) (pc' := 50) rfl ?_
  intro T X eT
  refine own_ishr X hx (hb hby own6_50) (pc' := 51) rfl ?_
  refine own_i2b X hx (hb hby own6_51) (pc' := 52) rfl ?_
  refine own_bastoreB X hx hZ eT A_ad (by decide) 5 rfl (by show 5 < 8; decide) (hb hby own6_52) (pc' := 53) rfl ?_
  intro T h2 lc X eT Kq A_adn fN
  have S_A := own_sta_keep S_A Kq (nsS (own_ns_arv A_ad) ns0)
  have S_H := own_sta_keep S_H Kq (nsS (own_ns_arv A_ad) ns0)
  have S_L := own_sta_keep S_L Kq (nsS (own_ns_arv A_ad) ns0)
  have Z0 := Nat.le_trans Z0 Kq.1
  have A_ad := A_adn
  have N := fN _ z_ad N
  have Kp := Kp.trans Kq (allS (P := fun x => x ∈ [ad] ∨ h0.size ≤ x) (Or.inl (List.mem_of_getElem? (i := 0) rfl)) all0)
  have A_ad : Arv Z h2 ad _ .byte (8 : Int32) [(.int x0), (.int x1), (.int x2), (.int x3), (.int (nar .byte (d >>> ((0 : Int32) &&& 31)).toInt8.toInt32)), (.int (nar .byte (d >>> ((8 : Int32) &&& 31)).toInt8.toInt32)), (.int x6), (.int x7)] (.int (0 : Int32)) := A_ad
  refine own_ret0 X hx hlk hret (hb hby own6_53) (by decide) (by decide) ?_
  rw [eT]
  exact ⟨rfl, N, Kp, A_ad⟩
def Q_gc4_2 (Z : State) (b : Addr) (kd : ClassId) (d0 d1 d2 d3 : Int32) (h0 : Heap) (n0 : Nat) (v : Option Value) (h : Heap) (L : List Loc) : Prop := v = some (.int d2) ∧ Fr n0 L ∧ h = h0
set_option maxRecDepth 65536 in
set_option maxHeartbeats 40000000 in
theorem rm_gc4_2 (l : Launch) (Z : State) (a0 : Array Value) (hw : ∀ d ∈ tables_1, d.before a0 Z = true) (ws : List Jvm.Cond) (b : Addr) (kd : ClassId) (d0 d1 d2 d3 : Int32) (h0 : Heap) (n0 : Nat) (Z0 : n0 ≤ h0.size) (S_A : Sta Z h0 "java/lang/StringUTF16" "$assertionsDisabled" "Z" (.int (1 : Int32))) (S_H : Sta Z h0 "java/lang/StringUTF16" "HI_BYTE_SHIFT" "I" (.int (0 : Int32))) (S_L : Sta Z h0 "java/lang/StringUTF16" "LO_BYTE_SHIFT" "I" (.int (8 : Int32))) (hd2 : own_c16 d2) (A_b : Arv Z h0 b kd .byte (8 : Int32) [(.int (own_lb d0)), (.int (own_hb d0)), (.int (own_lb d1)), (.int (own_hb d1)), (.int (own_lb d2)), (.int (own_hb d2)), (.int (own_lb d3)), (.int (own_hb d3))] (.int (0 : Int32))) : own_Met l Z ⟨"java/lang/StringUTF16", "getChar", "([BI)C"⟩ jdk_52_method_5_code 2 (some .char) ws ⟨0, 0, 0, 0⟩ #[(.ref b), (.int (2 : Int32))] h0 (Q_gc4_2 Z b kd d0 d1 d2 d3 h0 n0) := by
  refine own_met n0 own_pn_java_lang_StringUTF16 (fun m => ef2RI m b (2 : Int32)) ?_
  intro p e s m below meth c T lc hret hx hZ hby hml hown hnm hlk X eT N
  refine own_getS X hx hZ hown (host := "") (Or.inl (own_w hw 103 rfl)) Via.refl eT S_A (hb hby own7_0) (pc' := 3) rfl ?_
  intro T X eT
  refine own_ifY X hx (hb hby own7_3) (by decide) (pc' := 28) rfl (show ¬ ((1 : Int32) = (0 : Int32)) from (by decide)) ?_
  refine own_iloadN X hx (hb hby own7_28) (pc' := 29) rfl rfl ?_
  refine own_iconst X hx (1 : Int32) (hb hby own7_29) (pc' := 30) rfl rfl ?_
  refine own_ishl X hx (hb hby own7_30) (pc' := 31) rfl ?_
  rw [show ((2 : Int32) <<< ((1 : Int32) &&& 31)) = (4 : Int32) from by decide]
  refine own_istoreN X hx (hb hby own7_31) (pc' := 32) rfl (Ls' := #[.val (.ref b), .val (.int (4 : Int32))]) rfl ?_
  refine own_aloadN X hx (hb hby own7_32) (pc' := 33) rfl rfl rfl ?_
  refine own_iloadN X hx (hb hby own7_33) (pc' := 34) rfl rfl ?_
  refine own_iinc X hx (1 : Int32) (hb hby own7_34) (pc' := 37) rfl rfl rfl (Ls' := #[.val (.ref b), .val (.int (5 : Int32))]) rfl ?_
  refine own_baloadB X hx hZ eT A_b (v := (.int (own_lb d2))) (by decide) rfl (hb hby own7_37) (pc' := 38) rfl ?_
  refine own_sipush X hx (255 : Int32) (hb hby own7_38) (pc' := 41) rfl rfl ?_
  refine own_iand X hx (hb hby own7_41) (pc' := 42) rfl ?_
  refine own_getS X hx hZ hown (host := "") (Or.inl (own_w hw 104 rfl)) Via.refl eT S_H (hb hby own7_42) (pc' := 45) rfl ?_
  intro T X eT
  refine own_ishl X hx (hb hby own7_45) (pc' := 46) rfl ?_
  refine own_aloadN X hx (hb hby own7_46) (pc' := 47) rfl rfl rfl ?_
  refine own_iloadN X hx (hb hby own7_47) (pc' := 48) rfl rfl ?_
  refine own_baloadB X hx hZ eT A_b (v := (.int (own_hb d2))) (by decide) rfl (hb hby own7_48) (pc' := 49) rfl ?_
  refine own_sipush X hx (255 : Int32) (hb hby own7_49) (pc' := 52) rfl rfl ?_
  refine own_iand X hx (hb hby own7_52) (pc' := 53) rfl ?_
  refine own_getS X hx hZ hown (host := "") (Or.inl (own_w hw 105 rfl)) Via.refl eT S_L (hb hby own7_53) (pc' := 56) rfl ?_
  intro T X eT
  refine own_ishl X hx (hb hby own7_56) (pc' := 57) rfl ?_
  refine own_ior X hx (hb hby own7_57) (pc' := 58) rfl ?_
  refine own_i2c X hx (hb hby own7_58) (pc' := 59) rfl ?_
  refine own_retI X hx hlk (t := .char) (w' := (.int (nar .char ((((own_lb d2) &&& (255 : Int32)) <<< ((0 : Int32) &&& 31)) ||| (((own_hb d2) &&& (255 : Int32)) <<< ((8 : Int32) &&& 31))).toUInt32.toUInt16.toUInt32.toInt32))) hret (hb hby own7_59) rfl rfl (by simp) (by decide) (by decide) ?_
  rw [eT]
  exact ⟨congrArg (fun z => some (Value.int z)) (own_gc hd2), N, rfl⟩
def Q_pu4_3 (Z : State) (ad : Addr) (kd : ClassId) (d x0 x1 x2 x3 x4 x5 x6 x7 : Int32) (h0 : Heap) (n0 : Nat) (v : Option Value) (h : Heap) (L : List Loc) : Prop := v = none ∧ Fr n0 L ∧ Keep h0 h [ad] ∧ Arv Z h ad kd .byte (8 : Int32) [(.int x0), (.int x1), (.int x2), (.int x3), (.int x4), (.int x5), (.int (own_lb d)), (.int (own_hb d))] (.int (0 : Int32))
set_option maxRecDepth 65536 in
set_option maxHeartbeats 40000000 in
theorem rm_pu4_3 (l : Launch) (Z : State) (a0 : Array Value) (hw : ∀ d ∈ tables_1, d.before a0 Z = true) (ws : List Jvm.Cond) (ad : Addr) (kd : ClassId) (d x0 x1 x2 x3 x4 x5 x6 x7 : Int32) (h0 : Heap) (n0 : Nat) (Z0 : n0 ≤ h0.size) (S_A : Sta Z h0 "java/lang/StringUTF16" "$assertionsDisabled" "Z" (.int (1 : Int32))) (S_H : Sta Z h0 "java/lang/StringUTF16" "HI_BYTE_SHIFT" "I" (.int (0 : Int32))) (S_L : Sta Z h0 "java/lang/StringUTF16" "LO_BYTE_SHIFT" "I" (.int (8 : Int32))) (A_ad : Arv Z h0 ad kd .byte (8 : Int32) [(.int x0), (.int x1), (.int x2), (.int x3), (.int x4), (.int x5), (.int x6), (.int x7)] (.int (0 : Int32))) (z_ad : n0 ≤ ad) : own_Met l Z ⟨"java/lang/StringUTF16", "putChar", "([BII)V"⟩ jdk_52_method_4_code 3 none ws ⟨0, 0, 0, 0⟩ #[(.ref ad), (.int (3 : Int32)), (.int d)] h0 (Q_pu4_3 Z ad kd d x0 x1 x2 x3 x4 x5 x6 x7 h0 n0) := by
  refine own_met n0 own_pn_java_lang_StringUTF16 (fun m => ef3RII m ad (3 : Int32) d) ?_
  intro p e s m below meth c T lc hret hx hZ hby hml hown hnm hlk X eT N
  have Kp : Keep h0 h0 [ad] := Keep.refl _ _
  refine own_getS X hx hZ hown (host := "") (Or.inl (own_w hw 103 rfl)) Via.refl eT S_A (hb hby own6_0) (pc' := 3) rfl ?_
  intro T X eT
  refine own_ifY X hx (hb hby own6_3) (by decide) (pc' := 28) rfl (show ¬ ((1 : Int32) = (0 : Int32)) from (by decide)) ?_
  refine own_iloadN X hx (hb hby own6_28) (pc' := 29) rfl rfl ?_
  refine own_iconst X hx (1 : Int32) (hb hby own6_29) (pc' := 30) rfl rfl ?_
  refine own_ishl X hx (hb hby own6_30) (pc' := 31) rfl ?_
  rw [show ((3 : Int32) <<< ((1 : Int32) &&& 31)) = (6 : Int32) from by decide]
  refine own_istoreN X hx (hb hby own6_31) (pc' := 32) rfl (Ls' := #[.val (.ref ad), .val (.int (6 : Int32)), .val (.int d)]) rfl ?_
  refine own_aloadN X hx (hb hby own6_32) (pc' := 33) rfl rfl rfl ?_
  refine own_iloadN X hx (hb hby own6_33) (pc' := 34) rfl rfl ?_
  refine own_iinc X hx (1 : Int32) (hb hby own6_34) (pc' := 37) rfl rfl rfl (Ls' := #[.val (.ref ad), .val (.int (7 : Int32)), .val (.int d)]) rfl ?_
  refine own_iloadN X hx (hb hby own6_37) (pc' := 38) rfl rfl ?_
  refine own_getS X hx hZ hown (host := "") (Or.inl (own_w hw 104 rfl)) Via.refl eT S_H (hb hby own6_38) (pc' := 41) rfl ?_
  intro T X eT
  refine own_ishr X hx (hb hby own6_41) (pc' := 42) rfl ?_
  refine own_i2b X hx (hb hby own6_42) (pc' := 43) rfl ?_
  refine own_bastoreB X hx hZ eT A_ad (by decide) 6 rfl (by show 6 < 8; decide) (hb hby own6_43) (pc' := 44) rfl ?_
  intro T h1 lc X eT Kq A_adn fN
  have S_A := own_sta_keep S_A Kq (nsS (own_ns_arv A_ad) ns0)
  have S_H := own_sta_keep S_H Kq (nsS (own_ns_arv A_ad) ns0)
  have S_L := own_sta_keep S_L Kq (nsS (own_ns_arv A_ad) ns0)
  have Z0 := Nat.le_trans Z0 Kq.1
  have A_ad := A_adn
  have N := fN _ z_ad N
  have Kp := Kp.trans Kq (allS (P := fun x => x ∈ [ad] ∨ h0.size ≤ x) (Or.inl (List.mem_of_getElem? (i := 0) rfl)) all0)
  have A_ad : Arv Z h1 ad _ .byte (8 : Int32) [(.int x0), (.int x1), (.int x2), (.int x3), (.int x4), (.int x5), (.int (nar .byte (d >>> ((0 : Int32) &&& 31)).toInt8.toInt32)), (.int x7)] (.int (0 : Int32)) := A_ad
  refine own_aloadN X hx (hb hby own6_44) (pc' := 45) rfl rfl rfl ?_
  refine own_iloadN X hx (hb hby own6_45) (pc' := 46) rfl rfl ?_
  refine own_iloadN X hx (hb hby own6_46) (pc' := 47) rfl rfl ?_
  refine own_getS X hx hZ hown (host := "") (Or.inl (own_w hw 105 rfl)) Via.refl eT S_L (hb hby own6_47) (pc' := 50) rfl ?_
  intro T X eT
  refine own_ishr X hx (hb hby own6_50) (pc' := 51) rfl ?_
  refine own_i2b X hx (hb hby own6_51) (pc' := 52) rfl ?_
  refine own_bastoreB X hx hZ eT A_ad (by decide) 7 rfl (by show 7 < 8; decide) (hb hby own6_52) (pc' := 53) rfl ?_
  intro T h2 lc X eT Kq A_adn fN
  have S_A := own_sta_keep S_A Kq (nsS (own_ns_arv A_ad) ns0)
  have S_H := own_sta_keep S_H Kq (nsS (own_ns_arv A_ad) ns0)
  have S_L := own_sta_keep S_L Kq (nsS (own_ns_arv A_ad) ns0)
  have Z0 := Nat.le_trans Z0 Kq.1
  have A_ad := A_adn
  have N := fN _ z_ad N
  have Kp := Kp.trans Kq (allS (P := fun x => x ∈ [ad] ∨ h0.size ≤ x) (Or.inl (List.mem_of_getElem? (i := 0) rfl)) all0)
  have A_ad : Arv Z h2 ad _ .byte (8 : Int32) [(.int x0), (.int x1), (.int x2), (.int x3), (.int x4), (.int x5), (.int (nar .byte (d >>> ((0 : Int32) &&& 31)).toInt8.toInt32)), (.int (nar .byte (d >>> ((8 : Int32) &&& 31)).toInt8.toInt32))] (.int (0 : Int32)) := A_ad
  refine own_ret0 X hx hlk hret (hb hby own6_53) (by decide) (by decide) ?_
  rw [eT]
  exact ⟨rfl, N, Kp, A_ad⟩
def Q_gc4_3 (Z : State) (b : Addr) (kd : ClassId) (d0 d1 d2 d3 : Int32) (h0 : Heap) (n0 : Nat) (v : Option Value) (h : Heap) (L : List Loc) : Prop := v = some (.int d3) ∧ Fr n0 L ∧ h = h0
set_option maxRecDepth 65536 in
set_option maxHeartbeats 40000000 in
theorem rm_gc4_3 (l : Launch) (Z : State) (a0 : Array Value) (hw : ∀ d ∈ tables_1, d.before a0 Z = true) (ws : List Jvm.Cond) (b : Addr) (kd : ClassId) (d0 d1 d2 d3 : Int32) (h0 : Heap) (n0 : Nat) (Z0 : n0 ≤ h0.size) (S_A : Sta Z h0 "java/lang/StringUTF16" "$assertionsDisabled" "Z" (.int (1 : Int32))) (S_H : Sta Z h0 "java/lang/StringUTF16" "HI_BYTE_SHIFT" "I" (.int (0 : Int32))) (S_L : Sta Z h0 "java/lang/StringUTF16" "LO_BYTE_SHIFT" "I" (.int (8 : Int32))) (hd3 : own_c16 d3) (A_b : Arv Z h0 b kd .byte (8 : Int32) [(.int (own_lb d0)), (.int (own_hb d0)), (.int (own_lb d1)), (.int (own_hb d1)), (.int (own_lb d2)), (.int (own_hb d2)), (.int (own_lb d3)), (.int (own_hb d3))] (.int (0 : Int32))) : own_Met l Z ⟨"java/lang/StringUTF16", "getChar", "([BI)C"⟩ jdk_52_method_5_code 2 (some .char) ws ⟨0, 0, 0, 0⟩ #[(.ref b), (.int (3 : Int32))] h0 (Q_gc4_3 Z b kd d0 d1 d2 d3 h0 n0) := by
  refine own_met n0 own_pn_java_lang_StringUTF16 (fun m => ef2RI m b (3 : Int32)) ?_
  intro p e s m below meth c T lc hret hx hZ hby hml hown hnm hlk X eT N
  refine own_getS X hx hZ hown (host := "") (Or.inl (own_w hw 103 rfl)) Via.refl eT S_A (hb hby own7_0) (pc' := 3) rfl ?_
  intro T X eT
  refine own_ifY X hx (hb hby own7_3) (by decide) (pc' := 28) rfl (show ¬ ((1 : Int32) = (0 : Int32)) from (by decide)) ?_
  refine own_iloadN X hx (hb hby own7_28) (pc' := 29) rfl rfl ?_
  refine own_iconst X hx (1 : Int32) (hb hby own7_29) (pc' := 30) rfl rfl ?_
  refine own_ishl X hx (hb hby own7_30) (pc' := 31) rfl ?_
  rw [show ((3 : Int32) <<< ((1 : Int32) &&& 31)) = (6 : Int32) from by decide]
  refine own_istoreN X hx (hb hby own7_31) (pc' := 32) rfl (Ls' := #[.val (.ref b), .val (.int (6 : Int32))]) rfl ?_
  refine own_aloadN X hx (hb hby own7_32) (pc' := 33) rfl rfl rfl ?_
  refine own_iloadN X hx (hb hby own7_33) (pc' := 34) rfl rfl ?_
  refine own_iinc X hx (1 : Int32) (hb hby own7_34) (pc' := 37) rfl rfl rfl (Ls' := #[.val (.ref b), .val (.int (7 : Int32))]) rfl ?_
  refine own_baloadB X hx hZ eT A_b (v := (.int (own_lb d3))) (by decide) rfl (hb hby own7_37) (pc' := 38) rfl ?_
  refine own_sipush X hx (255 : Int32) (hb hby own7_38) (pc' := 41) rfl rfl ?_
  refine own_iand X hx (hb hby own7_41) (pc' := 42) rfl ?_
  refine own_getS X hx hZ hown (host := "") (Or.inl (own_w hw 104 rfl)) Via.refl eT S_H (hb hby own7_42) (pc' := 45) rfl ?_
  intro T X eT
  refine own_ishl X hx (hb hby own7_45) (pc' := 46) rfl ?_
  refine own_aloadN X hx (hb hby own7_46) (pc' := 47) rfl rfl rfl ?_
  refine own_iloadN X hx (hb hby own7_47) (pc' := 48) rfl rfl ?_
  refine own_baloadB X hx hZ eT A_b (v := (.int (own_hb d3))) (by decide) rfl (hb hby own7_48) (pc' := 49) rfl ?_
  refine own_sipush X hx (255 : Int32) (hb hby own7_49) (pc' := 52) rfl rfl ?_
  refine own_iand X hx (hb hby own7_52) (pc' := 53) rfl ?_
  refine own_getS X hx hZ hown (host := "") (Or.inl (own_w hw 105 rfl)) Via.refl eT S_L (hb hby own7_53) (pc' := 56) rfl ?_
  intro T X eT
  refine own_ishl X hx (hb hby own7_56) (pc' := 57) rfl ?_
  refine own_ior X hx (hb hby own7_57) (pc' := 58) rfl ?_
  refine own_i2c X hx (hb hby own7_58) (pc' := 59) rfl ?_
  refine own_retI X hx hlk (t := .char) (w' := (.int (nar .char ((((own_lb d3) &&& (255 : Int32)) <<< ((0 : Int32) &&& 31)) ||| (((own_hb d3) &&& (255 : Int32)) <<< ((8 : Int32) &&& 31))).toUInt32.toUInt16.toUInt32.toInt32))) hret (hb hby own7_59) rfl rfl (by simp) (by decide) (by decide) ?_
  rw [eT]
  exact ⟨congrArg (fun z => some (Value.int z)) (own_gc hd3), N, rfl⟩
def Q_tb4 (Z : State) (aq : Addr) (kq : ClassId) (d0 d1 d2 d3 : Int32) (h0 : Heap) (n0 : Nat) (v : Option Value) (h : Heap) (L : List Loc) : Prop := ∃ (b : Addr) (kb : ClassId), v = some (.ref b) ∧ Fr n0 L ∧ Keep h0 h [] ∧ h0.size ≤ b ∧ Arv Z h b kb .byte (8 : Int32) [(.int (own_lb d0)), (.int (own_hb d0)), (.int (own_lb d1)), (.int (own_hb d1)), (.int (own_lb d2)), (.int (own_hb d2)), (.int (own_lb d3)), (.int (own_hb d3))] (.int (0 : Int32))
set_option maxRecDepth 65536 in
set_option maxHeartbeats 40000000 in
theorem rm_tb4 (l : Launch) (Z : State) (a0 : Array Value) (hw : ∀ d ∈ tables_1, d.before a0 Z = true) (ws : List Jvm.Cond) (aq : Addr) (kq : ClassId) (d0 d1 d2 d3 : Int32) (h0 : Heap) (n0 : Nat) (Z0 : n0 ≤ h0.size) (S_A : Sta Z h0 "java/lang/StringUTF16" "$assertionsDisabled" "Z" (.int (1 : Int32))) (S_H : Sta Z h0 "java/lang/StringUTF16" "HI_BYTE_SHIFT" "I" (.int (0 : Int32))) (S_L : Sta Z h0 "java/lang/StringUTF16" "LO_BYTE_SHIFT" "I" (.int (8 : Int32))) (A_aq : Arv Z h0 aq kq .char (4 : Int32) [(.int d0), (.int d1), (.int d2), (.int d3)] (.int (0 : Int32))) : own_Met l Z ⟨"java/lang/StringUTF16", "toBytes", "([CII)[B"⟩ jdk_52_method_14_code 5 (some (.array .byte)) ws ⟨2, 1, 8, 34⟩ #[(.ref aq), (.int (0 : Int32)), (.int (4 : Int32))] h0 (Q_tb4 Z aq kq d0 d1 d2 d3 h0 n0) := by
  refine own_met n0 own_pn_java_lang_StringUTF16 (fun m => ef5RII m aq (0 : Int32) (4 : Int32)) ?_
  intro p e s m below meth c T lc hret hx hZ hby hml hown hnm hlk X eT N
  have Kp : Keep h0 h0 [] := Keep.refl _ _
  refine own_iloadN X hx (hb hby own8_0) (pc' := 1) rfl rfl ?_
  refine own_callS X hx hZ [(.int (4 : Int32))] hown (own_w hw 93 rfl) (own_w hw 94 rfl) (own_w hw 76 rfl) (own_w hw 95 rfl) (by decide) (rm_nf4 l Z a0 hw [] 0 h0 n0 Z0) eT (W := 0) (by decide) (by decide) (cells' := 1) (slots' := 8) rfl rfl (by decide) (by decide) (by rw [hml]; rfl) (lenOf own_pd_28I295bB rfl) rfl (S := []) rfl (Nat.le_of_eq rfl) (hb hby own8_1) (pc' := 4) rfl ?_
  intro v T h1 L lc X eT hq fN
  obtain ⟨bb, kb, rfl, Nq, Kq, hbb, A_bb⟩ := hq
  have N := fN _ N Nq
  have lt_aq_bb : aq < bb := Nat.lt_of_lt_of_le A_aq.lt hbb
  have ne_aq_bb : aq ≠ bb := Nat.ne_of_lt lt_aq_bb
  have z_bb : n0 ≤ bb := Nat.le_trans Z0 hbb
  have s_bb : h0.size ≤ bb := Nat.le_trans Kp.1 hbb
  have S_A := own_sta_keep S_A Kq ns0
  have S_H := own_sta_keep S_H Kq ns0
  have S_L := own_sta_keep S_L Kq ns0
  have A_aq := A_aq.keep Kq nin0
  have Z0 := Nat.le_trans Z0 Kq.1
  have Kp := Kp.trans Kq all0
  show own_W _ _ _ _ _ _ _ _ [(.ref bb)]
  refine own_astoreN X hx (hb hby own8_4) (pc' := 5) rfl rfl (Ls' := #[.val (.ref aq), .val (.int (0 : Int32)), .val (.int (4 : Int32)), .val (.ref bb), .unset]) rfl ?_
  refine own_iconst X hx (0 : Int32) (hb hby own8_5) (pc' := 6) rfl rfl ?_
  refine own_istore X hx (hb hby own8_6) (pc' := 8) rfl (Ls' := #[.val (.ref aq), .val (.int (0 : Int32)), .val (.int (4 : Int32)), .val (.ref bb), .val (.int (0 : Int32))]) rfl ?_
  refine own_iload X hx (hb hby own8_8) (pc' := 10) rfl rfl ?_
  refine own_iloadN X hx (hb hby own8_10) (pc' := 11) rfl rfl ?_
  refine own_icmpN X hx (hb hby own8_11) (pc' := 14) rfl (show (0 : Int32) < (4 : Int32) from (by decide)) ?_
  refine own_aloadN X hx (hb hby own8_14) (pc' := 15) rfl rfl rfl ?_
  refine own_iload X hx (hb hby own8_15) (pc' := 17) rfl rfl ?_
  refine own_aloadN X hx (hb hby own8_17) (pc' := 18) rfl rfl rfl ?_
  refine own_iloadN X hx (hb hby own8_18) (pc' := 19) rfl rfl ?_
  refine own_caload X hx hZ eT A_aq (v := (.int d0)) (by decide) rfl (hb hby own8_19) (pc' := 20) rfl ?_
  refine own_callS X hx hZ [(.ref bb), (.int (0 : Int32)), (.int d0)] hown (own_w hw 100 rfl) (own_w hw 101 rfl) (own_w hw 76 rfl) (own_w hw 102 rfl) (by decide) (rm_pu4_0 l Z a0 hw [] bb kb d0 (0 : Int32) (0 : Int32) (0 : Int32) (0 : Int32) (0 : Int32) (0 : Int32) (0 : Int32) (0 : Int32) h1 n0 Z0 S_A S_H S_L A_bb z_bb) eT (W := 0) (by decide) (by decide) (cells' := 1) (slots' := 8) rfl rfl (by decide) (by decide) (by rw [hml]; rfl) (lenOf own_pd_285bBII29V rfl) rfl (S := []) rfl (Nat.le_of_eq rfl) (hb hby own8_20) (pc' := 23) rfl ?_
  intro v T h2 L lc X eT hq fN
  obtain ⟨rfl, Nq, Kq, A_bn⟩ := hq
  have N := fN _ N Nq
  have S_A := own_sta_keep S_A Kq (nsS (own_ns_arv A_bb) ns0)
  have S_H := own_sta_keep S_H Kq (nsS (own_ns_arv A_bb) ns0)
  have S_L := own_sta_keep S_L Kq (nsS (own_ns_arv A_bb) ns0)
  have A_aq := A_aq.keep Kq (ninS ne_aq_bb nin0)
  have Z0 := Nat.le_trans Z0 Kq.1
  have Kp := Kp.trans Kq (allS (P := fun x => x ∈ ([] : List Addr) ∨ h0.size ≤ x) (Or.inr s_bb) all0)
  have A_bb := A_bn
  show own_W _ _ _ _ _ _ _ _ []
  refine own_iinc X hx (1 : Int32) (hb hby own8_23) (pc' := 26) rfl rfl rfl (Ls' := #[.val (.ref aq), .val (.int (1 : Int32)), .val (.int (4 : Int32)), .val (.ref bb), .val (.int (0 : Int32))]) rfl ?_
  refine own_iinc X hx (1 : Int32) (hb hby own8_26) (pc' := 29) rfl rfl rfl (Ls' := #[.val (.ref aq), .val (.int (1 : Int32)), .val (.int (4 : Int32)), .val (.ref bb), .val (.int (1 : Int32))]) rfl ?_
  refine own_goto X hx (hb hby own8_29) (by decide) (pc' := 8) rfl ?_
  refine own_iload X hx (hb hby own8_8) (pc' := 10) rfl rfl ?_
  refine own_iloadN X hx (hb hby own8_10) (pc' := 11) rfl rfl ?_
  refine own_icmpN X hx (hb hby own8_11) (pc' := 14) rfl (show (1 : Int32) < (4 : Int32) from (by decide)) ?_
  refine own_aloadN X hx (hb hby own8_14) (pc' := 15) rfl rfl rfl ?_
  refine own_iload X hx (hb hby own8_15) (pc' := 17) rfl rfl ?_
  refine own_aloadN X hx (hb hby own8_17) (pc' := 18) rfl rfl rfl ?_
  refine own_iloadN X hx (hb hby own8_18) (pc' := 19) rfl rfl ?_
  refine own_caload X hx hZ eT A_aq (v := (.int d1)) (by decide) rfl (hb hby own8_19) (pc' := 20) rfl ?_
  refine own_callS X hx hZ [(.ref bb), (.int (1 : Int32)), (.int d1)] hown (own_w hw 100 rfl) (own_w hw 101 rfl) (own_w hw 76 rfl) (own_w hw 102 rfl) (by decide) (rm_pu4_1 l Z a0 hw [] bb kb d1 (own_lb d0) (own_hb d0) (0 : Int32) (0 : Int32) (0 : Int32) (0 : Int32) (0 : Int32) (0 : Int32) h2 n0 Z0 S_A S_H S_L A_bb z_bb) eT (W := 0) (by decide) (by decide) (cells' := 1) (slots' := 8) rfl rfl (by decide) (by decide) (by rw [hml]; rfl) (lenOf own_pd_285bBII29V rfl) rfl (S := []) rfl (Nat.le_of_eq rfl) (hb hby own8_20) (pc' := 23) rfl ?_
  intro v T h3 L lc X eT hq fN
  obtain ⟨rfl, Nq, Kq, A_bn⟩ := hq
  have N := fN _ N Nq
  have S_A := own_sta_keep S_A Kq (nsS (own_ns_arv A_bb) ns0)
  have S_H := own_sta_keep S_H Kq (nsS (own_ns_arv A_bb) ns0)
  have S_L := own_sta_keep S_L Kq (nsS (own_ns_arv A_bb) ns0)
  have A_aq := A_aq.keep Kq (ninS ne_aq_bb nin0)
  have Z0 := Nat.le_trans Z0 Kq.1
  have Kp := Kp.trans Kq (allS (P := fun x => x ∈ ([] : List Addr) ∨ h0.size ≤ x) (Or.inr s_bb) all0)
  have A_bb := A_bn
  show own_W _ _ _ _ _ _ _ _ []
  refine own_iinc X hx (1 : Int32) (hb hby own8_23) (pc' := 26) rfl rfl rfl (Ls' := #[.val (.ref aq), .val (.int (2 : Int32)), .val (.int (4 : Int32)), .val (.ref bb), .val (.int (1 : Int32))]) rfl ?_
  refine own_iinc X hx (1 : Int32) (hb hby own8_26) (pc' := 29) rfl rfl rfl (Ls' := #[.val (.ref aq), .val (.int (2 : Int32)), .val (.int (4 : Int32)), .val (.ref bb), .val (.int (2 : Int32))]) rfl ?_
  refine own_goto X hx (hb hby own8_29) (by decide) (pc' := 8) rfl ?_
  refine own_iload X hx (hb hby own8_8) (pc' := 10) rfl rfl ?_
  refine own_iloadN X hx (hb hby own8_10) (pc' := 11) rfl rfl ?_
  refine own_icmpN X hx (hb hby own8_11) (pc' := 14) rfl (show (2 : Int32) < (4 : Int32) from (by decide)) ?_
  refine own_aloadN X hx (hb hby own8_14) (pc' := 15) rfl rfl rfl ?_
  refine own_iload X hx (hb hby own8_15) (pc' := 17) rfl rfl ?_
  refine own_aloadN X hx (hb hby own8_17) (pc' := 18) rfl rfl rfl ?_
  refine own_iloadN X hx (hb hby own8_18) (pc' := 19) rfl rfl ?_
  refine own_caload X hx hZ eT A_aq (v := (.int d2)) (by decide) rfl (hb hby own8_19) (pc' := 20) rfl ?_
  refine own_callS X hx hZ [(.ref bb), (.int (2 : Int32)), (.int d2)] hown (own_w hw 100 rfl) (own_w hw 101 rfl) (own_w hw 76 rfl) (own_w hw 102 rfl) (by decide) (rm_pu4_2 l Z a0 hw [] bb kb d2 (own_lb d0) (own_hb d0) (own_lb d1) (own_hb d1) (0 : Int32) (0 : Int32) (0 : Int32) (0 : Int32) h3 n0 Z0 S_A S_H S_L A_bb z_bb) eT (W := 0) (by decide) (by decide) (cells' := 1) (slots' := 8) rfl rfl (by decide) (by decide) (by rw [hml]; rfl) (lenOf own_pd_285bBII29V rfl) rfl (S := []) rfl (Nat.le_of_eq rfl) (hb hby own8_20) (pc' := 23) rfl ?_
  intro v T h4 L lc X eT hq fN
  obtain ⟨rfl, Nq, Kq, A_bn⟩ := hq
  have N := fN _ N Nq
  have S_A := own_sta_keep S_A Kq (nsS (own_ns_arv A_bb) ns0)
  have S_H := own_sta_keep S_H Kq (nsS (own_ns_arv A_bb) ns0)
  have S_L := own_sta_keep S_L Kq (nsS (own_ns_arv A_bb) ns0)
  have A_aq := A_aq.keep Kq (ninS ne_aq_bb nin0)
  have Z0 := Nat.le_trans Z0 Kq.1
  have Kp := Kp.trans Kq (allS (P := fun x => x ∈ ([] : List Addr) ∨ h0.size ≤ x) (Or.inr s_bb) all0)
  have A_bb := A_bn
  show own_W _ _ _ _ _ _ _ _ []
  refine own_iinc X hx (1 : Int32) (hb hby own8_23) (pc' := 26) rfl rfl rfl (Ls' := #[.val (.ref aq), .val (.int (3 : Int32)), .val (.int (4 : Int32)), .val (.ref bb), .val (.int (2 : Int32))]) rfl ?_
  refine own_iinc X hx (1 : Int32) (hb hby own8_26) (pc' := 29) rfl rfl rfl (Ls' := #[.val (.ref aq), .val (.int (3 : Int32)), .val (.int (4 : Int32)), .val (.ref bb), .val (.int (3 : Int32))]) rfl ?_
  refine own_goto X hx (hb hby own8_29) (by decide) (pc' := 8) rfl ?_
  refine own_iload X hx (hb hby own8_8) (pc' := 10) rfl rfl ?_
  refine own_iloadN X hx (hb hby own8_10) (pc' := 11) rfl rfl ?_
  refine own_icmpN X hx (hb hby own8_11) (pc' := 14) rfl (show (3 : Int32) < (4 : Int32) from (by decide)) ?_
  refine own_aloadN X hx (hb hby own8_14) (pc' := 15) rfl rfl rfl ?_
  refine own_iload X hx (hb hby own8_15) (pc' := 17) rfl rfl ?_
  refine own_aloadN X hx (hb hby own8_17) (pc' := 18) rfl rfl rfl ?_
  refine own_iloadN X hx (hb hby own8_18) (pc' := 19) rfl rfl ?_
  refine own_caload X hx hZ eT A_aq (v := (.int d3)) (by decide) rfl (hb hby own8_19) (pc' := 20) rfl ?_
  refine own_callS X hx hZ [(.ref bb), (.int (3 : Int32)), (.int d3)] hown (own_w hw 100 rfl) (own_w hw 101 rfl) (own_w hw 76 rfl) (own_w hw 102 rfl) (by decide) (rm_pu4_3 l Z a0 hw [] bb kb d3 (own_lb d0) (own_hb d0) (own_lb d1) (own_hb d1) (own_lb d2) (own_hb d2) (0 : Int32) (0 : Int32) h4 n0 Z0 S_A S_H S_L A_bb z_bb) eT (W := 0) (by decide) (by decide) (cells' := 1) (slots' := 8) rfl rfl (by decide) (by decide) (by rw [hml]; rfl) (lenOf own_pd_285bBII29V rfl) rfl (S := []) rfl (Nat.le_of_eq rfl) (hb hby own8_20) (pc' := 23) rfl ?_
  intro v T h5 L lc X eT hq fN
  obtain ⟨rfl, Nq, Kq, A_bn⟩ := hq
  have N := fN _ N Nq
  have S_A := own_sta_keep S_A Kq (nsS (own_ns_arv A_bb) ns0)
  have S_H := own_sta_keep S_H Kq (nsS (own_ns_arv A_bb) ns0)
  have S_L := own_sta_keep S_L Kq (nsS (own_ns_arv A_bb) ns0)
  have A_aq := A_aq.keep Kq (ninS ne_aq_bb nin0)
  have Z0 := Nat.le_trans Z0 Kq.1
  have Kp := Kp.trans Kq (allS (P := fun x => x ∈ ([] : List Addr) ∨ h0.size ≤ x) (Or.inr s_bb) all0)
  have A_bb := A_bn
  show own_W _ _ _ _ _ _ _ _ []
  refine own_iinc X hx (1 : Int32) (hb hby own8_23) (pc' := 26) rfl rfl rfl (Ls' := #[.val (.ref aq), .val (.int (4 : Int32)), .val (.int (4 : Int32)), .val (.ref bb), .val (.int (3 : Int32))]) rfl ?_
  refine own_iinc X hx (1 : Int32) (hb hby own8_26) (pc' := 29) rfl rfl rfl (Ls' := #[.val (.ref aq), .val (.int (4 : Int32)), .val (.int (4 : Int32)), .val (.ref bb), .val (.int (4 : Int32))]) rfl ?_
  refine own_goto X hx (hb hby own8_29) (by decide) (pc' := 8) rfl ?_
  refine own_iload X hx (hb hby own8_8) (pc' := 10) rfl rfl ?_
  refine own_iloadN X hx (hb hby own8_10) (pc' := 11) rfl rfl ?_
  refine own_icmpY X hx (hb hby own8_11) (by decide) (pc' := 32) rfl (show ¬ ((4 : Int32) < (4 : Int32)) from (by decide)) ?_
  refine own_aloadN X hx (hb hby own8_32) (pc' := 33) rfl rfl rfl ?_
  refine own_retA X hx hlk hret (hb hby own8_33) rfl rfl rfl (by decide) (by decide) ?_
  rw [eT]
  exact ⟨bb, kb, rfl, N, Kp, s_bb, A_bb⟩
theorem own9_0 : decode jdk_42_method_149_code 0 = .ok (.aload_n 0, 1) := by decide +kernel
theorem own9_1 : decode jdk_42_method_149_code 1 = .ok (.invokespecial 1, 3) := by decide +kernel
theorem own9_4 : decode jdk_42_method_149_code 4 = .ok (.iload_n 3, 1) := by decide +kernel
theorem own9_5 : decode jdk_42_method_149_code 5 = .ok (.ifCond .ne 22, 3) := by decide +kernel
theorem own9_8 : decode jdk_42_method_149_code 8 = .ok (.aload_n 0, 1) := by decide +kernel
theorem own9_9 : decode jdk_42_method_149_code 9 = .ok (.ldc 7, 2) := by decide +kernel
theorem own9_11 : decode jdk_42_method_149_code 11 = .ok (.getfield 9, 3) := by decide +kernel
theorem own9_14 : decode jdk_42_method_149_code 14 = .ok (.putfield 9, 3) := by decide +kernel
theorem own9_17 : decode jdk_42_method_149_code 17 = .ok (.aload_n 0, 1) := by decide +kernel
theorem own9_18 : decode jdk_42_method_149_code 18 = .ok (.ldc 7, 2) := by decide +kernel
theorem own9_20 : decode jdk_42_method_149_code 20 = .ok (.getfield 15, 3) := by decide +kernel
theorem own9_23 : decode jdk_42_method_149_code 23 = .ok (.putfield 15, 3) := by decide +kernel
theorem own9_26 : decode jdk_42_method_149_code 26 = .ok (.return_, 1) := by decide +kernel
theorem own_pn_java_lang_String : plainName "java/lang/String" = true := by first | (simp [plainName, overriddenIn]; done) | decide +kernel
theorem ef_iv0 (m : MethodId) (x0 : Addr) (x1 : Addr) (x2 : Int32) (x3 : Int32) : entryFrame m #[(.ref x0), (.ref x1), (.int x2), (.int x3), .null] 6 = mkF m 0 #[.val (.ref x0), .val (.ref x1), .val (.int x2), .val (.int x3), .val .null, .unset] [] := by first | (simp [entryFrame, mkF, argsToLocals, Value.category]; done) | rfl
def Q_iv0 (Z : State) (a1 aq : Addr) (h0 : Heap) (n0 : Nat) (v : Option Value) (h : Heap) (L : List Loc) : Prop := v = none ∧ Fr n0 L ∧ Keep h0 h [a1] ∧ ∃ (b : Addr) (k : ClassId), Fld Z h a1 "java/lang/String" "coder" "B" (.int (0 : Int32)) ∧ Fld Z h a1 "java/lang/String" "value" "[B" (.ref b) ∧ Arv Z h b k .byte (0 : Int32) [] (.int (0 : Int32))
set_option maxRecDepth 65536 in
set_option maxHeartbeats 40000000 in
theorem rm_iv0 (l : Launch) (Z : State) (a0 : Array Value) (hw : ∀ d ∈ tables_1, d.before a0 Z = true) (hEL : EW Z a0 own_EL) (ws : List Jvm.Cond) (a1 aq : Addr) (h0 : Heap) (n0 : Nat) (Z0 : n0 ≤ h0.size) (u1 : Value) (E_a1 : Exa Z h0 a1 "java/lang/String") (F_c : Fld Z h0 a1 "java/lang/String" "coder" "B" u1) (F_v : Fld Z h0 a1 "java/lang/String" "value" "[B" .null) (z_a1 : n0 ≤ a1) :
    MetFree l (⟨"java/lang/String", "<init>", "([CIILjava/lang/Void;)V"⟩ : MethodName) (head1 (Jvm.Cond.code (⟨"java/lang/String", "<init>", "([CIILjava/lang/Void;)V"⟩ : MethodName) jdk_42_method_149_code 6 none :: ws) ({ frames := 1, cells := 4, slots := 8, locals := 12 } : Room)) (fun a U => a = #[(.ref a1), (.ref aq), (.int (0 : Int32)), (.int (0 : Int32)), .null] ∧ Z.Warmed39 U.vm ∧ U.heap = h0 ∧ CHv Z own_EL U.vm h0) (fun _ _ _ _ _ => True) (fun _ U o U' => ∃ v L, o = .returned v ∧ Q_iv0 Z a1 aq h0 n0 v U'.heap L ∧ CHr Z own_EL U.vm U.heap U'.vm U'.heap ∧ ReturnedEndW U o U' L ({ frames := 1, cells := 4, slots := 8, locals := 12 } : Room).cells ({ frames := 1, cells := 4, slots := 8, locals := 12 } : Room).slots) := by
  refine MetFree.of_bodySF (plainFor_of_name own_pn_java_lang_String) hisR ?_
  intro p e s m args below meth c s₁ Bd hml0 hP hK
  obtain ⟨rfl, hZ, hh, H⟩ := hP
  have hx := Bd.exec
  have hby := Bd.bytes
  have hml : c.maxLocals = 6 := hml0
  have hown : s.vm.findClass "java/lang/String" = some m.cls := findClass_of_methodNamed Bd.named
  have hnm := (name_of_methodNamed Bd.named Bd.method).1
  have hlk := Bd.notSynchronized
  obtain ⟨lc, hlc⟩ : ∃ lc : List Loc, lc = [] := ⟨_, rfl⟩
  have X : Stand p l e ({ frames := 1, cells := 4, slots := 8, locals := 12 } : Room) s m #[(.ref a1), (.ref aq), (.int (0 : Int32)), (.int (0 : Int32)), .null] below meth c s₁ lc 0 0 := hlc ▸ Stand.of_body Bd
  have eT : s₁.heap = h0 := by rw [← hh, Bd.state]; rfl
  have N : Fr n0 lc := hlc ▸ Fr.nil n0
  obtain ⟨vm0, hvm⟩ : ∃ v : Vm, v = s.vm := ⟨_, rfl⟩
  have X : Stand p l e ({ frames := 1, cells := 4, slots := 8, locals := 12 } : Room) (s.setVm vm0) m #[(.ref a1), (.ref aq), (.int (0 : Int32)), (.int (0 : Int32)), .null] below meth c s₁ lc 0 0 := by rw [hvm]; exact X
  have hZ : Z.Warmed39 (s.setVm vm0).vm := by rw [hvm]; exact hZ
  have hown : (s.setVm vm0).vm.findClass "java/lang/String" = some m.cls := by rw [hvm]; exact hown
  have hS : s.Since vm0 h0.size := by rw [hvm]; exact (State.WarmedH.refl s).since _
  have hk : h0.size ≤ h0.size := Nat.le_refl _
  have CR : CHr Z own_EL s.vm h0 vm0 h0 := by rw [hvm]; exact CHr.refl H
  have H : CHv Z own_EL vm0 h0 := by rw [hvm]; exact H
  refine own_enterS (ef_iv0 m a1 aq (0 : Int32) (0 : Int32)) ?_
  obtain ⟨T, hT⟩ : ∃ T : State, T = s₁ := ⟨_, rfl⟩
  rw [← hT] at X eT ⊢
  show own_W _ _ _ _ _ _ _ _ []
  have Kp : Keep h0 h0 [a1] := Keep.refl _ _
  have S_a1 : Safe Z own_EL vm0 h0 a1 := own_safe_null hZ.alike E_a1 F_v
  refine own_aloadN X hx (hb hby own9_0) (pc' := 1) rfl rfl rfl ?_
  refine own_initO X hx hZ hown (own_w hw 19 rfl) (own_w hw 20 rfl) (own_w hw 21 rfl) eT (by rw [hml]; rfl) (hb hby own9_1) (pc' := 4) rfl (by decide) (W := 0) (Nat.le_of_eq rfl) (by decide) ?_
  intro T X eT
  refine own_iloadN X hx (hb hby own9_4) (pc' := 5) rfl rfl ?_
  refine own_ifN X hx (hb hby own9_5) (pc' := 8) rfl (show (0 : Int32) = (0 : Int32) from (by decide)) ?_
  refine own_aloadN X hx (hb hby own9_8) (pc' := 9) rfl rfl rfl ?_
  refine own_ldcS X hx hZ hown (own_w hw 22 rfl) (own_wS hw) eT hS hk hEL own_mem_22 H [] (0 : Int32) own_txt_22 (by decide) rfl (hb hby own9_9) (pc' := 11) rfl 0 (by decide) (by decide) (cells' := 2) (slots' := 4) rfl rfl (by decide) (by decide) ?_
  intro sa1 T h1 k1 sb1 k_sb1 vm0 X eT E hS hk hZ hown E_sa1 FC_sa1 FV_sa1 A_sb1 CQ hne_sa1
  have S_a1 := CQ.safe E_a1.lt S_a1
  have CR := CR.trans CQ
  have H := CQ.1
  have E_a1 := E_a1.ext E
  have F_c := F_c.ext E
  have F_v := F_v.ext E
  have Z0 := Nat.le_trans Z0 E.1
  have Kp := Kp.ext E
  have ne_a1_sa1 := (hne_sa1 _ S_a1).1
  have ne_a1_sb1 := (hne_sa1 _ S_a1).2
  refine own_getF X hx hZ hown (host := "") (Or.inl (own_w hw 28 rfl)) Via.refl eT FV_sa1 (hb hby own9_11) (pc' := 14) rfl ?_
  intro T X eT
  refine own_putF X hx hZ hown (own_w hw 28 rfl) Via.refl eT F_v E_a1 (Or.inr ⟨(own_w hw 24 rfl), rfl, hnm⟩) (own_w hw 9 rfl) (ty := (.array .byte)) (v' := (.ref sb1)) (by decide) rfl rfl (hb hby own9_14) (pc' := 17) rfl ?_
  intro T h2 lc X eT Wq fN
  have sfa : Safe Z own_EL vm0 _ a1 := S_a1
  have S_a1 := Safe.wr Wq sfa H S_a1
  have CR := CR.trans (CHr.wr Wq sfa H)
  have H := H.wr Wq sfa
  have hk := Nat.le_trans hk (Keep.of_wr Wq).1
  have F_v := F_v.same Wq
  have E_a1 := E_a1.wr Wq
  have F_c := F_c.other Wq (Or.inr (slot_ne (Or.inr (own_w hw 25 rfl)) (Or.inr (own_w hw 24 rfl)) (by decide) (t := .byte) (t' := (.array .byte)) (by decide) (by decide)))
  have E_sa1 := E_sa1.wr Wq
  have FC_sa1 := FC_sa1.other Wq (Or.inl (Ne.symm ne_a1_sa1))
  have FV_sa1 := FV_sa1.other Wq (Or.inl (Ne.symm ne_a1_sa1))
  have A_sb1 := A_sb1.other Wq (Ne.symm ne_a1_sb1)
  have Z0 := Nat.le_trans Z0 (Keep.of_wr Wq).1
  have N := fN _ z_a1 N
  have Kp := Kp.wr Wq (Or.inl (List.mem_of_getElem? (i := 0) rfl))
  refine own_aloadN X hx (hb hby own9_17) (pc' := 18) rfl rfl rfl ?_
  refine own_ldcS X hx hZ hown (own_w hw 22 rfl) (own_wS hw) eT hS hk hEL own_mem_22 H [] (0 : Int32) own_txt_22 (by decide) rfl (hb hby own9_18) (pc' := 20) rfl 0 (by decide) (by decide) (cells' := 4) (slots' := 8) rfl rfl (by decide) (by decide) ?_
  intro sa3 T h3 k1 sb3 k_sb3 vm0 X eT E hS hk hZ hown E_sa3 FC_sa3 FV_sa3 A_sb3 CQ hne_sa3
  have S_a1 := CQ.safe E_a1.lt S_a1
  have CR := CR.trans CQ
  have H := CQ.1
  have E_a1 := E_a1.ext E
  have F_c := F_c.ext E
  have E_sa1 := E_sa1.ext E
  have FC_sa1 := FC_sa1.ext E
  have FV_sa1 := FV_sa1.ext E
  have A_sb1 := A_sb1.ext E
  have F_v := F_v.ext E
  have Z0 := Nat.le_trans Z0 E.1
  have Kp := Kp.ext E
  have ne_a1_sa3 := (hne_sa3 _ S_a1).1
  have ne_a1_sb3 := (hne_sa3 _ S_a1).2
  refine own_getF X hx hZ hown (host := "") (Or.inl (own_w hw 29 rfl)) Via.refl eT FC_sa3 (hb hby own9_20) (pc' := 23) rfl ?_
  intro T X eT
  refine own_putF X hx hZ hown (own_w hw 29 rfl) Via.refl eT F_c E_a1 (Or.inr ⟨(own_w hw 25 rfl), rfl, hnm⟩) (own_w hw 9 rfl) (ty := .byte) (v' := (.int (0 : Int32))) (by decide) rfl rfl (hb hby own9_23) (pc' := 26) rfl ?_
  intro T h4 lc X eT Wq fN
  have sfa : Safe Z own_EL vm0 _ a1 := S_a1
  have S_a1 := Safe.wr Wq sfa H S_a1
  have CR := CR.trans (CHr.wr Wq sfa H)
  have H := H.wr Wq sfa
  have hk := Nat.le_trans hk (Keep.of_wr Wq).1
  have F_c := F_c.same Wq
  have E_a1 := E_a1.wr Wq
  have E_sa1 := E_sa1.wr Wq
  have FC_sa1 := FC_sa1.other Wq (Or.inl (Ne.symm ne_a1_sa1))
  have FV_sa1 := FV_sa1.other Wq (Or.inl (Ne.symm ne_a1_sa1))
  have A_sb1 := A_sb1.other Wq (Ne.symm ne_a1_sb1)
  have F_v := F_v.other Wq (Or.inr (slot_ne (Or.inr (own_w hw 24 rfl)) (Or.inr (own_w hw 25 rfl)) (by decide) (t := (.array .byte)) (t' := .byte) (by decide) (by decide)))
  have E_sa3 := E_sa3.wr Wq
  have FC_sa3 := FC_sa3.other Wq (Or.inl (Ne.symm ne_a1_sa3))
  have FV_sa3 := FV_sa3.other Wq (Or.inl (Ne.symm ne_a1_sa3))
  have A_sb3 := A_sb3.other Wq (Ne.symm ne_a1_sb3)
  have Z0 := Nat.le_trans Z0 (Keep.of_wr Wq).1
  have N := fN _ z_a1 N
  have Kp := Kp.wr Wq (Or.inl (List.mem_of_getElem? (i := 0) rfl))
  refine own_ret0S X hx hlk hZ eT hh hS hk hEL H CR Bd.returns (hb hby own9_26) (by decide) (by decide) ?_
  rw [eT]
  exact ⟨rfl, N, Kp, sb1, _, F_c, F_v, A_sb1⟩
theorem own10_0 : decode jdk_42_method_3_code 0 = .ok (.aload_n 0, 1) := by decide +kernel
theorem own10_1 : decode jdk_42_method_3_code 1 = .ok (.aload_n 1, 1) := by decide +kernel
theorem own10_2 : decode jdk_42_method_3_code 2 = .ok (.iconst 0, 1) := by decide +kernel
theorem own10_3 : decode jdk_42_method_3_code 3 = .ok (.aload_n 1, 1) := by decide +kernel
theorem own10_4 : decode jdk_42_method_3_code 4 = .ok (.arraylength, 1) := by decide +kernel
theorem own10_5 : decode jdk_42_method_3_code 5 = .ok (.aconst_null, 1) := by decide +kernel
theorem own10_6 : decode jdk_42_method_3_code 6 = .ok (.invokespecial 27, 3) := by decide +kernel
theorem own_pd_285bCIILjava2flang2fVoid3b29V : parseMethodDescriptor "([CIILjava/lang/Void;)V" = some ⟨[(.array .char), .int, .int, (.object "java/lang/Void")], none⟩ := by decide +kernel
theorem own10_9 : decode jdk_42_method_3_code 9 = .ok (.return_, 1) := by decide +kernel
theorem ef_ic0 (m : MethodId) (x0 : Addr) (x1 : Addr) : entryFrame m #[(.ref x0), (.ref x1)] 2 = mkF m 0 #[.val (.ref x0), .val (.ref x1)] [] := by first | (simp [entryFrame, mkF, argsToLocals, Value.category]; done) | rfl
def Q_ic0 (Z : State) (a1 aq : Addr) (h0 : Heap) (n0 : Nat) (v : Option Value) (h : Heap) (L : List Loc) : Prop := v = none ∧ Fr n0 L ∧ Keep h0 h [a1] ∧ ∃ (b : Addr) (k : ClassId), Fld Z h a1 "java/lang/String" "coder" "B" (.int (0 : Int32)) ∧ Fld Z h a1 "java/lang/String" "value" "[B" (.ref b) ∧ Arv Z h b k .byte (0 : Int32) [] (.int (0 : Int32))
set_option maxRecDepth 65536 in
set_option maxHeartbeats 40000000 in
theorem rm_ic0 (l : Launch) (Z : State) (a0 : Array Value) (hw : ∀ d ∈ tables_1, d.before a0 Z = true) (hEL : EW Z a0 own_EL) (ws : List Jvm.Cond) (a1 aq : Addr) (h0 : Heap) (n0 : Nat) (Z0 : n0 ≤ h0.size) (u1 : Value) (E_a1 : Exa Z h0 a1 "java/lang/String") (F_c : Fld Z h0 a1 "java/lang/String" "coder" "B" u1) (F_v : Fld Z h0 a1 "java/lang/String" "value" "[B" .null) (z_a1 : n0 ≤ a1) (kq : ClassId) (vq : List Value) (A_aq : Arv Z h0 aq kq .char (0 : Int32) vq (.int (0 : Int32))) :
    MetFree l (⟨"java/lang/String", "<init>", "([C)V"⟩ : MethodName) (head1 (Jvm.Cond.code (⟨"java/lang/String", "<init>", "([C)V"⟩ : MethodName) jdk_42_method_3_code 2 none :: ws) ({ frames := 2, cells := 4, slots := 8, locals := 29 } : Room)) (fun a U => a = #[(.ref a1), (.ref aq)] ∧ Z.Warmed39 U.vm ∧ U.heap = h0 ∧ CHv Z own_EL U.vm h0) (fun _ _ _ _ _ => True) (fun _ U o U' => ∃ v L, o = .returned v ∧ Q_ic0 Z a1 aq h0 n0 v U'.heap L ∧ CHr Z own_EL U.vm U.heap U'.vm U'.heap ∧ ReturnedEndW U o U' L ({ frames := 2, cells := 4, slots := 8, locals := 29 } : Room).cells ({ frames := 2, cells := 4, slots := 8, locals := 29 } : Room).slots) := by
  refine MetFree.of_bodySF (plainFor_of_name own_pn_java_lang_String) hisR ?_
  intro p e s m args below meth c s₁ Bd hml0 hP hK
  obtain ⟨rfl, hZ, hh, H⟩ := hP
  have hx := Bd.exec
  have hby := Bd.bytes
  have hml : c.maxLocals = 2 := hml0
  have hown : s.vm.findClass "java/lang/String" = some m.cls := findClass_of_methodNamed Bd.named
  have hnm := (name_of_methodNamed Bd.named Bd.method).1
  have hlk := Bd.notSynchronized
  obtain ⟨lc, hlc⟩ : ∃ lc : List Loc, lc = [] := ⟨_, rfl⟩
  have X : Stand p l e ({ frames := 2, cells := 4, slots := 8, locals := 29 } : Room) s m #[(.ref a1), (.ref aq)] below meth c s₁ lc 0 0 := hlc ▸ Stand.of_body Bd
  have eT : s₁.heap = h0 := by rw [← hh, Bd.state]; rfl
  have N : Fr n0 lc := hlc ▸ Fr.nil n0
  obtain ⟨vm0, hvm⟩ : ∃ v : Vm, v = s.vm := ⟨_, rfl⟩
  have X : Stand p l e ({ frames := 2, cells := 4, slots := 8, locals := 29 } : Room) (s.setVm vm0) m #[(.ref a1), (.ref aq)] below meth c s₁ lc 0 0 := by rw [hvm]; exact X
  have hZ : Z.Warmed39 (s.setVm vm0).vm := by rw [hvm]; exact hZ
  have hown : (s.setVm vm0).vm.findClass "java/lang/String" = some m.cls := by rw [hvm]; exact hown
  have hS : s.Since vm0 h0.size := by rw [hvm]; exact (State.WarmedH.refl s).since _
  have hk : h0.size ≤ h0.size := Nat.le_refl _
  have CR : CHr Z own_EL s.vm h0 vm0 h0 := by rw [hvm]; exact CHr.refl H
  have H : CHv Z own_EL vm0 h0 := by rw [hvm]; exact H
  refine own_enterS (ef_ic0 m a1 aq) ?_
  obtain ⟨T, hT⟩ : ∃ T : State, T = s₁ := ⟨_, rfl⟩
  rw [← hT] at X eT ⊢
  show own_W _ _ _ _ _ _ _ _ []
  refine own_aloadN X hx (hb hby own10_0) (pc' := 1) rfl rfl rfl ?_
  refine own_aloadN X hx (hb hby own10_1) (pc' := 2) rfl rfl rfl ?_
  refine own_iconst X hx (0 : Int32) (hb hby own10_2) (pc' := 3) rfl rfl ?_
  refine own_aloadN X hx (hb hby own10_3) (pc' := 4) rfl rfl rfl ?_
  refine own_arrlen X hx hZ eT A_aq (hb hby own10_4) (pc' := 5) rfl ?_
  refine own_aconst_null X hx (hb hby own10_5) (pc' := 6) rfl ?_
  refine own_callNS X hx hZ a1 [(.ref aq), (.int (0 : Int32)), (.int (0 : Int32)), .null] rfl hown (own_w hw 15 rfl) (own_w hw 16 rfl) (own_w hw 10 rfl) (own_w hw 18 rfl) (by decide) (rm_iv0 l Z a0 hw hEL [] a1 aq h0 n0 Z0 _ E_a1 F_c F_v z_a1) eT hS hk hEL H (W := 0) (by decide) (by decide) (cells' := 4) (slots' := 8) rfl rfl (by decide) (by decide) (by rw [hml]; rfl) (lenOf own_pd_285bCIILjava2flang2fVoid3b29V rfl) rfl (S := []) rfl (Nat.le_of_eq rfl) (hb hby own10_6) (pc' := 9) rfl ?_
  intro v T h1 L lc vm0 k1 X eT hS hk hZ hown CQ hq fN
  obtain ⟨rfl, Nq, Kq, bb, kb, F_c2, F_v2, A_bb⟩ := hq
  have N := fN _ N Nq
  have CR := CR.trans CQ
  have H := CQ.1
  show own_W _ _ _ _ _ _ _ _ []
  refine own_ret0S X hx hlk hZ eT hh hS hk hEL H CR Bd.returns (hb hby own10_9) (by decide) (by decide) ?_
  rw [eT]
  exact ⟨rfl, N, Kq, bb, kb, F_c2, F_v2, A_bb⟩
theorem own11_0 : decode jdk_52_method_21_code 0 = .ok (.iconst 0, 1) := by decide +kernel
theorem own11_1 : decode jdk_52_method_21_code 1 = .ok (.istore 5, 2) := by decide +kernel
theorem own11_3 : decode jdk_52_method_21_code 3 = .ok (.iload 5, 2) := by decide +kernel
theorem own11_5 : decode jdk_52_method_21_code 5 = .ok (.iload 4, 2) := by decide +kernel
theorem own11_7 : decode jdk_52_method_21_code 7 = .ok (.if_icmp .ge 37, 3) := by decide +kernel
theorem own11_10 : decode jdk_52_method_21_code 10 = .ok (.aload_n 0, 1) := by decide +kernel
theorem own11_11 : decode jdk_52_method_21_code 11 = .ok (.iload_n 1, 1) := by decide +kernel
theorem own11_12 : decode jdk_52_method_21_code 12 = .ok (.caload, 1) := by decide +kernel
theorem own11_13 : decode jdk_52_method_21_code 13 = .ok (.istore 6, 2) := by decide +kernel
theorem own11_15 : decode jdk_52_method_21_code 15 = .ok (.iload 6, 2) := by decide +kernel
theorem own11_17 : decode jdk_52_method_21_code 17 = .ok (.sipush 255, 3) := by decide +kernel
theorem own11_20 : decode jdk_52_method_21_code 20 = .ok (.if_icmp .le 6, 3) := by decide +kernel
theorem own11_26 : decode jdk_52_method_21_code 26 = .ok (.aload_n 2, 1) := by decide +kernel
theorem own11_27 : decode jdk_52_method_21_code 27 = .ok (.iload_n 3, 1) := by decide +kernel
theorem own11_28 : decode jdk_52_method_21_code 28 = .ok (.iload 6, 2) := by decide +kernel
theorem own11_30 : decode jdk_52_method_21_code 30 = .ok (.i2b, 1) := by decide +kernel
theorem own11_31 : decode jdk_52_method_21_code 31 = .ok (.bastore, 1) := by decide +kernel
theorem own11_32 : decode jdk_52_method_21_code 32 = .ok (.iinc 1 1, 3) := by decide +kernel
theorem own11_35 : decode jdk_52_method_21_code 35 = .ok (.iinc 3 1, 3) := by decide +kernel
theorem own11_38 : decode jdk_52_method_21_code 38 = .ok (.iinc 5 1, 3) := by decide +kernel
theorem own11_41 : decode jdk_52_method_21_code 41 = .ok (.goto (-38), 3) := by decide +kernel
theorem own11_44 : decode jdk_52_method_21_code 44 = .ok (.iload 4, 2) := by decide +kernel
theorem own11_46 : decode jdk_52_method_21_code 46 = .ok (.ireturn, 1) := by decide +kernel
theorem own11_23 : decode jdk_52_method_21_code 23 = .ok (.iload 5, 2) := by decide +kernel
theorem own11_25 : decode jdk_52_method_21_code 25 = .ok (.ireturn, 1) := by decide +kernel
theorem ef7RIRII (m : MethodId) (x0 : Addr) (x1 : Int32) (x2 : Addr) (x3 : Int32) (x4 : Int32) : entryFrame m #[(.ref x0), (.int x1), (.ref x2), (.int x3), (.int x4)] 7 = mkF m 0 #[.val (.ref x0), .val (.int x1), .val (.ref x2), .val (.int x3), .val (.int x4), .unset, .unset] [] := by first | (simp [entryFrame, mkF, argsToLocals, Value.category]; done) | rfl
def Q_ci1 (Z : State) (aq ad : Addr) (kq kd : ClassId) (d0 : Int32) (h0 : Heap) (n0 : Nat) (v : Option Value) (h : Heap) (L : List Loc) : Prop := Fr n0 L ∧ Keep h0 h [ad] ∧ ((v = some (.int (1 : Int32)) ∧ (¬ ((255 : Int32) < d0)) ∧ Arv Z h ad kd .byte (1 : Int32) [(.int (nar .byte d0.toInt8.toInt32))] (.int (0 : Int32))) ∨ (v = some (.int (0 : Int32)) ∧ (255 : Int32) < d0))
set_option maxRecDepth 65536 in
set_option maxHeartbeats 40000000 in
theorem rm_ci1 (l : Launch) (Z : State) (a0 : Array Value) (hw : ∀ d ∈ tables_1, d.before a0 Z = true) (ws : List Jvm.Cond) (aq ad : Addr) (kq kd : ClassId) (d0 : Int32) (h0 : Heap) (n0 : Nat) (Z0 : n0 ≤ h0.size) (A_aq : Arv Z h0 aq kq .char (1 : Int32) [(.int d0)] (.int (0 : Int32))) (A_ad : Arv Z h0 ad kd .byte (1 : Int32) [(.int (0 : Int32))] (.int (0 : Int32))) (nqd : aq ≠ ad) (z_ad : n0 ≤ ad) : own_Met l Z ⟨"java/lang/StringUTF16", "compress", "([CI[BII)I"⟩ jdk_52_method_21_code 7 (some .int) ws ⟨0, 0, 0, 0⟩ #[(.ref aq), (.int (0 : Int32)), (.ref ad), (.int (0 : Int32)), (.int (1 : Int32))] h0 (Q_ci1 Z aq ad kq kd d0 h0 n0) := by
  refine own_met n0 own_pn_java_lang_StringUTF16 (fun m => ef7RIRII m aq (0 : Int32) ad (0 : Int32) (1 : Int32)) ?_
  intro p e s m below meth c T lc hret hx hZ hby hml hown hnm hlk X eT N
  have Kp : Keep h0 h0 [ad] := Keep.refl _ _
  refine own_iconst X hx (0 : Int32) (hb hby own11_0) (pc' := 1) rfl rfl ?_
  refine own_istore X hx (hb hby own11_1) (pc' := 3) rfl (Ls' := #[.val (.ref aq), .val (.int (0 : Int32)), .val (.ref ad), .val (.int (0 : Int32)), .val (.int (1 : Int32)), .val (.int (0 : Int32)), .unset]) rfl ?_
  refine own_iload X hx (hb hby own11_3) (pc' := 5) rfl rfl ?_
  refine own_iload X hx (hb hby own11_5) (pc' := 7) rfl rfl ?_
  refine own_icmpN X hx (hb hby own11_7) (pc' := 10) rfl (show (0 : Int32) < (1 : Int32) from (by decide)) ?_
  refine own_aloadN X hx (hb hby own11_10) (pc' := 11) rfl rfl rfl ?_
  refine own_iloadN X hx (hb hby own11_11) (pc' := 12) rfl rfl ?_
  refine own_caload X hx hZ eT A_aq (v := (.int d0)) (by decide) rfl (hb hby own11_12) (pc' := 13) rfl ?_
  refine own_istore X hx (hb hby own11_13) (pc' := 15) rfl (Ls' := #[.val (.ref aq), .val (.int (0 : Int32)), .val (.ref ad), .val (.int (0 : Int32)), .val (.int (1 : Int32)), .val (.int (0 : Int32)), .val (.int d0)]) rfl ?_
  refine own_iload X hx (hb hby own11_15) (pc' := 17) rfl rfl ?_
  refine own_sipush X hx (255 : Int32) (hb hby own11_17) (pc' := 20) rfl rfl ?_
  refine own_icmp X hx (hb hby own11_20) (by decide) (pcY := 26) (pcN := 23) rfl rfl (fun (hc20 : ¬ ((255 : Int32) < d0)) => ?_) (fun (hc20 : (255 : Int32) < d0) => ?_)
  · refine own_aloadN X hx (hb hby own11_26) (pc' := 27) rfl rfl rfl ?_
    refine own_iloadN X hx (hb hby own11_27) (pc' := 28) rfl rfl ?_
    refine own_iload X hx (hb hby own11_28) (pc' := 30) rfl rfl ?_
    refine own_i2b X hx (hb hby own11_30) (pc' := 31) rfl ?_
    refine own_bastoreB X hx hZ eT A_ad (by decide) 0 rfl (by show 0 < 1; decide) (hb hby own11_31) (pc' := 32) rfl ?_
    intro T h1 lc X eT Kq A_adn fN
    have A_aq := A_aq.keep Kq (ninS nqd nin0)
    have Z0 := Nat.le_trans Z0 Kq.1
    have A_ad := A_adn
    have N := fN _ z_ad N
    have Kp := Kp.trans Kq (allS (P := fun x => x ∈ [ad] ∨ h0.size ≤ x) (Or.inl (List.mem_of_getElem? (i := 0) rfl)) all0)
    have A_ad : Arv Z h1 ad _ .byte (1 : Int32) [(.int (nar .byte d0.toInt8.toInt32))] (.int (0 : Int32)) := A_ad
    refine own_iinc X hx (1 : Int32) (hb hby own11_32) (pc' := 35) rfl rfl rfl (Ls' := #[.val (.ref aq), .val (.int (1 : Int32)), .val (.ref ad), .val (.int (0 : Int32)), .val (.int (1 : Int32)), .val (.int (0 : Int32)), .val (.int d0)]) rfl ?_
    refine own_iinc X hx (1 : Int32) (hb hby own11_35) (pc' := 38) rfl rfl rfl (Ls' := #[.val (.ref aq), .val (.int (1 : Int32)), .val (.ref ad), .val (.int (1 : Int32)), .val (.int (1 : Int32)), .val (.int (0 : Int32)), .val (.int d0)]) rfl ?_
    refine own_iinc X hx (1 : Int32) (hb hby own11_38) (pc' := 41) rfl rfl rfl (Ls' := #[.val (.ref aq), .val (.int (1 : Int32)), .val (.ref ad), .val (.int (1 : Int32)), .val (.int (1 : Int32)), .val (.int (1 : Int32)), .val (.int d0)]) rfl ?_
    refine own_goto X hx (hb hby own11_41) (by decide) (pc' := 3) rfl ?_
    refine own_iload X hx (hb hby own11_3) (pc' := 5) rfl rfl ?_
    refine own_iload X hx (hb hby own11_5) (pc' := 7) rfl rfl ?_
    refine own_icmpY X hx (hb hby own11_7) (by decide) (pc' := 44) rfl (show ¬ ((1 : Int32) < (1 : Int32)) from (by decide)) ?_
    refine own_iload X hx (hb hby own11_44) (pc' := 46) rfl rfl ?_
    refine own_retI X hx hlk (t := .int) (w' := (.int (1 : Int32))) hret (hb hby own11_46) rfl rfl (by simp) (by decide) (by decide) ?_
    rw [eT]
    exact ⟨N, Kp, Or.inl ⟨rfl, hc20, A_ad⟩⟩
  · refine own_iload X hx (hb hby own11_23) (pc' := 25) rfl rfl ?_
    refine own_retI X hx hlk (t := .int) (w' := (.int (0 : Int32))) hret (hb hby own11_25) rfl rfl (by simp) (by decide) (by decide) ?_
    rw [eT]
    exact ⟨N, Kp, Or.inr (⟨rfl, hc20⟩)⟩
theorem own12_0 : decode jdk_52_method_16_code 0 = .ok (.iload_n 2, 1) := by decide +kernel
theorem own12_1 : decode jdk_52_method_16_code 1 = .ok (.newarray .byte, 2) := by decide +kernel
theorem own12_3 : decode jdk_52_method_16_code 3 = .ok (.astore_n 3, 1) := by decide +kernel
theorem own12_4 : decode jdk_52_method_16_code 4 = .ok (.aload_n 0, 1) := by decide +kernel
theorem own12_5 : decode jdk_52_method_16_code 5 = .ok (.iload_n 1, 1) := by decide +kernel
theorem own12_6 : decode jdk_52_method_16_code 6 = .ok (.aload_n 3, 1) := by decide +kernel
theorem own12_7 : decode jdk_52_method_16_code 7 = .ok (.iconst 0, 1) := by decide +kernel
theorem own12_8 : decode jdk_52_method_16_code 8 = .ok (.iload_n 2, 1) := by decide +kernel
theorem own12_9 : decode jdk_52_method_16_code 9 = .ok (.invokestatic 115, 3) := by decide +kernel
theorem own_pd_285bCI5bBII29I : parseMethodDescriptor "([CI[BII)I" = some ⟨[(.array .char), .int, (.array .byte), .int, .int], some .int⟩ := by decide +kernel
theorem own12_12 : decode jdk_52_method_16_code 12 = .ok (.istore 4, 2) := by decide +kernel
theorem own12_14 : decode jdk_52_method_16_code 14 = .ok (.iload 4, 2) := by decide +kernel
theorem own12_16 : decode jdk_52_method_16_code 16 = .ok (.iload_n 2, 1) := by decide +kernel
theorem own12_17 : decode jdk_52_method_16_code 17 = .ok (.if_icmp .eq 40, 3) := by decide +kernel
theorem own12_57 : decode jdk_52_method_16_code 57 = .ok (.aload_n 3, 1) := by decide +kernel
theorem own12_58 : decode jdk_52_method_16_code 58 = .ok (.areturn, 1) := by decide +kernel
theorem own12_20 : decode jdk_52_method_16_code 20 = .ok (.aload_n 0, 1) := by decide +kernel
theorem own12_21 : decode jdk_52_method_16_code 21 = .ok (.iload_n 1, 1) := by decide +kernel
theorem own12_22 : decode jdk_52_method_16_code 22 = .ok (.iload_n 2, 1) := by decide +kernel
theorem own12_23 : decode jdk_52_method_16_code 23 = .ok (.invokestatic 119, 3) := by decide +kernel
theorem own_pd_285bCII295bB : parseMethodDescriptor "([CII)[B" = some ⟨[(.array .char), .int, .int], some (.array .byte)⟩ := by decide +kernel
theorem own12_26 : decode jdk_52_method_16_code 26 = .ok (.astore 5, 2) := by decide +kernel
theorem own12_28 : decode jdk_52_method_16_code 28 = .ok (.aload 5, 2) := by decide +kernel
theorem own12_30 : decode jdk_52_method_16_code 30 = .ok (.iload 4, 2) := by decide +kernel
theorem own12_32 : decode jdk_52_method_16_code 32 = .ok (.invokestatic 71, 3) := by decide +kernel
theorem own_pd_285bBI29C : parseMethodDescriptor "([BI)C" = some ⟨[(.array .byte), .int], some .char⟩ := by decide +kernel
theorem own12_35 : decode jdk_52_method_16_code 35 = .ok (.sipush 255, 3) := by decide +kernel
theorem own12_38 : decode jdk_52_method_16_code 38 = .ok (.if_icmp .gt 16, 3) := by decide +kernel
theorem own12_54 : decode jdk_52_method_16_code 54 = .ok (.aload 5, 2) := by decide +kernel
theorem own12_56 : decode jdk_52_method_16_code 56 = .ok (.areturn, 1) := by decide +kernel
theorem ef6RII (m : MethodId) (x0 : Addr) (x1 : Int32) (x2 : Int32) : entryFrame m #[(.ref x0), (.int x1), (.int x2)] 6 = mkF m 0 #[.val (.ref x0), .val (.int x1), .val (.int x2), .unset, .unset, .unset] [] := by first | (simp [entryFrame, mkF, argsToLocals, Value.category]; done) | rfl
def Q_cc1 (Z : State) (aq : Addr) (kq : ClassId) (d0 : Int32) (h0 : Heap) (n0 : Nat) (v : Option Value) (h : Heap) (L : List Loc) : Prop := ∃ (b : Addr) (kb : ClassId), v = some (.ref b) ∧ Fr n0 L ∧ Keep h0 h [] ∧ h0.size ≤ b ∧ (((¬ ((255 : Int32) < d0)) ∧ Arv Z h b kb .byte (1 : Int32) [(.int (nar .byte d0.toInt8.toInt32))] (.int (0 : Int32))) ∨ Arv Z h b kb .byte (2 : Int32) [(.int (own_lb d0)), (.int (own_hb d0))] (.int (0 : Int32)))
set_option maxRecDepth 65536 in
set_option maxHeartbeats 40000000 in
theorem rm_cc1 (l : Launch) (Z : State) (a0 : Array Value) (hw : ∀ d ∈ tables_1, d.before a0 Z = true) (ws : List Jvm.Cond) (aq : Addr) (kq : ClassId) (d0 : Int32) (h0 : Heap) (n0 : Nat) (Z0 : n0 ≤ h0.size) (S_A : Sta Z h0 "java/lang/StringUTF16" "$assertionsDisabled" "Z" (.int (1 : Int32))) (S_H : Sta Z h0 "java/lang/StringUTF16" "HI_BYTE_SHIFT" "I" (.int (0 : Int32))) (S_L : Sta Z h0 "java/lang/StringUTF16" "LO_BYTE_SHIFT" "I" (.int (8 : Int32))) (A_aq : Arv Z h0 aq kq .char (1 : Int32) [(.int d0)] (.int (0 : Int32))) (bd0 : own_c16 d0) : own_Met l Z ⟨"java/lang/StringUTF16", "compress", "([CII)[B"⟩ jdk_52_method_16_code 6 (some (.array .byte)) ws ⟨3, 2, 3, 55⟩ #[(.ref aq), (.int (0 : Int32)), (.int (1 : Int32))] h0 (Q_cc1 Z aq kq d0 h0 n0) := by
  refine own_met n0 own_pn_java_lang_StringUTF16 (fun m => ef6RII m aq (0 : Int32) (1 : Int32)) ?_
  intro p e s m below meth c T lc hret hx hZ hby hml hown hnm hlk X eT N
  have Kp : Keep h0 h0 [] := Keep.refl _ _
  refine own_iloadN X hx (hb hby own12_0) (pc' := 1) rfl rfl ?_
  refine own_newarr X hx hZ (own_w hw 23 rfl) eT (hb hby own12_1) (pc' := 3) rfl (by decide) 1 (by decide) (by decide) (cells' := 1) (slots' := 1) rfl rfl (by decide) (by decide) ?_
  intro T h1 k_b1 b1 X eT E gb1 A_b1
  have lt_aq_b1 : aq < b1 := Nat.lt_of_lt_of_le A_aq.lt (Nat.le_of_eq gb1.symm)
  have ne_aq_b1 : aq ≠ b1 := Nat.ne_of_lt lt_aq_b1
  have z_b1 : n0 ≤ b1 := Nat.le_trans Z0 (Nat.le_of_eq gb1.symm)
  have s_b1 : h0.size ≤ b1 := Nat.le_trans Kp.1 (Nat.le_of_eq gb1.symm)
  have S_A := S_A.ext E
  have S_H := S_H.ext E
  have S_L := S_L.ext E
  have A_aq := A_aq.ext E
  have Z0 := Nat.le_trans Z0 E.1
  have Kp := Kp.ext E
  have A_b1 : Arv Z h1 b1 k_b1 .byte (1 : Int32) [(.int (0 : Int32))] (.int (0 : Int32)) := A_b1.pad (pad_rep [] (.int (0 : Int32)) 1)
  refine own_astoreN X hx (hb hby own12_3) (pc' := 4) rfl rfl (Ls' := #[.val (.ref aq), .val (.int (0 : Int32)), .val (.int (1 : Int32)), .val (.ref b1), .unset, .unset]) rfl ?_
  refine own_aloadN X hx (hb hby own12_4) (pc' := 5) rfl rfl rfl ?_
  refine own_iloadN X hx (hb hby own12_5) (pc' := 6) rfl rfl ?_
  refine own_aloadN X hx (hb hby own12_6) (pc' := 7) rfl rfl rfl ?_
  refine own_iconst X hx (0 : Int32) (hb hby own12_7) (pc' := 8) rfl rfl ?_
  refine own_iloadN X hx (hb hby own12_8) (pc' := 9) rfl rfl ?_
  refine own_callS X hx hZ [(.ref aq), (.int (0 : Int32)), (.ref b1), (.int (0 : Int32)), (.int (1 : Int32))] hown (own_w hw 78 rfl) (own_w hw 79 rfl) (own_w hw 76 rfl) (own_w hw 80 rfl) (by decide) (rm_ci1 l Z a0 hw [] aq b1 _ _ d0 h1 n0 Z0 A_aq A_b1 ne_aq_b1 z_b1) eT (W := 0) (by decide) (by decide) (cells' := 1) (slots' := 1) rfl rfl (by decide) (by decide) (by rw [hml]; rfl) (lenOf own_pd_285bCI5bBII29I rfl) rfl (S := []) rfl (Nat.le_of_eq rfl) (hb hby own12_9) (pc' := 12) rfl ?_
  intro v T h2 L lc X eT hq fN
  obtain ⟨Nq, Kq, hv⟩ := hq
  have N := fN _ N Nq
  have S_A := own_sta_keep S_A Kq (nsS (own_ns_arv A_b1) ns0)
  have S_H := own_sta_keep S_H Kq (nsS (own_ns_arv A_b1) ns0)
  have S_L := own_sta_keep S_L Kq (nsS (own_ns_arv A_b1) ns0)
  have A_aq := A_aq.keep Kq (ninS ne_aq_b1 nin0)
  have Z0 := Nat.le_trans Z0 Kq.1
  have Kp := Kp.trans Kq (allS (P := fun x => x ∈ ([] : List Addr) ∨ h0.size ≤ x) (Or.inr s_b1) all0)
  rcases hv with ⟨rfl, hall, B_b⟩ | ⟨rfl, hbig⟩
  · show own_W _ _ _ _ _ _ _ _ [(.int (1 : Int32))]
    refine own_istore X hx (hb hby own12_12) (pc' := 14) rfl (Ls' := #[.val (.ref aq), .val (.int (0 : Int32)), .val (.int (1 : Int32)), .val (.ref b1), .val (.int (1 : Int32)), .unset]) rfl ?_
    refine own_iload X hx (hb hby own12_14) (pc' := 16) rfl rfl ?_
    refine own_iloadN X hx (hb hby own12_16) (pc' := 17) rfl rfl ?_
    refine own_icmpY X hx (hb hby own12_17) (by decide) (pc' := 57) rfl (show (1 : Int32) = (1 : Int32) from (by decide)) ?_
    refine own_aloadN X hx (hb hby own12_57) (pc' := 58) rfl rfl rfl ?_
    refine own_retA X hx hlk hret (hb hby own12_58) rfl rfl rfl (by decide) (by decide) ?_
    rw [eT]
    exact ⟨_, _, rfl, N, Kp, s_b1, Or.inl ⟨hall, B_b⟩⟩
  · show own_W _ _ _ _ _ _ _ _ [(.int (0 : Int32))]
    refine own_istore X hx (hb hby own12_12) (pc' := 14) rfl (Ls' := #[.val (.ref aq), .val (.int (0 : Int32)), .val (.int (1 : Int32)), .val (.ref b1), .val (.int (0 : Int32)), .unset]) rfl ?_
    refine own_iload X hx (hb hby own12_14) (pc' := 16) rfl rfl ?_
    refine own_iloadN X hx (hb hby own12_16) (pc' := 17) rfl rfl ?_
    refine own_icmpN X hx (hb hby own12_17) (pc' := 20) rfl (show ¬ ((0 : Int32) = (1 : Int32)) from (by decide)) ?_
    refine own_aloadN X hx (hb hby own12_20) (pc' := 21) rfl rfl rfl ?_
    refine own_iloadN X hx (hb hby own12_21) (pc' := 22) rfl rfl ?_
    refine own_iloadN X hx (hb hby own12_22) (pc' := 23) rfl rfl ?_
    refine own_callS X hx hZ [(.ref aq), (.int (0 : Int32)), (.int (1 : Int32))] hown (own_w hw 90 rfl) (own_w hw 91 rfl) (own_w hw 76 rfl) (own_w hw 92 rfl) (by decide) (rm_tb1 l Z a0 hw [] aq _ d0 h2 n0 Z0 S_A S_H S_L A_aq) eT (W := 0) (by decide) (by decide) (cells' := 2) (slots' := 3) rfl rfl (by decide) (by decide) (by rw [hml]; rfl) (lenOf own_pd_285bCII295bB rfl) rfl (S := []) rfl (Nat.le_of_eq rfl) (hb hby own12_23) (pc' := 26) rfl ?_
    intro v T h3 L lc X eT hq fN
    obtain ⟨cb, kc, rfl, Nq, Kq, hcb, A_cb⟩ := hq
    have N := fN _ N Nq
    have lt_aq_cb : aq < cb := Nat.lt_of_lt_of_le A_aq.lt hcb
    have ne_aq_cb : aq ≠ cb := Nat.ne_of_lt lt_aq_cb
    have z_cb : n0 ≤ cb := Nat.le_trans Z0 hcb
    have s_cb : h0.size ≤ cb := Nat.le_trans Kp.1 hcb
    have S_A := own_sta_keep S_A Kq ns0
    have S_H := own_sta_keep S_H Kq ns0
    have S_L := own_sta_keep S_L Kq ns0
    have A_aq := A_aq.keep Kq nin0
    have Z0 := Nat.le_trans Z0 Kq.1
    have Kp := Kp.trans Kq all0
    show own_W _ _ _ _ _ _ _ _ [(.ref cb)]
    refine own_astore X hx (hb hby own12_26) (pc' := 28) rfl rfl (Ls' := #[.val (.ref aq), .val (.int (0 : Int32)), .val (.int (1 : Int32)), .val (.ref b1), .val (.int (0 : Int32)), .val (.ref cb)]) rfl ?_
    refine own_aload X hx (hb hby own12_28) (pc' := 30) rfl rfl rfl ?_
    refine own_iload X hx (hb hby own12_30) (pc' := 32) rfl rfl ?_
    refine own_callS X hx hZ [(.ref cb), (.int (0 : Int32))] hown (own_w hw 106 rfl) (own_w hw 107 rfl) (own_w hw 76 rfl) (own_w hw 108 rfl) (by decide) (rm_gc1_0 l Z a0 hw [] cb _ d0 h3 n0 Z0 S_A S_H S_L bd0 A_cb) eT (W := 0) (by decide) (by decide) (cells' := 2) (slots' := 3) rfl rfl (by decide) (by decide) (by rw [hml]; rfl) (lenOf own_pd_285bBI29C rfl) rfl (S := []) rfl (Nat.le_of_eq rfl) (hb hby own12_32) (pc' := 35) rfl ?_
    intro v T h4 L lc X eT hq fN
    obtain ⟨rfl, Nq, hqe⟩ := hq
    have N := fN _ N Nq
    rw [hqe] at eT
    show own_W _ _ _ _ _ _ _ _ [(.int d0)]
    refine own_sipush X hx (255 : Int32) (hb hby own12_35) (pc' := 38) rfl rfl ?_
    refine own_icmpY X hx (hb hby own12_38) (by decide) (pc' := 54) rfl (show (255 : Int32) < d0 from hbig) ?_
    refine own_aload X hx (hb hby own12_54) (pc' := 56) rfl rfl rfl ?_
    refine own_retA X hx hlk hret (hb hby own12_56) rfl rfl rfl (by decide) (by decide) ?_
    rw [eT]
    exact ⟨_, _, rfl, N, Kp, s_cb, Or.inr A_cb⟩
theorem own13_0 : decode jdk_52_method_15_code 0 = .ok (.iload_n 1, 1) := by decide +kernel
theorem own13_1 : decode jdk_52_method_15_code 1 = .ok (.aload_n 0, 1) := by decide +kernel
theorem own13_2 : decode jdk_52_method_15_code 2 = .ok (.arraylength, 1) := by decide +kernel
theorem own13_3 : decode jdk_52_method_15_code 3 = .ok (.isub, 1) := by decide +kernel
theorem own13_4 : decode jdk_52_method_15_code 4 = .ok (.bipush 31, 2) := by decide +kernel
theorem own13_6 : decode jdk_52_method_15_code 6 = .ok (.iushr, 1) := by decide +kernel
theorem own13_7 : decode jdk_52_method_15_code 7 = .ok (.i2b, 1) := by decide +kernel
theorem own13_8 : decode jdk_52_method_15_code 8 = .ok (.ireturn, 1) := by decide +kernel
def Q_cf1 (Z : State) (b : Addr) (h0 : Heap) (n0 : Nat) (v : Option Value) (h : Heap) (L : List Loc) : Prop := v = some (.int (0 : Int32)) ∧ Fr n0 L ∧ h = h0
set_option maxRecDepth 65536 in
set_option maxHeartbeats 40000000 in
theorem rm_cf1 (l : Launch) (Z : State) (a0 : Array Value) (hw : ∀ d ∈ tables_1, d.before a0 Z = true) (ws : List Jvm.Cond) (b : Addr) (h0 : Heap) (n0 : Nat) (Z0 : n0 ≤ h0.size) (k : ClassId) (vs : List Value) (A_b : Arv Z h0 b k .byte (1 : Int32) vs (.int (0 : Int32))) : own_Met l Z ⟨"java/lang/StringUTF16", "coderFromArrayLen", "([BI)B"⟩ jdk_52_method_15_code 2 (some .byte) ws ⟨0, 0, 0, 0⟩ #[(.ref b), (.int (1 : Int32))] h0 (Q_cf1 Z b h0 n0) := by
  refine own_met n0 own_pn_java_lang_StringUTF16 (fun m => ef2RI m b (1 : Int32)) ?_
  intro p e s m below meth c T lc hret hx hZ hby hml hown hnm hlk X eT N
  refine own_iloadN X hx (hb hby own13_0) (pc' := 1) rfl rfl ?_
  refine own_aloadN X hx (hb hby own13_1) (pc' := 2) rfl rfl rfl ?_
  refine own_arrlen X hx hZ eT A_b (hb hby own13_2) (pc' := 3) rfl ?_
  refine own_isub X hx (hb hby own13_3) (pc' := 4) rfl ?_
  rw [show ((1 : Int32) - (1 : Int32)) = (0 : Int32) from by decide]
  refine own_bipush X hx (31 : Int32) (hb hby own13_4) (pc' := 6) rfl rfl ?_
  refine own_iushr X hx (hb hby own13_6) (pc' := 7) rfl ?_
  refine own_i2b X hx (hb hby own13_7) (pc' := 8) rfl ?_
  refine own_retI X hx hlk (t := .byte) (w' := (.int (0 : Int32))) hret (hb hby own13_8) rfl rfl (by simp) (by decide) (by decide) ?_
  rw [eT]
  exact ⟨rfl, N, rfl⟩
def Q_cu1 (Z : State) (b : Addr) (h0 : Heap) (n0 : Nat) (v : Option Value) (h : Heap) (L : List Loc) : Prop := v = some (.int (1 : Int32)) ∧ Fr n0 L ∧ h = h0
set_option maxRecDepth 65536 in
set_option maxHeartbeats 40000000 in
theorem rm_cu1 (l : Launch) (Z : State) (a0 : Array Value) (hw : ∀ d ∈ tables_1, d.before a0 Z = true) (ws : List Jvm.Cond) (b : Addr) (h0 : Heap) (n0 : Nat) (Z0 : n0 ≤ h0.size) (k : ClassId) (vs : List Value) (A_b : Arv Z h0 b k .byte (2 : Int32) vs (.int (0 : Int32))) : own_Met l Z ⟨"java/lang/StringUTF16", "coderFromArrayLen", "([BI)B"⟩ jdk_52_method_15_code 2 (some .byte) ws ⟨0, 0, 0, 0⟩ #[(.ref b), (.int (1 : Int32))] h0 (Q_cu1 Z b h0 n0) := by
  refine own_met n0 own_pn_java_lang_StringUTF16 (fun m => ef2RI m b (1 : Int32)) ?_
  intro p e s m below meth c T lc hret hx hZ hby hml hown hnm hlk X eT N
  refine own_iloadN X hx (hb hby own13_0) (pc' := 1) rfl rfl ?_
  refine own_aloadN X hx (hb hby own13_1) (pc' := 2) rfl rfl rfl ?_
  refine own_arrlen X hx hZ eT A_b (hb hby own13_2) (pc' := 3) rfl ?_
  refine own_isub X hx (hb hby own13_3) (pc' := 4) rfl ?_
  rw [show ((1 : Int32) - (2 : Int32)) = (-1 : Int32) from by decide]
  refine own_bipush X hx (31 : Int32) (hb hby own13_4) (pc' := 6) rfl rfl ?_
  refine own_iushr X hx (hb hby own13_6) (pc' := 7) rfl ?_
  refine own_i2b X hx (hb hby own13_7) (pc' := 8) rfl ?_
  refine own_retI X hx hlk (t := .byte) (w' := (.int (1 : Int32))) hret (hb hby own13_8) rfl rfl (by simp) (by decide) (by decide) ?_
  rw [eT]
  exact ⟨rfl, N, rfl⟩
theorem own9_27 : decode jdk_42_method_149_code 27 = .ok (.getstatic 38, 3) := by decide +kernel
theorem own9_30 : decode jdk_42_method_149_code 30 = .ok (.ifCond .eq 28, 3) := by decide +kernel
theorem own9_33 : decode jdk_42_method_149_code 33 = .ok (.aload_n 1, 1) := by decide +kernel
theorem own9_34 : decode jdk_42_method_149_code 34 = .ok (.iload_n 2, 1) := by decide +kernel
theorem own9_35 : decode jdk_42_method_149_code 35 = .ok (.iload_n 3, 1) := by decide +kernel
theorem own9_36 : decode jdk_42_method_149_code 36 = .ok (.invokestatic 177, 3) := by decide +kernel
theorem own9_39 : decode jdk_42_method_149_code 39 = .ok (.astore 5, 2) := by decide +kernel
theorem own9_41 : decode jdk_42_method_149_code 41 = .ok (.aload_n 0, 1) := by decide +kernel
theorem own9_42 : decode jdk_42_method_149_code 42 = .ok (.aload 5, 2) := by decide +kernel
theorem own9_44 : decode jdk_42_method_149_code 44 = .ok (.iload_n 3, 1) := by decide +kernel
theorem own9_45 : decode jdk_42_method_149_code 45 = .ok (.invokestatic 47, 3) := by decide +kernel
theorem own_pd_285bBI29B : parseMethodDescriptor "([BI)B" = some ⟨[(.array .byte), .int], some .byte⟩ := by decide +kernel
theorem own9_48 : decode jdk_42_method_149_code 48 = .ok (.putfield 15, 3) := by decide +kernel
theorem own9_51 : decode jdk_42_method_149_code 51 = .ok (.aload_n 0, 1) := by decide +kernel
theorem own9_52 : decode jdk_42_method_149_code 52 = .ok (.aload 5, 2) := by decide +kernel
theorem own9_54 : decode jdk_42_method_149_code 54 = .ok (.putfield 9, 3) := by decide +kernel
theorem own9_57 : decode jdk_42_method_149_code 57 = .ok (.return_, 1) := by decide +kernel
theorem ef6RRIIN (m : MethodId) (x0 : Addr) (x1 : Addr) (x2 : Int32) (x3 : Int32) : entryFrame m #[(.ref x0), (.ref x1), (.int x2), (.int x3), .null] 6 = mkF m 0 #[.val (.ref x0), .val (.ref x1), .val (.int x2), .val (.int x3), .val .null, .unset] [] := by first | (simp [entryFrame, mkF, argsToLocals, Value.category]; done) | rfl
def Q_iv1 (Z : State) (a1 aq : Addr) (kq : ClassId) (cs : Int32) (d0 : Int32) (h0 : Heap) (n0 : Nat) (v : Option Value) (h : Heap) (L : List Loc) : Prop := v = none ∧ Fr n0 L ∧ Keep h0 h [a1] ∧ ∃ (b : Addr) (k : ClassId), h0.size ≤ b ∧ Fld Z h a1 "java/lang/String" "value" "[B" (.ref b) ∧ ((Fld Z h a1 "java/lang/String" "coder" "B" (.int (0 : Int32)) ∧ (¬ ((255 : Int32) < d0)) ∧ Arv Z h b k .byte (1 : Int32) [(.int (nar .byte d0.toInt8.toInt32))] (.int (0 : Int32))) ∨ (Fld Z h a1 "java/lang/String" "coder" "B" (.int (1 : Int32)) ∧ Arv Z h b k .byte (2 : Int32) [(.int (own_lb d0)), (.int (own_hb d0))] (.int (0 : Int32))))
set_option maxRecDepth 65536 in
set_option maxHeartbeats 40000000 in
theorem rm_iv1 (l : Launch) (Z : State) (a0 : Array Value) (hw : ∀ d ∈ tables_1, d.before a0 Z = true) (ws : List Jvm.Cond) (a1 aq : Addr) (kq : ClassId) (cs : Int32) (d0 : Int32) (h0 : Heap) (n0 : Nat) (Z0 : n0 ≤ h0.size) (S_C : Sta Z h0 "java/lang/String" "COMPACT_STRINGS" "Z" (.int cs)) (hcs : ¬ cs = 0) (S_A : Sta Z h0 "java/lang/StringUTF16" "$assertionsDisabled" "Z" (.int (1 : Int32))) (S_H : Sta Z h0 "java/lang/StringUTF16" "HI_BYTE_SHIFT" "I" (.int (0 : Int32))) (S_L : Sta Z h0 "java/lang/StringUTF16" "LO_BYTE_SHIFT" "I" (.int (8 : Int32))) (u1 u2 : Value) (E_a1 : Exa Z h0 a1 "java/lang/String") (F_c : Fld Z h0 a1 "java/lang/String" "coder" "B" u1) (F_v : Fld Z h0 a1 "java/lang/String" "value" "[B" u2) (A_aq : Arv Z h0 aq kq .char (1 : Int32) [(.int d0)] (.int (0 : Int32))) (n1q : a1 ≠ aq) (bd0 : own_c16 d0) (z_a1 : n0 ≤ a1) : own_Met l Z ⟨"java/lang/String", "<init>", "([CIILjava/lang/Void;)V"⟩ jdk_42_method_149_code 6 none ws ⟨4, 2, 3, 77⟩ #[(.ref a1), (.ref aq), (.int (0 : Int32)), (.int (1 : Int32)), .null] h0 (Q_iv1 Z a1 aq kq cs d0 h0 n0) := by
  refine own_met n0 own_pn_java_lang_String (fun m => ef6RRIIN m a1 aq (0 : Int32) (1 : Int32)) ?_
  intro p e s m below meth c T lc hret hx hZ hby hml hown hnm hlk X eT N
  have Kp : Keep h0 h0 [a1] := Keep.refl _ _
  refine own_aloadN X hx (hb hby own9_0) (pc' := 1) rfl rfl rfl ?_
  refine own_initO X hx hZ hown (own_w hw 19 rfl) (own_w hw 20 rfl) (own_w hw 21 rfl) eT (by rw [hml]; rfl) (hb hby own9_1) (pc' := 4) rfl (by decide) (W := 0) (Nat.le_of_eq rfl) (by decide) ?_
  intro T X eT
  refine own_iloadN X hx (hb hby own9_4) (pc' := 5) rfl rfl ?_
  refine own_ifY X hx (hb hby own9_5) (by decide) (pc' := 27) rfl (show ¬ ((1 : Int32) = (0 : Int32)) from (by decide)) ?_
  refine own_getS X hx hZ hown (host := "") (Or.inl (own_w hw 49 rfl)) Via.refl eT S_C (hb hby own9_27) (pc' := 30) rfl ?_
  intro T X eT
  refine own_ifN X hx (hb hby own9_30) (pc' := 33) rfl (show ¬ (cs = (0 : Int32)) from hcs) ?_
  refine own_aloadN X hx (hb hby own9_33) (pc' := 34) rfl rfl rfl ?_
  refine own_iloadN X hx (hb hby own9_34) (pc' := 35) rfl rfl ?_
  refine own_iloadN X hx (hb hby own9_35) (pc' := 36) rfl rfl ?_
  refine own_callS X hx hZ [(.ref aq), (.int (0 : Int32)), (.int (1 : Int32))] hown (own_w hw 74 rfl) (own_w hw 75 rfl) (own_w hw 76 rfl) (own_w hw 77 rfl) (by decide) (rm_cc1 l Z a0 hw [] aq kq d0 h0 n0 Z0 S_A S_H S_L A_aq bd0) eT (W := 0) (by decide) (by decide) (cells' := 2) (slots' := 3) rfl rfl (by decide) (by decide) (by rw [hml]; rfl) (lenOf own_pd_285bCII295bB rfl) rfl (S := []) rfl (Nat.le_of_eq rfl) (hb hby own9_36) (pc' := 39) rfl ?_
  intro v T h1 L lc X eT hq fN
  obtain ⟨bb, kb, rfl, Nq, Kq, hbb, hv⟩ := hq
  have N := fN _ N Nq
  have lt_a1_bb : a1 < bb := Nat.lt_of_lt_of_le E_a1.lt hbb
  have ne_a1_bb : a1 ≠ bb := Nat.ne_of_lt lt_a1_bb
  have lt_aq_bb : aq < bb := Nat.lt_of_lt_of_le A_aq.lt hbb
  have ne_aq_bb : aq ≠ bb := Nat.ne_of_lt lt_aq_bb
  have z_bb : n0 ≤ bb := Nat.le_trans Z0 hbb
  have s_bb : h0.size ≤ bb := Nat.le_trans Kp.1 hbb
  have S_C := own_sta_keep S_C Kq ns0
  have S_A := own_sta_keep S_A Kq ns0
  have S_H := own_sta_keep S_H Kq ns0
  have S_L := own_sta_keep S_L Kq ns0
  have E_a1 := E_a1.keep Kq
  have F_c := F_c.keep Kq nin0
  have F_v := F_v.keep Kq nin0
  have A_aq := A_aq.keep Kq nin0
  have Z0 := Nat.le_trans Z0 Kq.1
  have Kp := Kp.trans Kq all0
  rcases hv with ⟨hall, A_bb⟩ | A_bb
  · show own_W _ _ _ _ _ _ _ _ [(.ref bb)]
    refine own_astore X hx (hb hby own9_39) (pc' := 41) rfl rfl (Ls' := #[.val (.ref a1), .val (.ref aq), .val (.int (0 : Int32)), .val (.int (1 : Int32)), .val .null, .val (.ref bb)]) rfl ?_
    refine own_aloadN X hx (hb hby own9_41) (pc' := 42) rfl rfl rfl ?_
    refine own_aload X hx (hb hby own9_42) (pc' := 44) rfl rfl rfl ?_
    refine own_iloadN X hx (hb hby own9_44) (pc' := 45) rfl rfl ?_
    refine own_callS X hx hZ [(.ref bb), (.int (1 : Int32))] hown (own_w hw 81 rfl) (own_w hw 82 rfl) (own_w hw 76 rfl) (own_w hw 83 rfl) (by decide) (rm_cf1 l Z a0 hw [] bb h1 n0 Z0 _ _ A_bb) eT (W := 1) (by decide) (by decide) (cells' := 2) (slots' := 3) rfl rfl (by decide) (by decide) (by rw [hml]; rfl) (lenOf own_pd_285bBI29B rfl) rfl (S := [(.ref a1)]) rfl (Nat.le_of_eq rfl) (hb hby own9_45) (pc' := 48) rfl ?_
    intro v T h2 L lc X eT hq fN
    obtain ⟨rfl, Nq, hqe⟩ := hq
    have N := fN _ N Nq
    rw [hqe] at eT
    show own_W _ _ _ _ _ _ _ _ [(.int (0 : Int32)), (.ref a1)]
    refine own_putF X hx hZ hown (own_w hw 29 rfl) Via.refl eT F_c E_a1 (Or.inr ⟨(own_w hw 25 rfl), rfl, hnm⟩) (own_w hw 9 rfl) (ty := .byte) (v' := (.int (0 : Int32))) (by decide) rfl rfl (hb hby own9_48) (pc' := 51) rfl ?_
    intro T h3 lc X eT Wq fN
    have F_c := F_c.same Wq
    have S_C := S_C.wr Wq
    have S_A := S_A.wr Wq
    have S_H := S_H.wr Wq
    have S_L := S_L.wr Wq
    have E_a1 := E_a1.wr Wq
    have F_v := F_v.other Wq (Or.inr (slot_ne (Or.inr (own_w hw 24 rfl)) (Or.inr (own_w hw 25 rfl)) (by decide) (t := (.array .byte)) (t' := .byte) (by decide) (by decide)))
    have A_aq := A_aq.other Wq (Ne.symm n1q)
    have A_bb := A_bb.other Wq (Ne.symm ne_a1_bb)
    have Z0 := Nat.le_trans Z0 (Keep.of_wr Wq).1
    have N := fN _ z_a1 N
    have Kp := Kp.wr Wq (Or.inl (List.mem_of_getElem? (i := 0) rfl))
    refine own_aloadN X hx (hb hby own9_51) (pc' := 52) rfl rfl rfl ?_
    refine own_aload X hx (hb hby own9_52) (pc' := 54) rfl rfl rfl ?_
    refine own_putF X hx hZ hown (own_w hw 28 rfl) Via.refl eT F_v E_a1 (Or.inr ⟨(own_w hw 24 rfl), rfl, hnm⟩) (own_w hw 9 rfl) (ty := (.array .byte)) (v' := (.ref bb)) (by decide) rfl rfl (hb hby own9_54) (pc' := 57) rfl ?_
    intro T h4 lc X eT Wq fN
    have F_v := F_v.same Wq
    have S_C := S_C.wr Wq
    have S_A := S_A.wr Wq
    have S_H := S_H.wr Wq
    have S_L := S_L.wr Wq
    have E_a1 := E_a1.wr Wq
    have A_aq := A_aq.other Wq (Ne.symm n1q)
    have A_bb := A_bb.other Wq (Ne.symm ne_a1_bb)
    have F_c := F_c.other Wq (Or.inr (slot_ne (Or.inr (own_w hw 25 rfl)) (Or.inr (own_w hw 24 rfl)) (by decide) (t := .byte) (t' := (.array .byte)) (by decide) (by decide)))
    have Z0 := Nat.le_trans Z0 (Keep.of_wr Wq).1
    have N := fN _ z_a1 N
    have Kp := Kp.wr Wq (Or.inl (List.mem_of_getElem? (i := 0) rfl))
    refine own_ret0 X hx hlk hret (hb hby own9_57) (by decide) (by decide) ?_
    rw [eT]
    exact ⟨rfl, N, Kp, bb, kb, s_bb, F_v, Or.inl ⟨F_c, hall, A_bb⟩⟩
  · show own_W _ _ _ _ _ _ _ _ [(.ref bb)]
    refine own_astore X hx (hb hby own9_39) (pc' := 41) rfl rfl (Ls' := #[.val (.ref a1), .val (.ref aq), .val (.int (0 : Int32)), .val (.int (1 : Int32)), .val .null, .val (.ref bb)]) rfl ?_
    refine own_aloadN X hx (hb hby own9_41) (pc' := 42) rfl rfl rfl ?_
    refine own_aload X hx (hb hby own9_42) (pc' := 44) rfl rfl rfl ?_
    refine own_iloadN X hx (hb hby own9_44) (pc' := 45) rfl rfl ?_
    refine own_callS X hx hZ [(.ref bb), (.int (1 : Int32))] hown (own_w hw 81 rfl) (own_w hw 82 rfl) (own_w hw 76 rfl) (own_w hw 83 rfl) (by decide) (rm_cu1 l Z a0 hw [] bb h1 n0 Z0 _ _ A_bb) eT (W := 1) (by decide) (by decide) (cells' := 2) (slots' := 3) rfl rfl (by decide) (by decide) (by rw [hml]; rfl) (lenOf own_pd_285bBI29B rfl) rfl (S := [(.ref a1)]) rfl (Nat.le_of_eq rfl) (hb hby own9_45) (pc' := 48) rfl ?_
    intro v T h5 L lc X eT hq fN
    obtain ⟨rfl, Nq, hqe⟩ := hq
    have N := fN _ N Nq
    rw [hqe] at eT
    show own_W _ _ _ _ _ _ _ _ [(.int (1 : Int32)), (.ref a1)]
    refine own_putF X hx hZ hown (own_w hw 29 rfl) Via.refl eT F_c E_a1 (Or.inr ⟨(own_w hw 25 rfl), rfl, hnm⟩) (own_w hw 9 rfl) (ty := .byte) (v' := (.int (1 : Int32))) (by decide) rfl rfl (hb hby own9_48) (pc' := 51) rfl ?_
    intro T h6 lc X eT Wq fN
    have F_c := F_c.same Wq
    have S_C := S_C.wr Wq
    have S_A := S_A.wr Wq
    have S_H := S_H.wr Wq
    have S_L := S_L.wr Wq
    have E_a1 := E_a1.wr Wq
    have F_v := F_v.other Wq (Or.inr (slot_ne (Or.inr (own_w hw 24 rfl)) (Or.inr (own_w hw 25 rfl)) (by decide) (t := (.array .byte)) (t' := .byte) (by decide) (by decide)))
    have A_aq := A_aq.other Wq (Ne.symm n1q)
    have A_bb := A_bb.other Wq (Ne.symm ne_a1_bb)
    have Z0 := Nat.le_trans Z0 (Keep.of_wr Wq).1
    have N := fN _ z_a1 N
    have Kp := Kp.wr Wq (Or.inl (List.mem_of_getElem? (i := 0) rfl))
    refine own_aloadN X hx (hb hby own9_51) (pc' := 52) rfl rfl rfl ?_
    refine own_aload X hx (hb hby own9_52) (pc' := 54) rfl rfl rfl ?_
    refine own_putF X hx hZ hown (own_w hw 28 rfl) Via.refl eT F_v E_a1 (Or.inr ⟨(own_w hw 24 rfl), rfl, hnm⟩) (own_w hw 9 rfl) (ty := (.array .byte)) (v' := (.ref bb)) (by decide) rfl rfl (hb hby own9_54) (pc' := 57) rfl ?_
    intro T h7 lc X eT Wq fN
    have F_v := F_v.same Wq
    have S_C := S_C.wr Wq
    have S_A := S_A.wr Wq
    have S_H := S_H.wr Wq
    have S_L := S_L.wr Wq
    have E_a1 := E_a1.wr Wq
    have A_aq := A_aq.other Wq (Ne.symm n1q)
    have A_bb := A_bb.other Wq (Ne.symm ne_a1_bb)
    have F_c := F_c.other Wq (Or.inr (slot_ne (Or.inr (own_w hw 25 rfl)) (Or.inr (own_w hw 24 rfl)) (by decide) (t := .byte) (t' := (.array .byte)) (by decide) (by decide)))
    have Z0 := Nat.le_trans Z0 (Keep.of_wr Wq).1
    have N := fN _ z_a1 N
    have Kp := Kp.wr Wq (Or.inl (List.mem_of_getElem? (i := 0) rfl))
    refine own_ret0 X hx hlk hret (hb hby own9_57) (by decide) (by decide) ?_
    rw [eT]
    exact ⟨rfl, N, Kp, bb, kb, s_bb, F_v, Or.inr ⟨F_c, A_bb⟩⟩
theorem ef2RR (m : MethodId) (x0 : Addr) (x1 : Addr) : entryFrame m #[(.ref x0), (.ref x1)] 2 = mkF m 0 #[.val (.ref x0), .val (.ref x1)] [] := by first | (simp [entryFrame, mkF, argsToLocals, Value.category]; done) | rfl
def Q_ic1 (Z : State) (a1 aq : Addr) (kq : ClassId) (cs : Int32) (d0 : Int32) (h0 : Heap) (n0 : Nat) (v : Option Value) (h : Heap) (L : List Loc) : Prop := v = none ∧ Fr n0 L ∧ Keep h0 h [a1] ∧ ∃ (b : Addr) (k : ClassId), h0.size ≤ b ∧ Fld Z h a1 "java/lang/String" "value" "[B" (.ref b) ∧ ((Fld Z h a1 "java/lang/String" "coder" "B" (.int (0 : Int32)) ∧ (¬ ((255 : Int32) < d0)) ∧ Arv Z h b k .byte (1 : Int32) [(.int (nar .byte d0.toInt8.toInt32))] (.int (0 : Int32))) ∨ (Fld Z h a1 "java/lang/String" "coder" "B" (.int (1 : Int32)) ∧ Arv Z h b k .byte (2 : Int32) [(.int (own_lb d0)), (.int (own_hb d0))] (.int (0 : Int32))))
set_option maxRecDepth 65536 in
set_option maxHeartbeats 40000000 in
theorem rm_ic1 (l : Launch) (Z : State) (a0 : Array Value) (hw : ∀ d ∈ tables_1, d.before a0 Z = true) (ws : List Jvm.Cond) (a1 aq : Addr) (kq : ClassId) (cs : Int32) (d0 : Int32) (h0 : Heap) (n0 : Nat) (Z0 : n0 ≤ h0.size) (S_C : Sta Z h0 "java/lang/String" "COMPACT_STRINGS" "Z" (.int cs)) (hcs : ¬ cs = 0) (S_A : Sta Z h0 "java/lang/StringUTF16" "$assertionsDisabled" "Z" (.int (1 : Int32))) (S_H : Sta Z h0 "java/lang/StringUTF16" "HI_BYTE_SHIFT" "I" (.int (0 : Int32))) (S_L : Sta Z h0 "java/lang/StringUTF16" "LO_BYTE_SHIFT" "I" (.int (8 : Int32))) (u1 u2 : Value) (E_a1 : Exa Z h0 a1 "java/lang/String") (F_c : Fld Z h0 a1 "java/lang/String" "coder" "B" u1) (F_v : Fld Z h0 a1 "java/lang/String" "value" "[B" u2) (A_aq : Arv Z h0 aq kq .char (1 : Int32) [(.int d0)] (.int (0 : Int32))) (n1q : a1 ≠ aq) (bd0 : own_c16 d0) (z_a1 : n0 ≤ a1) : own_Met l Z ⟨"java/lang/String", "<init>", "([C)V"⟩ jdk_42_method_3_code 2 none ws ⟨5, 2, 3, 99⟩ #[(.ref a1), (.ref aq)] h0 (Q_ic1 Z a1 aq kq cs d0 h0 n0) := by
  refine own_met n0 own_pn_java_lang_String (fun m => ef2RR m a1 aq) ?_
  intro p e s m below meth c T lc hret hx hZ hby hml hown hnm hlk X eT N
  refine own_aloadN X hx (hb hby own10_0) (pc' := 1) rfl rfl rfl ?_
  refine own_aloadN X hx (hb hby own10_1) (pc' := 2) rfl rfl rfl ?_
  refine own_iconst X hx (0 : Int32) (hb hby own10_2) (pc' := 3) rfl rfl ?_
  refine own_aloadN X hx (hb hby own10_3) (pc' := 4) rfl rfl rfl ?_
  refine own_arrlen X hx hZ eT A_aq (hb hby own10_4) (pc' := 5) rfl ?_
  refine own_aconst_null X hx (hb hby own10_5) (pc' := 6) rfl ?_
  refine own_callN X hx hZ a1 [(.ref aq), (.int (0 : Int32)), (.int (1 : Int32)), .null] rfl hown (own_w hw 15 rfl) (own_w hw 16 rfl) (own_w hw 10 rfl) (own_w hw 18 rfl) (by decide) (rm_iv1 l Z a0 hw [] a1 aq kq cs d0 h0 n0 Z0 S_C hcs S_A S_H S_L _ _ E_a1 F_c F_v A_aq n1q bd0 z_a1) eT (W := 0) (by decide) (by decide) (cells' := 2) (slots' := 3) rfl rfl (by decide) (by decide) (by rw [hml]; rfl) (lenOf own_pd_285bCIILjava2flang2fVoid3b29V rfl) rfl (S := []) rfl (Nat.le_of_eq rfl) (hb hby own10_6) (pc' := 9) rfl ?_
  intro v T h1 L lc X eT hq fN
  obtain ⟨rfl, Nq, Kq, bb, kb, hbb, F_v2, hcd⟩ := hq
  have N := fN _ N Nq
  show own_W _ _ _ _ _ _ _ _ []
  refine own_ret0 X hx hlk hret (hb hby own10_9) (by decide) (by decide) ?_
  rw [eT]
  exact ⟨rfl, N, Kq, bb, kb, hbb, F_v2, hcd⟩
def Q_ci2 (Z : State) (aq ad : Addr) (kq kd : ClassId) (d0 d1 : Int32) (h0 : Heap) (n0 : Nat) (v : Option Value) (h : Heap) (L : List Loc) : Prop := Fr n0 L ∧ Keep h0 h [ad] ∧ ((v = some (.int (2 : Int32)) ∧ (¬ ((255 : Int32) < d0) ∧ ¬ ((255 : Int32) < d1)) ∧ Arv Z h ad kd .byte (2 : Int32) [(.int (nar .byte d0.toInt8.toInt32)), (.int (nar .byte d1.toInt8.toInt32))] (.int (0 : Int32))) ∨ (v = some (.int (0 : Int32)) ∧ (255 : Int32) < d0) ∨ (v = some (.int (1 : Int32)) ∧ (255 : Int32) < d1))
set_option maxRecDepth 65536 in
set_option maxHeartbeats 40000000 in
theorem rm_ci2 (l : Launch) (Z : State) (a0 : Array Value) (hw : ∀ d ∈ tables_1, d.before a0 Z = true) (ws : List Jvm.Cond) (aq ad : Addr) (kq kd : ClassId) (d0 d1 : Int32) (h0 : Heap) (n0 : Nat) (Z0 : n0 ≤ h0.size) (A_aq : Arv Z h0 aq kq .char (2 : Int32) [(.int d0), (.int d1)] (.int (0 : Int32))) (A_ad : Arv Z h0 ad kd .byte (2 : Int32) [(.int (0 : Int32)), (.int (0 : Int32))] (.int (0 : Int32))) (nqd : aq ≠ ad) (z_ad : n0 ≤ ad) : own_Met l Z ⟨"java/lang/StringUTF16", "compress", "([CI[BII)I"⟩ jdk_52_method_21_code 7 (some .int) ws ⟨0, 0, 0, 0⟩ #[(.ref aq), (.int (0 : Int32)), (.ref ad), (.int (0 : Int32)), (.int (2 : Int32))] h0 (Q_ci2 Z aq ad kq kd d0 d1 h0 n0) := by
  refine own_met n0 own_pn_java_lang_StringUTF16 (fun m => ef7RIRII m aq (0 : Int32) ad (0 : Int32) (2 : Int32)) ?_
  intro p e s m below meth c T lc hret hx hZ hby hml hown hnm hlk X eT N
  have Kp : Keep h0 h0 [ad] := Keep.refl _ _
  refine own_iconst X hx (0 : Int32) (hb hby own11_0) (pc' := 1) rfl rfl ?_
  refine own_istore X hx (hb hby own11_1) (pc' := 3) rfl (Ls' := #[.val (.ref aq), .val (.int (0 : Int32)), .val (.ref ad), .val (.int (0 : Int32)), .val (.int (2 : Int32)), .val (.int (0 : Int32)), .unset]) rfl ?_
  refine own_iload X hx (hb hby own11_3) (pc' := 5) rfl rfl ?_
  refine own_iload X hx (hb hby own11_5) (pc' := 7) rfl rfl ?_
  refine own_icmpN X hx (hb hby own11_7) (pc' := 10) rfl (show (0 : Int32) < (2 : Int32) from (by decide)) ?_
  refine own_aloadN X hx (hb hby own11_10) (pc' := 11) rfl rfl rfl ?_
  refine own_iloadN X hx (hb hby own11_11) (pc' := 12) rfl rfl ?_
  refine own_caload X hx hZ eT A_aq (v := (.int d0)) (by decide) rfl (hb hby own11_12) (pc' := 13) rfl ?_
  refine own_istore X hx (hb hby own11_13) (pc' := 15) rfl (Ls' := #[.val (.ref aq), .val (.int (0 : Int32)), .val (.ref ad), .val (.int (0 : Int32)), .val (.int (2 : Int32)), .val (.int (0 : Int32)), .val (.int d0)]) rfl ?_
  refine own_iload X hx (hb hby own11_15) (pc' := 17) rfl rfl ?_
  refine own_sipush X hx (255 : Int32) (hb hby own11_17) (pc' := 20) rfl rfl ?_
  refine own_icmp X hx (hb hby own11_20) (by decide) (pcY := 26) (pcN := 23) rfl rfl (fun (hc20 : ¬ ((255 : Int32) < d0)) => ?_) (fun (hc20 : (255 : Int32) < d0) => ?_)
  · refine own_aloadN X hx (hb hby own11_26) (pc' := 27) rfl rfl rfl ?_
    refine own_iloadN X hx (hb hby own11_27) (pc' := 28) rfl rfl ?_
    refine own_iload X hx (hb hby own11_28) (pc' := 30) rfl rfl ?_
    refine own_i2b X hx (hb hby own11_30) (pc' := 31) rfl ?_
    refine own_bastoreB X hx hZ eT A_ad (by decide) 0 rfl (by show 0 < 2; decide) (hb hby own11_31) (pc' := 32) rfl ?_
    intro T h1 lc X eT Kq A_adn fN
    have A_aq := A_aq.keep Kq (ninS nqd nin0)
    have Z0 := Nat.le_trans Z0 Kq.1
    have A_ad := A_adn
    have N := fN _ z_ad N
    have Kp := Kp.trans Kq (allS (P := fun x => x ∈ [ad] ∨ h0.size ≤ x) (Or.inl (List.mem_of_getElem? (i := 0) rfl)) all0)
    have A_ad : Arv Z h1 ad _ .byte (2 : Int32) [(.int (nar .byte d0.toInt8.toInt32)), (.int (0 : Int32))] (.int (0 : Int32)) := A_ad
    refine own_iinc X hx (1 : Int32) (hb hby own11_32) (pc' := 35) rfl rfl rfl (Ls' := #[.val (.ref aq), .val (.int (1 : Int32)), .val (.ref ad), .val (.int (0 : Int32)), .val (.int (2 : Int32)), .val (.int (0 : Int32)), .val (.int d0)]) rfl ?_
    refine own_iinc X hx (1 : Int32) (hb hby own11_35) (pc' := 38) rfl rfl rfl (Ls' := #[.val (.ref aq), .val (.int (1 : Int32)), .val (.ref ad), .val (.int (1 : Int32)), .val (.int (2 : Int32)), .val (.int (0 : Int32)), .val (.int d0)]) rfl ?_
    refine own_iinc X hx (1 : Int32) (hb hby own11_38) (pc' := 41) rfl rfl rfl (Ls' := #[.val (.ref aq), .val (.int (1 : Int32)), .val (.ref ad), .val (.int (1 : Int32)), .val (.int (2 : Int32)), .val (.int (1 : Int32)), .val (.int d0)]) rfl ?_
    refine own_goto X hx (hb hby own11_41) (by decide) (pc' := 3) rfl ?_
    refine own_iload X hx (hb hby own11_3) (pc' := 5) rfl rfl ?_
    refine own_iload X hx (hb hby own11_5) (pc' := 7) rfl rfl ?_
    refine own_icmpN X hx (hb hby own11_7) (pc' := 10) rfl (show (1 : Int32) < (2 : Int32) from (by decide)) ?_
    refine own_aloadN X hx (hb hby own11_10) (pc' := 11) rfl rfl rfl ?_
    refine own_iloadN X hx (hb hby own11_11) (pc' := 12) rfl rfl ?_
    refine own_caload X hx hZ eT A_aq (v := (.int d1)) (by decide) rfl (hb hby own11_12) (pc' := 13) rfl ?_
    refine own_istore X hx (hb hby own11_13) (pc' := 15) rfl (Ls' := #[.val (.ref aq), .val (.int (1 : Int32)), .val (.ref ad), .val (.int (1 : Int32)), .val (.int (2 : Int32)), .val (.int (1 : Int32)), .val (.int d1)]) rfl ?_
    refine own_iload X hx (hb hby own11_15) (pc' := 17) rfl rfl ?_
    refine own_sipush X hx (255 : Int32) (hb hby own11_17) (pc' := 20) rfl rfl ?_
    refine own_icmp X hx (hb hby own11_20) (by decide) (pcY := 26) (pcN := 23) rfl rfl (fun (hc20_2 : ¬ ((255 : Int32) < d1)) => ?_) (fun (hc20_2 : (255 : Int32) < d1) => ?_)
    · refine own_aloadN X hx (hb hby own11_26) (pc' := 27) rfl rfl rfl ?_
      refine own_iloadN X hx (hb hby own11_27) (pc' := 28) rfl rfl ?_
      refine own_iload X hx (hb hby own11_28) (pc' := 30) rfl rfl ?_
      refine own_i2b X hx (hb hby own11_30) (pc' := 31) rfl ?_
      refine own_bastoreB X hx hZ eT A_ad (by decide) 1 rfl (by show 1 < 2; decide) (hb hby own11_31) (pc' := 32) rfl ?_
      intro T h2 lc X eT Kq A_adn fN
      have A_aq := A_aq.keep Kq (ninS nqd nin0)
      have Z0 := Nat.le_trans Z0 Kq.1
      have A_ad := A_adn
      have N := fN _ z_ad N
      have Kp := Kp.trans Kq (allS (P := fun x => x ∈ [ad] ∨ h0.size ≤ x) (Or.inl (List.mem_of_getElem? (i := 0) rfl)) all0)
      have A_ad : Arv Z h2 ad _ .byte (2 : Int32) [(.int (nar .byte d0.toInt8.toInt32)), (.int (nar .byte d1.toInt8.toInt32))] (.int (0 : Int32)) := A_ad
      refine own_iinc X hx (1 : Int32) (hb hby own11_32) (pc' := 35) rfl rfl rfl (Ls' := #[.val (.ref aq), .val (.int (2 : Int32)), .val (.ref ad), .val (.int (1 : Int32)), .val (.int (2 : Int32)), .val (.int (1 : Int32)), .val (.int d1)]) rfl ?_
      refine own_iinc X hx (1 : Int32) (hb hby own11_35) (pc' := 38) rfl rfl rfl (Ls' := #[.val (.ref aq), .val (.int (2 : Int32)), .val (.ref ad), .val (.int (2 : Int32)), .val (.int (2 : Int32)), .val (.int (1 : Int32)), .val (.int d1)]) rfl ?_
      refine own_iinc X hx (1 : Int32) (hb hby own11_38) (pc' := 41) rfl rfl rfl (Ls' := #[.val (.ref aq), .val (.int (2 : Int32)), .val (.ref ad), .val (.int (2 : Int32)), .val (.int (2 : Int32)), .val (.int (2 : Int32)), .val (.int d1)]) rfl ?_
      refine own_goto X hx (hb hby own11_41) (by decide) (pc' := 3) rfl ?_
      refine own_iload X hx (hb hby own11_3) (pc' := 5) rfl rfl ?_
      refine own_iload X hx (hb hby own11_5) (pc' := 7) rfl rfl ?_
      refine own_icmpY X hx (hb hby own11_7) (by decide) (pc' := 44) rfl (show ¬ ((2 : Int32) < (2 : Int32)) from (by decide)) ?_
      refine own_iload X hx (hb hby own11_44) (pc' := 46) rfl rfl ?_
      refine own_retI X hx hlk (t := .int) (w' := (.int (2 : Int32))) hret (hb hby own11_46) rfl rfl (by simp) (by decide) (by decide) ?_
      rw [eT]
      exact ⟨N, Kp, Or.inl ⟨rfl, ⟨hc20, hc20_2⟩, A_ad⟩⟩
    · refine own_iload X hx (hb hby own11_23) (pc' := 25) rfl rfl ?_
      refine own_retI X hx hlk (t := .int) (w' := (.int (1 : Int32))) hret (hb hby own11_25) rfl rfl (by simp) (by decide) (by decide) ?_
      rw [eT]
      exact ⟨N, Kp, Or.inr (Or.inr (⟨rfl, hc20_2⟩))⟩
  · refine own_iload X hx (hb hby own11_23) (pc' := 25) rfl rfl ?_
    refine own_retI X hx hlk (t := .int) (w' := (.int (0 : Int32))) hret (hb hby own11_25) rfl rfl (by simp) (by decide) (by decide) ?_
    rw [eT]
    exact ⟨N, Kp, Or.inr (Or.inl ⟨rfl, hc20⟩)⟩
def Q_cc2 (Z : State) (aq : Addr) (kq : ClassId) (d0 d1 : Int32) (h0 : Heap) (n0 : Nat) (v : Option Value) (h : Heap) (L : List Loc) : Prop := ∃ (b : Addr) (kb : ClassId), v = some (.ref b) ∧ Fr n0 L ∧ Keep h0 h [] ∧ h0.size ≤ b ∧ (((¬ ((255 : Int32) < d0) ∧ ¬ ((255 : Int32) < d1)) ∧ Arv Z h b kb .byte (2 : Int32) [(.int (nar .byte d0.toInt8.toInt32)), (.int (nar .byte d1.toInt8.toInt32))] (.int (0 : Int32))) ∨ Arv Z h b kb .byte (4 : Int32) [(.int (own_lb d0)), (.int (own_hb d0)), (.int (own_lb d1)), (.int (own_hb d1))] (.int (0 : Int32)))
set_option maxRecDepth 65536 in
set_option maxHeartbeats 40000000 in
theorem rm_cc2 (l : Launch) (Z : State) (a0 : Array Value) (hw : ∀ d ∈ tables_1, d.before a0 Z = true) (ws : List Jvm.Cond) (aq : Addr) (kq : ClassId) (d0 d1 : Int32) (h0 : Heap) (n0 : Nat) (Z0 : n0 ≤ h0.size) (S_A : Sta Z h0 "java/lang/StringUTF16" "$assertionsDisabled" "Z" (.int (1 : Int32))) (S_H : Sta Z h0 "java/lang/StringUTF16" "HI_BYTE_SHIFT" "I" (.int (0 : Int32))) (S_L : Sta Z h0 "java/lang/StringUTF16" "LO_BYTE_SHIFT" "I" (.int (8 : Int32))) (A_aq : Arv Z h0 aq kq .char (2 : Int32) [(.int d0), (.int d1)] (.int (0 : Int32))) (bd0 : own_c16 d0) (bd1 : own_c16 d1) : own_Met l Z ⟨"java/lang/StringUTF16", "compress", "([CII)[B"⟩ jdk_52_method_16_code 6 (some (.array .byte)) ws ⟨3, 2, 6, 55⟩ #[(.ref aq), (.int (0 : Int32)), (.int (2 : Int32))] h0 (Q_cc2 Z aq kq d0 d1 h0 n0) := by
  refine own_met n0 own_pn_java_lang_StringUTF16 (fun m => ef6RII m aq (0 : Int32) (2 : Int32)) ?_
  intro p e s m below meth c T lc hret hx hZ hby hml hown hnm hlk X eT N
  have Kp : Keep h0 h0 [] := Keep.refl _ _
  refine own_iloadN X hx (hb hby own12_0) (pc' := 1) rfl rfl ?_
  refine own_newarr X hx hZ (own_w hw 23 rfl) eT (hb hby own12_1) (pc' := 3) rfl (by decide) 2 (by decide) (by decide) (cells' := 1) (slots' := 2) rfl rfl (by decide) (by decide) ?_
  intro T h1 k_b1 b1 X eT E gb1 A_b1
  have lt_aq_b1 : aq < b1 := Nat.lt_of_lt_of_le A_aq.lt (Nat.le_of_eq gb1.symm)
  have ne_aq_b1 : aq ≠ b1 := Nat.ne_of_lt lt_aq_b1
  have z_b1 : n0 ≤ b1 := Nat.le_trans Z0 (Nat.le_of_eq gb1.symm)
  have s_b1 : h0.size ≤ b1 := Nat.le_trans Kp.1 (Nat.le_of_eq gb1.symm)
  have S_A := S_A.ext E
  have S_H := S_H.ext E
  have S_L := S_L.ext E
  have A_aq := A_aq.ext E
  have Z0 := Nat.le_trans Z0 E.1
  have Kp := Kp.ext E
  have A_b1 : Arv Z h1 b1 k_b1 .byte (2 : Int32) [(.int (0 : Int32)), (.int (0 : Int32))] (.int (0 : Int32)) := A_b1.pad (pad_rep [] (.int (0 : Int32)) 2)
  refine own_astoreN X hx (hb hby own12_3) (pc' := 4) rfl rfl (Ls' := #[.val (.ref aq), .val (.int (0 : Int32)), .val (.int (2 : Int32)), .val (.ref b1), .unset, .unset]) rfl ?_
  refine own_aloadN X hx (hb hby own12_4) (pc' := 5) rfl rfl rfl ?_
  refine own_iloadN X hx (hb hby own12_5) (pc' := 6) rfl rfl ?_
  refine own_aloadN X hx (hb hby own12_6) (pc' := 7) rfl rfl rfl ?_
  refine own_iconst X hx (0 : Int32) (hb hby own12_7) (pc' := 8) rfl rfl ?_
  refine own_iloadN X hx (hb hby own12_8) (pc' := 9) rfl rfl ?_
  refine own_callS X hx hZ [(.ref aq), (.int (0 : Int32)), (.ref b1), (.int (0 : Int32)), (.int (2 : Int32))] hown (own_w hw 78 rfl) (own_w hw 79 rfl) (own_w hw 76 rfl) (own_w hw 80 rfl) (by decide) (rm_ci2 l Z a0 hw [] aq b1 _ _ d0 d1 h1 n0 Z0 A_aq A_b1 ne_aq_b1 z_b1) eT (W := 0) (by decide) (by decide) (cells' := 1) (slots' := 2) rfl rfl (by decide) (by decide) (by rw [hml]; rfl) (lenOf own_pd_285bCI5bBII29I rfl) rfl (S := []) rfl (Nat.le_of_eq rfl) (hb hby own12_9) (pc' := 12) rfl ?_
  intro v T h2 L lc X eT hq fN
  obtain ⟨Nq, Kq, hv⟩ := hq
  have N := fN _ N Nq
  have S_A := own_sta_keep S_A Kq (nsS (own_ns_arv A_b1) ns0)
  have S_H := own_sta_keep S_H Kq (nsS (own_ns_arv A_b1) ns0)
  have S_L := own_sta_keep S_L Kq (nsS (own_ns_arv A_b1) ns0)
  have A_aq := A_aq.keep Kq (ninS ne_aq_b1 nin0)
  have Z0 := Nat.le_trans Z0 Kq.1
  have Kp := Kp.trans Kq (allS (P := fun x => x ∈ ([] : List Addr) ∨ h0.size ≤ x) (Or.inr s_b1) all0)
  rcases hv with ⟨rfl, hall, B_b⟩ | ⟨rfl, hbig⟩ | ⟨rfl, hbig⟩
  · show own_W _ _ _ _ _ _ _ _ [(.int (2 : Int32))]
    refine own_istore X hx (hb hby own12_12) (pc' := 14) rfl (Ls' := #[.val (.ref aq), .val (.int (0 : Int32)), .val (.int (2 : Int32)), .val (.ref b1), .val (.int (2 : Int32)), .unset]) rfl ?_
    refine own_iload X hx (hb hby own12_14) (pc' := 16) rfl rfl ?_
    refine own_iloadN X hx (hb hby own12_16) (pc' := 17) rfl rfl ?_
    refine own_icmpY X hx (hb hby own12_17) (by decide) (pc' := 57) rfl (show (2 : Int32) = (2 : Int32) from (by decide)) ?_
    refine own_aloadN X hx (hb hby own12_57) (pc' := 58) rfl rfl rfl ?_
    refine own_retA X hx hlk hret (hb hby own12_58) rfl rfl rfl (by decide) (by decide) ?_
    rw [eT]
    exact ⟨_, _, rfl, N, Kp, s_b1, Or.inl ⟨hall, B_b⟩⟩
  · show own_W _ _ _ _ _ _ _ _ [(.int (0 : Int32))]
    refine own_istore X hx (hb hby own12_12) (pc' := 14) rfl (Ls' := #[.val (.ref aq), .val (.int (0 : Int32)), .val (.int (2 : Int32)), .val (.ref b1), .val (.int (0 : Int32)), .unset]) rfl ?_
    refine own_iload X hx (hb hby own12_14) (pc' := 16) rfl rfl ?_
    refine own_iloadN X hx (hb hby own12_16) (pc' := 17) rfl rfl ?_
    refine own_icmpN X hx (hb hby own12_17) (pc' := 20) rfl (show ¬ ((0 : Int32) = (2 : Int32)) from (by decide)) ?_
    refine own_aloadN X hx (hb hby own12_20) (pc' := 21) rfl rfl rfl ?_
    refine own_iloadN X hx (hb hby own12_21) (pc' := 22) rfl rfl ?_
    refine own_iloadN X hx (hb hby own12_22) (pc' := 23) rfl rfl ?_
    refine own_callS X hx hZ [(.ref aq), (.int (0 : Int32)), (.int (2 : Int32))] hown (own_w hw 90 rfl) (own_w hw 91 rfl) (own_w hw 76 rfl) (own_w hw 92 rfl) (by decide) (rm_tb2 l Z a0 hw [] aq _ d0 d1 h2 n0 Z0 S_A S_H S_L A_aq) eT (W := 0) (by decide) (by decide) (cells' := 2) (slots' := 6) rfl rfl (by decide) (by decide) (by rw [hml]; rfl) (lenOf own_pd_285bCII295bB rfl) rfl (S := []) rfl (Nat.le_of_eq rfl) (hb hby own12_23) (pc' := 26) rfl ?_
    intro v T h3 L lc X eT hq fN
    obtain ⟨cb, kc, rfl, Nq, Kq, hcb, A_cb⟩ := hq
    have N := fN _ N Nq
    have lt_aq_cb : aq < cb := Nat.lt_of_lt_of_le A_aq.lt hcb
    have ne_aq_cb : aq ≠ cb := Nat.ne_of_lt lt_aq_cb
    have z_cb : n0 ≤ cb := Nat.le_trans Z0 hcb
    have s_cb : h0.size ≤ cb := Nat.le_trans Kp.1 hcb
    have S_A := own_sta_keep S_A Kq ns0
    have S_H := own_sta_keep S_H Kq ns0
    have S_L := own_sta_keep S_L Kq ns0
    have A_aq := A_aq.keep Kq nin0
    have Z0 := Nat.le_trans Z0 Kq.1
    have Kp := Kp.trans Kq all0
    show own_W _ _ _ _ _ _ _ _ [(.ref cb)]
    refine own_astore X hx (hb hby own12_26) (pc' := 28) rfl rfl (Ls' := #[.val (.ref aq), .val (.int (0 : Int32)), .val (.int (2 : Int32)), .val (.ref b1), .val (.int (0 : Int32)), .val (.ref cb)]) rfl ?_
    refine own_aload X hx (hb hby own12_28) (pc' := 30) rfl rfl rfl ?_
    refine own_iload X hx (hb hby own12_30) (pc' := 32) rfl rfl ?_
    refine own_callS X hx hZ [(.ref cb), (.int (0 : Int32))] hown (own_w hw 106 rfl) (own_w hw 107 rfl) (own_w hw 76 rfl) (own_w hw 108 rfl) (by decide) (rm_gc2_0 l Z a0 hw [] cb _ d0 d1 h3 n0 Z0 S_A S_H S_L bd0 A_cb) eT (W := 0) (by decide) (by decide) (cells' := 2) (slots' := 6) rfl rfl (by decide) (by decide) (by rw [hml]; rfl) (lenOf own_pd_285bBI29C rfl) rfl (S := []) rfl (Nat.le_of_eq rfl) (hb hby own12_32) (pc' := 35) rfl ?_
    intro v T h4 L lc X eT hq fN
    obtain ⟨rfl, Nq, hqe⟩ := hq
    have N := fN _ N Nq
    rw [hqe] at eT
    show own_W _ _ _ _ _ _ _ _ [(.int d0)]
    refine own_sipush X hx (255 : Int32) (hb hby own12_35) (pc' := 38) rfl rfl ?_
    refine own_icmpY X hx (hb hby own12_38) (by decide) (pc' := 54) rfl (show (255 : Int32) < d0 from hbig) ?_
    refine own_aload X hx (hb hby own12_54) (pc' := 56) rfl rfl rfl ?_
    refine own_retA X hx hlk hret (hb hby own12_56) rfl rfl rfl (by decide) (by decide) ?_
    rw [eT]
    exact ⟨_, _, rfl, N, Kp, s_cb, Or.inr A_cb⟩
  · show own_W _ _ _ _ _ _ _ _ [(.int (1 : Int32))]
    refine own_istore X hx (hb hby own12_12) (pc' := 14) rfl (Ls' := #[.val (.ref aq), .val (.int (0 : Int32)), .val (.int (2 : Int32)), .val (.ref b1), .val (.int (1 : Int32)), .unset]) rfl ?_
    refine own_iload X hx (hb hby own12_14) (pc' := 16) rfl rfl ?_
    refine own_iloadN X hx (hb hby own12_16) (pc' := 17) rfl rfl ?_
    refine own_icmpN X hx (hb hby own12_17) (pc' := 20) rfl (show ¬ ((1 : Int32) = (2 : Int32)) from (by decide)) ?_
    refine own_aloadN X hx (hb hby own12_20) (pc' := 21) rfl rfl rfl ?_
    refine own_iloadN X hx (hb hby own12_21) (pc' := 22) rfl rfl ?_
    refine own_iloadN X hx (hb hby own12_22) (pc' := 23) rfl rfl ?_
    refine own_callS X hx hZ [(.ref aq), (.int (0 : Int32)), (.int (2 : Int32))] hown (own_w hw 90 rfl) (own_w hw 91 rfl) (own_w hw 76 rfl) (own_w hw 92 rfl) (by decide) (rm_tb2 l Z a0 hw [] aq _ d0 d1 h2 n0 Z0 S_A S_H S_L A_aq) eT (W := 0) (by decide) (by decide) (cells' := 2) (slots' := 6) rfl rfl (by decide) (by decide) (by rw [hml]; rfl) (lenOf own_pd_285bCII295bB rfl) rfl (S := []) rfl (Nat.le_of_eq rfl) (hb hby own12_23) (pc' := 26) rfl ?_
    intro v T h5 L lc X eT hq fN
    obtain ⟨cb, kc, rfl, Nq, Kq, hcb, A_cb⟩ := hq
    have N := fN _ N Nq
    have lt_aq_cb : aq < cb := Nat.lt_of_lt_of_le A_aq.lt hcb
    have ne_aq_cb : aq ≠ cb := Nat.ne_of_lt lt_aq_cb
    have z_cb : n0 ≤ cb := Nat.le_trans Z0 hcb
    have s_cb : h0.size ≤ cb := Nat.le_trans Kp.1 hcb
    have S_A := own_sta_keep S_A Kq ns0
    have S_H := own_sta_keep S_H Kq ns0
    have S_L := own_sta_keep S_L Kq ns0
    have A_aq := A_aq.keep Kq nin0
    have Z0 := Nat.le_trans Z0 Kq.1
    have Kp := Kp.trans Kq all0
    show own_W _ _ _ _ _ _ _ _ [(.ref cb)]
    refine own_astore X hx (hb hby own12_26) (pc' := 28) rfl rfl (Ls' := #[.val (.ref aq), .val (.int (0 : Int32)), .val (.int (2 : Int32)), .val (.ref b1), .val (.int (1 : Int32)), .val (.ref cb)]) rfl ?_
    refine own_aload X hx (hb hby own12_28) (pc' := 30) rfl rfl rfl ?_
    refine own_iload X hx (hb hby own12_30) (pc' := 32) rfl rfl ?_
    refine own_callS X hx hZ [(.ref cb), (.int (1 : Int32))] hown (own_w hw 106 rfl) (own_w hw 107 rfl) (own_w hw 76 rfl) (own_w hw 108 rfl) (by decide) (rm_gc2_1 l Z a0 hw [] cb _ d0 d1 h5 n0 Z0 S_A S_H S_L bd1 A_cb) eT (W := 0) (by decide) (by decide) (cells' := 2) (slots' := 6) rfl rfl (by decide) (by decide) (by rw [hml]; rfl) (lenOf own_pd_285bBI29C rfl) rfl (S := []) rfl (Nat.le_of_eq rfl) (hb hby own12_32) (pc' := 35) rfl ?_
    intro v T h6 L lc X eT hq fN
    obtain ⟨rfl, Nq, hqe⟩ := hq
    have N := fN _ N Nq
    rw [hqe] at eT
    show own_W _ _ _ _ _ _ _ _ [(.int d1)]
    refine own_sipush X hx (255 : Int32) (hb hby own12_35) (pc' := 38) rfl rfl ?_
    refine own_icmpY X hx (hb hby own12_38) (by decide) (pc' := 54) rfl (show (255 : Int32) < d1 from hbig) ?_
    refine own_aload X hx (hb hby own12_54) (pc' := 56) rfl rfl rfl ?_
    refine own_retA X hx hlk hret (hb hby own12_56) rfl rfl rfl (by decide) (by decide) ?_
    rw [eT]
    exact ⟨_, _, rfl, N, Kp, s_cb, Or.inr A_cb⟩
def Q_cf2 (Z : State) (b : Addr) (h0 : Heap) (n0 : Nat) (v : Option Value) (h : Heap) (L : List Loc) : Prop := v = some (.int (0 : Int32)) ∧ Fr n0 L ∧ h = h0
set_option maxRecDepth 65536 in
set_option maxHeartbeats 40000000 in
theorem rm_cf2 (l : Launch) (Z : State) (a0 : Array Value) (hw : ∀ d ∈ tables_1, d.before a0 Z = true) (ws : List Jvm.Cond) (b : Addr) (h0 : Heap) (n0 : Nat) (Z0 : n0 ≤ h0.size) (k : ClassId) (vs : List Value) (A_b : Arv Z h0 b k .byte (2 : Int32) vs (.int (0 : Int32))) : own_Met l Z ⟨"java/lang/StringUTF16", "coderFromArrayLen", "([BI)B"⟩ jdk_52_method_15_code 2 (some .byte) ws ⟨0, 0, 0, 0⟩ #[(.ref b), (.int (2 : Int32))] h0 (Q_cf2 Z b h0 n0) := by
  refine own_met n0 own_pn_java_lang_StringUTF16 (fun m => ef2RI m b (2 : Int32)) ?_
  intro p e s m below meth c T lc hret hx hZ hby hml hown hnm hlk X eT N
  refine own_iloadN X hx (hb hby own13_0) (pc' := 1) rfl rfl ?_
  refine own_aloadN X hx (hb hby own13_1) (pc' := 2) rfl rfl rfl ?_
  refine own_arrlen X hx hZ eT A_b (hb hby own13_2) (pc' := 3) rfl ?_
  refine own_isub X hx (hb hby own13_3) (pc' := 4) rfl ?_
  rw [show ((2 : Int32) - (2 : Int32)) = (0 : Int32) from by decide]
  refine own_bipush X hx (31 : Int32) (hb hby own13_4) (pc' := 6) rfl rfl ?_
  refine own_iushr X hx (hb hby own13_6) (pc' := 7) rfl ?_
  refine own_i2b X hx (hb hby own13_7) (pc' := 8) rfl ?_
  refine own_retI X hx hlk (t := .byte) (w' := (.int (0 : Int32))) hret (hb hby own13_8) rfl rfl (by simp) (by decide) (by decide) ?_
  rw [eT]
  exact ⟨rfl, N, rfl⟩
def Q_cu2 (Z : State) (b : Addr) (h0 : Heap) (n0 : Nat) (v : Option Value) (h : Heap) (L : List Loc) : Prop := v = some (.int (1 : Int32)) ∧ Fr n0 L ∧ h = h0
set_option maxRecDepth 65536 in
set_option maxHeartbeats 40000000 in
theorem rm_cu2 (l : Launch) (Z : State) (a0 : Array Value) (hw : ∀ d ∈ tables_1, d.before a0 Z = true) (ws : List Jvm.Cond) (b : Addr) (h0 : Heap) (n0 : Nat) (Z0 : n0 ≤ h0.size) (k : ClassId) (vs : List Value) (A_b : Arv Z h0 b k .byte (4 : Int32) vs (.int (0 : Int32))) : own_Met l Z ⟨"java/lang/StringUTF16", "coderFromArrayLen", "([BI)B"⟩ jdk_52_method_15_code 2 (some .byte) ws ⟨0, 0, 0, 0⟩ #[(.ref b), (.int (2 : Int32))] h0 (Q_cu2 Z b h0 n0) := by
  refine own_met n0 own_pn_java_lang_StringUTF16 (fun m => ef2RI m b (2 : Int32)) ?_
  intro p e s m below meth c T lc hret hx hZ hby hml hown hnm hlk X eT N
  refine own_iloadN X hx (hb hby own13_0) (pc' := 1) rfl rfl ?_
  refine own_aloadN X hx (hb hby own13_1) (pc' := 2) rfl rfl rfl ?_
  refine own_arrlen X hx hZ eT A_b (hb hby own13_2) (pc' := 3) rfl ?_
  refine own_isub X hx (hb hby own13_3) (pc' := 4) rfl ?_
  rw [show ((2 : Int32) - (4 : Int32)) = (-2 : Int32) from by decide]
  refine own_bipush X hx (31 : Int32) (hb hby own13_4) (pc' := 6) rfl rfl ?_
  refine own_iushr X hx (hb hby own13_6) (pc' := 7) rfl ?_
  refine own_i2b X hx (hb hby own13_7) (pc' := 8) rfl ?_
  refine own_retI X hx hlk (t := .byte) (w' := (.int (1 : Int32))) hret (hb hby own13_8) rfl rfl (by simp) (by decide) (by decide) ?_
  rw [eT]
  exact ⟨rfl, N, rfl⟩
def Q_iv2 (Z : State) (a1 aq : Addr) (kq : ClassId) (cs : Int32) (d0 d1 : Int32) (h0 : Heap) (n0 : Nat) (v : Option Value) (h : Heap) (L : List Loc) : Prop := v = none ∧ Fr n0 L ∧ Keep h0 h [a1] ∧ ∃ (b : Addr) (k : ClassId), h0.size ≤ b ∧ Fld Z h a1 "java/lang/String" "value" "[B" (.ref b) ∧ ((Fld Z h a1 "java/lang/String" "coder" "B" (.int (0 : Int32)) ∧ (¬ ((255 : Int32) < d0) ∧ ¬ ((255 : Int32) < d1)) ∧ Arv Z h b k .byte (2 : Int32) [(.int (nar .byte d0.toInt8.toInt32)), (.int (nar .byte d1.toInt8.toInt32))] (.int (0 : Int32))) ∨ (Fld Z h a1 "java/lang/String" "coder" "B" (.int (1 : Int32)) ∧ Arv Z h b k .byte (4 : Int32) [(.int (own_lb d0)), (.int (own_hb d0)), (.int (own_lb d1)), (.int (own_hb d1))] (.int (0 : Int32))))
set_option maxRecDepth 65536 in
set_option maxHeartbeats 40000000 in
theorem rm_iv2 (l : Launch) (Z : State) (a0 : Array Value) (hw : ∀ d ∈ tables_1, d.before a0 Z = true) (ws : List Jvm.Cond) (a1 aq : Addr) (kq : ClassId) (cs : Int32) (d0 d1 : Int32) (h0 : Heap) (n0 : Nat) (Z0 : n0 ≤ h0.size) (S_C : Sta Z h0 "java/lang/String" "COMPACT_STRINGS" "Z" (.int cs)) (hcs : ¬ cs = 0) (S_A : Sta Z h0 "java/lang/StringUTF16" "$assertionsDisabled" "Z" (.int (1 : Int32))) (S_H : Sta Z h0 "java/lang/StringUTF16" "HI_BYTE_SHIFT" "I" (.int (0 : Int32))) (S_L : Sta Z h0 "java/lang/StringUTF16" "LO_BYTE_SHIFT" "I" (.int (8 : Int32))) (u1 u2 : Value) (E_a1 : Exa Z h0 a1 "java/lang/String") (F_c : Fld Z h0 a1 "java/lang/String" "coder" "B" u1) (F_v : Fld Z h0 a1 "java/lang/String" "value" "[B" u2) (A_aq : Arv Z h0 aq kq .char (2 : Int32) [(.int d0), (.int d1)] (.int (0 : Int32))) (n1q : a1 ≠ aq) (bd0 : own_c16 d0) (bd1 : own_c16 d1) (z_a1 : n0 ≤ a1) : own_Met l Z ⟨"java/lang/String", "<init>", "([CIILjava/lang/Void;)V"⟩ jdk_42_method_149_code 6 none ws ⟨4, 2, 6, 77⟩ #[(.ref a1), (.ref aq), (.int (0 : Int32)), (.int (2 : Int32)), .null] h0 (Q_iv2 Z a1 aq kq cs d0 d1 h0 n0) := by
  refine own_met n0 own_pn_java_lang_String (fun m => ef6RRIIN m a1 aq (0 : Int32) (2 : Int32)) ?_
  intro p e s m below meth c T lc hret hx hZ hby hml hown hnm hlk X eT N
  have Kp : Keep h0 h0 [a1] := Keep.refl _ _
  refine own_aloadN X hx (hb hby own9_0) (pc' := 1) rfl rfl rfl ?_
  refine own_initO X hx hZ hown (own_w hw 19 rfl) (own_w hw 20 rfl) (own_w hw 21 rfl) eT (by rw [hml]; rfl) (hb hby own9_1) (pc' := 4) rfl (by decide) (W := 0) (Nat.le_of_eq rfl) (by decide) ?_
  intro T X eT
  refine own_iloadN X hx (hb hby own9_4) (pc' := 5) rfl rfl ?_
  refine own_ifY X hx (hb hby own9_5) (by decide) (pc' := 27) rfl (show ¬ ((2 : Int32) = (0 : Int32)) from (by decide)) ?_
  refine own_getS X hx hZ hown (host := "") (Or.inl (own_w hw 49 rfl)) Via.refl eT S_C (hb hby own9_27) (pc' := 30) rfl ?_
  intro T X eT
  refine own_ifN X hx (hb hby own9_30) (pc' := 33) rfl (show ¬ (cs = (0 : Int32)) from hcs) ?_
  refine own_aloadN X hx (hb hby own9_33) (pc' := 34) rfl rfl rfl ?_
  refine own_iloadN X hx (hb hby own9_34) (pc' := 35) rfl rfl ?_
  refine own_iloadN X hx (hb hby own9_35) (pc' := 36) rfl rfl ?_
  refine own_callS X hx hZ [(.ref aq), (.int (0 : Int32)), (.int (2 : Int32))] hown (own_w hw 74 rfl) (own_w hw 75 rfl) (own_w hw 76 rfl) (own_w hw 77 rfl) (by decide) (rm_cc2 l Z a0 hw [] aq kq d0 d1 h0 n0 Z0 S_A S_H S_L A_aq bd0 bd1) eT (W := 0) (by decide) (by decide) (cells' := 2) (slots' := 6) rfl rfl (by decide) (by decide) (by rw [hml]; rfl) (lenOf own_pd_285bCII295bB rfl) rfl (S := []) rfl (Nat.le_of_eq rfl) (hb hby own9_36) (pc' := 39) rfl ?_
  intro v T h1 L lc X eT hq fN
  obtain ⟨bb, kb, rfl, Nq, Kq, hbb, hv⟩ := hq
  have N := fN _ N Nq
  have lt_a1_bb : a1 < bb := Nat.lt_of_lt_of_le E_a1.lt hbb
  have ne_a1_bb : a1 ≠ bb := Nat.ne_of_lt lt_a1_bb
  have lt_aq_bb : aq < bb := Nat.lt_of_lt_of_le A_aq.lt hbb
  have ne_aq_bb : aq ≠ bb := Nat.ne_of_lt lt_aq_bb
  have z_bb : n0 ≤ bb := Nat.le_trans Z0 hbb
  have s_bb : h0.size ≤ bb := Nat.le_trans Kp.1 hbb
  have S_C := own_sta_keep S_C Kq ns0
  have S_A := own_sta_keep S_A Kq ns0
  have S_H := own_sta_keep S_H Kq ns0
  have S_L := own_sta_keep S_L Kq ns0
  have E_a1 := E_a1.keep Kq
  have F_c := F_c.keep Kq nin0
  have F_v := F_v.keep Kq nin0
  have A_aq := A_aq.keep Kq nin0
  have Z0 := Nat.le_trans Z0 Kq.1
  have Kp := Kp.trans Kq all0
  rcases hv with ⟨hall, A_bb⟩ | A_bb
  · show own_W _ _ _ _ _ _ _ _ [(.ref bb)]
    refine own_astore X hx (hb hby own9_39) (pc' := 41) rfl rfl (Ls' := #[.val (.ref a1), .val (.ref aq), .val (.int (0 : Int32)), .val (.int (2 : Int32)), .val .null, .val (.ref bb)]) rfl ?_
    refine own_aloadN X hx (hb hby own9_41) (pc' := 42) rfl rfl rfl ?_
    refine own_aload X hx (hb hby own9_42) (pc' := 44) rfl rfl rfl ?_
    refine own_iloadN X hx (hb hby own9_44) (pc' := 45) rfl rfl ?_
    refine own_callS X hx hZ [(.ref bb), (.int (2 : Int32))] hown (own_w hw 81 rfl) (own_w hw 82 rfl) (own_w hw 76 rfl) (own_w hw 83 rfl) (by decide) (rm_cf2 l Z a0 hw [] bb h1 n0 Z0 _ _ A_bb) eT (W := 1) (by decide) (by decide) (cells' := 2) (slots' := 6) rfl rfl (by decide) (by decide) (by rw [hml]; rfl) (lenOf own_pd_285bBI29B rfl) rfl (S := [(.ref a1)]) rfl (Nat.le_of_eq rfl) (hb hby own9_45) (pc' := 48) rfl ?_
    intro v T h2 L lc X eT hq fN
    obtain ⟨rfl, Nq, hqe⟩ := hq
    have N := fN _ N Nq
    rw [hqe] at eT
    show own_W _ _ _ _ _ _ _ _ [(.int (0 : Int32)), (.ref a1)]
    refine own_putF X hx hZ hown (own_w hw 29 rfl) Via.refl eT F_c E_a1 (Or.inr ⟨(own_w hw 25 rfl), rfl, hnm⟩) (own_w hw 9 rfl) (ty := .byte) (v' := (.int (0 : Int32))) (by decide) rfl rfl (hb hby own9_48) (pc' := 51) rfl ?_
    intro T h3 lc X eT Wq fN
    have F_c := F_c.same Wq
    have S_C := S_C.wr Wq
    have S_A := S_A.wr Wq
    have S_H := S_H.wr Wq
    have S_L := S_L.wr Wq
    have E_a1 := E_a1.wr Wq
    have F_v := F_v.other Wq (Or.inr (slot_ne (Or.inr (own_w hw 24 rfl)) (Or.inr (own_w hw 25 rfl)) (by decide) (t := (.array .byte)) (t' := .byte) (by decide) (by decide)))
    have A_aq := A_aq.other Wq (Ne.symm n1q)
    have A_bb := A_bb.other Wq (Ne.symm ne_a1_bb)
    have Z0 := Nat.le_trans Z0 (Keep.of_wr Wq).1
    have N := fN _ z_a1 N
    have Kp := Kp.wr Wq (Or.inl (List.mem_of_getElem? (i := 0) rfl))
    refine own_aloadN X hx (hb hby own9_51) (pc' := 52) rfl rfl rfl ?_
    refine own_aload X hx (hb hby own9_52) (pc' := 54) rfl rfl rfl ?_
    refine own_putF X hx hZ hown (own_w hw 28 rfl) Via.refl eT F_v E_a1 (Or.inr ⟨(own_w hw 24 rfl), rfl, hnm⟩) (own_w hw 9 rfl) (ty := (.array .byte)) (v' := (.ref bb)) (by decide) rfl rfl (hb hby own9_54) (pc' := 57) rfl ?_
    intro T h4 lc X eT Wq fN
    have F_v := F_v.same Wq
    have S_C := S_C.wr Wq
    have S_A := S_A.wr Wq
    have S_H := S_H.wr Wq
    have S_L := S_L.wr Wq
    have E_a1 := E_a1.wr Wq
    have A_aq := A_aq.other Wq (Ne.symm n1q)
    have A_bb := A_bb.other Wq (Ne.symm ne_a1_bb)
    have F_c := F_c.other Wq (Or.inr (slot_ne (Or.inr (own_w hw 25 rfl)) (Or.inr (own_w hw 24 rfl)) (by decide) (t := .byte) (t' := (.array .byte)) (by decide) (by decide)))
    have Z0 := Nat.le_trans Z0 (Keep.of_wr Wq).1
    have N := fN _ z_a1 N
    have Kp := Kp.wr Wq (Or.inl (List.mem_of_getElem? (i := 0) rfl))
    refine own_ret0 X hx hlk hret (hb hby own9_57) (by decide) (by decide) ?_
    rw [eT]
    exact ⟨rfl, N, Kp, bb, kb, s_bb, F_v, Or.inl ⟨F_c, hall, A_bb⟩⟩
  · show own_W _ _ _ _ _ _ _ _ [(.ref bb)]
    refine own_astore X hx (hb hby own9_39) (pc' := 41) rfl rfl (Ls' := #[.val (.ref a1), .val (.ref aq), .val (.int (0 : Int32)), .val (.int (2 : Int32)), .val .null, .val (.ref bb)]) rfl ?_
    refine own_aloadN X hx (hb hby own9_41) (pc' := 42) rfl rfl rfl ?_
    refine own_aload X hx (hb hby own9_42) (pc' := 44) rfl rfl rfl ?_
    refine own_iloadN X hx (hb hby own9_44) (pc' := 45) rfl rfl ?_
    refine own_callS X hx hZ [(.ref bb), (.int (2 : Int32))] hown (own_w hw 81 rfl) (own_w hw 82 rfl) (own_w hw 76 rfl) (own_w hw 83 rfl) (by decide) (rm_cu2 l Z a0 hw [] bb h1 n0 Z0 _ _ A_bb) eT (W := 1) (by decide) (by decide) (cells' := 2) (slots' := 6) rfl rfl (by decide) (by decide) (by rw [hml]; rfl) (lenOf own_pd_285bBI29B rfl) rfl (S := [(.ref a1)]) rfl (Nat.le_of_eq rfl) (hb hby own9_45) (pc' := 48) rfl ?_
    intro v T h5 L lc X eT hq fN
    obtain ⟨rfl, Nq, hqe⟩ := hq
    have N := fN _ N Nq
    rw [hqe] at eT
    show own_W _ _ _ _ _ _ _ _ [(.int (1 : Int32)), (.ref a1)]
    refine own_putF X hx hZ hown (own_w hw 29 rfl) Via.refl eT F_c E_a1 (Or.inr ⟨(own_w hw 25 rfl), rfl, hnm⟩) (own_w hw 9 rfl) (ty := .byte) (v' := (.int (1 : Int32))) (by decide) rfl rfl (hb hby own9_48) (pc' := 51) rfl ?_
    intro T h6 lc X eT Wq fN
    have F_c := F_c.same Wq
    have S_C := S_C.wr Wq
    have S_A := S_A.wr Wq
    have S_H := S_H.wr Wq
    have S_L := S_L.wr Wq
    have E_a1 := E_a1.wr Wq
    have F_v := F_v.other Wq (Or.inr (slot_ne (Or.inr (own_w hw 24 rfl)) (Or.inr (own_w hw 25 rfl)) (by decide) (t := (.array .byte)) (t' := .byte) (by decide) (by decide)))
    have A_aq := A_aq.other Wq (Ne.symm n1q)
    have A_bb := A_bb.other Wq (Ne.symm ne_a1_bb)
    have Z0 := Nat.le_trans Z0 (Keep.of_wr Wq).1
    have N := fN _ z_a1 N
    have Kp := Kp.wr Wq (Or.inl (List.mem_of_getElem? (i := 0) rfl))
    refine own_aloadN X hx (hb hby own9_51) (pc' := 52) rfl rfl rfl ?_
    refine own_aload X hx (hb hby own9_52) (pc' := 54) rfl rfl rfl ?_
    refine own_putF X hx hZ hown (own_w hw 28 rfl) Via.refl eT F_v E_a1 (Or.inr ⟨(own_w hw 24 rfl), rfl, hnm⟩) (own_w hw 9 rfl) (ty := (.array .byte)) (v' := (.ref bb)) (by decide) rfl rfl (hb hby own9_54) (pc' := 57) rfl ?_
    intro T h7 lc X eT Wq fN
    have F_v := F_v.same Wq
    have S_C := S_C.wr Wq
    have S_A := S_A.wr Wq
    have S_H := S_H.wr Wq
    have S_L := S_L.wr Wq
    have E_a1 := E_a1.wr Wq
    have A_aq := A_aq.other Wq (Ne.symm n1q)
    have A_bb := A_bb.other Wq (Ne.symm ne_a1_bb)
    have F_c := F_c.other Wq (Or.inr (slot_ne (Or.inr (own_w hw 25 rfl)) (Or.inr (own_w hw 24 rfl)) (by decide) (t := .byte) (t' := (.array .byte)) (by decide) (by decide)))
    have Z0 := Nat.le_trans Z0 (Keep.of_wr Wq).1
    have N := fN _ z_a1 N
    have Kp := Kp.wr Wq (Or.inl (List.mem_of_getElem? (i := 0) rfl))
    refine own_ret0 X hx hlk hret (hb hby own9_57) (by decide) (by decide) ?_
    rw [eT]
    exact ⟨rfl, N, Kp, bb, kb, s_bb, F_v, Or.inr ⟨F_c, A_bb⟩⟩
def Q_ic2 (Z : State) (a1 aq : Addr) (kq : ClassId) (cs : Int32) (d0 d1 : Int32) (h0 : Heap) (n0 : Nat) (v : Option Value) (h : Heap) (L : List Loc) : Prop := v = none ∧ Fr n0 L ∧ Keep h0 h [a1] ∧ ∃ (b : Addr) (k : ClassId), h0.size ≤ b ∧ Fld Z h a1 "java/lang/String" "value" "[B" (.ref b) ∧ ((Fld Z h a1 "java/lang/String" "coder" "B" (.int (0 : Int32)) ∧ (¬ ((255 : Int32) < d0) ∧ ¬ ((255 : Int32) < d1)) ∧ Arv Z h b k .byte (2 : Int32) [(.int (nar .byte d0.toInt8.toInt32)), (.int (nar .byte d1.toInt8.toInt32))] (.int (0 : Int32))) ∨ (Fld Z h a1 "java/lang/String" "coder" "B" (.int (1 : Int32)) ∧ Arv Z h b k .byte (4 : Int32) [(.int (own_lb d0)), (.int (own_hb d0)), (.int (own_lb d1)), (.int (own_hb d1))] (.int (0 : Int32))))
set_option maxRecDepth 65536 in
set_option maxHeartbeats 40000000 in
theorem rm_ic2 (l : Launch) (Z : State) (a0 : Array Value) (hw : ∀ d ∈ tables_1, d.before a0 Z = true) (ws : List Jvm.Cond) (a1 aq : Addr) (kq : ClassId) (cs : Int32) (d0 d1 : Int32) (h0 : Heap) (n0 : Nat) (Z0 : n0 ≤ h0.size) (S_C : Sta Z h0 "java/lang/String" "COMPACT_STRINGS" "Z" (.int cs)) (hcs : ¬ cs = 0) (S_A : Sta Z h0 "java/lang/StringUTF16" "$assertionsDisabled" "Z" (.int (1 : Int32))) (S_H : Sta Z h0 "java/lang/StringUTF16" "HI_BYTE_SHIFT" "I" (.int (0 : Int32))) (S_L : Sta Z h0 "java/lang/StringUTF16" "LO_BYTE_SHIFT" "I" (.int (8 : Int32))) (u1 u2 : Value) (E_a1 : Exa Z h0 a1 "java/lang/String") (F_c : Fld Z h0 a1 "java/lang/String" "coder" "B" u1) (F_v : Fld Z h0 a1 "java/lang/String" "value" "[B" u2) (A_aq : Arv Z h0 aq kq .char (2 : Int32) [(.int d0), (.int d1)] (.int (0 : Int32))) (n1q : a1 ≠ aq) (bd0 : own_c16 d0) (bd1 : own_c16 d1) (z_a1 : n0 ≤ a1) : own_Met l Z ⟨"java/lang/String", "<init>", "([C)V"⟩ jdk_42_method_3_code 2 none ws ⟨5, 2, 6, 99⟩ #[(.ref a1), (.ref aq)] h0 (Q_ic2 Z a1 aq kq cs d0 d1 h0 n0) := by
  refine own_met n0 own_pn_java_lang_String (fun m => ef2RR m a1 aq) ?_
  intro p e s m below meth c T lc hret hx hZ hby hml hown hnm hlk X eT N
  refine own_aloadN X hx (hb hby own10_0) (pc' := 1) rfl rfl rfl ?_
  refine own_aloadN X hx (hb hby own10_1) (pc' := 2) rfl rfl rfl ?_
  refine own_iconst X hx (0 : Int32) (hb hby own10_2) (pc' := 3) rfl rfl ?_
  refine own_aloadN X hx (hb hby own10_3) (pc' := 4) rfl rfl rfl ?_
  refine own_arrlen X hx hZ eT A_aq (hb hby own10_4) (pc' := 5) rfl ?_
  refine own_aconst_null X hx (hb hby own10_5) (pc' := 6) rfl ?_
  refine own_callN X hx hZ a1 [(.ref aq), (.int (0 : Int32)), (.int (2 : Int32)), .null] rfl hown (own_w hw 15 rfl) (own_w hw 16 rfl) (own_w hw 10 rfl) (own_w hw 18 rfl) (by decide) (rm_iv2 l Z a0 hw [] a1 aq kq cs d0 d1 h0 n0 Z0 S_C hcs S_A S_H S_L _ _ E_a1 F_c F_v A_aq n1q bd0 bd1 z_a1) eT (W := 0) (by decide) (by decide) (cells' := 2) (slots' := 6) rfl rfl (by decide) (by decide) (by rw [hml]; rfl) (lenOf own_pd_285bCIILjava2flang2fVoid3b29V rfl) rfl (S := []) rfl (Nat.le_of_eq rfl) (hb hby own10_6) (pc' := 9) rfl ?_
  intro v T h1 L lc X eT hq fN
  obtain ⟨rfl, Nq, Kq, bb, kb, hbb, F_v2, hcd⟩ := hq
  have N := fN _ N Nq
  show own_W _ _ _ _ _ _ _ _ []
  refine own_ret0 X hx hlk hret (hb hby own10_9) (by decide) (by decide) ?_
  rw [eT]
  exact ⟨rfl, N, Kq, bb, kb, hbb, F_v2, hcd⟩
def Q_ci3 (Z : State) (aq ad : Addr) (kq kd : ClassId) (d0 d1 d2 : Int32) (h0 : Heap) (n0 : Nat) (v : Option Value) (h : Heap) (L : List Loc) : Prop := Fr n0 L ∧ Keep h0 h [ad] ∧ ((v = some (.int (3 : Int32)) ∧ (¬ ((255 : Int32) < d0) ∧ ¬ ((255 : Int32) < d1) ∧ ¬ ((255 : Int32) < d2)) ∧ Arv Z h ad kd .byte (3 : Int32) [(.int (nar .byte d0.toInt8.toInt32)), (.int (nar .byte d1.toInt8.toInt32)), (.int (nar .byte d2.toInt8.toInt32))] (.int (0 : Int32))) ∨ (v = some (.int (0 : Int32)) ∧ (255 : Int32) < d0) ∨ (v = some (.int (1 : Int32)) ∧ (255 : Int32) < d1) ∨ (v = some (.int (2 : Int32)) ∧ (255 : Int32) < d2))
set_option maxRecDepth 65536 in
set_option maxHeartbeats 40000000 in
theorem rm_ci3 (l : Launch) (Z : State) (a0 : Array Value) (hw : ∀ d ∈ tables_1, d.before a0 Z = true) (ws : List Jvm.Cond) (aq ad : Addr) (kq kd : ClassId) (d0 d1 d2 : Int32) (h0 : Heap) (n0 : Nat) (Z0 : n0 ≤ h0.size) (A_aq : Arv Z h0 aq kq .char (3 : Int32) [(.int d0), (.int d1), (.int d2)] (.int (0 : Int32))) (A_ad : Arv Z h0 ad kd .byte (3 : Int32) [(.int (0 : Int32)), (.int (0 : Int32)), (.int (0 : Int32))] (.int (0 : Int32))) (nqd : aq ≠ ad) (z_ad : n0 ≤ ad) : own_Met l Z ⟨"java/lang/StringUTF16", "compress", "([CI[BII)I"⟩ jdk_52_method_21_code 7 (some .int) ws ⟨0, 0, 0, 0⟩ #[(.ref aq), (.int (0 : Int32)), (.ref ad), (.int (0 : Int32)), (.int (3 : Int32))] h0 (Q_ci3 Z aq ad kq kd d0 d1 d2 h0 n0) := by
  refine own_met n0 own_pn_java_lang_StringUTF16 (fun m => ef7RIRII m aq (0 : Int32) ad (0 : Int32) (3 : Int32)) ?_
  intro p e s m below meth c T lc hret hx hZ hby hml hown hnm hlk X eT N
  have Kp : Keep h0 h0 [ad] := Keep.refl _ _
  refine own_iconst X hx (0 : Int32) (hb hby own11_0) (pc' := 1) rfl rfl ?_
  refine own_istore X hx (hb hby own11_1) (pc' := 3) rfl (Ls' := #[.val (.ref aq), .val (.int (0 : Int32)), .val (.ref ad), .val (.int (0 : Int32)), .val (.int (3 : Int32)), .val (.int (0 : Int32)), .unset]) rfl ?_
  refine own_iload X hx (hb hby own11_3) (pc' := 5) rfl rfl ?_
  refine own_iload X hx (hb hby own11_5) (pc' := 7) rfl rfl ?_
  refine own_icmpN X hx (hb hby own11_7) (pc' := 10) rfl (show (0 : Int32) < (3 : Int32) from (by decide)) ?_
  refine own_aloadN X hx (hb hby own11_10) (pc' := 11) rfl rfl rfl ?_
  refine own_iloadN X hx (hb hby own11_11) (pc' := 12) rfl rfl ?_
  refine own_caload X hx hZ eT A_aq (v := (.int d0)) (by decide) rfl (hb hby own11_12) (pc' := 13) rfl ?_
  refine own_istore X hx (hb hby own11_13) (pc' := 15) rfl (Ls' := #[.val (.ref aq), .val (.int (0 : Int32)), .val (.ref ad), .val (.int (0 : Int32)), .val (.int (3 : Int32)), .val (.int (0 : Int32)), .val (.int d0)]) rfl ?_
  refine own_iload X hx (hb hby own11_15) (pc' := 17) rfl rfl ?_
  refine own_sipush X hx (255 : Int32) (hb hby own11_17) (pc' := 20) rfl rfl ?_
  refine own_icmp X hx (hb hby own11_20) (by decide) (pcY := 26) (pcN := 23) rfl rfl (fun (hc20 : ¬ ((255 : Int32) < d0)) => ?_) (fun (hc20 : (255 : Int32) < d0) => ?_)
  · refine own_aloadN X hx (hb hby own11_26) (pc' := 27) rfl rfl rfl ?_
    refine own_iloadN X hx (hb hby own11_27) (pc' := 28) rfl rfl ?_
    refine own_iload X hx (hb hby own11_28) (pc' := 30) rfl rfl ?_
    refine own_i2b X hx (hb hby own11_30) (pc' := 31) rfl ?_
    refine own_bastoreB X hx hZ eT A_ad (by decide) 0 rfl (by show 0 < 3; decide) (hb hby own11_31) (pc' := 32) rfl ?_
    intro T h1 lc X eT Kq A_adn fN
    have A_aq := A_aq.keep Kq (ninS nqd nin0)
    have Z0 := Nat.le_trans Z0 Kq.1
    have A_ad := A_adn
    have N := fN _ z_ad N
    have Kp := Kp.trans Kq (allS (P := fun x => x ∈ [ad] ∨ h0.size ≤ x) (Or.inl (List.mem_of_getElem? (i := 0) rfl)) all0)
    have A_ad : Arv Z h1 ad _ .byte (3 : Int32) [(.int (nar .byte d0.toInt8.toInt32)), (.int (0 : Int32)), (.int (0 : Int32))] (.int (0 : Int32)) := A_ad
    refine own_iinc X hx (1 : Int32) (hb hby own11_32) (pc' := 35) rfl rfl rfl (Ls' := #[.val (.ref aq), .val (.int (1 : Int32)), .val (.ref ad), .val (.int (0 : Int32)), .val (.int (3 : Int32)), .val (.int (0 : Int32)), .val (.int d0)]) rfl ?_
    refine own_iinc X hx (1 : Int32) (hb hby own11_35) (pc' := 38) rfl rfl rfl (Ls' := #[.val (.ref aq), .val (.int (1 : Int32)), .val (.ref ad), .val (.int (1 : Int32)), .val (.int (3 : Int32)), .val (.int (0 : Int32)), .val (.int d0)]) rfl ?_
    refine own_iinc X hx (1 : Int32) (hb hby own11_38) (pc' := 41) rfl rfl rfl (Ls' := #[.val (.ref aq), .val (.int (1 : Int32)), .val (.ref ad), .val (.int (1 : Int32)), .val (.int (3 : Int32)), .val (.int (1 : Int32)), .val (.int d0)]) rfl ?_
    refine own_goto X hx (hb hby own11_41) (by decide) (pc' := 3) rfl ?_
    refine own_iload X hx (hb hby own11_3) (pc' := 5) rfl rfl ?_
    refine own_iload X hx (hb hby own11_5) (pc' := 7) rfl rfl ?_
    refine own_icmpN X hx (hb hby own11_7) (pc' := 10) rfl (show (1 : Int32) < (3 : Int32) from (by decide)) ?_
    refine own_aloadN X hx (hb hby own11_10) (pc' := 11) rfl rfl rfl ?_
    refine own_iloadN X hx (hb hby own11_11) (pc' := 12) rfl rfl ?_
    refine own_caload X hx hZ eT A_aq (v := (.int d1)) (by decide) rfl (hb hby own11_12) (pc' := 13) rfl ?_
    refine own_istore X hx (hb hby own11_13) (pc' := 15) rfl (Ls' := #[.val (.ref aq), .val (.int (1 : Int32)), .val (.ref ad), .val (.int (1 : Int32)), .val (.int (3 : Int32)), .val (.int (1 : Int32)), .val (.int d1)]) rfl ?_
    refine own_iload X hx (hb hby own11_15) (pc' := 17) rfl rfl ?_
    refine own_sipush X hx (255 : Int32) (hb hby own11_17) (pc' := 20) rfl rfl ?_
    refine own_icmp X hx (hb hby own11_20) (by decide) (pcY := 26) (pcN := 23) rfl rfl (fun (hc20_2 : ¬ ((255 : Int32) < d1)) => ?_) (fun (hc20_2 : (255 : Int32) < d1) => ?_)
    · refine own_aloadN X hx (hb hby own11_26) (pc' := 27) rfl rfl rfl ?_
      refine own_iloadN X hx (hb hby own11_27) (pc' := 28) rfl rfl ?_
      refine own_iload X hx (hb hby own11_28) (pc' := 30) rfl rfl ?_
      refine own_i2b X hx (hb hby own11_30) (pc' := 31) rfl ?_
      refine own_bastoreB X hx hZ eT A_ad (by decide) 1 rfl (by show 1 < 3; decide) (hb hby own11_31) (pc' := 32) rfl ?_
      intro T h2 lc X eT Kq A_adn fN
      have A_aq := A_aq.keep Kq (ninS nqd nin0)
      have Z0 := Nat.le_trans Z0 Kq.1
      have A_ad := A_adn
      have N := fN _ z_ad N
      have Kp := Kp.trans Kq (allS (P := fun x => x ∈ [ad] ∨ h0.size ≤ x) (Or.inl (List.mem_of_getElem? (i := 0) rfl)) all0)
      have A_ad : Arv Z h2 ad _ .byte (3 : Int32) [(.int (nar .byte d0.toInt8.toInt32)), (.int (nar .byte d1.toInt8.toInt32)), (.int (0 : Int32))] (.int (0 : Int32)) := A_ad
      refine own_iinc X hx (1 : Int32) (hb hby own11_32) (pc' := 35) rfl rfl rfl (Ls' := #[.val (.ref aq), .val (.int (2 : Int32)), .val (.ref ad), .val (.int (1 : Int32)), .val (.int (3 : Int32)), .val (.int (1 : Int32)), .val (.int d1)]) rfl ?_
      refine own_iinc X hx (1 : Int32) (hb hby own11_35) (pc' := 38) rfl rfl rfl (Ls' := #[.val (.ref aq), .val (.int (2 : Int32)), .val (.ref ad), .val (.int (2 : Int32)), .val (.int (3 : Int32)), .val (.int (1 : Int32)), .val (.int d1)]) rfl ?_
      refine own_iinc X hx (1 : Int32) (hb hby own11_38) (pc' := 41) rfl rfl rfl (Ls' := #[.val (.ref aq), .val (.int (2 : Int32)), .val (.ref ad), .val (.int (2 : Int32)), .val (.int (3 : Int32)), .val (.int (2 : Int32)), .val (.int d1)]) rfl ?_
      refine own_goto X hx (hb hby own11_41) (by decide) (pc' := 3) rfl ?_
      refine own_iload X hx (hb hby own11_3) (pc' := 5) rfl rfl ?_
      refine own_iload X hx (hb hby own11_5) (pc' := 7) rfl rfl ?_
      refine own_icmpN X hx (hb hby own11_7) (pc' := 10) rfl (show (2 : Int32) < (3 : Int32) from (by decide)) ?_
      refine own_aloadN X hx (hb hby own11_10) (pc' := 11) rfl rfl rfl ?_
      refine own_iloadN X hx (hb hby own11_11) (pc' := 12) rfl rfl ?_
      refine own_caload X hx hZ eT A_aq (v := (.int d2)) (by decide) rfl (hb hby own11_12) (pc' := 13) rfl ?_
      refine own_istore X hx (hb hby own11_13) (pc' := 15) rfl (Ls' := #[.val (.ref aq), .val (.int (2 : Int32)), .val (.ref ad), .val (.int (2 : Int32)), .val (.int (3 : Int32)), .val (.int (2 : Int32)), .val (.int d2)]) rfl ?_
      refine own_iload X hx (hb hby own11_15) (pc' := 17) rfl rfl ?_
      refine own_sipush X hx (255 : Int32) (hb hby own11_17) (pc' := 20) rfl rfl ?_
      refine own_icmp X hx (hb hby own11_20) (by decide) (pcY := 26) (pcN := 23) rfl rfl (fun (hc20_3 : ¬ ((255 : Int32) < d2)) => ?_) (fun (hc20_3 : (255 : Int32) < d2) => ?_)
      · refine own_aloadN X hx (hb hby own11_26) (pc' := 27) rfl rfl rfl ?_
        refine own_iloadN X hx (hb hby own11_27) (pc' := 28) rfl rfl ?_
        refine own_iload X hx (hb hby own11_28) (pc' := 30) rfl rfl ?_
        refine own_i2b X hx (hb hby own11_30) (pc' := 31) rfl ?_
        refine own_bastoreB X hx hZ eT A_ad (by decide) 2 rfl (by show 2 < 3; decide) (hb hby own11_31) (pc' := 32) rfl ?_
        intro T h3 lc X eT Kq A_adn fN
        have A_aq := A_aq.keep Kq (ninS nqd nin0)
        have Z0 := Nat.le_trans Z0 Kq.1
        have A_ad := A_adn
        have N := fN _ z_ad N
        have Kp := Kp.trans Kq (allS (P := fun x => x ∈ [ad] ∨ h0.size ≤ x) (Or.inl (List.mem_of_getElem? (i := 0) rfl)) all0)
        have A_ad : Arv Z h3 ad _ .byte (3 : Int32) [(.int (nar .byte d0.toInt8.toInt32)), (.int (nar .byte d1.toInt8.toInt32)), (.int (nar .byte d2.toInt8.toInt32))] (.int (0 : Int32)) := A_ad
        refine own_iinc X hx (1 : Int32) (hb hby own11_32) (pc' := 35) rfl rfl rfl (Ls' := #[.val (.ref aq), .val (.int (3 : Int32)), .val (.ref ad), .val (.int (2 : Int32)), .val (.int (3 : Int32)), .val (.int (2 : Int32)), .val (.int d2)]) rfl ?_
        refine own_iinc X hx (1 : Int32) (hb hby own11_35) (pc' := 38) rfl rfl rfl (Ls' := #[.val (.ref aq), .val (.int (3 : Int32)), .val (.ref ad), .val (.int (3 : Int32)), .val (.int (3 : Int32)), .val (.int (2 : Int32)), .val (.int d2)]) rfl ?_
        refine own_iinc X hx (1 : Int32) (hb hby own11_38) (pc' := 41) rfl rfl rfl (Ls' := #[.val (.ref aq), .val (.int (3 : Int32)), .val (.ref ad), .val (.int (3 : Int32)), .val (.int (3 : Int32)), .val (.int (3 : Int32)), .val (.int d2)]) rfl ?_
        refine own_goto X hx (hb hby own11_41) (by decide) (pc' := 3) rfl ?_
        refine own_iload X hx (hb hby own11_3) (pc' := 5) rfl rfl ?_
        refine own_iload X hx (hb hby own11_5) (pc' := 7) rfl rfl ?_
        refine own_icmpY X hx (hb hby own11_7) (by decide) (pc' := 44) rfl (show ¬ ((3 : Int32) < (3 : Int32)) from (by decide)) ?_
        refine own_iload X hx (hb hby own11_44) (pc' := 46) rfl rfl ?_
        refine own_retI X hx hlk (t := .int) (w' := (.int (3 : Int32))) hret (hb hby own11_46) rfl rfl (by simp) (by decide) (by decide) ?_
        rw [eT]
        exact ⟨N, Kp, Or.inl ⟨rfl, ⟨hc20, hc20_2, hc20_3⟩, A_ad⟩⟩
      · refine own_iload X hx (hb hby own11_23) (pc' := 25) rfl rfl ?_
        refine own_retI X hx hlk (t := .int) (w' := (.int (2 : Int32))) hret (hb hby own11_25) rfl rfl (by simp) (by decide) (by decide) ?_
        rw [eT]
        exact ⟨N, Kp, Or.inr (Or.inr (Or.inr (⟨rfl, hc20_3⟩)))⟩
    · refine own_iload X hx (hb hby own11_23) (pc' := 25) rfl rfl ?_
      refine own_retI X hx hlk (t := .int) (w' := (.int (1 : Int32))) hret (hb hby own11_25) rfl rfl (by simp) (by decide) (by decide) ?_
      rw [eT]
      exact ⟨N, Kp, Or.inr (Or.inr (Or.inl ⟨rfl, hc20_2⟩))⟩
  · refine own_iload X hx (hb hby own11_23) (pc' := 25) rfl rfl ?_
    refine own_retI X hx hlk (t := .int) (w' := (.int (0 : Int32))) hret (hb hby own11_25) rfl rfl (by simp) (by decide) (by decide) ?_
    rw [eT]
    exact ⟨N, Kp, Or.inr (Or.inl ⟨rfl, hc20⟩)⟩
def Q_cc3 (Z : State) (aq : Addr) (kq : ClassId) (d0 d1 d2 : Int32) (h0 : Heap) (n0 : Nat) (v : Option Value) (h : Heap) (L : List Loc) : Prop := ∃ (b : Addr) (kb : ClassId), v = some (.ref b) ∧ Fr n0 L ∧ Keep h0 h [] ∧ h0.size ≤ b ∧ (((¬ ((255 : Int32) < d0) ∧ ¬ ((255 : Int32) < d1) ∧ ¬ ((255 : Int32) < d2)) ∧ Arv Z h b kb .byte (3 : Int32) [(.int (nar .byte d0.toInt8.toInt32)), (.int (nar .byte d1.toInt8.toInt32)), (.int (nar .byte d2.toInt8.toInt32))] (.int (0 : Int32))) ∨ Arv Z h b kb .byte (6 : Int32) [(.int (own_lb d0)), (.int (own_hb d0)), (.int (own_lb d1)), (.int (own_hb d1)), (.int (own_lb d2)), (.int (own_hb d2))] (.int (0 : Int32)))
set_option maxRecDepth 65536 in
set_option maxHeartbeats 40000000 in
theorem rm_cc3 (l : Launch) (Z : State) (a0 : Array Value) (hw : ∀ d ∈ tables_1, d.before a0 Z = true) (ws : List Jvm.Cond) (aq : Addr) (kq : ClassId) (d0 d1 d2 : Int32) (h0 : Heap) (n0 : Nat) (Z0 : n0 ≤ h0.size) (S_A : Sta Z h0 "java/lang/StringUTF16" "$assertionsDisabled" "Z" (.int (1 : Int32))) (S_H : Sta Z h0 "java/lang/StringUTF16" "HI_BYTE_SHIFT" "I" (.int (0 : Int32))) (S_L : Sta Z h0 "java/lang/StringUTF16" "LO_BYTE_SHIFT" "I" (.int (8 : Int32))) (A_aq : Arv Z h0 aq kq .char (3 : Int32) [(.int d0), (.int d1), (.int d2)] (.int (0 : Int32))) (bd0 : own_c16 d0) (bd1 : own_c16 d1) (bd2 : own_c16 d2) : own_Met l Z ⟨"java/lang/StringUTF16", "compress", "([CII)[B"⟩ jdk_52_method_16_code 6 (some (.array .byte)) ws ⟨3, 2, 9, 55⟩ #[(.ref aq), (.int (0 : Int32)), (.int (3 : Int32))] h0 (Q_cc3 Z aq kq d0 d1 d2 h0 n0) := by
  refine own_met n0 own_pn_java_lang_StringUTF16 (fun m => ef6RII m aq (0 : Int32) (3 : Int32)) ?_
  intro p e s m below meth c T lc hret hx hZ hby hml hown hnm hlk X eT N
  have Kp : Keep h0 h0 [] := Keep.refl _ _
  refine own_iloadN X hx (hb hby own12_0) (pc' := 1) rfl rfl ?_
  refine own_newarr X hx hZ (own_w hw 23 rfl) eT (hb hby own12_1) (pc' := 3) rfl (by decide) 3 (by decide) (by decide) (cells' := 1) (slots' := 3) rfl rfl (by decide) (by decide) ?_
  intro T h1 k_b1 b1 X eT E gb1 A_b1
  have lt_aq_b1 : aq < b1 := Nat.lt_of_lt_of_le A_aq.lt (Nat.le_of_eq gb1.symm)
  have ne_aq_b1 : aq ≠ b1 := Nat.ne_of_lt lt_aq_b1
  have z_b1 : n0 ≤ b1 := Nat.le_trans Z0 (Nat.le_of_eq gb1.symm)
  have s_b1 : h0.size ≤ b1 := Nat.le_trans Kp.1 (Nat.le_of_eq gb1.symm)
  have S_A := S_A.ext E
  have S_H := S_H.ext E
  have S_L := S_L.ext E
  have A_aq := A_aq.ext E
  have Z0 := Nat.le_trans Z0 E.1
  have Kp := Kp.ext E
  have A_b1 : Arv Z h1 b1 k_b1 .byte (3 : Int32) [(.int (0 : Int32)), (.int (0 : Int32)), (.int (0 : Int32))] (.int (0 : Int32)) := A_b1.pad (pad_rep [] (.int (0 : Int32)) 3)
  refine own_astoreN X hx (hb hby own12_3) (pc' := 4) rfl rfl (Ls' := #[.val (.ref aq), .val (.int (0 : Int32)), .val (.int (3 : Int32)), .val (.ref b1), .unset, .unset]) rfl ?_
  refine own_aloadN X hx (hb hby own12_4) (pc' := 5) rfl rfl rfl ?_
  refine own_iloadN X hx (hb hby own12_5) (pc' := 6) rfl rfl ?_
  refine own_aloadN X hx (hb hby own12_6) (pc' := 7) rfl rfl rfl ?_
  refine own_iconst X hx (0 : Int32) (hb hby own12_7) (pc' := 8) rfl rfl ?_
  refine own_iloadN X hx (hb hby own12_8) (pc' := 9) rfl rfl ?_
  refine own_callS X hx hZ [(.ref aq), (.int (0 : Int32)), (.ref b1), (.int (0 : Int32)), (.int (3 : Int32))] hown (own_w hw 78 rfl) (own_w hw 79 rfl) (own_w hw 76 rfl) (own_w hw 80 rfl) (by decide) (rm_ci3 l Z a0 hw [] aq b1 _ _ d0 d1 d2 h1 n0 Z0 A_aq A_b1 ne_aq_b1 z_b1) eT (W := 0) (by decide) (by decide) (cells' := 1) (slots' := 3) rfl rfl (by decide) (by decide) (by rw [hml]; rfl) (lenOf own_pd_285bCI5bBII29I rfl) rfl (S := []) rfl (Nat.le_of_eq rfl) (hb hby own12_9) (pc' := 12) rfl ?_
  intro v T h2 L lc X eT hq fN
  obtain ⟨Nq, Kq, hv⟩ := hq
  have N := fN _ N Nq
  have S_A := own_sta_keep S_A Kq (nsS (own_ns_arv A_b1) ns0)
  have S_H := own_sta_keep S_H Kq (nsS (own_ns_arv A_b1) ns0)
  have S_L := own_sta_keep S_L Kq (nsS (own_ns_arv A_b1) ns0)
  have A_aq := A_aq.keep Kq (ninS ne_aq_b1 nin0)
  have Z0 := Nat.le_trans Z0 Kq.1
  have Kp := Kp.trans Kq (allS (P := fun x => x ∈ ([] : List Addr) ∨ h0.size ≤ x) (Or.inr s_b1) all0)
  rcases hv with ⟨rfl, hall, B_b⟩ | ⟨rfl, hbig⟩ | ⟨rfl, hbig⟩ | ⟨rfl, hbig⟩
  · show own_W _ _ _ _ _ _ _ _ [(.int (3 : Int32))]
    refine own_istore X hx (hb hby own12_12) (pc' := 14) rfl (Ls' := #[.val (.ref aq), .val (.int (0 : Int32)), .val (.int (3 : Int32)), .val (.ref b1), .val (.int (3 : Int32)), .unset]) rfl ?_
    refine own_iload X hx (hb hby own12_14) (pc' := 16) rfl rfl ?_
    refine own_iloadN X hx (hb hby own12_16) (pc' := 17) rfl rfl ?_
    refine own_icmpY X hx (hb hby own12_17) (by decide) (pc' := 57) rfl (show (3 : Int32) = (3 : Int32) from (by decide)) ?_
    refine own_aloadN X hx (hb hby own12_57) (pc' := 58) rfl rfl rfl ?_
    refine own_retA X hx hlk hret (hb hby own12_58) rfl rfl rfl (by decide) (by decide) ?_
    rw [eT]
    exact ⟨_, _, rfl, N, Kp, s_b1, Or.inl ⟨hall, B_b⟩⟩
  · show own_W _ _ _ _ _ _ _ _ [(.int (0 : Int32))]
    refine own_istore X hx (hb hby own12_12) (pc' := 14) rfl (Ls' := #[.val (.ref aq), .val (.int (0 : Int32)), .val (.int (3 : Int32)), .val (.ref b1), .val (.int (0 : Int32)), .unset]) rfl ?_
    refine own_iload X hx (hb hby own12_14) (pc' := 16) rfl rfl ?_
    refine own_iloadN X hx (hb hby own12_16) (pc' := 17) rfl rfl ?_
    refine own_icmpN X hx (hb hby own12_17) (pc' := 20) rfl (show ¬ ((0 : Int32) = (3 : Int32)) from (by decide)) ?_
    refine own_aloadN X hx (hb hby own12_20) (pc' := 21) rfl rfl rfl ?_
    refine own_iloadN X hx (hb hby own12_21) (pc' := 22) rfl rfl ?_
    refine own_iloadN X hx (hb hby own12_22) (pc' := 23) rfl rfl ?_
    refine own_callS X hx hZ [(.ref aq), (.int (0 : Int32)), (.int (3 : Int32))] hown (own_w hw 90 rfl) (own_w hw 91 rfl) (own_w hw 76 rfl) (own_w hw 92 rfl) (by decide) (rm_tb3 l Z a0 hw [] aq _ d0 d1 d2 h2 n0 Z0 S_A S_H S_L A_aq) eT (W := 0) (by decide) (by decide) (cells' := 2) (slots' := 9) rfl rfl (by decide) (by decide) (by rw [hml]; rfl) (lenOf own_pd_285bCII295bB rfl) rfl (S := []) rfl (Nat.le_of_eq rfl) (hb hby own12_23) (pc' := 26) rfl ?_
    intro v T h3 L lc X eT hq fN
    obtain ⟨cb, kc, rfl, Nq, Kq, hcb, A_cb⟩ := hq
    have N := fN _ N Nq
    have lt_aq_cb : aq < cb := Nat.lt_of_lt_of_le A_aq.lt hcb
    have ne_aq_cb : aq ≠ cb := Nat.ne_of_lt lt_aq_cb
    have z_cb : n0 ≤ cb := Nat.le_trans Z0 hcb
    have s_cb : h0.size ≤ cb := Nat.le_trans Kp.1 hcb
    have S_A := own_sta_keep S_A Kq ns0
    have S_H := own_sta_keep S_H Kq ns0
    have S_L := own_sta_keep S_L Kq ns0
    have A_aq := A_aq.keep Kq nin0
    have Z0 := Nat.le_trans Z0 Kq.1
    have Kp := Kp.trans Kq all0
    show own_W _ _ _ _ _ _ _ _ [(.ref cb)]
    refine own_astore X hx (hb hby own12_26) (pc' := 28) rfl rfl (Ls' := #[.val (.ref aq), .val (.int (0 : Int32)), .val (.int (3 : Int32)), .val (.ref b1), .val (.int (0 : Int32)), .val (.ref cb)]) rfl ?_
    refine own_aload X hx (hb hby own12_28) (pc' := 30) rfl rfl rfl ?_
    refine own_iload X hx (hb hby own12_30) (pc' := 32) rfl rfl ?_
    refine own_callS X hx hZ [(.ref cb), (.int (0 : Int32))] hown (own_w hw 106 rfl) (own_w hw 107 rfl) (own_w hw 76 rfl) (own_w hw 108 rfl) (by decide) (rm_gc3_0 l Z a0 hw [] cb _ d0 d1 d2 h3 n0 Z0 S_A S_H S_L bd0 A_cb) eT (W := 0) (by decide) (by decide) (cells' := 2) (slots' := 9) rfl rfl (by decide) (by decide) (by rw [hml]; rfl) (lenOf own_pd_285bBI29C rfl) rfl (S := []) rfl (Nat.le_of_eq rfl) (hb hby own12_32) (pc' := 35) rfl ?_
    intro v T h4 L lc X eT hq fN
    obtain ⟨rfl, Nq, hqe⟩ := hq
    have N := fN _ N Nq
    rw [hqe] at eT
    show own_W _ _ _ _ _ _ _ _ [(.int d0)]
    refine own_sipush X hx (255 : Int32) (hb hby own12_35) (pc' := 38) rfl rfl ?_
    refine own_icmpY X hx (hb hby own12_38) (by decide) (pc' := 54) rfl (show (255 : Int32) < d0 from hbig) ?_
    refine own_aload X hx (hb hby own12_54) (pc' := 56) rfl rfl rfl ?_
    refine own_retA X hx hlk hret (hb hby own12_56) rfl rfl rfl (by decide) (by decide) ?_
    rw [eT]
    exact ⟨_, _, rfl, N, Kp, s_cb, Or.inr A_cb⟩
  · show own_W _ _ _ _ _ _ _ _ [(.int (1 : Int32))]
    refine own_istore X hx (hb hby own12_12) (pc' := 14) rfl (Ls' := #[.val (.ref aq), .val (.int (0 : Int32)), .val (.int (3 : Int32)), .val (.ref b1), .val (.int (1 : Int32)), .unset]) rfl ?_
    refine own_iload X hx (hb hby own12_14) (pc' := 16) rfl rfl ?_
    refine own_iloadN X hx (hb hby own12_16) (pc' := 17) rfl rfl ?_
    refine own_icmpN X hx (hb hby own12_17) (pc' := 20) rfl (show ¬ ((1 : Int32) = (3 : Int32)) from (by decide)) ?_
    refine own_aloadN X hx (hb hby own12_20) (pc' := 21) rfl rfl rfl ?_
    refine own_iloadN X hx (hb hby own12_21) (pc' := 22) rfl rfl ?_
    refine own_iloadN X hx (hb hby own12_22) (pc' := 23) rfl rfl ?_
    refine own_callS X hx hZ [(.ref aq), (.int (0 : Int32)), (.int (3 : Int32))] hown (own_w hw 90 rfl) (own_w hw 91 rfl) (own_w hw 76 rfl) (own_w hw 92 rfl) (by decide) (rm_tb3 l Z a0 hw [] aq _ d0 d1 d2 h2 n0 Z0 S_A S_H S_L A_aq) eT (W := 0) (by decide) (by decide) (cells' := 2) (slots' := 9) rfl rfl (by decide) (by decide) (by rw [hml]; rfl) (lenOf own_pd_285bCII295bB rfl) rfl (S := []) rfl (Nat.le_of_eq rfl) (hb hby own12_23) (pc' := 26) rfl ?_
    intro v T h5 L lc X eT hq fN
    obtain ⟨cb, kc, rfl, Nq, Kq, hcb, A_cb⟩ := hq
    have N := fN _ N Nq
    have lt_aq_cb : aq < cb := Nat.lt_of_lt_of_le A_aq.lt hcb
    have ne_aq_cb : aq ≠ cb := Nat.ne_of_lt lt_aq_cb
    have z_cb : n0 ≤ cb := Nat.le_trans Z0 hcb
    have s_cb : h0.size ≤ cb := Nat.le_trans Kp.1 hcb
    have S_A := own_sta_keep S_A Kq ns0
    have S_H := own_sta_keep S_H Kq ns0
    have S_L := own_sta_keep S_L Kq ns0
    have A_aq := A_aq.keep Kq nin0
    have Z0 := Nat.le_trans Z0 Kq.1
    have Kp := Kp.trans Kq all0
    show own_W _ _ _ _ _ _ _ _ [(.ref cb)]
    refine own_astore X hx (hb hby own12_26) (pc' := 28) rfl rfl (Ls' := #[.val (.ref aq), .val (.int (0 : Int32)), .val (.int (3 : Int32)), .val (.ref b1), .val (.int (1 : Int32)), .val (.ref cb)]) rfl ?_
    refine own_aload X hx (hb hby own12_28) (pc' := 30) rfl rfl rfl ?_
    refine own_iload X hx (hb hby own12_30) (pc' := 32) rfl rfl ?_
    refine own_callS X hx hZ [(.ref cb), (.int (1 : Int32))] hown (own_w hw 106 rfl) (own_w hw 107 rfl) (own_w hw 76 rfl) (own_w hw 108 rfl) (by decide) (rm_gc3_1 l Z a0 hw [] cb _ d0 d1 d2 h5 n0 Z0 S_A S_H S_L bd1 A_cb) eT (W := 0) (by decide) (by decide) (cells' := 2) (slots' := 9) rfl rfl (by decide) (by decide) (by rw [hml]; rfl) (lenOf own_pd_285bBI29C rfl) rfl (S := []) rfl (Nat.le_of_eq rfl) (hb hby own12_32) (pc' := 35) rfl ?_
    intro v T h6 L lc X eT hq fN
    obtain ⟨rfl, Nq, hqe⟩ := hq
    have N := fN _ N Nq
    rw [hqe] at eT
    show own_W _ _ _ _ _ _ _ _ [(.int d1)]
    refine own_sipush X hx (255 : Int32) (hb hby own12_35) (pc' := 38) rfl rfl ?_
    refine own_icmpY X hx (hb hby own12_38) (by decide) (pc' := 54) rfl (show (255 : Int32) < d1 from hbig) ?_
    refine own_aload X hx (hb hby own12_54) (pc' := 56) rfl rfl rfl ?_
    refine own_retA X hx hlk hret (hb hby own12_56) rfl rfl rfl (by decide) (by decide) ?_
    rw [eT]
    exact ⟨_, _, rfl, N, Kp, s_cb, Or.inr A_cb⟩
  · show own_W _ _ _ _ _ _ _ _ [(.int (2 : Int32))]
    refine own_istore X hx (hb hby own12_12) (pc' := 14) rfl (Ls' := #[.val (.ref aq), .val (.int (0 : Int32)), .val (.int (3 : Int32)), .val (.ref b1), .val (.int (2 : Int32)), .unset]) rfl ?_
    refine own_iload X hx (hb hby own12_14) (pc' := 16) rfl rfl ?_
    refine own_iloadN X hx (hb hby own12_16) (pc' := 17) rfl rfl ?_
    refine own_icmpN X hx (hb hby own12_17) (pc' := 20) rfl (show ¬ ((2 : Int32) = (3 : Int32)) from (by decide)) ?_
    refine own_aloadN X hx (hb hby own12_20) (pc' := 21) rfl rfl rfl ?_
    refine own_iloadN X hx (hb hby own12_21) (pc' := 22) rfl rfl ?_
    refine own_iloadN X hx (hb hby own12_22) (pc' := 23) rfl rfl ?_
    refine own_callS X hx hZ [(.ref aq), (.int (0 : Int32)), (.int (3 : Int32))] hown (own_w hw 90 rfl) (own_w hw 91 rfl) (own_w hw 76 rfl) (own_w hw 92 rfl) (by decide) (rm_tb3 l Z a0 hw [] aq _ d0 d1 d2 h2 n0 Z0 S_A S_H S_L A_aq) eT (W := 0) (by decide) (by decide) (cells' := 2) (slots' := 9) rfl rfl (by decide) (by decide) (by rw [hml]; rfl) (lenOf own_pd_285bCII295bB rfl) rfl (S := []) rfl (Nat.le_of_eq rfl) (hb hby own12_23) (pc' := 26) rfl ?_
    intro v T h7 L lc X eT hq fN
    obtain ⟨cb, kc, rfl, Nq, Kq, hcb, A_cb⟩ := hq
    have N := fN _ N Nq
    have lt_aq_cb : aq < cb := Nat.lt_of_lt_of_le A_aq.lt hcb
    have ne_aq_cb : aq ≠ cb := Nat.ne_of_lt lt_aq_cb
    have z_cb : n0 ≤ cb := Nat.le_trans Z0 hcb
    have s_cb : h0.size ≤ cb := Nat.le_trans Kp.1 hcb
    have S_A := own_sta_keep S_A Kq ns0
    have S_H := own_sta_keep S_H Kq ns0
    have S_L := own_sta_keep S_L Kq ns0
    have A_aq := A_aq.keep Kq nin0
    have Z0 := Nat.le_trans Z0 Kq.1
    have Kp := Kp.trans Kq all0
    show own_W _ _ _ _ _ _ _ _ [(.ref cb)]
    refine own_astore X hx (hb hby own12_26) (pc' := 28) rfl rfl (Ls' := #[.val (.ref aq), .val (.int (0 : Int32)), .val (.int (3 : Int32)), .val (.ref b1), .val (.int (2 : Int32)), .val (.ref cb)]) rfl ?_
    refine own_aload X hx (hb hby own12_28) (pc' := 30) rfl rfl rfl ?_
    refine own_iload X hx (hb hby own12_30) (pc' := 32) rfl rfl ?_
    refine own_callS X hx hZ [(.ref cb), (.int (2 : Int32))] hown (own_w hw 106 rfl) (own_w hw 107 rfl) (own_w hw 76 rfl) (own_w hw 108 rfl) (by decide) (rm_gc3_2 l Z a0 hw [] cb _ d0 d1 d2 h7 n0 Z0 S_A S_H S_L bd2 A_cb) eT (W := 0) (by decide) (by decide) (cells' := 2) (slots' := 9) rfl rfl (by decide) (by decide) (by rw [hml]; rfl) (lenOf own_pd_285bBI29C rfl) rfl (S := []) rfl (Nat.le_of_eq rfl) (hb hby own12_32) (pc' := 35) rfl ?_
    intro v T h8 L lc X eT hq fN
    obtain ⟨rfl, Nq, hqe⟩ := hq
    have N := fN _ N Nq
    rw [hqe] at eT
    show own_W _ _ _ _ _ _ _ _ [(.int d2)]
    refine own_sipush X hx (255 : Int32) (hb hby own12_35) (pc' := 38) rfl rfl ?_
    refine own_icmpY X hx (hb hby own12_38) (by decide) (pc' := 54) rfl (show (255 : Int32) < d2 from hbig) ?_
    refine own_aload X hx (hb hby own12_54) (pc' := 56) rfl rfl rfl ?_
    refine own_retA X hx hlk hret (hb hby own12_56) rfl rfl rfl (by decide) (by decide) ?_
    rw [eT]
    exact ⟨_, _, rfl, N, Kp, s_cb, Or.inr A_cb⟩
def Q_cf3 (Z : State) (b : Addr) (h0 : Heap) (n0 : Nat) (v : Option Value) (h : Heap) (L : List Loc) : Prop := v = some (.int (0 : Int32)) ∧ Fr n0 L ∧ h = h0
set_option maxRecDepth 65536 in
set_option maxHeartbeats 40000000 in
theorem rm_cf3 (l : Launch) (Z : State) (a0 : Array Value) (hw : ∀ d ∈ tables_1, d.before a0 Z = true) (ws : List Jvm.Cond) (b : Addr) (h0 : Heap) (n0 : Nat) (Z0 : n0 ≤ h0.size) (k : ClassId) (vs : List Value) (A_b : Arv Z h0 b k .byte (3 : Int32) vs (.int (0 : Int32))) : own_Met l Z ⟨"java/lang/StringUTF16", "coderFromArrayLen", "([BI)B"⟩ jdk_52_method_15_code 2 (some .byte) ws ⟨0, 0, 0, 0⟩ #[(.ref b), (.int (3 : Int32))] h0 (Q_cf3 Z b h0 n0) := by
  refine own_met n0 own_pn_java_lang_StringUTF16 (fun m => ef2RI m b (3 : Int32)) ?_
  intro p e s m below meth c T lc hret hx hZ hby hml hown hnm hlk X eT N
  refine own_iloadN X hx (hb hby own13_0) (pc' := 1) rfl rfl ?_
  refine own_aloadN X hx (hb hby own13_1) (pc' := 2) rfl rfl rfl ?_
  refine own_arrlen X hx hZ eT A_b (hb hby own13_2) (pc' := 3) rfl ?_
  refine own_isub X hx (hb hby own13_3) (pc' := 4) rfl ?_
  rw [show ((3 : Int32) - (3 : Int32)) = (0 : Int32) from by decide]
  refine own_bipush X hx (31 : Int32) (hb hby own13_4) (pc' := 6) rfl rfl ?_
  refine own_iushr X hx (hb hby own13_6) (pc' := 7) rfl ?_
  refine own_i2b X hx (hb hby own13_7) (pc' := 8) rfl ?_
  refine own_retI X hx hlk (t := .byte) (w' := (.int (0 : Int32))) hret (hb hby own13_8) rfl rfl (by simp) (by decide) (by decide) ?_
  rw [eT]
  exact ⟨rfl, N, rfl⟩
def Q_cu3 (Z : State) (b : Addr) (h0 : Heap) (n0 : Nat) (v : Option Value) (h : Heap) (L : List Loc) : Prop := v = some (.int (1 : Int32)) ∧ Fr n0 L ∧ h = h0
set_option maxRecDepth 65536 in
set_option maxHeartbeats 40000000 in
theorem rm_cu3 (l : Launch) (Z : State) (a0 : Array Value) (hw : ∀ d ∈ tables_1, d.before a0 Z = true) (ws : List Jvm.Cond) (b : Addr) (h0 : Heap) (n0 : Nat) (Z0 : n0 ≤ h0.size) (k : ClassId) (vs : List Value) (A_b : Arv Z h0 b k .byte (6 : Int32) vs (.int (0 : Int32))) : own_Met l Z ⟨"java/lang/StringUTF16", "coderFromArrayLen", "([BI)B"⟩ jdk_52_method_15_code 2 (some .byte) ws ⟨0, 0, 0, 0⟩ #[(.ref b), (.int (3 : Int32))] h0 (Q_cu3 Z b h0 n0) := by
  refine own_met n0 own_pn_java_lang_StringUTF16 (fun m => ef2RI m b (3 : Int32)) ?_
  intro p e s m below meth c T lc hret hx hZ hby hml hown hnm hlk X eT N
  refine own_iloadN X hx (hb hby own13_0) (pc' := 1) rfl rfl ?_
  refine own_aloadN X hx (hb hby own13_1) (pc' := 2) rfl rfl rfl ?_
  refine own_arrlen X hx hZ eT A_b (hb hby own13_2) (pc' := 3) rfl ?_
  refine own_isub X hx (hb hby own13_3) (pc' := 4) rfl ?_
  rw [show ((3 : Int32) - (6 : Int32)) = (-3 : Int32) from by decide]
  refine own_bipush X hx (31 : Int32) (hb hby own13_4) (pc' := 6) rfl rfl ?_
  refine own_iushr X hx (hb hby own13_6) (pc' := 7) rfl ?_
  refine own_i2b X hx (hb hby own13_7) (pc' := 8) rfl ?_
  refine own_retI X hx hlk (t := .byte) (w' := (.int (1 : Int32))) hret (hb hby own13_8) rfl rfl (by simp) (by decide) (by decide) ?_
  rw [eT]
  exact ⟨rfl, N, rfl⟩
def Q_iv3 (Z : State) (a1 aq : Addr) (kq : ClassId) (cs : Int32) (d0 d1 d2 : Int32) (h0 : Heap) (n0 : Nat) (v : Option Value) (h : Heap) (L : List Loc) : Prop := v = none ∧ Fr n0 L ∧ Keep h0 h [a1] ∧ ∃ (b : Addr) (k : ClassId), h0.size ≤ b ∧ Fld Z h a1 "java/lang/String" "value" "[B" (.ref b) ∧ ((Fld Z h a1 "java/lang/String" "coder" "B" (.int (0 : Int32)) ∧ (¬ ((255 : Int32) < d0) ∧ ¬ ((255 : Int32) < d1) ∧ ¬ ((255 : Int32) < d2)) ∧ Arv Z h b k .byte (3 : Int32) [(.int (nar .byte d0.toInt8.toInt32)), (.int (nar .byte d1.toInt8.toInt32)), (.int (nar .byte d2.toInt8.toInt32))] (.int (0 : Int32))) ∨ (Fld Z h a1 "java/lang/String" "coder" "B" (.int (1 : Int32)) ∧ Arv Z h b k .byte (6 : Int32) [(.int (own_lb d0)), (.int (own_hb d0)), (.int (own_lb d1)), (.int (own_hb d1)), (.int (own_lb d2)), (.int (own_hb d2))] (.int (0 : Int32))))
set_option maxRecDepth 65536 in
set_option maxHeartbeats 40000000 in
theorem rm_iv3 (l : Launch) (Z : State) (a0 : Array Value) (hw : ∀ d ∈ tables_1, d.before a0 Z = true) (ws : List Jvm.Cond) (a1 aq : Addr) (kq : ClassId) (cs : Int32) (d0 d1 d2 : Int32) (h0 : Heap) (n0 : Nat) (Z0 : n0 ≤ h0.size) (S_C : Sta Z h0 "java/lang/String" "COMPACT_STRINGS" "Z" (.int cs)) (hcs : ¬ cs = 0) (S_A : Sta Z h0 "java/lang/StringUTF16" "$assertionsDisabled" "Z" (.int (1 : Int32))) (S_H : Sta Z h0 "java/lang/StringUTF16" "HI_BYTE_SHIFT" "I" (.int (0 : Int32))) (S_L : Sta Z h0 "java/lang/StringUTF16" "LO_BYTE_SHIFT" "I" (.int (8 : Int32))) (u1 u2 : Value) (E_a1 : Exa Z h0 a1 "java/lang/String") (F_c : Fld Z h0 a1 "java/lang/String" "coder" "B" u1) (F_v : Fld Z h0 a1 "java/lang/String" "value" "[B" u2) (A_aq : Arv Z h0 aq kq .char (3 : Int32) [(.int d0), (.int d1), (.int d2)] (.int (0 : Int32))) (n1q : a1 ≠ aq) (bd0 : own_c16 d0) (bd1 : own_c16 d1) (bd2 : own_c16 d2) (z_a1 : n0 ≤ a1) : own_Met l Z ⟨"java/lang/String", "<init>", "([CIILjava/lang/Void;)V"⟩ jdk_42_method_149_code 6 none ws ⟨4, 2, 9, 77⟩ #[(.ref a1), (.ref aq), (.int (0 : Int32)), (.int (3 : Int32)), .null] h0 (Q_iv3 Z a1 aq kq cs d0 d1 d2 h0 n0) := by
  refine own_met n0 own_pn_java_lang_String (fun m => ef6RRIIN m a1 aq (0 : Int32) (3 : Int32)) ?_
  intro p e s m below meth c T lc hret hx hZ hby hml hown hnm hlk X eT N
  have Kp : Keep h0 h0 [a1] := Keep.refl _ _
  refine own_aloadN X hx (hb hby own9_0) (pc' := 1) rfl rfl rfl ?_
  refine own_initO X hx hZ hown (own_w hw 19 rfl) (own_w hw 20 rfl) (own_w hw 21 rfl) eT (by rw [hml]; rfl) (hb hby own9_1) (pc' := 4) rfl (by decide) (W := 0) (Nat.le_of_eq rfl) (by decide) ?_
  intro T X eT
  refine own_iloadN X hx (hb hby own9_4) (pc' := 5) rfl rfl ?_
  refine own_ifY X hx (hb hby own9_5) (by decide) (pc' := 27) rfl (show ¬ ((3 : Int32) = (0 : Int32)) from (by decide)) ?_
  refine own_getS X hx hZ hown (host := "") (Or.inl (own_w hw 49 rfl)) Via.refl eT S_C (hb hby own9_27) (pc' := 30) rfl ?_
  intro T X eT
  refine own_ifN X hx (hb hby own9_30) (pc' := 33) rfl (show ¬ (cs = (0 : Int32)) from hcs) ?_
  refine own_aloadN X hx (hb hby own9_33) (pc' := 34) rfl rfl rfl ?_
  refine own_iloadN X hx (hb hby own9_34) (pc' := 35) rfl rfl ?_
  refine own_iloadN X hx (hb hby own9_35) (pc' := 36) rfl rfl ?_
  refine own_callS X hx hZ [(.ref aq), (.int (0 : Int32)), (.int (3 : Int32))] hown (own_w hw 74 rfl) (own_w hw 75 rfl) (own_w hw 76 rfl) (own_w hw 77 rfl) (by decide) (rm_cc3 l Z a0 hw [] aq kq d0 d1 d2 h0 n0 Z0 S_A S_H S_L A_aq bd0 bd1 bd2) eT (W := 0) (by decide) (by decide) (cells' := 2) (slots' := 9) rfl rfl (by decide) (by decide) (by rw [hml]; rfl) (lenOf own_pd_285bCII295bB rfl) rfl (S := []) rfl (Nat.le_of_eq rfl) (hb hby own9_36) (pc' := 39) rfl ?_
  intro v T h1 L lc X eT hq fN
  obtain ⟨bb, kb, rfl, Nq, Kq, hbb, hv⟩ := hq
  have N := fN _ N Nq
  have lt_a1_bb : a1 < bb := Nat.lt_of_lt_of_le E_a1.lt hbb
  have ne_a1_bb : a1 ≠ bb := Nat.ne_of_lt lt_a1_bb
  have lt_aq_bb : aq < bb := Nat.lt_of_lt_of_le A_aq.lt hbb
  have ne_aq_bb : aq ≠ bb := Nat.ne_of_lt lt_aq_bb
  have z_bb : n0 ≤ bb := Nat.le_trans Z0 hbb
  have s_bb : h0.size ≤ bb := Nat.le_trans Kp.1 hbb
  have S_C := own_sta_keep S_C Kq ns0
  have S_A := own_sta_keep S_A Kq ns0
  have S_H := own_sta_keep S_H Kq ns0
  have S_L := own_sta_keep S_L Kq ns0
  have E_a1 := E_a1.keep Kq
  have F_c := F_c.keep Kq nin0
  have F_v := F_v.keep Kq nin0
  have A_aq := A_aq.keep Kq nin0
  have Z0 := Nat.le_trans Z0 Kq.1
  have Kp := Kp.trans Kq all0
  rcases hv with ⟨hall, A_bb⟩ | A_bb
  · show own_W _ _ _ _ _ _ _ _ [(.ref bb)]
    refine own_astore X hx (hb hby own9_39) (pc' := 41) rfl rfl (Ls' := #[.val (.ref a1), .val (.ref aq), .val (.int (0 : Int32)), .val (.int (3 : Int32)), .val .null, .val (.ref bb)]) rfl ?_
    refine own_aloadN X hx (hb hby own9_41) (pc' := 42) rfl rfl rfl ?_
    refine own_aload X hx (hb hby own9_42) (pc' := 44) rfl rfl rfl ?_
    refine own_iloadN X hx (hb hby own9_44) (pc' := 45) rfl rfl ?_
    refine own_callS X hx hZ [(.ref bb), (.int (3 : Int32))] hown (own_w hw 81 rfl) (own_w hw 82 rfl) (own_w hw 76 rfl) (own_w hw 83 rfl) (by decide) (rm_cf3 l Z a0 hw [] bb h1 n0 Z0 _ _ A_bb) eT (W := 1) (by decide) (by decide) (cells' := 2) (slots' := 9) rfl rfl (by decide) (by decide) (by rw [hml]; rfl) (lenOf own_pd_285bBI29B rfl) rfl (S := [(.ref a1)]) rfl (Nat.le_of_eq rfl) (hb hby own9_45) (pc' := 48) rfl ?_
    intro v T h2 L lc X eT hq fN
    obtain ⟨rfl, Nq, hqe⟩ := hq
    have N := fN _ N Nq
    rw [hqe] at eT
    show own_W _ _ _ _ _ _ _ _ [(.int (0 : Int32)), (.ref a1)]
    refine own_putF X hx hZ hown (own_w hw 29 rfl) Via.refl eT F_c E_a1 (Or.inr ⟨(own_w hw 25 rfl), rfl, hnm⟩) (own_w hw 9 rfl) (ty := .byte) (v' := (.int (0 : Int32))) (by decide) rfl rfl (hb hby own9_48) (pc' := 51) rfl ?_
    intro T h3 lc X eT Wq fN
    have F_c := F_c.same Wq
    have S_C := S_C.wr Wq
    have S_A := S_A.wr Wq
    have S_H := S_H.wr Wq
    have S_L := S_L.wr Wq
    have E_a1 := E_a1.wr Wq
    have F_v := F_v.other Wq (Or.inr (slot_ne (Or.inr (own_w hw 24 rfl)) (Or.inr (own_w hw 25 rfl)) (by decide) (t := (.array .byte)) (t' := .byte) (by decide) (by decide)))
    have A_aq := A_aq.other Wq (Ne.symm n1q)
    have A_bb := A_bb.other Wq (Ne.symm ne_a1_bb)
    have Z0 := Nat.le_trans Z0 (Keep.of_wr Wq).1
    have N := fN _ z_a1 N
    have Kp := Kp.wr Wq (Or.inl (List.mem_of_getElem? (i := 0) rfl))
    refine own_aloadN X hx (hb hby own9_51) (pc' := 52) rfl rfl rfl ?_
    refine own_aload X hx (hb hby own9_52) (pc' := 54) rfl rfl rfl ?_
    refine own_putF X hx hZ hown (own_w hw 28 rfl) Via.refl eT F_v E_a1 (Or.inr ⟨(own_w hw 24 rfl), rfl, hnm⟩) (own_w hw 9 rfl) (ty := (.array .byte)) (v' := (.ref bb)) (by decide) rfl rfl (hb hby own9_54) (pc' := 57) rfl ?_
    intro T h4 lc X eT Wq fN
    have F_v := F_v.same Wq
    have S_C := S_C.wr Wq
    have S_A := S_A.wr Wq
    have S_H := S_H.wr Wq
    have S_L := S_L.wr Wq
    have E_a1 := E_a1.wr Wq
    have A_aq := A_aq.other Wq (Ne.symm n1q)
    have A_bb := A_bb.other Wq (Ne.symm ne_a1_bb)
    have F_c := F_c.other Wq (Or.inr (slot_ne (Or.inr (own_w hw 25 rfl)) (Or.inr (own_w hw 24 rfl)) (by decide) (t := .byte) (t' := (.array .byte)) (by decide) (by decide)))
    have Z0 := Nat.le_trans Z0 (Keep.of_wr Wq).1
    have N := fN _ z_a1 N
    have Kp := Kp.wr Wq (Or.inl (List.mem_of_getElem? (i := 0) rfl))
    refine own_ret0 X hx hlk hret (hb hby own9_57) (by decide) (by decide) ?_
    rw [eT]
    exact ⟨rfl, N, Kp, bb, kb, s_bb, F_v, Or.inl ⟨F_c, hall, A_bb⟩⟩
  · show own_W _ _ _ _ _ _ _ _ [(.ref bb)]
    refine own_astore X hx (hb hby own9_39) (pc' := 41) rfl rfl (Ls' := #[.val (.ref a1), .val (.ref aq), .val (.int (0 : Int32)), .val (.int (3 : Int32)), .val .null, .val (.ref bb)]) rfl ?_
    refine own_aloadN X hx (hb hby own9_41) (pc' := 42) rfl rfl rfl ?_
    refine own_aload X hx (hb hby own9_42) (pc' := 44) rfl rfl rfl ?_
    refine own_iloadN X hx (hb hby own9_44) (pc' := 45) rfl rfl ?_
    refine own_callS X hx hZ [(.ref bb), (.int (3 : Int32))] hown (own_w hw 81 rfl) (own_w hw 82 rfl) (own_w hw 76 rfl) (own_w hw 83 rfl) (by decide) (rm_cu3 l Z a0 hw [] bb h1 n0 Z0 _ _ A_bb) eT (W := 1) (by decide) (by decide) (cells' := 2) (slots' := 9) rfl rfl (by decide) (by decide) (by rw [hml]; rfl) (lenOf own_pd_285bBI29B rfl) rfl (S := [(.ref a1)]) rfl (Nat.le_of_eq rfl) (hb hby own9_45) (pc' := 48) rfl ?_
    intro v T h5 L lc X eT hq fN
    obtain ⟨rfl, Nq, hqe⟩ := hq
    have N := fN _ N Nq
    rw [hqe] at eT
    show own_W _ _ _ _ _ _ _ _ [(.int (1 : Int32)), (.ref a1)]
    refine own_putF X hx hZ hown (own_w hw 29 rfl) Via.refl eT F_c E_a1 (Or.inr ⟨(own_w hw 25 rfl), rfl, hnm⟩) (own_w hw 9 rfl) (ty := .byte) (v' := (.int (1 : Int32))) (by decide) rfl rfl (hb hby own9_48) (pc' := 51) rfl ?_
    intro T h6 lc X eT Wq fN
    have F_c := F_c.same Wq
    have S_C := S_C.wr Wq
    have S_A := S_A.wr Wq
    have S_H := S_H.wr Wq
    have S_L := S_L.wr Wq
    have E_a1 := E_a1.wr Wq
    have F_v := F_v.other Wq (Or.inr (slot_ne (Or.inr (own_w hw 24 rfl)) (Or.inr (own_w hw 25 rfl)) (by decide) (t := (.array .byte)) (t' := .byte) (by decide) (by decide)))
    have A_aq := A_aq.other Wq (Ne.symm n1q)
    have A_bb := A_bb.other Wq (Ne.symm ne_a1_bb)
    have Z0 := Nat.le_trans Z0 (Keep.of_wr Wq).1
    have N := fN _ z_a1 N
    have Kp := Kp.wr Wq (Or.inl (List.mem_of_getElem? (i := 0) rfl))
    refine own_aloadN X hx (hb hby own9_51) (pc' := 52) rfl rfl rfl ?_
    refine own_aload X hx (hb hby own9_52) (pc' := 54) rfl rfl rfl ?_
    refine own_putF X hx hZ hown (own_w hw 28 rfl) Via.refl eT F_v E_a1 (Or.inr ⟨(own_w hw 24 rfl), rfl, hnm⟩) (own_w hw 9 rfl) (ty := (.array .byte)) (v' := (.ref bb)) (by decide) rfl rfl (hb hby own9_54) (pc' := 57) rfl ?_
    intro T h7 lc X eT Wq fN
    have F_v := F_v.same Wq
    have S_C := S_C.wr Wq
    have S_A := S_A.wr Wq
    have S_H := S_H.wr Wq
    have S_L := S_L.wr Wq
    have E_a1 := E_a1.wr Wq
    have A_aq := A_aq.other Wq (Ne.symm n1q)
    have A_bb := A_bb.other Wq (Ne.symm ne_a1_bb)
    have F_c := F_c.other Wq (Or.inr (slot_ne (Or.inr (own_w hw 25 rfl)) (Or.inr (own_w hw 24 rfl)) (by decide) (t := .byte) (t' := (.array .byte)) (by decide) (by decide)))
    have Z0 := Nat.le_trans Z0 (Keep.of_wr Wq).1
    have N := fN _ z_a1 N
    have Kp := Kp.wr Wq (Or.inl (List.mem_of_getElem? (i := 0) rfl))
    refine own_ret0 X hx hlk hret (hb hby own9_57) (by decide) (by decide) ?_
    rw [eT]
    exact ⟨rfl, N, Kp, bb, kb, s_bb, F_v, Or.inr ⟨F_c, A_bb⟩⟩
def Q_ic3 (Z : State) (a1 aq : Addr) (kq : ClassId) (cs : Int32) (d0 d1 d2 : Int32) (h0 : Heap) (n0 : Nat) (v : Option Value) (h : Heap) (L : List Loc) : Prop := v = none ∧ Fr n0 L ∧ Keep h0 h [a1] ∧ ∃ (b : Addr) (k : ClassId), h0.size ≤ b ∧ Fld Z h a1 "java/lang/String" "value" "[B" (.ref b) ∧ ((Fld Z h a1 "java/lang/String" "coder" "B" (.int (0 : Int32)) ∧ (¬ ((255 : Int32) < d0) ∧ ¬ ((255 : Int32) < d1) ∧ ¬ ((255 : Int32) < d2)) ∧ Arv Z h b k .byte (3 : Int32) [(.int (nar .byte d0.toInt8.toInt32)), (.int (nar .byte d1.toInt8.toInt32)), (.int (nar .byte d2.toInt8.toInt32))] (.int (0 : Int32))) ∨ (Fld Z h a1 "java/lang/String" "coder" "B" (.int (1 : Int32)) ∧ Arv Z h b k .byte (6 : Int32) [(.int (own_lb d0)), (.int (own_hb d0)), (.int (own_lb d1)), (.int (own_hb d1)), (.int (own_lb d2)), (.int (own_hb d2))] (.int (0 : Int32))))
set_option maxRecDepth 65536 in
set_option maxHeartbeats 40000000 in
theorem rm_ic3 (l : Launch) (Z : State) (a0 : Array Value) (hw : ∀ d ∈ tables_1, d.before a0 Z = true) (ws : List Jvm.Cond) (a1 aq : Addr) (kq : ClassId) (cs : Int32) (d0 d1 d2 : Int32) (h0 : Heap) (n0 : Nat) (Z0 : n0 ≤ h0.size) (S_C : Sta Z h0 "java/lang/String" "COMPACT_STRINGS" "Z" (.int cs)) (hcs : ¬ cs = 0) (S_A : Sta Z h0 "java/lang/StringUTF16" "$assertionsDisabled" "Z" (.int (1 : Int32))) (S_H : Sta Z h0 "java/lang/StringUTF16" "HI_BYTE_SHIFT" "I" (.int (0 : Int32))) (S_L : Sta Z h0 "java/lang/StringUTF16" "LO_BYTE_SHIFT" "I" (.int (8 : Int32))) (u1 u2 : Value) (E_a1 : Exa Z h0 a1 "java/lang/String") (F_c : Fld Z h0 a1 "java/lang/String" "coder" "B" u1) (F_v : Fld Z h0 a1 "java/lang/String" "value" "[B" u2) (A_aq : Arv Z h0 aq kq .char (3 : Int32) [(.int d0), (.int d1), (.int d2)] (.int (0 : Int32))) (n1q : a1 ≠ aq) (bd0 : own_c16 d0) (bd1 : own_c16 d1) (bd2 : own_c16 d2) (z_a1 : n0 ≤ a1) : own_Met l Z ⟨"java/lang/String", "<init>", "([C)V"⟩ jdk_42_method_3_code 2 none ws ⟨5, 2, 9, 99⟩ #[(.ref a1), (.ref aq)] h0 (Q_ic3 Z a1 aq kq cs d0 d1 d2 h0 n0) := by
  refine own_met n0 own_pn_java_lang_String (fun m => ef2RR m a1 aq) ?_
  intro p e s m below meth c T lc hret hx hZ hby hml hown hnm hlk X eT N
  refine own_aloadN X hx (hb hby own10_0) (pc' := 1) rfl rfl rfl ?_
  refine own_aloadN X hx (hb hby own10_1) (pc' := 2) rfl rfl rfl ?_
  refine own_iconst X hx (0 : Int32) (hb hby own10_2) (pc' := 3) rfl rfl ?_
  refine own_aloadN X hx (hb hby own10_3) (pc' := 4) rfl rfl rfl ?_
  refine own_arrlen X hx hZ eT A_aq (hb hby own10_4) (pc' := 5) rfl ?_
  refine own_aconst_null X hx (hb hby own10_5) (pc' := 6) rfl ?_
  refine own_callN X hx hZ a1 [(.ref aq), (.int (0 : Int32)), (.int (3 : Int32)), .null] rfl hown (own_w hw 15 rfl) (own_w hw 16 rfl) (own_w hw 10 rfl) (own_w hw 18 rfl) (by decide) (rm_iv3 l Z a0 hw [] a1 aq kq cs d0 d1 d2 h0 n0 Z0 S_C hcs S_A S_H S_L _ _ E_a1 F_c F_v A_aq n1q bd0 bd1 bd2 z_a1) eT (W := 0) (by decide) (by decide) (cells' := 2) (slots' := 9) rfl rfl (by decide) (by decide) (by rw [hml]; rfl) (lenOf own_pd_285bCIILjava2flang2fVoid3b29V rfl) rfl (S := []) rfl (Nat.le_of_eq rfl) (hb hby own10_6) (pc' := 9) rfl ?_
  intro v T h1 L lc X eT hq fN
  obtain ⟨rfl, Nq, Kq, bb, kb, hbb, F_v2, hcd⟩ := hq
  have N := fN _ N Nq
  show own_W _ _ _ _ _ _ _ _ []
  refine own_ret0 X hx hlk hret (hb hby own10_9) (by decide) (by decide) ?_
  rw [eT]
  exact ⟨rfl, N, Kq, bb, kb, hbb, F_v2, hcd⟩
def Q_ci4 (Z : State) (aq ad : Addr) (kq kd : ClassId) (d0 d1 d2 d3 : Int32) (h0 : Heap) (n0 : Nat) (v : Option Value) (h : Heap) (L : List Loc) : Prop := Fr n0 L ∧ Keep h0 h [ad] ∧ ((v = some (.int (4 : Int32)) ∧ (¬ ((255 : Int32) < d0) ∧ ¬ ((255 : Int32) < d1) ∧ ¬ ((255 : Int32) < d2) ∧ ¬ ((255 : Int32) < d3)) ∧ Arv Z h ad kd .byte (4 : Int32) [(.int (nar .byte d0.toInt8.toInt32)), (.int (nar .byte d1.toInt8.toInt32)), (.int (nar .byte d2.toInt8.toInt32)), (.int (nar .byte d3.toInt8.toInt32))] (.int (0 : Int32))) ∨ (v = some (.int (0 : Int32)) ∧ (255 : Int32) < d0) ∨ (v = some (.int (1 : Int32)) ∧ (255 : Int32) < d1) ∨ (v = some (.int (2 : Int32)) ∧ (255 : Int32) < d2) ∨ (v = some (.int (3 : Int32)) ∧ (255 : Int32) < d3))
set_option maxRecDepth 65536 in
set_option maxHeartbeats 40000000 in
theorem rm_ci4 (l : Launch) (Z : State) (a0 : Array Value) (hw : ∀ d ∈ tables_1, d.before a0 Z = true) (ws : List Jvm.Cond) (aq ad : Addr) (kq kd : ClassId) (d0 d1 d2 d3 : Int32) (h0 : Heap) (n0 : Nat) (Z0 : n0 ≤ h0.size) (A_aq : Arv Z h0 aq kq .char (4 : Int32) [(.int d0), (.int d1), (.int d2), (.int d3)] (.int (0 : Int32))) (A_ad : Arv Z h0 ad kd .byte (4 : Int32) [(.int (0 : Int32)), (.int (0 : Int32)), (.int (0 : Int32)), (.int (0 : Int32))] (.int (0 : Int32))) (nqd : aq ≠ ad) (z_ad : n0 ≤ ad) : own_Met l Z ⟨"java/lang/StringUTF16", "compress", "([CI[BII)I"⟩ jdk_52_method_21_code 7 (some .int) ws ⟨0, 0, 0, 0⟩ #[(.ref aq), (.int (0 : Int32)), (.ref ad), (.int (0 : Int32)), (.int (4 : Int32))] h0 (Q_ci4 Z aq ad kq kd d0 d1 d2 d3 h0 n0) := by
  refine own_met n0 own_pn_java_lang_StringUTF16 (fun m => ef7RIRII m aq (0 : Int32) ad (0 : Int32) (4 : Int32)) ?_
  intro p e s m below meth c T lc hret hx hZ hby hml hown hnm hlk X eT N
  have Kp : Keep h0 h0 [ad] := Keep.refl _ _
  refine own_iconst X hx (0 : Int32) (hb hby own11_0) (pc' := 1) rfl rfl ?_
  refine own_istore X hx (hb hby own11_1) (pc' := 3) rfl (Ls' := #[.val (.ref aq), .val (.int (0 : Int32)), .val (.ref ad), .val (.int (0 : Int32)), .val (.int (4 : Int32)), .val (.int (0 : Int32)), .unset]) rfl ?_
  refine own_iload X hx (hb hby own11_3) (pc' := 5) rfl rfl ?_
  refine own_iload X hx (hb hby own11_5) (pc' := 7) rfl rfl ?_
  refine own_icmpN X hx (hb hby own11_7) (pc' := 10) rfl (show (0 : Int32) < (4 : Int32) from (by decide)) ?_
  refine own_aloadN X hx (hb hby own11_10) (pc' := 11) rfl rfl rfl ?_
  refine own_iloadN X hx (hb hby own11_11) (pc' := 12) rfl rfl ?_
  refine own_caload X hx hZ eT A_aq (v := (.int d0)) (by decide) rfl (hb hby own11_12) (pc' := 13) rfl ?_
  refine own_istore X hx (hb hby own11_13) (pc' := 15) rfl (Ls' := #[.val (.ref aq), .val (.int (0 : Int32)), .val (.ref ad), .val (.int (0 : Int32)), .val (.int (4 : Int32)), .val (.int (0 : Int32)), .val (.int d0)]) rfl ?_
  refine own_iload X hx (hb hby own11_15) (pc' := 17) rfl rfl ?_
  refine own_sipush X hx (255 : Int32) (hb hby own11_17) (pc' := 20) rfl rfl ?_
  refine own_icmp X hx (hb hby own11_20) (by decide) (pcY := 26) (pcN := 23) rfl rfl (fun (hc20 : ¬ ((255 : Int32) < d0)) => ?_) (fun (hc20 : (255 : Int32) < d0) => ?_)
  · refine own_aloadN X hx (hb hby own11_26) (pc' := 27) rfl rfl rfl ?_
    refine own_iloadN X hx (hb hby own11_27) (pc' := 28) rfl rfl ?_
    refine own_iload X hx (hb hby own11_28) (pc' := 30) rfl rfl ?_
    refine own_i2b X hx (hb hby own11_30) (pc' := 31) rfl ?_
    refine own_bastoreB X hx hZ eT A_ad (by decide) 0 rfl (by show 0 < 4; decide) (hb hby own11_31) (pc' := 32) rfl ?_
    intro T h1 lc X eT Kq A_adn fN
    have A_aq := A_aq.keep Kq (ninS nqd nin0)
    have Z0 := Nat.le_trans Z0 Kq.1
    have A_ad := A_adn
    have N := fN _ z_ad N
    have Kp := Kp.trans Kq (allS (P := fun x => x ∈ [ad] ∨ h0.size ≤ x) (Or.inl (List.mem_of_getElem? (i := 0) rfl)) all0)
    have A_ad : Arv Z h1 ad _ .byte (4 : Int32) [(.int (nar .byte d0.toInt8.toInt32)), (.int (0 : Int32)), (.int (0 : Int32)), (.int (0 : Int32))] (.int (0 : Int32)) := A_ad
    refine own_iinc X hx (1 : Int32) (hb hby own11_32) (pc' := 35) rfl rfl rfl (Ls' := #[.val (.ref aq), .val (.int (1 : Int32)), .val (.ref ad), .val (.int (0 : Int32)), .val (.int (4 : Int32)), .val (.int (0 : Int32)), .val (.int d0)]) rfl ?_
    refine own_iinc X hx (1 : Int32) (hb hby own11_35) (pc' := 38) rfl rfl rfl (Ls' := #[.val (.ref aq), .val (.int (1 : Int32)), .val (.ref ad), .val (.int (1 : Int32)), .val (.int (4 : Int32)), .val (.int (0 : Int32)), .val (.int d0)]) rfl ?_
    refine own_iinc X hx (1 : Int32) (hb hby own11_38) (pc' := 41) rfl rfl rfl (Ls' := #[.val (.ref aq), .val (.int (1 : Int32)), .val (.ref ad), .val (.int (1 : Int32)), .val (.int (4 : Int32)), .val (.int (1 : Int32)), .val (.int d0)]) rfl ?_
    refine own_goto X hx (hb hby own11_41) (by decide) (pc' := 3) rfl ?_
    refine own_iload X hx (hb hby own11_3) (pc' := 5) rfl rfl ?_
    refine own_iload X hx (hb hby own11_5) (pc' := 7) rfl rfl ?_
    refine own_icmpN X hx (hb hby own11_7) (pc' := 10) rfl (show (1 : Int32) < (4 : Int32) from (by decide)) ?_
    refine own_aloadN X hx (hb hby own11_10) (pc' := 11) rfl rfl rfl ?_
    refine own_iloadN X hx (hb hby own11_11) (pc' := 12) rfl rfl ?_
    refine own_caload X hx hZ eT A_aq (v := (.int d1)) (by decide) rfl (hb hby own11_12) (pc' := 13) rfl ?_
    refine own_istore X hx (hb hby own11_13) (pc' := 15) rfl (Ls' := #[.val (.ref aq), .val (.int (1 : Int32)), .val (.ref ad), .val (.int (1 : Int32)), .val (.int (4 : Int32)), .val (.int (1 : Int32)), .val (.int d1)]) rfl ?_
    refine own_iload X hx (hb hby own11_15) (pc' := 17) rfl rfl ?_
    refine own_sipush X hx (255 : Int32) (hb hby own11_17) (pc' := 20) rfl rfl ?_
    refine own_icmp X hx (hb hby own11_20) (by decide) (pcY := 26) (pcN := 23) rfl rfl (fun (hc20_2 : ¬ ((255 : Int32) < d1)) => ?_) (fun (hc20_2 : (255 : Int32) < d1) => ?_)
    · refine own_aloadN X hx (hb hby own11_26) (pc' := 27) rfl rfl rfl ?_
      refine own_iloadN X hx (hb hby own11_27) (pc' := 28) rfl rfl ?_
      refine own_iload X hx (hb hby own11_28) (pc' := 30) rfl rfl ?_
      refine own_i2b X hx (hb hby own11_30) (pc' := 31) rfl ?_
      refine own_bastoreB X hx hZ eT A_ad (by decide) 1 rfl (by show 1 < 4; decide) (hb hby own11_31) (pc' := 32) rfl ?_
      intro T h2 lc X eT Kq A_adn fN
      have A_aq := A_aq.keep Kq (ninS nqd nin0)
      have Z0 := Nat.le_trans Z0 Kq.1
      have A_ad := A_adn
      have N := fN _ z_ad N
      have Kp := Kp.trans Kq (allS (P := fun x => x ∈ [ad] ∨ h0.size ≤ x) (Or.inl (List.mem_of_getElem? (i := 0) rfl)) all0)
      have A_ad : Arv Z h2 ad _ .byte (4 : Int32) [(.int (nar .byte d0.toInt8.toInt32)), (.int (nar .byte d1.toInt8.toInt32)), (.int (0 : Int32)), (.int (0 : Int32))] (.int (0 : Int32)) := A_ad
      refine own_iinc X hx (1 : Int32) (hb hby own11_32) (pc' := 35) rfl rfl rfl (Ls' := #[.val (.ref aq), .val (.int (2 : Int32)), .val (.ref ad), .val (.int (1 : Int32)), .val (.int (4 : Int32)), .val (.int (1 : Int32)), .val (.int d1)]) rfl ?_
      refine own_iinc X hx (1 : Int32) (hb hby own11_35) (pc' := 38) rfl rfl rfl (Ls' := #[.val (.ref aq), .val (.int (2 : Int32)), .val (.ref ad), .val (.int (2 : Int32)), .val (.int (4 : Int32)), .val (.int (1 : Int32)), .val (.int d1)]) rfl ?_
      refine own_iinc X hx (1 : Int32) (hb hby own11_38) (pc' := 41) rfl rfl rfl (Ls' := #[.val (.ref aq), .val (.int (2 : Int32)), .val (.ref ad), .val (.int (2 : Int32)), .val (.int (4 : Int32)), .val (.int (2 : Int32)), .val (.int d1)]) rfl ?_
      refine own_goto X hx (hb hby own11_41) (by decide) (pc' := 3) rfl ?_
      refine own_iload X hx (hb hby own11_3) (pc' := 5) rfl rfl ?_
      refine own_iload X hx (hb hby own11_5) (pc' := 7) rfl rfl ?_
      refine own_icmpN X hx (hb hby own11_7) (pc' := 10) rfl (show (2 : Int32) < (4 : Int32) from (by decide)) ?_
      refine own_aloadN X hx (hb hby own11_10) (pc' := 11) rfl rfl rfl ?_
      refine own_iloadN X hx (hb hby own11_11) (pc' := 12) rfl rfl ?_
      refine own_caload X hx hZ eT A_aq (v := (.int d2)) (by decide) rfl (hb hby own11_12) (pc' := 13) rfl ?_
      refine own_istore X hx (hb hby own11_13) (pc' := 15) rfl (Ls' := #[.val (.ref aq), .val (.int (2 : Int32)), .val (.ref ad), .val (.int (2 : Int32)), .val (.int (4 : Int32)), .val (.int (2 : Int32)), .val (.int d2)]) rfl ?_
      refine own_iload X hx (hb hby own11_15) (pc' := 17) rfl rfl ?_
      refine own_sipush X hx (255 : Int32) (hb hby own11_17) (pc' := 20) rfl rfl ?_
      refine own_icmp X hx (hb hby own11_20) (by decide) (pcY := 26) (pcN := 23) rfl rfl (fun (hc20_3 : ¬ ((255 : Int32) < d2)) => ?_) (fun (hc20_3 : (255 : Int32) < d2) => ?_)
      · refine own_aloadN X hx (hb hby own11_26) (pc' := 27) rfl rfl rfl ?_
        refine own_iloadN X hx (hb hby own11_27) (pc' := 28) rfl rfl ?_
        refine own_iload X hx (hb hby own11_28) (pc' := 30) rfl rfl ?_
        refine own_i2b X hx (hb hby own11_30) (pc' := 31) rfl ?_
        refine own_bastoreB X hx hZ eT A_ad (by decide) 2 rfl (by show 2 < 4; decide) (hb hby own11_31) (pc' := 32) rfl ?_
        intro T h3 lc X eT Kq A_adn fN
        have A_aq := A_aq.keep Kq (ninS nqd nin0)
        have Z0 := Nat.le_trans Z0 Kq.1
        have A_ad := A_adn
        have N := fN _ z_ad N
        have Kp := Kp.trans Kq (allS (P := fun x => x ∈ [ad] ∨ h0.size ≤ x) (Or.inl (List.mem_of_getElem? (i := 0) rfl)) all0)
        have A_ad : Arv Z h3 ad _ .byte (4 : Int32) [(.int (nar .byte d0.toInt8.toInt32)), (.int (nar .byte d1.toInt8.toInt32)), (.int (nar .byte d2.toInt8.toInt32)), (.int (0 : Int32))] (.int (0 : Int32)) := A_ad
        refine own_iinc X hx (1 : Int32) (hb hby own11_32) (pc' := 35) rfl rfl rfl (Ls' := #[.val (.ref aq), .val (.int (3 : Int32)), .val (.ref ad), .val (.int (2 : Int32)), .val (.int (4 : Int32)), .val (.int (2 : Int32)), .val (.int d2)]) rfl ?_
        refine own_iinc X hx (1 : Int32) (hb hby own11_35) (pc' := 38) rfl rfl rfl (Ls' := #[.val (.ref aq), .val (.int (3 : Int32)), .val (.ref ad), .val (.int (3 : Int32)), .val (.int (4 : Int32)), .val (.int (2 : Int32)), .val (.int d2)]) rfl ?_
        refine own_iinc X hx (1 : Int32) (hb hby own11_38) (pc' := 41) rfl rfl rfl (Ls' := #[.val (.ref aq), .val (.int (3 : Int32)), .val (.ref ad), .val (.int (3 : Int32)), .val (.int (4 : Int32)), .val (.int (3 : Int32)), .val (.int d2)]) rfl ?_
        refine own_goto X hx (hb hby own11_41) (by decide) (pc' := 3) rfl ?_
        refine own_iload X hx (hb hby own11_3) (pc' := 5) rfl rfl ?_
        refine own_iload X hx (hb hby own11_5) (pc' := 7) rfl rfl ?_
        refine own_icmpN X hx (hb hby own11_7) (pc' := 10) rfl (show (3 : Int32) < (4 : Int32) from (by decide)) ?_
        refine own_aloadN X hx (hb hby own11_10) (pc' := 11) rfl rfl rfl ?_
        refine own_iloadN X hx (hb hby own11_11) (pc' := 12) rfl rfl ?_
        refine own_caload X hx hZ eT A_aq (v := (.int d3)) (by decide) rfl (hb hby own11_12) (pc' := 13) rfl ?_
        refine own_istore X hx (hb hby own11_13) (pc' := 15) rfl (Ls' := #[.val (.ref aq), .val (.int (3 : Int32)), .val (.ref ad), .val (.int (3 : Int32)), .val (.int (4 : Int32)), .val (.int (3 : Int32)), .val (.int d3)]) rfl ?_
        refine own_iload X hx (hb hby own11_15) (pc' := 17) rfl rfl ?_
        refine own_sipush X hx (255 : Int32) (hb hby own11_17) (pc' := 20) rfl rfl ?_
        refine own_icmp X hx (hb hby own11_20) (by decide) (pcY := 26) (pcN := 23) rfl rfl (fun (hc20_4 : ¬ ((255 : Int32) < d3)) => ?_) (fun (hc20_4 : (255 : Int32) < d3) => ?_)
        · refine own_aloadN X hx (hb hby own11_26) (pc' := 27) rfl rfl rfl ?_
          refine own_iloadN X hx (hb hby own11_27) (pc' := 28) rfl rfl ?_
          refine own_iload X hx (hb hby own11_28) (pc' := 30) rfl rfl ?_
          refine own_i2b X hx (hb hby own11_30) (pc' := 31) rfl ?_
          refine own_bastoreB X hx hZ eT A_ad (by decide) 3 rfl (by show 3 < 4; decide) (hb hby own11_31) (pc' := 32) rfl ?_
          intro T h4 lc X eT Kq A_adn fN
          have A_aq := A_aq.keep Kq (ninS nqd nin0)
          have Z0 := Nat.le_trans Z0 Kq.1
          have A_ad := A_adn
          have N := fN _ z_ad N
          have Kp := Kp.trans Kq (allS (P := fun x => x ∈ [ad] ∨ h0.size ≤ x) (Or.inl (List.mem_of_getElem? (i := 0) rfl)) all0)
          have A_ad : Arv Z h4 ad _ .byte (4 : Int32) [(.int (nar .byte d0.toInt8.toInt32)), (.int (nar .byte d1.toInt8.toInt32)), (.int (nar .byte d2.toInt8.toInt32)), (.int (nar .byte d3.toInt8.toInt32))] (.int (0 : Int32)) := A_ad
          refine own_iinc X hx (1 : Int32) (hb hby own11_32) (pc' := 35) rfl rfl rfl (Ls' := #[.val (.ref aq), .val (.int (4 : Int32)), .val (.ref ad), .val (.int (3 : Int32)), .val (.int (4 : Int32)), .val (.int (3 : Int32)), .val (.int d3)]) rfl ?_
          refine own_iinc X hx (1 : Int32) (hb hby own11_35) (pc' := 38) rfl rfl rfl (Ls' := #[.val (.ref aq), .val (.int (4 : Int32)), .val (.ref ad), .val (.int (4 : Int32)), .val (.int (4 : Int32)), .val (.int (3 : Int32)), .val (.int d3)]) rfl ?_
          refine own_iinc X hx (1 : Int32) (hb hby own11_38) (pc' := 41) rfl rfl rfl (Ls' := #[.val (.ref aq), .val (.int (4 : Int32)), .val (.ref ad), .val (.int (4 : Int32)), .val (.int (4 : Int32)), .val (.int (4 : Int32)), .val (.int d3)]) rfl ?_
          refine own_goto X hx (hb hby own11_41) (by decide) (pc' := 3) rfl ?_
          refine own_iload X hx (hb hby own11_3) (pc' := 5) rfl rfl ?_
          refine own_iload X hx (hb hby own11_5) (pc' := 7) rfl rfl ?_
          refine own_icmpY X hx (hb hby own11_7) (by decide) (pc' := 44) rfl (show ¬ ((4 : Int32) < (4 : Int32)) from (by decide)) ?_
          refine own_iload X hx (hb hby own11_44) (pc' := 46) rfl rfl ?_
          refine own_retI X hx hlk (t := .int) (w' := (.int (4 : Int32))) hret (hb hby own11_46) rfl rfl (by simp) (by decide) (by decide) ?_
          rw [eT]
          exact ⟨N, Kp, Or.inl ⟨rfl, ⟨hc20, hc20_2, hc20_3, hc20_4⟩, A_ad⟩⟩
        · refine own_iload X hx (hb hby own11_23) (pc' := 25) rfl rfl ?_
          refine own_retI X hx hlk (t := .int) (w' := (.int (3 : Int32))) hret (hb hby own11_25) rfl rfl (by simp) (by decide) (by decide) ?_
          rw [eT]
          exact ⟨N, Kp, Or.inr (Or.inr (Or.inr (Or.inr (⟨rfl, hc20_4⟩))))⟩
      · refine own_iload X hx (hb hby own11_23) (pc' := 25) rfl rfl ?_
        refine own_retI X hx hlk (t := .int) (w' := (.int (2 : Int32))) hret (hb hby own11_25) rfl rfl (by simp) (by decide) (by decide) ?_
        rw [eT]
        exact ⟨N, Kp, Or.inr (Or.inr (Or.inr (Or.inl ⟨rfl, hc20_3⟩)))⟩
    · refine own_iload X hx (hb hby own11_23) (pc' := 25) rfl rfl ?_
      refine own_retI X hx hlk (t := .int) (w' := (.int (1 : Int32))) hret (hb hby own11_25) rfl rfl (by simp) (by decide) (by decide) ?_
      rw [eT]
      exact ⟨N, Kp, Or.inr (Or.inr (Or.inl ⟨rfl, hc20_2⟩))⟩
  · refine own_iload X hx (hb hby own11_23) (pc' := 25) rfl rfl ?_
    refine own_retI X hx hlk (t := .int) (w' := (.int (0 : Int32))) hret (hb hby own11_25) rfl rfl (by simp) (by decide) (by decide) ?_
    rw [eT]
    exact ⟨N, Kp, Or.inr (Or.inl ⟨rfl, hc20⟩)⟩
def Q_cc4 (Z : State) (aq : Addr) (kq : ClassId) (d0 d1 d2 d3 : Int32) (h0 : Heap) (n0 : Nat) (v : Option Value) (h : Heap) (L : List Loc) : Prop := ∃ (b : Addr) (kb : ClassId), v = some (.ref b) ∧ Fr n0 L ∧ Keep h0 h [] ∧ h0.size ≤ b ∧ (((¬ ((255 : Int32) < d0) ∧ ¬ ((255 : Int32) < d1) ∧ ¬ ((255 : Int32) < d2) ∧ ¬ ((255 : Int32) < d3)) ∧ Arv Z h b kb .byte (4 : Int32) [(.int (nar .byte d0.toInt8.toInt32)), (.int (nar .byte d1.toInt8.toInt32)), (.int (nar .byte d2.toInt8.toInt32)), (.int (nar .byte d3.toInt8.toInt32))] (.int (0 : Int32))) ∨ Arv Z h b kb .byte (8 : Int32) [(.int (own_lb d0)), (.int (own_hb d0)), (.int (own_lb d1)), (.int (own_hb d1)), (.int (own_lb d2)), (.int (own_hb d2)), (.int (own_lb d3)), (.int (own_hb d3))] (.int (0 : Int32)))
set_option maxRecDepth 65536 in
set_option maxHeartbeats 40000000 in
theorem rm_cc4 (l : Launch) (Z : State) (a0 : Array Value) (hw : ∀ d ∈ tables_1, d.before a0 Z = true) (ws : List Jvm.Cond) (aq : Addr) (kq : ClassId) (d0 d1 d2 d3 : Int32) (h0 : Heap) (n0 : Nat) (Z0 : n0 ≤ h0.size) (S_A : Sta Z h0 "java/lang/StringUTF16" "$assertionsDisabled" "Z" (.int (1 : Int32))) (S_H : Sta Z h0 "java/lang/StringUTF16" "HI_BYTE_SHIFT" "I" (.int (0 : Int32))) (S_L : Sta Z h0 "java/lang/StringUTF16" "LO_BYTE_SHIFT" "I" (.int (8 : Int32))) (A_aq : Arv Z h0 aq kq .char (4 : Int32) [(.int d0), (.int d1), (.int d2), (.int d3)] (.int (0 : Int32))) (bd0 : own_c16 d0) (bd1 : own_c16 d1) (bd2 : own_c16 d2) (bd3 : own_c16 d3) : own_Met l Z ⟨"java/lang/StringUTF16", "compress", "([CII)[B"⟩ jdk_52_method_16_code 6 (some (.array .byte)) ws ⟨3, 2, 12, 55⟩ #[(.ref aq), (.int (0 : Int32)), (.int (4 : Int32))] h0 (Q_cc4 Z aq kq d0 d1 d2 d3 h0 n0) := by
  refine own_met n0 own_pn_java_lang_StringUTF16 (fun m => ef6RII m aq (0 : Int32) (4 : Int32)) ?_
  intro p e s m below meth c T lc hret hx hZ hby hml hown hnm hlk X eT N
  have Kp : Keep h0 h0 [] := Keep.refl _ _
  refine own_iloadN X hx (hb hby own12_0) (pc' := 1) rfl rfl ?_
  refine own_newarr X hx hZ (own_w hw 23 rfl) eT (hb hby own12_1) (pc' := 3) rfl (by decide) 4 (by decide) (by decide) (cells' := 1) (slots' := 4) rfl rfl (by decide) (by decide) ?_
  intro T h1 k_b1 b1 X eT E gb1 A_b1
  have lt_aq_b1 : aq < b1 := Nat.lt_of_lt_of_le A_aq.lt (Nat.le_of_eq gb1.symm)
  have ne_aq_b1 : aq ≠ b1 := Nat.ne_of_lt lt_aq_b1
  have z_b1 : n0 ≤ b1 := Nat.le_trans Z0 (Nat.le_of_eq gb1.symm)
  have s_b1 : h0.size ≤ b1 := Nat.le_trans Kp.1 (Nat.le_of_eq gb1.symm)
  have S_A := S_A.ext E
  have S_H := S_H.ext E
  have S_L := S_L.ext E
  have A_aq := A_aq.ext E
  have Z0 := Nat.le_trans Z0 E.1
  have Kp := Kp.ext E
  have A_b1 : Arv Z h1 b1 k_b1 .byte (4 : Int32) [(.int (0 : Int32)), (.int (0 : Int32)), (.int (0 : Int32)), (.int (0 : Int32))] (.int (0 : Int32)) := A_b1.pad (pad_rep [] (.int (0 : Int32)) 4)
  refine own_astoreN X hx (hb hby own12_3) (pc' := 4) rfl rfl (Ls' := #[.val (.ref aq), .val (.int (0 : Int32)), .val (.int (4 : Int32)), .val (.ref b1), .unset, .unset]) rfl ?_
  refine own_aloadN X hx (hb hby own12_4) (pc' := 5) rfl rfl rfl ?_
  refine own_iloadN X hx (hb hby own12_5) (pc' := 6) rfl rfl ?_
  refine own_aloadN X hx (hb hby own12_6) (pc' := 7) rfl rfl rfl ?_
  refine own_iconst X hx (0 : Int32) (hb hby own12_7) (pc' := 8) rfl rfl ?_
  refine own_iloadN X hx (hb hby own12_8) (pc' := 9) rfl rfl ?_
  refine own_callS X hx hZ [(.ref aq), (.int (0 : Int32)), (.ref b1), (.int (0 : Int32)), (.int (4 : Int32))] hown (own_w hw 78 rfl) (own_w hw 79 rfl) (own_w hw 76 rfl) (own_w hw 80 rfl) (by decide) (rm_ci4 l Z a0 hw [] aq b1 _ _ d0 d1 d2 d3 h1 n0 Z0 A_aq A_b1 ne_aq_b1 z_b1) eT (W := 0) (by decide) (by decide) (cells' := 1) (slots' := 4) rfl rfl (by decide) (by decide) (by rw [hml]; rfl) (lenOf own_pd_285bCI5bBII29I rfl) rfl (S := []) rfl (Nat.le_of_eq rfl) (hb hby own12_9) (pc' := 12) rfl ?_
  intro v T h2 L lc X eT hq fN
  obtain ⟨Nq, Kq, hv⟩ := hq
  have N := fN _ N Nq
  have S_A := own_sta_keep S_A Kq (nsS (own_ns_arv A_b1) ns0)
  have S_H := own_sta_keep S_H Kq (nsS (own_ns_arv A_b1) ns0)
  have S_L := own_sta_keep S_L Kq (nsS (own_ns_arv A_b1) ns0)
  have A_aq := A_aq.keep Kq (ninS ne_aq_b1 nin0)
  have Z0 := Nat.le_trans Z0 Kq.1
  have Kp := Kp.trans Kq (allS (P := fun x => x ∈ ([] : List Addr) ∨ h0.size ≤ x) (Or.inr s_b1) all0)
  rcases hv with ⟨rfl, hall, B_b⟩ | ⟨rfl, hbig⟩ | ⟨rfl, hbig⟩ | ⟨rfl, hbig⟩ | ⟨rfl, hbig⟩
  · show own_W _ _ _ _ _ _ _ _ [(.int (4 : Int32))]
    refine own_istore X hx (hb hby own12_12) (pc' := 14) rfl (Ls' := #[.val (.ref aq), .val (.int (0 : Int32)), .val (.int (4 : Int32)), .val (.ref b1), .val (.int (4 : Int32)), .unset]) rfl ?_
    refine own_iload X hx (hb hby own12_14) (pc' := 16) rfl rfl ?_
    refine own_iloadN X hx (hb hby own12_16) (pc' := 17) rfl rfl ?_
    refine own_icmpY X hx (hb hby own12_17) (by decide) (pc' := 57) rfl (show (4 : Int32) = (4 : Int32) from (by decide)) ?_
    refine own_aloadN X hx (hb hby own12_57) (pc' := 58) rfl rfl rfl ?_
    refine own_retA X hx hlk hret (hb hby own12_58) rfl rfl rfl (by decide) (by decide) ?_
    rw [eT]
    exact ⟨_, _, rfl, N, Kp, s_b1, Or.inl ⟨hall, B_b⟩⟩
  · show own_W _ _ _ _ _ _ _ _ [(.int (0 : Int32))]
    refine own_istore X hx (hb hby own12_12) (pc' := 14) rfl (Ls' := #[.val (.ref aq), .val (.int (0 : Int32)), .val (.int (4 : Int32)), .val (.ref b1), .val (.int (0 : Int32)), .unset]) rfl ?_
    refine own_iload X hx (hb hby own12_14) (pc' := 16) rfl rfl ?_
    refine own_iloadN X hx (hb hby own12_16) (pc' := 17) rfl rfl ?_
    refine own_icmpN X hx (hb hby own12_17) (pc' := 20) rfl (show ¬ ((0 : Int32) = (4 : Int32)) from (by decide)) ?_
    refine own_aloadN X hx (hb hby own12_20) (pc' := 21) rfl rfl rfl ?_
    refine own_iloadN X hx (hb hby own12_21) (pc' := 22) rfl rfl ?_
    refine own_iloadN X hx (hb hby own12_22) (pc' := 23) rfl rfl ?_
    refine own_callS X hx hZ [(.ref aq), (.int (0 : Int32)), (.int (4 : Int32))] hown (own_w hw 90 rfl) (own_w hw 91 rfl) (own_w hw 76 rfl) (own_w hw 92 rfl) (by decide) (rm_tb4 l Z a0 hw [] aq _ d0 d1 d2 d3 h2 n0 Z0 S_A S_H S_L A_aq) eT (W := 0) (by decide) (by decide) (cells' := 2) (slots' := 12) rfl rfl (by decide) (by decide) (by rw [hml]; rfl) (lenOf own_pd_285bCII295bB rfl) rfl (S := []) rfl (Nat.le_of_eq rfl) (hb hby own12_23) (pc' := 26) rfl ?_
    intro v T h3 L lc X eT hq fN
    obtain ⟨cb, kc, rfl, Nq, Kq, hcb, A_cb⟩ := hq
    have N := fN _ N Nq
    have lt_aq_cb : aq < cb := Nat.lt_of_lt_of_le A_aq.lt hcb
    have ne_aq_cb : aq ≠ cb := Nat.ne_of_lt lt_aq_cb
    have z_cb : n0 ≤ cb := Nat.le_trans Z0 hcb
    have s_cb : h0.size ≤ cb := Nat.le_trans Kp.1 hcb
    have S_A := own_sta_keep S_A Kq ns0
    have S_H := own_sta_keep S_H Kq ns0
    have S_L := own_sta_keep S_L Kq ns0
    have A_aq := A_aq.keep Kq nin0
    have Z0 := Nat.le_trans Z0 Kq.1
    have Kp := Kp.trans Kq all0
    show own_W _ _ _ _ _ _ _ _ [(.ref cb)]
    refine own_astore X hx (hb hby own12_26) (pc' := 28) rfl rfl (Ls' := #[.val (.ref aq), .val (.int (0 : Int32)), .val (.int (4 : Int32)), .val (.ref b1), .val (.int (0 : Int32)), .val (.ref cb)]) rfl ?_
    refine own_aload X hx (hb hby own12_28) (pc' := 30) rfl rfl rfl ?_
    refine own_iload X hx (hb hby own12_30) (pc' := 32) rfl rfl ?_
    refine own_callS X hx hZ [(.ref cb), (.int (0 : Int32))] hown (own_w hw 106 rfl) (own_w hw 107 rfl) (own_w hw 76 rfl) (own_w hw 108 rfl) (by decide) (rm_gc4_0 l Z a0 hw [] cb _ d0 d1 d2 d3 h3 n0 Z0 S_A S_H S_L bd0 A_cb) eT (W := 0) (by decide) (by decide) (cells' := 2) (slots' := 12) rfl rfl (by decide) (by decide) (by rw [hml]; rfl) (lenOf own_pd_285bBI29C rfl) rfl (S := []) rfl (Nat.le_of_eq rfl) (hb hby own12_32) (pc' := 35) rfl ?_
    intro v T h4 L lc X eT hq fN
    obtain ⟨rfl, Nq, hqe⟩ := hq
    have N := fN _ N Nq
    rw [hqe] at eT
    show own_W _ _ _ _ _ _ _ _ [(.int d0)]
    refine own_sipush X hx (255 : Int32) (hb hby own12_35) (pc' := 38) rfl rfl ?_
    refine own_icmpY X hx (hb hby own12_38) (by decide) (pc' := 54) rfl (show (255 : Int32) < d0 from hbig) ?_
    refine own_aload X hx (hb hby own12_54) (pc' := 56) rfl rfl rfl ?_
    refine own_retA X hx hlk hret (hb hby own12_56) rfl rfl rfl (by decide) (by decide) ?_
    rw [eT]
    exact ⟨_, _, rfl, N, Kp, s_cb, Or.inr A_cb⟩
  · show own_W _ _ _ _ _ _ _ _ [(.int (1 : Int32))]
    refine own_istore X hx (hb hby own12_12) (pc' := 14) rfl (Ls' := #[.val (.ref aq), .val (.int (0 : Int32)), .val (.int (4 : Int32)), .val (.ref b1), .val (.int (1 : Int32)), .unset]) rfl ?_
    refine own_iload X hx (hb hby own12_14) (pc' := 16) rfl rfl ?_
    refine own_iloadN X hx (hb hby own12_16) (pc' := 17) rfl rfl ?_
    refine own_icmpN X hx (hb hby own12_17) (pc' := 20) rfl (show ¬ ((1 : Int32) = (4 : Int32)) from (by decide)) ?_
    refine own_aloadN X hx (hb hby own12_20) (pc' := 21) rfl rfl rfl ?_
    refine own_iloadN X hx (hb hby own12_21) (pc' := 22) rfl rfl ?_
    refine own_iloadN X hx (hb hby own12_22) (pc' := 23) rfl rfl ?_
    refine own_callS X hx hZ [(.ref aq), (.int (0 : Int32)), (.int (4 : Int32))] hown (own_w hw 90 rfl) (own_w hw 91 rfl) (own_w hw 76 rfl) (own_w hw 92 rfl) (by decide) (rm_tb4 l Z a0 hw [] aq _ d0 d1 d2 d3 h2 n0 Z0 S_A S_H S_L A_aq) eT (W := 0) (by decide) (by decide) (cells' := 2) (slots' := 12) rfl rfl (by decide) (by decide) (by rw [hml]; rfl) (lenOf own_pd_285bCII295bB rfl) rfl (S := []) rfl (Nat.le_of_eq rfl) (hb hby own12_23) (pc' := 26) rfl ?_
    intro v T h5 L lc X eT hq fN
    obtain ⟨cb, kc, rfl, Nq, Kq, hcb, A_cb⟩ := hq
    have N := fN _ N Nq
    have lt_aq_cb : aq < cb := Nat.lt_of_lt_of_le A_aq.lt hcb
    have ne_aq_cb : aq ≠ cb := Nat.ne_of_lt lt_aq_cb
    have z_cb : n0 ≤ cb := Nat.le_trans Z0 hcb
    have s_cb : h0.size ≤ cb := Nat.le_trans Kp.1 hcb
    have S_A := own_sta_keep S_A Kq ns0
    have S_H := own_sta_keep S_H Kq ns0
    have S_L := own_sta_keep S_L Kq ns0
    have A_aq := A_aq.keep Kq nin0
    have Z0 := Nat.le_trans Z0 Kq.1
    have Kp := Kp.trans Kq all0
    show own_W _ _ _ _ _ _ _ _ [(.ref cb)]
    refine own_astore X hx (hb hby own12_26) (pc' := 28) rfl rfl (Ls' := #[.val (.ref aq), .val (.int (0 : Int32)), .val (.int (4 : Int32)), .val (.ref b1), .val (.int (1 : Int32)), .val (.ref cb)]) rfl ?_
    refine own_aload X hx (hb hby own12_28) (pc' := 30) rfl rfl rfl ?_
    refine own_iload X hx (hb hby own12_30) (pc' := 32) rfl rfl ?_
    refine own_callS X hx hZ [(.ref cb), (.int (1 : Int32))] hown (own_w hw 106 rfl) (own_w hw 107 rfl) (own_w hw 76 rfl) (own_w hw 108 rfl) (by decide) (rm_gc4_1 l Z a0 hw [] cb _ d0 d1 d2 d3 h5 n0 Z0 S_A S_H S_L bd1 A_cb) eT (W := 0) (by decide) (by decide) (cells' := 2) (slots' := 12) rfl rfl (by decide) (by decide) (by rw [hml]; rfl) (lenOf own_pd_285bBI29C rfl) rfl (S := []) rfl (Nat.le_of_eq rfl) (hb hby own12_32) (pc' := 35) rfl ?_
    intro v T h6 L lc X eT hq fN
    obtain ⟨rfl, Nq, hqe⟩ := hq
    have N := fN _ N Nq
    rw [hqe] at eT
    show own_W _ _ _ _ _ _ _ _ [(.int d1)]
    refine own_sipush X hx (255 : Int32) (hb hby own12_35) (pc' := 38) rfl rfl ?_
    refine own_icmpY X hx (hb hby own12_38) (by decide) (pc' := 54) rfl (show (255 : Int32) < d1 from hbig) ?_
    refine own_aload X hx (hb hby own12_54) (pc' := 56) rfl rfl rfl ?_
    refine own_retA X hx hlk hret (hb hby own12_56) rfl rfl rfl (by decide) (by decide) ?_
    rw [eT]
    exact ⟨_, _, rfl, N, Kp, s_cb, Or.inr A_cb⟩
  · show own_W _ _ _ _ _ _ _ _ [(.int (2 : Int32))]
    refine own_istore X hx (hb hby own12_12) (pc' := 14) rfl (Ls' := #[.val (.ref aq), .val (.int (0 : Int32)), .val (.int (4 : Int32)), .val (.ref b1), .val (.int (2 : Int32)), .unset]) rfl ?_
    refine own_iload X hx (hb hby own12_14) (pc' := 16) rfl rfl ?_
    refine own_iloadN X hx (hb hby own12_16) (pc' := 17) rfl rfl ?_
    refine own_icmpN X hx (hb hby own12_17) (pc' := 20) rfl (show ¬ ((2 : Int32) = (4 : Int32)) from (by decide)) ?_
    refine own_aloadN X hx (hb hby own12_20) (pc' := 21) rfl rfl rfl ?_
    refine own_iloadN X hx (hb hby own12_21) (pc' := 22) rfl rfl ?_
    refine own_iloadN X hx (hb hby own12_22) (pc' := 23) rfl rfl ?_
    refine own_callS X hx hZ [(.ref aq), (.int (0 : Int32)), (.int (4 : Int32))] hown (own_w hw 90 rfl) (own_w hw 91 rfl) (own_w hw 76 rfl) (own_w hw 92 rfl) (by decide) (rm_tb4 l Z a0 hw [] aq _ d0 d1 d2 d3 h2 n0 Z0 S_A S_H S_L A_aq) eT (W := 0) (by decide) (by decide) (cells' := 2) (slots' := 12) rfl rfl (by decide) (by decide) (by rw [hml]; rfl) (lenOf own_pd_285bCII295bB rfl) rfl (S := []) rfl (Nat.le_of_eq rfl) (hb hby own12_23) (pc' := 26) rfl ?_
    intro v T h7 L lc X eT hq fN
    obtain ⟨cb, kc, rfl, Nq, Kq, hcb, A_cb⟩ := hq
    have N := fN _ N Nq
    have lt_aq_cb : aq < cb := Nat.lt_of_lt_of_le A_aq.lt hcb
    have ne_aq_cb : aq ≠ cb := Nat.ne_of_lt lt_aq_cb
    have z_cb : n0 ≤ cb := Nat.le_trans Z0 hcb
    have s_cb : h0.size ≤ cb := Nat.le_trans Kp.1 hcb
    have S_A := own_sta_keep S_A Kq ns0
    have S_H := own_sta_keep S_H Kq ns0
    have S_L := own_sta_keep S_L Kq ns0
    have A_aq := A_aq.keep Kq nin0
    have Z0 := Nat.le_trans Z0 Kq.1
    have Kp := Kp.trans Kq all0
    show own_W _ _ _ _ _ _ _ _ [(.ref cb)]
    refine own_astore X hx (hb hby own12_26) (pc' := 28) rfl rfl (Ls' := #[.val (.ref aq), .val (.int (0 : Int32)), .val (.int (4 : Int32)), .val (.ref b1), .val (.int (2 : Int32)), .val (.ref cb)]) rfl ?_
    refine own_aload X hx (hb hby own12_28) (pc' := 30) rfl rfl rfl ?_
    refine own_iload X hx (hb hby own12_30) (pc' := 32) rfl rfl ?_
    refine own_callS X hx hZ [(.ref cb), (.int (2 : Int32))] hown (own_w hw 106 rfl) (own_w hw 107 rfl) (own_w hw 76 rfl) (own_w hw 108 rfl) (by decide) (rm_gc4_2 l Z a0 hw [] cb _ d0 d1 d2 d3 h7 n0 Z0 S_A S_H S_L bd2 A_cb) eT (W := 0) (by decide) (by decide) (cells' := 2) (slots' := 12) rfl rfl (by decide) (by decide) (by rw [hml]; rfl) (lenOf own_pd_285bBI29C rfl) rfl (S := []) rfl (Nat.le_of_eq rfl) (hb hby own12_32) (pc' := 35) rfl ?_
    intro v T h8 L lc X eT hq fN
    obtain ⟨rfl, Nq, hqe⟩ := hq
    have N := fN _ N Nq
    rw [hqe] at eT
    show own_W _ _ _ _ _ _ _ _ [(.int d2)]
    refine own_sipush X hx (255 : Int32) (hb hby own12_35) (pc' := 38) rfl rfl ?_
    refine own_icmpY X hx (hb hby own12_38) (by decide) (pc' := 54) rfl (show (255 : Int32) < d2 from hbig) ?_
    refine own_aload X hx (hb hby own12_54) (pc' := 56) rfl rfl rfl ?_
    refine own_retA X hx hlk hret (hb hby own12_56) rfl rfl rfl (by decide) (by decide) ?_
    rw [eT]
    exact ⟨_, _, rfl, N, Kp, s_cb, Or.inr A_cb⟩
  · show own_W _ _ _ _ _ _ _ _ [(.int (3 : Int32))]
    refine own_istore X hx (hb hby own12_12) (pc' := 14) rfl (Ls' := #[.val (.ref aq), .val (.int (0 : Int32)), .val (.int (4 : Int32)), .val (.ref b1), .val (.int (3 : Int32)), .unset]) rfl ?_
    refine own_iload X hx (hb hby own12_14) (pc' := 16) rfl rfl ?_
    refine own_iloadN X hx (hb hby own12_16) (pc' := 17) rfl rfl ?_
    refine own_icmpN X hx (hb hby own12_17) (pc' := 20) rfl (show ¬ ((3 : Int32) = (4 : Int32)) from (by decide)) ?_
    refine own_aloadN X hx (hb hby own12_20) (pc' := 21) rfl rfl rfl ?_
    refine own_iloadN X hx (hb hby own12_21) (pc' := 22) rfl rfl ?_
    refine own_iloadN X hx (hb hby own12_22) (pc' := 23) rfl rfl ?_
    refine own_callS X hx hZ [(.ref aq), (.int (0 : Int32)), (.int (4 : Int32))] hown (own_w hw 90 rfl) (own_w hw 91 rfl) (own_w hw 76 rfl) (own_w hw 92 rfl) (by decide) (rm_tb4 l Z a0 hw [] aq _ d0 d1 d2 d3 h2 n0 Z0 S_A S_H S_L A_aq) eT (W := 0) (by decide) (by decide) (cells' := 2) (slots' := 12) rfl rfl (by decide) (by decide) (by rw [hml]; rfl) (lenOf own_pd_285bCII295bB rfl) rfl (S := []) rfl (Nat.le_of_eq rfl) (hb hby own12_23) (pc' := 26) rfl ?_
    intro v T h9 L lc X eT hq fN
    obtain ⟨cb, kc, rfl, Nq, Kq, hcb, A_cb⟩ := hq
    have N := fN _ N Nq
    have lt_aq_cb : aq < cb := Nat.lt_of_lt_of_le A_aq.lt hcb
    have ne_aq_cb : aq ≠ cb := Nat.ne_of_lt lt_aq_cb
    have z_cb : n0 ≤ cb := Nat.le_trans Z0 hcb
    have s_cb : h0.size ≤ cb := Nat.le_trans Kp.1 hcb
    have S_A := own_sta_keep S_A Kq ns0
    have S_H := own_sta_keep S_H Kq ns0
    have S_L := own_sta_keep S_L Kq ns0
    have A_aq := A_aq.keep Kq nin0
    have Z0 := Nat.le_trans Z0 Kq.1
    have Kp := Kp.trans Kq all0
    show own_W _ _ _ _ _ _ _ _ [(.ref cb)]
    refine own_astore X hx (hb hby own12_26) (pc' := 28) rfl rfl (Ls' := #[.val (.ref aq), .val (.int (0 : Int32)), .val (.int (4 : Int32)), .val (.ref b1), .val (.int (3 : Int32)), .val (.ref cb)]) rfl ?_
    refine own_aload X hx (hb hby own12_28) (pc' := 30) rfl rfl rfl ?_
    refine own_iload X hx (hb hby own12_30) (pc' := 32) rfl rfl ?_
    refine own_callS X hx hZ [(.ref cb), (.int (3 : Int32))] hown (own_w hw 106 rfl) (own_w hw 107 rfl) (own_w hw 76 rfl) (own_w hw 108 rfl) (by decide) (rm_gc4_3 l Z a0 hw [] cb _ d0 d1 d2 d3 h9 n0 Z0 S_A S_H S_L bd3 A_cb) eT (W := 0) (by decide) (by decide) (cells' := 2) (slots' := 12) rfl rfl (by decide) (by decide) (by rw [hml]; rfl) (lenOf own_pd_285bBI29C rfl) rfl (S := []) rfl (Nat.le_of_eq rfl) (hb hby own12_32) (pc' := 35) rfl ?_
    intro v T h10 L lc X eT hq fN
    obtain ⟨rfl, Nq, hqe⟩ := hq
    have N := fN _ N Nq
    rw [hqe] at eT
    show own_W _ _ _ _ _ _ _ _ [(.int d3)]
    refine own_sipush X hx (255 : Int32) (hb hby own12_35) (pc' := 38) rfl rfl ?_
    refine own_icmpY X hx (hb hby own12_38) (by decide) (pc' := 54) rfl (show (255 : Int32) < d3 from hbig) ?_
    refine own_aload X hx (hb hby own12_54) (pc' := 56) rfl rfl rfl ?_
    refine own_retA X hx hlk hret (hb hby own12_56) rfl rfl rfl (by decide) (by decide) ?_
    rw [eT]
    exact ⟨_, _, rfl, N, Kp, s_cb, Or.inr A_cb⟩
def Q_cf4 (Z : State) (b : Addr) (h0 : Heap) (n0 : Nat) (v : Option Value) (h : Heap) (L : List Loc) : Prop := v = some (.int (0 : Int32)) ∧ Fr n0 L ∧ h = h0
set_option maxRecDepth 65536 in
set_option maxHeartbeats 40000000 in
theorem rm_cf4 (l : Launch) (Z : State) (a0 : Array Value) (hw : ∀ d ∈ tables_1, d.before a0 Z = true) (ws : List Jvm.Cond) (b : Addr) (h0 : Heap) (n0 : Nat) (Z0 : n0 ≤ h0.size) (k : ClassId) (vs : List Value) (A_b : Arv Z h0 b k .byte (4 : Int32) vs (.int (0 : Int32))) : own_Met l Z ⟨"java/lang/StringUTF16", "coderFromArrayLen", "([BI)B"⟩ jdk_52_method_15_code 2 (some .byte) ws ⟨0, 0, 0, 0⟩ #[(.ref b), (.int (4 : Int32))] h0 (Q_cf4 Z b h0 n0) := by
  refine own_met n0 own_pn_java_lang_StringUTF16 (fun m => ef2RI m b (4 : Int32)) ?_
  intro p e s m below meth c T lc hret hx hZ hby hml hown hnm hlk X eT N
  refine own_iloadN X hx (hb hby own13_0) (pc' := 1) rfl rfl ?_
  refine own_aloadN X hx (hb hby own13_1) (pc' := 2) rfl rfl rfl ?_
  refine own_arrlen X hx hZ eT A_b (hb hby own13_2) (pc' := 3) rfl ?_
  refine own_isub X hx (hb hby own13_3) (pc' := 4) rfl ?_
  rw [show ((4 : Int32) - (4 : Int32)) = (0 : Int32) from by decide]
  refine own_bipush X hx (31 : Int32) (hb hby own13_4) (pc' := 6) rfl rfl ?_
  refine own_iushr X hx (hb hby own13_6) (pc' := 7) rfl ?_
  refine own_i2b X hx (hb hby own13_7) (pc' := 8) rfl ?_
  refine own_retI X hx hlk (t := .byte) (w' := (.int (0 : Int32))) hret (hb hby own13_8) rfl rfl (by simp) (by decide) (by decide) ?_
  rw [eT]
  exact ⟨rfl, N, rfl⟩
def Q_cu4 (Z : State) (b : Addr) (h0 : Heap) (n0 : Nat) (v : Option Value) (h : Heap) (L : List Loc) : Prop := v = some (.int (1 : Int32)) ∧ Fr n0 L ∧ h = h0
set_option maxRecDepth 65536 in
set_option maxHeartbeats 40000000 in
theorem rm_cu4 (l : Launch) (Z : State) (a0 : Array Value) (hw : ∀ d ∈ tables_1, d.before a0 Z = true) (ws : List Jvm.Cond) (b : Addr) (h0 : Heap) (n0 : Nat) (Z0 : n0 ≤ h0.size) (k : ClassId) (vs : List Value) (A_b : Arv Z h0 b k .byte (8 : Int32) vs (.int (0 : Int32))) : own_Met l Z ⟨"java/lang/StringUTF16", "coderFromArrayLen", "([BI)B"⟩ jdk_52_method_15_code 2 (some .byte) ws ⟨0, 0, 0, 0⟩ #[(.ref b), (.int (4 : Int32))] h0 (Q_cu4 Z b h0 n0) := by
  refine own_met n0 own_pn_java_lang_StringUTF16 (fun m => ef2RI m b (4 : Int32)) ?_
  intro p e s m below meth c T lc hret hx hZ hby hml hown hnm hlk X eT N
  refine own_iloadN X hx (hb hby own13_0) (pc' := 1) rfl rfl ?_
  refine own_aloadN X hx (hb hby own13_1) (pc' := 2) rfl rfl rfl ?_
  refine own_arrlen X hx hZ eT A_b (hb hby own13_2) (pc' := 3) rfl ?_
  refine own_isub X hx (hb hby own13_3) (pc' := 4) rfl ?_
  rw [show ((4 : Int32) - (8 : Int32)) = (-4 : Int32) from by decide]
  refine own_bipush X hx (31 : Int32) (hb hby own13_4) (pc' := 6) rfl rfl ?_
  refine own_iushr X hx (hb hby own13_6) (pc' := 7) rfl ?_
  refine own_i2b X hx (hb hby own13_7) (pc' := 8) rfl ?_
  refine own_retI X hx hlk (t := .byte) (w' := (.int (1 : Int32))) hret (hb hby own13_8) rfl rfl (by simp) (by decide) (by decide) ?_
  rw [eT]
  exact ⟨rfl, N, rfl⟩
def Q_iv4 (Z : State) (a1 aq : Addr) (kq : ClassId) (cs : Int32) (d0 d1 d2 d3 : Int32) (h0 : Heap) (n0 : Nat) (v : Option Value) (h : Heap) (L : List Loc) : Prop := v = none ∧ Fr n0 L ∧ Keep h0 h [a1] ∧ ∃ (b : Addr) (k : ClassId), h0.size ≤ b ∧ Fld Z h a1 "java/lang/String" "value" "[B" (.ref b) ∧ ((Fld Z h a1 "java/lang/String" "coder" "B" (.int (0 : Int32)) ∧ (¬ ((255 : Int32) < d0) ∧ ¬ ((255 : Int32) < d1) ∧ ¬ ((255 : Int32) < d2) ∧ ¬ ((255 : Int32) < d3)) ∧ Arv Z h b k .byte (4 : Int32) [(.int (nar .byte d0.toInt8.toInt32)), (.int (nar .byte d1.toInt8.toInt32)), (.int (nar .byte d2.toInt8.toInt32)), (.int (nar .byte d3.toInt8.toInt32))] (.int (0 : Int32))) ∨ (Fld Z h a1 "java/lang/String" "coder" "B" (.int (1 : Int32)) ∧ Arv Z h b k .byte (8 : Int32) [(.int (own_lb d0)), (.int (own_hb d0)), (.int (own_lb d1)), (.int (own_hb d1)), (.int (own_lb d2)), (.int (own_hb d2)), (.int (own_lb d3)), (.int (own_hb d3))] (.int (0 : Int32))))
set_option maxRecDepth 65536 in
set_option maxHeartbeats 40000000 in
theorem rm_iv4 (l : Launch) (Z : State) (a0 : Array Value) (hw : ∀ d ∈ tables_1, d.before a0 Z = true) (ws : List Jvm.Cond) (a1 aq : Addr) (kq : ClassId) (cs : Int32) (d0 d1 d2 d3 : Int32) (h0 : Heap) (n0 : Nat) (Z0 : n0 ≤ h0.size) (S_C : Sta Z h0 "java/lang/String" "COMPACT_STRINGS" "Z" (.int cs)) (hcs : ¬ cs = 0) (S_A : Sta Z h0 "java/lang/StringUTF16" "$assertionsDisabled" "Z" (.int (1 : Int32))) (S_H : Sta Z h0 "java/lang/StringUTF16" "HI_BYTE_SHIFT" "I" (.int (0 : Int32))) (S_L : Sta Z h0 "java/lang/StringUTF16" "LO_BYTE_SHIFT" "I" (.int (8 : Int32))) (u1 u2 : Value) (E_a1 : Exa Z h0 a1 "java/lang/String") (F_c : Fld Z h0 a1 "java/lang/String" "coder" "B" u1) (F_v : Fld Z h0 a1 "java/lang/String" "value" "[B" u2) (A_aq : Arv Z h0 aq kq .char (4 : Int32) [(.int d0), (.int d1), (.int d2), (.int d3)] (.int (0 : Int32))) (n1q : a1 ≠ aq) (bd0 : own_c16 d0) (bd1 : own_c16 d1) (bd2 : own_c16 d2) (bd3 : own_c16 d3) (z_a1 : n0 ≤ a1) : own_Met l Z ⟨"java/lang/String", "<init>", "([CIILjava/lang/Void;)V"⟩ jdk_42_method_149_code 6 none ws ⟨4, 2, 12, 77⟩ #[(.ref a1), (.ref aq), (.int (0 : Int32)), (.int (4 : Int32)), .null] h0 (Q_iv4 Z a1 aq kq cs d0 d1 d2 d3 h0 n0) := by
  refine own_met n0 own_pn_java_lang_String (fun m => ef6RRIIN m a1 aq (0 : Int32) (4 : Int32)) ?_
  intro p e s m below meth c T lc hret hx hZ hby hml hown hnm hlk X eT N
  have Kp : Keep h0 h0 [a1] := Keep.refl _ _
  refine own_aloadN X hx (hb hby own9_0) (pc' := 1) rfl rfl rfl ?_
  refine own_initO X hx hZ hown (own_w hw 19 rfl) (own_w hw 20 rfl) (own_w hw 21 rfl) eT (by rw [hml]; rfl) (hb hby own9_1) (pc' := 4) rfl (by decide) (W := 0) (Nat.le_of_eq rfl) (by decide) ?_
  intro T X eT
  refine own_iloadN X hx (hb hby own9_4) (pc' := 5) rfl rfl ?_
  refine own_ifY X hx (hb hby own9_5) (by decide) (pc' := 27) rfl (show ¬ ((4 : Int32) = (0 : Int32)) from (by decide)) ?_
  refine own_getS X hx hZ hown (host := "") (Or.inl (own_w hw 49 rfl)) Via.refl eT S_C (hb hby own9_27) (pc' := 30) rfl ?_
  intro T X eT
  refine own_ifN X hx (hb hby own9_30) (pc' := 33) rfl (show ¬ (cs = (0 : Int32)) from hcs) ?_
  refine own_aloadN X hx (hb hby own9_33) (pc' := 34) rfl rfl rfl ?_
  refine own_iloadN X hx (hb hby own9_34) (pc' := 35) rfl rfl ?_
  refine own_iloadN X hx (hb hby own9_35) (pc' := 36) rfl rfl ?_
  refine own_callS X hx hZ [(.ref aq), (.int (0 : Int32)), (.int (4 : Int32))] hown (own_w hw 74 rfl) (own_w hw 75 rfl) (own_w hw 76 rfl) (own_w hw 77 rfl) (by decide) (rm_cc4 l Z a0 hw [] aq kq d0 d1 d2 d3 h0 n0 Z0 S_A S_H S_L A_aq bd0 bd1 bd2 bd3) eT (W := 0) (by decide) (by decide) (cells' := 2) (slots' := 12) rfl rfl (by decide) (by decide) (by rw [hml]; rfl) (lenOf own_pd_285bCII295bB rfl) rfl (S := []) rfl (Nat.le_of_eq rfl) (hb hby own9_36) (pc' := 39) rfl ?_
  intro v T h1 L lc X eT hq fN
  obtain ⟨bb, kb, rfl, Nq, Kq, hbb, hv⟩ := hq
  have N := fN _ N Nq
  have lt_a1_bb : a1 < bb := Nat.lt_of_lt_of_le E_a1.lt hbb
  have ne_a1_bb : a1 ≠ bb := Nat.ne_of_lt lt_a1_bb
  have lt_aq_bb : aq < bb := Nat.lt_of_lt_of_le A_aq.lt hbb
  have ne_aq_bb : aq ≠ bb := Nat.ne_of_lt lt_aq_bb
  have z_bb : n0 ≤ bb := Nat.le_trans Z0 hbb
  have s_bb : h0.size ≤ bb := Nat.le_trans Kp.1 hbb
  have S_C := own_sta_keep S_C Kq ns0
  have S_A := own_sta_keep S_A Kq ns0
  have S_H := own_sta_keep S_H Kq ns0
  have S_L := own_sta_keep S_L Kq ns0
  have E_a1 := E_a1.keep Kq
  have F_c := F_c.keep Kq nin0
  have F_v := F_v.keep Kq nin0
  have A_aq := A_aq.keep Kq nin0
  have Z0 := Nat.le_trans Z0 Kq.1
  have Kp := Kp.trans Kq all0
  rcases hv with ⟨hall, A_bb⟩ | A_bb
  · show own_W _ _ _ _ _ _ _ _ [(.ref bb)]
    refine own_astore X hx (hb hby own9_39) (pc' := 41) rfl rfl (Ls' := #[.val (.ref a1), .val (.ref aq), .val (.int (0 : Int32)), .val (.int (4 : Int32)), .val .null, .val (.ref bb)]) rfl ?_
    refine own_aloadN X hx (hb hby own9_41) (pc' := 42) rfl rfl rfl ?_
    refine own_aload X hx (hb hby own9_42) (pc' := 44) rfl rfl rfl ?_
    refine own_iloadN X hx (hb hby own9_44) (pc' := 45) rfl rfl ?_
    refine own_callS X hx hZ [(.ref bb), (.int (4 : Int32))] hown (own_w hw 81 rfl) (own_w hw 82 rfl) (own_w hw 76 rfl) (own_w hw 83 rfl) (by decide) (rm_cf4 l Z a0 hw [] bb h1 n0 Z0 _ _ A_bb) eT (W := 1) (by decide) (by decide) (cells' := 2) (slots' := 12) rfl rfl (by decide) (by decide) (by rw [hml]; rfl) (lenOf own_pd_285bBI29B rfl) rfl (S := [(.ref a1)]) rfl (Nat.le_of_eq rfl) (hb hby own9_45) (pc' := 48) rfl ?_
    intro v T h2 L lc X eT hq fN
    obtain ⟨rfl, Nq, hqe⟩ := hq
    have N := fN _ N Nq
    rw [hqe] at eT
    show own_W _ _ _ _ _ _ _ _ [(.int (0 : Int32)), (.ref a1)]
    refine own_putF X hx hZ hown (own_w hw 29 rfl) Via.refl eT F_c E_a1 (Or.inr ⟨(own_w hw 25 rfl), rfl, hnm⟩) (own_w hw 9 rfl) (ty := .byte) (v' := (.int (0 : Int32))) (by decide) rfl rfl (hb hby own9_48) (pc' := 51) rfl ?_
    intro T h3 lc X eT Wq fN
    have F_c := F_c.same Wq
    have S_C := S_C.wr Wq
    have S_A := S_A.wr Wq
    have S_H := S_H.wr Wq
    have S_L := S_L.wr Wq
    have E_a1 := E_a1.wr Wq
    have F_v := F_v.other Wq (Or.inr (slot_ne (Or.inr (own_w hw 24 rfl)) (Or.inr (own_w hw 25 rfl)) (by decide) (t := (.array .byte)) (t' := .byte) (by decide) (by decide)))
    have A_aq := A_aq.other Wq (Ne.symm n1q)
    have A_bb := A_bb.other Wq (Ne.symm ne_a1_bb)
    have Z0 := Nat.le_trans Z0 (Keep.of_wr Wq).1
    have N := fN _ z_a1 N
    have Kp := Kp.wr Wq (Or.inl (List.mem_of_getElem? (i := 0) rfl))
    refine own_aloadN X hx (hb hby own9_51) (pc' := 52) rfl rfl rfl ?_
    refine own_aload X hx (hb hby own9_52) (pc' := 54) rfl rfl rfl ?_
    refine own_putF X hx hZ hown (own_w hw 28 rfl) Via.refl eT F_v E_a1 (Or.inr ⟨(own_w hw 24 rfl), rfl, hnm⟩) (own_w hw 9 rfl) (ty := (.array .byte)) (v' := (.ref bb)) (by decide) rfl rfl (hb hby own9_54) (pc' := 57) rfl ?_
    intro T h4 lc X eT Wq fN
    have F_v := F_v.same Wq
    have S_C := S_C.wr Wq
    have S_A := S_A.wr Wq
    have S_H := S_H.wr Wq
    have S_L := S_L.wr Wq
    have E_a1 := E_a1.wr Wq
    have A_aq := A_aq.other Wq (Ne.symm n1q)
    have A_bb := A_bb.other Wq (Ne.symm ne_a1_bb)
    have F_c := F_c.other Wq (Or.inr (slot_ne (Or.inr (own_w hw 25 rfl)) (Or.inr (own_w hw 24 rfl)) (by decide) (t := .byte) (t' := (.array .byte)) (by decide) (by decide)))
    have Z0 := Nat.le_trans Z0 (Keep.of_wr Wq).1
    have N := fN _ z_a1 N
    have Kp := Kp.wr Wq (Or.inl (List.mem_of_getElem? (i := 0) rfl))
    refine own_ret0 X hx hlk hret (hb hby own9_57) (by decide) (by decide) ?_
    rw [eT]
    exact ⟨rfl, N, Kp, bb, kb, s_bb, F_v, Or.inl ⟨F_c, hall, A_bb⟩⟩
  · show own_W _ _ _ _ _ _ _ _ [(.ref bb)]
    refine own_astore X hx (hb hby own9_39) (pc' := 41) rfl rfl (Ls' := #[.val (.ref a1), .val (.ref aq), .val (.int (0 : Int32)), .val (.int (4 : Int32)), .val .null, .val (.ref bb)]) rfl ?_
    refine own_aloadN X hx (hb hby own9_41) (pc' := 42) rfl rfl rfl ?_
    refine own_aload X hx (hb hby own9_42) (pc' := 44) rfl rfl rfl ?_
    refine own_iloadN X hx (hb hby own9_44) (pc' := 45) rfl rfl ?_
    refine own_callS X hx hZ [(.ref bb), (.int (4 : Int32))] hown (own_w hw 81 rfl) (own_w hw 82 rfl) (own_w hw 76 rfl) (own_w hw 83 rfl) (by decide) (rm_cu4 l Z a0 hw [] bb h1 n0 Z0 _ _ A_bb) eT (W := 1) (by decide) (by decide) (cells' := 2) (slots' := 12) rfl rfl (by decide) (by decide) (by rw [hml]; rfl) (lenOf own_pd_285bBI29B rfl) rfl (S := [(.ref a1)]) rfl (Nat.le_of_eq rfl) (hb hby own9_45) (pc' := 48) rfl ?_
    intro v T h5 L lc X eT hq fN
    obtain ⟨rfl, Nq, hqe⟩ := hq
    have N := fN _ N Nq
    rw [hqe] at eT
    show own_W _ _ _ _ _ _ _ _ [(.int (1 : Int32)), (.ref a1)]
    refine own_putF X hx hZ hown (own_w hw 29 rfl) Via.refl eT F_c E_a1 (Or.inr ⟨(own_w hw 25 rfl), rfl, hnm⟩) (own_w hw 9 rfl) (ty := .byte) (v' := (.int (1 : Int32))) (by decide) rfl rfl (hb hby own9_48) (pc' := 51) rfl ?_
    intro T h6 lc X eT Wq fN
    have F_c := F_c.same Wq
    have S_C := S_C.wr Wq
    have S_A := S_A.wr Wq
    have S_H := S_H.wr Wq
    have S_L := S_L.wr Wq
    have E_a1 := E_a1.wr Wq
    have F_v := F_v.other Wq (Or.inr (slot_ne (Or.inr (own_w hw 24 rfl)) (Or.inr (own_w hw 25 rfl)) (by decide) (t := (.array .byte)) (t' := .byte) (by decide) (by decide)))
    have A_aq := A_aq.other Wq (Ne.symm n1q)
    have A_bb := A_bb.other Wq (Ne.symm ne_a1_bb)
    have Z0 := Nat.le_trans Z0 (Keep.of_wr Wq).1
    have N := fN _ z_a1 N
    have Kp := Kp.wr Wq (Or.inl (List.mem_of_getElem? (i := 0) rfl))
    refine own_aloadN X hx (hb hby own9_51) (pc' := 52) rfl rfl rfl ?_
    refine own_aload X hx (hb hby own9_52) (pc' := 54) rfl rfl rfl ?_
    refine own_putF X hx hZ hown (own_w hw 28 rfl) Via.refl eT F_v E_a1 (Or.inr ⟨(own_w hw 24 rfl), rfl, hnm⟩) (own_w hw 9 rfl) (ty := (.array .byte)) (v' := (.ref bb)) (by decide) rfl rfl (hb hby own9_54) (pc' := 57) rfl ?_
    intro T h7 lc X eT Wq fN
    have F_v := F_v.same Wq
    have S_C := S_C.wr Wq
    have S_A := S_A.wr Wq
    have S_H := S_H.wr Wq
    have S_L := S_L.wr Wq
    have E_a1 := E_a1.wr Wq
    have A_aq := A_aq.other Wq (Ne.symm n1q)
    have A_bb := A_bb.other Wq (Ne.symm ne_a1_bb)
    have F_c := F_c.other Wq (Or.inr (slot_ne (Or.inr (own_w hw 25 rfl)) (Or.inr (own_w hw 24 rfl)) (by decide) (t := .byte) (t' := (.array .byte)) (by decide) (by decide)))
    have Z0 := Nat.le_trans Z0 (Keep.of_wr Wq).1
    have N := fN _ z_a1 N
    have Kp := Kp.wr Wq (Or.inl (List.mem_of_getElem? (i := 0) rfl))
    refine own_ret0 X hx hlk hret (hb hby own9_57) (by decide) (by decide) ?_
    rw [eT]
    exact ⟨rfl, N, Kp, bb, kb, s_bb, F_v, Or.inr ⟨F_c, A_bb⟩⟩
def Q_ic4 (Z : State) (a1 aq : Addr) (kq : ClassId) (cs : Int32) (d0 d1 d2 d3 : Int32) (h0 : Heap) (n0 : Nat) (v : Option Value) (h : Heap) (L : List Loc) : Prop := v = none ∧ Fr n0 L ∧ Keep h0 h [a1] ∧ ∃ (b : Addr) (k : ClassId), h0.size ≤ b ∧ Fld Z h a1 "java/lang/String" "value" "[B" (.ref b) ∧ ((Fld Z h a1 "java/lang/String" "coder" "B" (.int (0 : Int32)) ∧ (¬ ((255 : Int32) < d0) ∧ ¬ ((255 : Int32) < d1) ∧ ¬ ((255 : Int32) < d2) ∧ ¬ ((255 : Int32) < d3)) ∧ Arv Z h b k .byte (4 : Int32) [(.int (nar .byte d0.toInt8.toInt32)), (.int (nar .byte d1.toInt8.toInt32)), (.int (nar .byte d2.toInt8.toInt32)), (.int (nar .byte d3.toInt8.toInt32))] (.int (0 : Int32))) ∨ (Fld Z h a1 "java/lang/String" "coder" "B" (.int (1 : Int32)) ∧ Arv Z h b k .byte (8 : Int32) [(.int (own_lb d0)), (.int (own_hb d0)), (.int (own_lb d1)), (.int (own_hb d1)), (.int (own_lb d2)), (.int (own_hb d2)), (.int (own_lb d3)), (.int (own_hb d3))] (.int (0 : Int32))))
set_option maxRecDepth 65536 in
set_option maxHeartbeats 40000000 in
theorem rm_ic4 (l : Launch) (Z : State) (a0 : Array Value) (hw : ∀ d ∈ tables_1, d.before a0 Z = true) (ws : List Jvm.Cond) (a1 aq : Addr) (kq : ClassId) (cs : Int32) (d0 d1 d2 d3 : Int32) (h0 : Heap) (n0 : Nat) (Z0 : n0 ≤ h0.size) (S_C : Sta Z h0 "java/lang/String" "COMPACT_STRINGS" "Z" (.int cs)) (hcs : ¬ cs = 0) (S_A : Sta Z h0 "java/lang/StringUTF16" "$assertionsDisabled" "Z" (.int (1 : Int32))) (S_H : Sta Z h0 "java/lang/StringUTF16" "HI_BYTE_SHIFT" "I" (.int (0 : Int32))) (S_L : Sta Z h0 "java/lang/StringUTF16" "LO_BYTE_SHIFT" "I" (.int (8 : Int32))) (u1 u2 : Value) (E_a1 : Exa Z h0 a1 "java/lang/String") (F_c : Fld Z h0 a1 "java/lang/String" "coder" "B" u1) (F_v : Fld Z h0 a1 "java/lang/String" "value" "[B" u2) (A_aq : Arv Z h0 aq kq .char (4 : Int32) [(.int d0), (.int d1), (.int d2), (.int d3)] (.int (0 : Int32))) (n1q : a1 ≠ aq) (bd0 : own_c16 d0) (bd1 : own_c16 d1) (bd2 : own_c16 d2) (bd3 : own_c16 d3) (z_a1 : n0 ≤ a1) : own_Met l Z ⟨"java/lang/String", "<init>", "([C)V"⟩ jdk_42_method_3_code 2 none ws ⟨5, 2, 12, 99⟩ #[(.ref a1), (.ref aq)] h0 (Q_ic4 Z a1 aq kq cs d0 d1 d2 d3 h0 n0) := by
  refine own_met n0 own_pn_java_lang_String (fun m => ef2RR m a1 aq) ?_
  intro p e s m below meth c T lc hret hx hZ hby hml hown hnm hlk X eT N
  refine own_aloadN X hx (hb hby own10_0) (pc' := 1) rfl rfl rfl ?_
  refine own_aloadN X hx (hb hby own10_1) (pc' := 2) rfl rfl rfl ?_
  refine own_iconst X hx (0 : Int32) (hb hby own10_2) (pc' := 3) rfl rfl ?_
  refine own_aloadN X hx (hb hby own10_3) (pc' := 4) rfl rfl rfl ?_
  refine own_arrlen X hx hZ eT A_aq (hb hby own10_4) (pc' := 5) rfl ?_
  refine own_aconst_null X hx (hb hby own10_5) (pc' := 6) rfl ?_
  refine own_callN X hx hZ a1 [(.ref aq), (.int (0 : Int32)), (.int (4 : Int32)), .null] rfl hown (own_w hw 15 rfl) (own_w hw 16 rfl) (own_w hw 10 rfl) (own_w hw 18 rfl) (by decide) (rm_iv4 l Z a0 hw [] a1 aq kq cs d0 d1 d2 d3 h0 n0 Z0 S_C hcs S_A S_H S_L _ _ E_a1 F_c F_v A_aq n1q bd0 bd1 bd2 bd3 z_a1) eT (W := 0) (by decide) (by decide) (cells' := 2) (slots' := 12) rfl rfl (by decide) (by decide) (by rw [hml]; rfl) (lenOf own_pd_285bCIILjava2flang2fVoid3b29V rfl) rfl (S := []) rfl (Nat.le_of_eq rfl) (hb hby own10_6) (pc' := 9) rfl ?_
  intro v T h1 L lc X eT hq fN
  obtain ⟨rfl, Nq, Kq, bb, kb, hbb, F_v2, hcd⟩ := hq
  have N := fN _ N Nq
  show own_W _ _ _ _ _ _ _ _ []
  refine own_ret0 X hx hlk hret (hb hby own10_9) (by decide) (by decide) ?_
  rw [eT]
  exact ⟨rfl, N, Kq, bb, kb, hbb, F_v2, hcd⟩
theorem own14_0 : decode method_5_code 0 = .ok (.iload_n 0, 1) := by decide +kernel
theorem own14_1 : decode method_5_code 1 = .ok (.ifCond .ne 14, 3) := by decide +kernel
theorem own14_4 : decode method_5_code 4 = .ok (.new 28, 3) := by decide +kernel
theorem own14_7 : decode method_5_code 7 = .ok (.dup, 1) := by decide +kernel
theorem own14_8 : decode method_5_code 8 = .ok (.iconst 0, 1) := by decide +kernel
theorem own14_9 : decode method_5_code 9 = .ok (.newarray .char, 2) := by decide +kernel
theorem own14_11 : decode method_5_code 11 = .ok (.invokespecial 30, 3) := by decide +kernel
theorem own_pd_285bC29V : parseMethodDescriptor "([C)V" = some ⟨[(.array .char)], none⟩ := by decide +kernel
theorem own14_14 : decode method_5_code 14 = .ok (.areturn, 1) := by decide +kernel
theorem ef_tx0 (m : MethodId) (x0 : Int32) (x1 : Int32) (x2 : Int32) (x3 : Int32) (x4 : Int32) : entryFrame m #[(.int x0), (.int x1), (.int x2), (.int x3), (.int x4)] 5 = mkF m 0 #[.val (.int x0), .val (.int x1), .val (.int x2), .val (.int x3), .val (.int x4)] [] := by first | (simp [entryFrame, mkF, argsToLocals, Value.category]; done) | rfl
def Q_tx0 (Z : State) (cs d0 d1 d2 d3 : Int32) (h0 : Heap) (n0 : Nat) (v : Option Value) (h : Heap) (L : List Loc) : Prop := ∃ (a b : Addr) (k : ClassId), v = some (.ref a) ∧ Fr n0 L ∧ Keep h0 h [] ∧ Exa Z h a "java/lang/String" ∧ Fld Z h a "java/lang/String" "value" "[B" (.ref b) ∧ Fld Z h a "java/lang/String" "coder" "B" (.int (0 : Int32)) ∧ Arv Z h b k .byte (0 : Int32) [] (.int (0 : Int32))
set_option maxRecDepth 65536 in
set_option maxHeartbeats 40000000 in
theorem rm_tx0 (l : Launch) (Z : State) (a0 : Array Value) (hw : ∀ d ∈ tables_1, d.before a0 Z = true) (hEL : EW Z a0 own_EL) (ws : List Jvm.Cond) (cs d0 d1 d2 d3 : Int32) (h0 : Heap) (n0 : Nat) (Z0 : n0 ≤ h0.size) (S_C : Sta Z h0 "java/lang/String" "COMPACT_STRINGS" "Z" (.int cs)) (hcs : ¬ cs = 0) (S_A : Sta Z h0 "java/lang/StringUTF16" "$assertionsDisabled" "Z" (.int (1 : Int32))) (S_H : Sta Z h0 "java/lang/StringUTF16" "HI_BYTE_SHIFT" "I" (.int (0 : Int32))) (S_L : Sta Z h0 "java/lang/StringUTF16" "LO_BYTE_SHIFT" "I" (.int (8 : Int32))) (bd0 : own_c16 d0) (bd1 : own_c16 d1) (bd2 : own_c16 d2) (bd3 : own_c16 d3) :
    MetFree l (⟨"com/example/bleeper/bleeper/cli/FieldsCanHoldPinLaw", "text", "(ICCCC)Ljava/lang/String;"⟩ : MethodName) (head1 (Jvm.Cond.code (⟨"com/example/bleeper/bleeper/cli/FieldsCanHoldPinLaw", "text", "(ICCCC)Ljava/lang/String;"⟩ : MethodName) method_5_code 5 (some (.object "java/lang/String")) :: ws) ({ frames := 3, cells := 6, slots := 12, locals := 47 } : Room)) (fun a U => a = #[(.int (0 : Int32)), (.int d0), (.int d1), (.int d2), (.int d3)] ∧ Z.Warmed39 U.vm ∧ U.heap = h0 ∧ CHv Z own_EL U.vm h0) (fun _ _ _ _ _ => True) (fun _ U o U' => ∃ v L, o = .returned v ∧ Q_tx0 Z cs d0 d1 d2 d3 h0 n0 v U'.heap L ∧ CHr Z own_EL U.vm U.heap U'.vm U'.heap ∧ ReturnedEndW U o U' L ({ frames := 3, cells := 6, slots := 12, locals := 47 } : Room).cells ({ frames := 3, cells := 6, slots := 12, locals := 47 } : Room).slots) := by
  refine MetFree.of_bodySF (plainFor_of_name own_pn_com_example_bleeper_bleeper_cli_FieldsCanHoldPinLaw) hisR ?_
  intro p e s m args below meth c s₁ Bd hml0 hP hK
  obtain ⟨rfl, hZ, hh, H⟩ := hP
  have hx := Bd.exec
  have hby := Bd.bytes
  have hml : c.maxLocals = 5 := hml0
  have hown : s.vm.findClass "com/example/bleeper/bleeper/cli/FieldsCanHoldPinLaw" = some m.cls := findClass_of_methodNamed Bd.named
  have hnm := (name_of_methodNamed Bd.named Bd.method).1
  have hlk := Bd.notSynchronized
  obtain ⟨lc, hlc⟩ : ∃ lc : List Loc, lc = [] := ⟨_, rfl⟩
  have X : Stand p l e ({ frames := 3, cells := 6, slots := 12, locals := 47 } : Room) s m #[(.int (0 : Int32)), (.int d0), (.int d1), (.int d2), (.int d3)] below meth c s₁ lc 0 0 := hlc ▸ Stand.of_body Bd
  have eT : s₁.heap = h0 := by rw [← hh, Bd.state]; rfl
  have N : Fr n0 lc := hlc ▸ Fr.nil n0
  obtain ⟨vm0, hvm⟩ : ∃ v : Vm, v = s.vm := ⟨_, rfl⟩
  have X : Stand p l e ({ frames := 3, cells := 6, slots := 12, locals := 47 } : Room) (s.setVm vm0) m #[(.int (0 : Int32)), (.int d0), (.int d1), (.int d2), (.int d3)] below meth c s₁ lc 0 0 := by rw [hvm]; exact X
  have hZ : Z.Warmed39 (s.setVm vm0).vm := by rw [hvm]; exact hZ
  have hown : (s.setVm vm0).vm.findClass "com/example/bleeper/bleeper/cli/FieldsCanHoldPinLaw" = some m.cls := by rw [hvm]; exact hown
  have hS : s.Since vm0 h0.size := by rw [hvm]; exact (State.WarmedH.refl s).since _
  have hk : h0.size ≤ h0.size := Nat.le_refl _
  have CR : CHr Z own_EL s.vm h0 vm0 h0 := by rw [hvm]; exact CHr.refl H
  have H : CHv Z own_EL vm0 h0 := by rw [hvm]; exact H
  refine own_enterS (ef_tx0 m (0 : Int32) d0 d1 d2 d3) ?_
  obtain ⟨T, hT⟩ : ∃ T : State, T = s₁ := ⟨_, rfl⟩
  rw [← hT] at X eT ⊢
  show own_W _ _ _ _ _ _ _ _ []
  have Kp : Keep h0 h0 [] := Keep.refl _ _
  refine own_iloadN X hx (hb hby own14_0) (pc' := 1) rfl rfl ?_
  refine own_ifN X hx (hb hby own14_1) (pc' := 4) rfl (show (0 : Int32) = (0 : Int32) from (by decide)) ?_
  refine own_new X hx hZ hown (own_w hw 8 rfl) (own_w hw 9 rfl) (own_w hw 10 rfl) eT (hb hby own14_4) (pc' := 7) rfl (cells' := 1) (slots' := 4) rfl rfl (by decide) (by decide) ?_
  intro T h1 b1 X eT E gb1 E_b1 Db1
  have z_b1 : n0 ≤ b1 := Nat.le_trans Z0 (Nat.le_of_eq gb1.symm)
  have s_b1 : h0.size ≤ b1 := Nat.le_trans Kp.1 (Nat.le_of_eq gb1.symm)
  have S_b1 : Safe Z own_EL vm0 h0 b1 := Safe.new (Nat.le_of_eq gb1.symm)
  have S_b1 := S_b1.ext E H
  have CR := CR.trans (CHr.ext E H)
  have H := H.ext E
  have hk := Nat.le_trans hk E.1
  have S_C := S_C.ext E
  have S_A := S_A.ext E
  have S_H := S_H.ext E
  have S_L := S_L.ext E
  have Z0 := Nat.le_trans Z0 E.1
  have Kp := Kp.ext E
  have F_value_b1 : Fld Z h1 b1 "java/lang/String" "value" "[B" .null := Db1 (Or.inr (own_w hw 24 rfl)) (ty := (.array .byte)) (by decide)
  have F_coder_b1 : Fld Z h1 b1 "java/lang/String" "coder" "B" (.int (0 : Int32)) := Db1 (Or.inr (own_w hw 25 rfl)) (ty := .byte) (by decide)
  refine own_dup X hx (hb hby own14_7) (pc' := 8) rfl rfl ?_
  refine own_iconst X hx (0 : Int32) (hb hby own14_8) (pc' := 9) rfl rfl ?_
  refine own_newarr X hx hZ (own_w hw 11 rfl) eT (hb hby own14_9) (pc' := 11) rfl (by decide) 0 (by decide) (by decide) (cells' := 2) (slots' := 4) rfl rfl (by decide) (by decide) ?_
  intro T h2 k_b2 b2 X eT E gb2 A_b2
  have lt_b1_b2 : b1 < b2 := Nat.lt_of_lt_of_le E_b1.lt (Nat.le_of_eq gb2.symm)
  have ne_b1_b2 : b1 ≠ b2 := Nat.ne_of_lt lt_b1_b2
  have z_b2 : n0 ≤ b2 := Nat.le_trans Z0 (Nat.le_of_eq gb2.symm)
  have s_b2 : h0.size ≤ b2 := Nat.le_trans Kp.1 (Nat.le_of_eq gb2.symm)
  have S_b1 := S_b1.ext E H
  have CR := CR.trans (CHr.ext E H)
  have H := H.ext E
  have hk := Nat.le_trans hk E.1
  have S_C := S_C.ext E
  have S_A := S_A.ext E
  have S_H := S_H.ext E
  have S_L := S_L.ext E
  have E_b1 := E_b1.ext E
  have F_value_b1 := F_value_b1.ext E
  have F_coder_b1 := F_coder_b1.ext E
  have Z0 := Nat.le_trans Z0 E.1
  have Kp := Kp.ext E
  have A_b2 : Arv Z h2 b2 k_b2 .char (0 : Int32) [] (.int (0 : Int32)) := A_b2.pad (pad_rep [] (.int (0 : Int32)) 0)
  refine own_callNS X hx hZ b1 [(.ref b2)] rfl hown (own_w hw 12 rfl) (own_w hw 13 rfl) (own_w hw 10 rfl) (own_w hw 14 rfl) (by decide) (rm_ic0 l Z a0 hw hEL [] b1 b2 h2 n0 Z0 _ E_b1 F_coder_b1 F_value_b1 z_b1 _ _ A_b2) eT hS hk hEL H (W := 1) (by decide) (by decide) (cells' := 6) (slots' := 12) rfl rfl (by decide) (by decide) (by rw [hml]; rfl) (lenOf own_pd_285bC29V rfl) rfl (S := [(.ref b1)]) rfl (Nat.le_of_eq rfl) (hb hby own14_11) (pc' := 14) rfl ?_
  intro v T h3 L lc vm0 k1 X eT hS hk hZ hown CQ hq fN
  obtain ⟨rfl, Nq, Kq, bb, kb, F_c, F_v, A_bb⟩ := hq
  have N := fN _ N Nq
  have Kp := Kp.trans Kq (allS (P := fun x => x ∈ ([] : List Addr) ∨ h0.size ≤ x) (Or.inr s_b1) all0)
  have S_b1 := CQ.safe E_b1.lt S_b1
  have CR := CR.trans CQ
  have H := CQ.1
  have S_C := own_sta_keep S_C Kq (nsS (own_ns_exa E_b1) ns0)
  have S_A := own_sta_keep S_A Kq (nsS (own_ns_exa E_b1) ns0)
  have S_H := own_sta_keep S_H Kq (nsS (own_ns_exa E_b1) ns0)
  have S_L := own_sta_keep S_L Kq (nsS (own_ns_exa E_b1) ns0)
  have E_b1 := E_b1.keep Kq
  have A_b2 := A_b2.keep Kq (ninS (Ne.symm ne_b1_b2) nin0)
  have Z0 := Nat.le_trans Z0 Kq.1
  show own_W _ _ _ _ _ _ _ _ [(.ref b1)]
  refine own_retAS X hx hlk hZ eT hh hS hk hEL H CR Bd.returns (hb hby own14_14) rfl rfl rfl (by decide) (by decide) ?_
  rw [eT]
  exact ⟨b1, bb, kb, rfl, N, Kp, E_b1, F_v, F_c, A_bb⟩
theorem own14_15 : decode method_5_code 15 = .ok (.iload_n 0, 1) := by decide +kernel
theorem own14_16 : decode method_5_code 16 = .ok (.iconst 1, 1) := by decide +kernel
theorem own14_17 : decode method_5_code 17 = .ok (.if_icmp .ne 18, 3) := by decide +kernel
theorem own14_20 : decode method_5_code 20 = .ok (.new 28, 3) := by decide +kernel
theorem own14_23 : decode method_5_code 23 = .ok (.dup, 1) := by decide +kernel
theorem own14_24 : decode method_5_code 24 = .ok (.iconst 1, 1) := by decide +kernel
theorem own14_25 : decode method_5_code 25 = .ok (.newarray .char, 2) := by decide +kernel
theorem own14_27 : decode method_5_code 27 = .ok (.dup, 1) := by decide +kernel
theorem own14_28 : decode method_5_code 28 = .ok (.iconst 0, 1) := by decide +kernel
theorem own14_29 : decode method_5_code 29 = .ok (.iload_n 1, 1) := by decide +kernel
theorem own14_30 : decode method_5_code 30 = .ok (.castore, 1) := by decide +kernel
theorem own14_31 : decode method_5_code 31 = .ok (.invokespecial 30, 3) := by decide +kernel
theorem own14_34 : decode method_5_code 34 = .ok (.areturn, 1) := by decide +kernel
theorem ef_tx1 (m : MethodId) (x0 : Int32) (x1 : Int32) (x2 : Int32) (x3 : Int32) (x4 : Int32) : entryFrame m #[(.int x0), (.int x1), (.int x2), (.int x3), (.int x4)] 5 = mkF m 0 #[.val (.int x0), .val (.int x1), .val (.int x2), .val (.int x3), .val (.int x4)] [] := by first | (simp [entryFrame, mkF, argsToLocals, Value.category]; done) | rfl
def Q_tx1 (Z : State) (cs d0 d1 d2 d3 : Int32) (h0 : Heap) (n0 : Nat) (v : Option Value) (h : Heap) (L : List Loc) : Prop := ∃ (a b : Addr) (k : ClassId), v = some (.ref a) ∧ Fr n0 L ∧ Keep h0 h [] ∧ Exa Z h a "java/lang/String" ∧ Fld Z h a "java/lang/String" "value" "[B" (.ref b) ∧ ((Fld Z h a "java/lang/String" "coder" "B" (.int (0 : Int32)) ∧ (¬ ((255 : Int32) < d0)) ∧ Arv Z h b k .byte (1 : Int32) [(.int (nar .byte d0.toInt8.toInt32))] (.int (0 : Int32))) ∨ (Fld Z h a "java/lang/String" "coder" "B" (.int (1 : Int32)) ∧ Arv Z h b k .byte (2 : Int32) [(.int (own_lb d0)), (.int (own_hb d0))] (.int (0 : Int32))))
set_option maxRecDepth 65536 in
set_option maxHeartbeats 40000000 in
theorem rm_tx1 (l : Launch) (Z : State) (a0 : Array Value) (hw : ∀ d ∈ tables_1, d.before a0 Z = true) (hEL : EW Z a0 own_EL) (ws : List Jvm.Cond) (cs d0 d1 d2 d3 : Int32) (h0 : Heap) (n0 : Nat) (Z0 : n0 ≤ h0.size) (S_C : Sta Z h0 "java/lang/String" "COMPACT_STRINGS" "Z" (.int cs)) (hcs : ¬ cs = 0) (S_A : Sta Z h0 "java/lang/StringUTF16" "$assertionsDisabled" "Z" (.int (1 : Int32))) (S_H : Sta Z h0 "java/lang/StringUTF16" "HI_BYTE_SHIFT" "I" (.int (0 : Int32))) (S_L : Sta Z h0 "java/lang/StringUTF16" "LO_BYTE_SHIFT" "I" (.int (8 : Int32))) (bd0 : own_c16 d0) (bd1 : own_c16 d1) (bd2 : own_c16 d2) (bd3 : own_c16 d3) :
    MetFree l (⟨"com/example/bleeper/bleeper/cli/FieldsCanHoldPinLaw", "text", "(ICCCC)Ljava/lang/String;"⟩ : MethodName) (head1 (Jvm.Cond.code (⟨"com/example/bleeper/bleeper/cli/FieldsCanHoldPinLaw", "text", "(ICCCC)Ljava/lang/String;"⟩ : MethodName) method_5_code 5 (some (.object "java/lang/String")) :: ws) ({ frames := 6, cells := 4, slots := 8, locals := 117 } : Room)) (fun a U => a = #[(.int (1 : Int32)), (.int d0), (.int d1), (.int d2), (.int d3)] ∧ Z.Warmed39 U.vm ∧ U.heap = h0 ∧ CHv Z own_EL U.vm h0) (fun _ _ _ _ _ => True) (fun _ U o U' => ∃ v L, o = .returned v ∧ Q_tx1 Z cs d0 d1 d2 d3 h0 n0 v U'.heap L ∧ CHr Z own_EL U.vm U.heap U'.vm U'.heap ∧ ReturnedEndW U o U' L ({ frames := 6, cells := 4, slots := 8, locals := 117 } : Room).cells ({ frames := 6, cells := 4, slots := 8, locals := 117 } : Room).slots) := by
  refine MetFree.of_bodySF (plainFor_of_name own_pn_com_example_bleeper_bleeper_cli_FieldsCanHoldPinLaw) hisR ?_
  intro p e s m args below meth c s₁ Bd hml0 hP hK
  obtain ⟨rfl, hZ, hh, H⟩ := hP
  have hx := Bd.exec
  have hby := Bd.bytes
  have hml : c.maxLocals = 5 := hml0
  have hown : s.vm.findClass "com/example/bleeper/bleeper/cli/FieldsCanHoldPinLaw" = some m.cls := findClass_of_methodNamed Bd.named
  have hnm := (name_of_methodNamed Bd.named Bd.method).1
  have hlk := Bd.notSynchronized
  obtain ⟨lc, hlc⟩ : ∃ lc : List Loc, lc = [] := ⟨_, rfl⟩
  have X : Stand p l e ({ frames := 6, cells := 4, slots := 8, locals := 117 } : Room) s m #[(.int (1 : Int32)), (.int d0), (.int d1), (.int d2), (.int d3)] below meth c s₁ lc 0 0 := hlc ▸ Stand.of_body Bd
  have eT : s₁.heap = h0 := by rw [← hh, Bd.state]; rfl
  have N : Fr n0 lc := hlc ▸ Fr.nil n0
  obtain ⟨vm0, hvm⟩ : ∃ v : Vm, v = s.vm := ⟨_, rfl⟩
  have X : Stand p l e ({ frames := 6, cells := 4, slots := 8, locals := 117 } : Room) (s.setVm vm0) m #[(.int (1 : Int32)), (.int d0), (.int d1), (.int d2), (.int d3)] below meth c s₁ lc 0 0 := by rw [hvm]; exact X
  have hZ : Z.Warmed39 (s.setVm vm0).vm := by rw [hvm]; exact hZ
  have hown : (s.setVm vm0).vm.findClass "com/example/bleeper/bleeper/cli/FieldsCanHoldPinLaw" = some m.cls := by rw [hvm]; exact hown
  have hS : s.Since vm0 h0.size := by rw [hvm]; exact (State.WarmedH.refl s).since _
  have hk : h0.size ≤ h0.size := Nat.le_refl _
  have CR : CHr Z own_EL s.vm h0 vm0 h0 := by rw [hvm]; exact CHr.refl H
  have H : CHv Z own_EL vm0 h0 := by rw [hvm]; exact H
  refine own_enterS (ef_tx1 m (1 : Int32) d0 d1 d2 d3) ?_
  obtain ⟨T, hT⟩ : ∃ T : State, T = s₁ := ⟨_, rfl⟩
  rw [← hT] at X eT ⊢
  show own_W _ _ _ _ _ _ _ _ []
  have Kp : Keep h0 h0 [] := Keep.refl _ _
  refine own_iloadN X hx (hb hby own14_0) (pc' := 1) rfl rfl ?_
  refine own_ifY X hx (hb hby own14_1) (by decide) (pc' := 15) rfl (show ¬ ((1 : Int32) = (0 : Int32)) from (by decide)) ?_
  refine own_iloadN X hx (hb hby own14_15) (pc' := 16) rfl rfl ?_
  refine own_iconst X hx (1 : Int32) (hb hby own14_16) (pc' := 17) rfl rfl ?_
  refine own_icmpN X hx (hb hby own14_17) (pc' := 20) rfl (show (1 : Int32) = (1 : Int32) from (by decide)) ?_
  refine own_new X hx hZ hown (own_w hw 8 rfl) (own_w hw 9 rfl) (own_w hw 10 rfl) eT (hb hby own14_20) (pc' := 23) rfl (cells' := 1) (slots' := 4) rfl rfl (by decide) (by decide) ?_
  intro T h1 b1 X eT E gb1 E_b1 Db1
  have z_b1 : n0 ≤ b1 := Nat.le_trans Z0 (Nat.le_of_eq gb1.symm)
  have s_b1 : h0.size ≤ b1 := Nat.le_trans Kp.1 (Nat.le_of_eq gb1.symm)
  have S_b1 : Safe Z own_EL vm0 h0 b1 := Safe.new (Nat.le_of_eq gb1.symm)
  have S_b1 := S_b1.ext E H
  have CR := CR.trans (CHr.ext E H)
  have H := H.ext E
  have hk := Nat.le_trans hk E.1
  have S_C := S_C.ext E
  have S_A := S_A.ext E
  have S_H := S_H.ext E
  have S_L := S_L.ext E
  have Z0 := Nat.le_trans Z0 E.1
  have Kp := Kp.ext E
  have F_value_b1 : Fld Z h1 b1 "java/lang/String" "value" "[B" .null := Db1 (Or.inr (own_w hw 24 rfl)) (ty := (.array .byte)) (by decide)
  have F_coder_b1 : Fld Z h1 b1 "java/lang/String" "coder" "B" (.int (0 : Int32)) := Db1 (Or.inr (own_w hw 25 rfl)) (ty := .byte) (by decide)
  refine own_dup X hx (hb hby own14_23) (pc' := 24) rfl rfl ?_
  refine own_iconst X hx (1 : Int32) (hb hby own14_24) (pc' := 25) rfl rfl ?_
  refine own_newarr X hx hZ (own_w hw 11 rfl) eT (hb hby own14_25) (pc' := 27) rfl (by decide) 1 (by decide) (by decide) (cells' := 2) (slots' := 5) rfl rfl (by decide) (by decide) ?_
  intro T h2 k_b2 b2 X eT E gb2 A_b2
  have lt_b1_b2 : b1 < b2 := Nat.lt_of_lt_of_le E_b1.lt (Nat.le_of_eq gb2.symm)
  have ne_b1_b2 : b1 ≠ b2 := Nat.ne_of_lt lt_b1_b2
  have z_b2 : n0 ≤ b2 := Nat.le_trans Z0 (Nat.le_of_eq gb2.symm)
  have s_b2 : h0.size ≤ b2 := Nat.le_trans Kp.1 (Nat.le_of_eq gb2.symm)
  have S_b1 := S_b1.ext E H
  have CR := CR.trans (CHr.ext E H)
  have H := H.ext E
  have hk := Nat.le_trans hk E.1
  have S_C := S_C.ext E
  have S_A := S_A.ext E
  have S_H := S_H.ext E
  have S_L := S_L.ext E
  have E_b1 := E_b1.ext E
  have F_value_b1 := F_value_b1.ext E
  have F_coder_b1 := F_coder_b1.ext E
  have Z0 := Nat.le_trans Z0 E.1
  have Kp := Kp.ext E
  have A_b2 : Arv Z h2 b2 k_b2 .char (1 : Int32) [(.int (0 : Int32))] (.int (0 : Int32)) := A_b2.pad (pad_rep [] (.int (0 : Int32)) 1)
  refine own_dup X hx (hb hby own14_27) (pc' := 28) rfl rfl ?_
  refine own_iconst X hx (0 : Int32) (hb hby own14_28) (pc' := 29) rfl rfl ?_
  refine own_iloadN X hx (hb hby own14_29) (pc' := 30) rfl rfl ?_
  refine own_castore X hx hZ eT A_b2 (by decide) 0 rfl (by show 0 < 1; decide) (hb hby own14_30) (pc' := 31) rfl ?_
  intro T h3 lc X eT Kq A_b2n fN
  have hsf : ∀ x ∈ ([b2] : List Addr), Safe Z own_EL vm0 h2 x := (sfS (Safe.arv hZ.alike A_b2 (by decide)) sf0)
  have S_b1 := S_b1.keep Kq hsf H
  have CR := CR.trans (CHr.keep Kq hsf H)
  have H := H.keep Kq hsf
  have hk := Nat.le_trans hk Kq.1
  have S_C := own_sta_keep S_C Kq (nsS (own_ns_arv A_b2) ns0)
  have S_A := own_sta_keep S_A Kq (nsS (own_ns_arv A_b2) ns0)
  have S_H := own_sta_keep S_H Kq (nsS (own_ns_arv A_b2) ns0)
  have S_L := own_sta_keep S_L Kq (nsS (own_ns_arv A_b2) ns0)
  have E_b1 := E_b1.keep Kq
  have F_value_b1 := F_value_b1.keep Kq (ninS ne_b1_b2 nin0)
  have F_coder_b1 := F_coder_b1.keep Kq (ninS ne_b1_b2 nin0)
  have Z0 := Nat.le_trans Z0 Kq.1
  have A_b2 := A_b2n
  have N := fN _ z_b2 N
  have Kp := Kp.trans Kq (allS (P := fun x => x ∈ [] ∨ h0.size ≤ x) (Or.inr s_b2) all0)
  rw [own_nc bd0] at A_b2
  have A_b2 : Arv Z h3 b2 _ .char (1 : Int32) [(.int d0)] (.int (0 : Int32)) := A_b2
  refine own_callN X hx hZ b1 [(.ref b2)] rfl hown (own_w hw 12 rfl) (own_w hw 13 rfl) (own_w hw 10 rfl) (own_w hw 14 rfl) (by decide) (rm_ic1 l Z a0 hw [] b1 b2 _ cs d0 h3 n0 Z0 S_C hcs S_A S_H S_L _ _ E_b1 F_coder_b1 F_value_b1 A_b2 ne_b1_b2 bd0 z_b1) eT (W := 1) (by decide) (by decide) (cells' := 4) (slots' := 8) rfl rfl (by decide) (by decide) (by rw [hml]; rfl) (lenOf own_pd_285bC29V rfl) rfl (S := [(.ref b1)]) rfl (Nat.le_of_eq rfl) (hb hby own14_31) (pc' := 34) rfl ?_
  intro v T h4 L lc X eT hq fN
  obtain ⟨rfl, Nq, Kq, bb, kb, hbb, F_v, hcd⟩ := hq
  have N := fN _ N Nq
  have Kp := Kp.trans Kq (allS (P := fun x => x ∈ ([] : List Addr) ∨ h0.size ≤ x) (Or.inr s_b1) all0)
  have lt_b1_bb : b1 < bb := Nat.lt_of_lt_of_le E_b1.lt hbb
  have ne_b1_bb : b1 ≠ bb := Nat.ne_of_lt lt_b1_bb
  have lt_b2_bb : b2 < bb := Nat.lt_of_lt_of_le A_b2.lt hbb
  have ne_b2_bb : b2 ≠ bb := Nat.ne_of_lt lt_b2_bb
  have hsf : ∀ x ∈ ([b1] : List Addr), Safe Z own_EL vm0 h3 x := (sfS S_b1 sf0)
  have S_b1 := S_b1.keep Kq hsf H
  have CR := CR.trans (CHr.keep Kq hsf H)
  have H := H.keep Kq hsf
  have hk := Nat.le_trans hk Kq.1
  have S_C := own_sta_keep S_C Kq (nsS (own_ns_exa E_b1) ns0)
  have S_A := own_sta_keep S_A Kq (nsS (own_ns_exa E_b1) ns0)
  have S_H := own_sta_keep S_H Kq (nsS (own_ns_exa E_b1) ns0)
  have S_L := own_sta_keep S_L Kq (nsS (own_ns_exa E_b1) ns0)
  have E_b1 := E_b1.keep Kq
  have A_b2 := A_b2.keep Kq (ninS (Ne.symm ne_b1_b2) nin0)
  have Z0 := Nat.le_trans Z0 Kq.1
  show own_W _ _ _ _ _ _ _ _ [(.ref b1)]
  refine own_retAS X hx hlk hZ eT hh hS hk hEL H CR Bd.returns (hb hby own14_34) rfl rfl rfl (by decide) (by decide) ?_
  rw [eT]
  exact ⟨b1, bb, kb, rfl, N, Kp, E_b1, F_v, hcd⟩
theorem own14_35 : decode method_5_code 35 = .ok (.iload_n 0, 1) := by decide +kernel
theorem own14_36 : decode method_5_code 36 = .ok (.iconst 2, 1) := by decide +kernel
theorem own14_37 : decode method_5_code 37 = .ok (.if_icmp .ne 22, 3) := by decide +kernel
theorem own14_40 : decode method_5_code 40 = .ok (.new 28, 3) := by decide +kernel
theorem own14_43 : decode method_5_code 43 = .ok (.dup, 1) := by decide +kernel
theorem own14_44 : decode method_5_code 44 = .ok (.iconst 2, 1) := by decide +kernel
theorem own14_45 : decode method_5_code 45 = .ok (.newarray .char, 2) := by decide +kernel
theorem own14_47 : decode method_5_code 47 = .ok (.dup, 1) := by decide +kernel
theorem own14_48 : decode method_5_code 48 = .ok (.iconst 0, 1) := by decide +kernel
theorem own14_49 : decode method_5_code 49 = .ok (.iload_n 1, 1) := by decide +kernel
theorem own14_50 : decode method_5_code 50 = .ok (.castore, 1) := by decide +kernel
theorem own14_51 : decode method_5_code 51 = .ok (.dup, 1) := by decide +kernel
theorem own14_52 : decode method_5_code 52 = .ok (.iconst 1, 1) := by decide +kernel
theorem own14_53 : decode method_5_code 53 = .ok (.iload_n 2, 1) := by decide +kernel
theorem own14_54 : decode method_5_code 54 = .ok (.castore, 1) := by decide +kernel
theorem own14_55 : decode method_5_code 55 = .ok (.invokespecial 30, 3) := by decide +kernel
theorem own14_58 : decode method_5_code 58 = .ok (.areturn, 1) := by decide +kernel
theorem ef_tx2 (m : MethodId) (x0 : Int32) (x1 : Int32) (x2 : Int32) (x3 : Int32) (x4 : Int32) : entryFrame m #[(.int x0), (.int x1), (.int x2), (.int x3), (.int x4)] 5 = mkF m 0 #[.val (.int x0), .val (.int x1), .val (.int x2), .val (.int x3), .val (.int x4)] [] := by first | (simp [entryFrame, mkF, argsToLocals, Value.category]; done) | rfl
def Q_tx2 (Z : State) (cs d0 d1 d2 d3 : Int32) (h0 : Heap) (n0 : Nat) (v : Option Value) (h : Heap) (L : List Loc) : Prop := ∃ (a b : Addr) (k : ClassId), v = some (.ref a) ∧ Fr n0 L ∧ Keep h0 h [] ∧ Exa Z h a "java/lang/String" ∧ Fld Z h a "java/lang/String" "value" "[B" (.ref b) ∧ ((Fld Z h a "java/lang/String" "coder" "B" (.int (0 : Int32)) ∧ (¬ ((255 : Int32) < d0) ∧ ¬ ((255 : Int32) < d1)) ∧ Arv Z h b k .byte (2 : Int32) [(.int (nar .byte d0.toInt8.toInt32)), (.int (nar .byte d1.toInt8.toInt32))] (.int (0 : Int32))) ∨ (Fld Z h a "java/lang/String" "coder" "B" (.int (1 : Int32)) ∧ Arv Z h b k .byte (4 : Int32) [(.int (own_lb d0)), (.int (own_hb d0)), (.int (own_lb d1)), (.int (own_hb d1))] (.int (0 : Int32))))
set_option maxRecDepth 65536 in
set_option maxHeartbeats 40000000 in
theorem rm_tx2 (l : Launch) (Z : State) (a0 : Array Value) (hw : ∀ d ∈ tables_1, d.before a0 Z = true) (hEL : EW Z a0 own_EL) (ws : List Jvm.Cond) (cs d0 d1 d2 d3 : Int32) (h0 : Heap) (n0 : Nat) (Z0 : n0 ≤ h0.size) (S_C : Sta Z h0 "java/lang/String" "COMPACT_STRINGS" "Z" (.int cs)) (hcs : ¬ cs = 0) (S_A : Sta Z h0 "java/lang/StringUTF16" "$assertionsDisabled" "Z" (.int (1 : Int32))) (S_H : Sta Z h0 "java/lang/StringUTF16" "HI_BYTE_SHIFT" "I" (.int (0 : Int32))) (S_L : Sta Z h0 "java/lang/StringUTF16" "LO_BYTE_SHIFT" "I" (.int (8 : Int32))) (bd0 : own_c16 d0) (bd1 : own_c16 d1) (bd2 : own_c16 d2) (bd3 : own_c16 d3) :
    MetFree l (⟨"com/example/bleeper/bleeper/cli/FieldsCanHoldPinLaw", "text", "(ICCCC)Ljava/lang/String;"⟩ : MethodName) (head1 (Jvm.Cond.code (⟨"com/example/bleeper/bleeper/cli/FieldsCanHoldPinLaw", "text", "(ICCCC)Ljava/lang/String;"⟩ : MethodName) method_5_code 5 (some (.object "java/lang/String")) :: ws) ({ frames := 6, cells := 4, slots := 12, locals := 117 } : Room)) (fun a U => a = #[(.int (2 : Int32)), (.int d0), (.int d1), (.int d2), (.int d3)] ∧ Z.Warmed39 U.vm ∧ U.heap = h0 ∧ CHv Z own_EL U.vm h0) (fun _ _ _ _ _ => True) (fun _ U o U' => ∃ v L, o = .returned v ∧ Q_tx2 Z cs d0 d1 d2 d3 h0 n0 v U'.heap L ∧ CHr Z own_EL U.vm U.heap U'.vm U'.heap ∧ ReturnedEndW U o U' L ({ frames := 6, cells := 4, slots := 12, locals := 117 } : Room).cells ({ frames := 6, cells := 4, slots := 12, locals := 117 } : Room).slots) := by
  refine MetFree.of_bodySF (plainFor_of_name own_pn_com_example_bleeper_bleeper_cli_FieldsCanHoldPinLaw) hisR ?_
  intro p e s m args below meth c s₁ Bd hml0 hP hK
  obtain ⟨rfl, hZ, hh, H⟩ := hP
  have hx := Bd.exec
  have hby := Bd.bytes
  have hml : c.maxLocals = 5 := hml0
  have hown : s.vm.findClass "com/example/bleeper/bleeper/cli/FieldsCanHoldPinLaw" = some m.cls := findClass_of_methodNamed Bd.named
  have hnm := (name_of_methodNamed Bd.named Bd.method).1
  have hlk := Bd.notSynchronized
  obtain ⟨lc, hlc⟩ : ∃ lc : List Loc, lc = [] := ⟨_, rfl⟩
  have X : Stand p l e ({ frames := 6, cells := 4, slots := 12, locals := 117 } : Room) s m #[(.int (2 : Int32)), (.int d0), (.int d1), (.int d2), (.int d3)] below meth c s₁ lc 0 0 := hlc ▸ Stand.of_body Bd
  have eT : s₁.heap = h0 := by rw [← hh, Bd.state]; rfl
  have N : Fr n0 lc := hlc ▸ Fr.nil n0
  obtain ⟨vm0, hvm⟩ : ∃ v : Vm, v = s.vm := ⟨_, rfl⟩
  have X : Stand p l e ({ frames := 6, cells := 4, slots := 12, locals := 117 } : Room) (s.setVm vm0) m #[(.int (2 : Int32)), (.int d0), (.int d1), (.int d2), (.int d3)] below meth c s₁ lc 0 0 := by rw [hvm]; exact X
  have hZ : Z.Warmed39 (s.setVm vm0).vm := by rw [hvm]; exact hZ
  have hown : (s.setVm vm0).vm.findClass "com/example/bleeper/bleeper/cli/FieldsCanHoldPinLaw" = some m.cls := by rw [hvm]; exact hown
  have hS : s.Since vm0 h0.size := by rw [hvm]; exact (State.WarmedH.refl s).since _
  have hk : h0.size ≤ h0.size := Nat.le_refl _
  have CR : CHr Z own_EL s.vm h0 vm0 h0 := by rw [hvm]; exact CHr.refl H
  have H : CHv Z own_EL vm0 h0 := by rw [hvm]; exact H
  refine own_enterS (ef_tx2 m (2 : Int32) d0 d1 d2 d3) ?_
  obtain ⟨T, hT⟩ : ∃ T : State, T = s₁ := ⟨_, rfl⟩
  rw [← hT] at X eT ⊢
  show own_W _ _ _ _ _ _ _ _ []
  have Kp : Keep h0 h0 [] := Keep.refl _ _
  refine own_iloadN X hx (hb hby own14_0) (pc' := 1) rfl rfl ?_
  refine own_ifY X hx (hb hby own14_1) (by decide) (pc' := 15) rfl (show ¬ ((2 : Int32) = (0 : Int32)) from (by decide)) ?_
  refine own_iloadN X hx (hb hby own14_15) (pc' := 16) rfl rfl ?_
  refine own_iconst X hx (1 : Int32) (hb hby own14_16) (pc' := 17) rfl rfl ?_
  refine own_icmpY X hx (hb hby own14_17) (by decide) (pc' := 35) rfl (show ¬ ((2 : Int32) = (1 : Int32)) from (by decide)) ?_
  refine own_iloadN X hx (hb hby own14_35) (pc' := 36) rfl rfl ?_
  refine own_iconst X hx (2 : Int32) (hb hby own14_36) (pc' := 37) rfl rfl ?_
  refine own_icmpN X hx (hb hby own14_37) (pc' := 40) rfl (show (2 : Int32) = (2 : Int32) from (by decide)) ?_
  refine own_new X hx hZ hown (own_w hw 8 rfl) (own_w hw 9 rfl) (own_w hw 10 rfl) eT (hb hby own14_40) (pc' := 43) rfl (cells' := 1) (slots' := 4) rfl rfl (by decide) (by decide) ?_
  intro T h1 b1 X eT E gb1 E_b1 Db1
  have z_b1 : n0 ≤ b1 := Nat.le_trans Z0 (Nat.le_of_eq gb1.symm)
  have s_b1 : h0.size ≤ b1 := Nat.le_trans Kp.1 (Nat.le_of_eq gb1.symm)
  have S_b1 : Safe Z own_EL vm0 h0 b1 := Safe.new (Nat.le_of_eq gb1.symm)
  have S_b1 := S_b1.ext E H
  have CR := CR.trans (CHr.ext E H)
  have H := H.ext E
  have hk := Nat.le_trans hk E.1
  have S_C := S_C.ext E
  have S_A := S_A.ext E
  have S_H := S_H.ext E
  have S_L := S_L.ext E
  have Z0 := Nat.le_trans Z0 E.1
  have Kp := Kp.ext E
  have F_value_b1 : Fld Z h1 b1 "java/lang/String" "value" "[B" .null := Db1 (Or.inr (own_w hw 24 rfl)) (ty := (.array .byte)) (by decide)
  have F_coder_b1 : Fld Z h1 b1 "java/lang/String" "coder" "B" (.int (0 : Int32)) := Db1 (Or.inr (own_w hw 25 rfl)) (ty := .byte) (by decide)
  refine own_dup X hx (hb hby own14_43) (pc' := 44) rfl rfl ?_
  refine own_iconst X hx (2 : Int32) (hb hby own14_44) (pc' := 45) rfl rfl ?_
  refine own_newarr X hx hZ (own_w hw 11 rfl) eT (hb hby own14_45) (pc' := 47) rfl (by decide) 2 (by decide) (by decide) (cells' := 2) (slots' := 6) rfl rfl (by decide) (by decide) ?_
  intro T h2 k_b2 b2 X eT E gb2 A_b2
  have lt_b1_b2 : b1 < b2 := Nat.lt_of_lt_of_le E_b1.lt (Nat.le_of_eq gb2.symm)
  have ne_b1_b2 : b1 ≠ b2 := Nat.ne_of_lt lt_b1_b2
  have z_b2 : n0 ≤ b2 := Nat.le_trans Z0 (Nat.le_of_eq gb2.symm)
  have s_b2 : h0.size ≤ b2 := Nat.le_trans Kp.1 (Nat.le_of_eq gb2.symm)
  have S_b1 := S_b1.ext E H
  have CR := CR.trans (CHr.ext E H)
  have H := H.ext E
  have hk := Nat.le_trans hk E.1
  have S_C := S_C.ext E
  have S_A := S_A.ext E
  have S_H := S_H.ext E
  have S_L := S_L.ext E
  have E_b1 := E_b1.ext E
  have F_value_b1 := F_value_b1.ext E
  have F_coder_b1 := F_coder_b1.ext E
  have Z0 := Nat.le_trans Z0 E.1
  have Kp := Kp.ext E
  have A_b2 : Arv Z h2 b2 k_b2 .char (2 : Int32) [(.int (0 : Int32)), (.int (0 : Int32))] (.int (0 : Int32)) := A_b2.pad (pad_rep [] (.int (0 : Int32)) 2)
  refine own_dup X hx (hb hby own14_47) (pc' := 48) rfl rfl ?_
  refine own_iconst X hx (0 : Int32) (hb hby own14_48) (pc' := 49) rfl rfl ?_
  refine own_iloadN X hx (hb hby own14_49) (pc' := 50) rfl rfl ?_
  refine own_castore X hx hZ eT A_b2 (by decide) 0 rfl (by show 0 < 2; decide) (hb hby own14_50) (pc' := 51) rfl ?_
  intro T h3 lc X eT Kq A_b2n fN
  have hsf : ∀ x ∈ ([b2] : List Addr), Safe Z own_EL vm0 h2 x := (sfS (Safe.arv hZ.alike A_b2 (by decide)) sf0)
  have S_b1 := S_b1.keep Kq hsf H
  have CR := CR.trans (CHr.keep Kq hsf H)
  have H := H.keep Kq hsf
  have hk := Nat.le_trans hk Kq.1
  have S_C := own_sta_keep S_C Kq (nsS (own_ns_arv A_b2) ns0)
  have S_A := own_sta_keep S_A Kq (nsS (own_ns_arv A_b2) ns0)
  have S_H := own_sta_keep S_H Kq (nsS (own_ns_arv A_b2) ns0)
  have S_L := own_sta_keep S_L Kq (nsS (own_ns_arv A_b2) ns0)
  have E_b1 := E_b1.keep Kq
  have F_value_b1 := F_value_b1.keep Kq (ninS ne_b1_b2 nin0)
  have F_coder_b1 := F_coder_b1.keep Kq (ninS ne_b1_b2 nin0)
  have Z0 := Nat.le_trans Z0 Kq.1
  have A_b2 := A_b2n
  have N := fN _ z_b2 N
  have Kp := Kp.trans Kq (allS (P := fun x => x ∈ [] ∨ h0.size ≤ x) (Or.inr s_b2) all0)
  rw [own_nc bd0] at A_b2
  have A_b2 : Arv Z h3 b2 _ .char (2 : Int32) [(.int d0), (.int (0 : Int32))] (.int (0 : Int32)) := A_b2
  refine own_dup X hx (hb hby own14_51) (pc' := 52) rfl rfl ?_
  refine own_iconst X hx (1 : Int32) (hb hby own14_52) (pc' := 53) rfl rfl ?_
  refine own_iloadN X hx (hb hby own14_53) (pc' := 54) rfl rfl ?_
  refine own_castore X hx hZ eT A_b2 (by decide) 1 rfl (by show 1 < 2; decide) (hb hby own14_54) (pc' := 55) rfl ?_
  intro T h4 lc X eT Kq A_b2n fN
  have hsf : ∀ x ∈ ([b2] : List Addr), Safe Z own_EL vm0 h3 x := (sfS (Safe.arv hZ.alike A_b2 (by decide)) sf0)
  have S_b1 := S_b1.keep Kq hsf H
  have CR := CR.trans (CHr.keep Kq hsf H)
  have H := H.keep Kq hsf
  have hk := Nat.le_trans hk Kq.1
  have S_C := own_sta_keep S_C Kq (nsS (own_ns_arv A_b2) ns0)
  have S_A := own_sta_keep S_A Kq (nsS (own_ns_arv A_b2) ns0)
  have S_H := own_sta_keep S_H Kq (nsS (own_ns_arv A_b2) ns0)
  have S_L := own_sta_keep S_L Kq (nsS (own_ns_arv A_b2) ns0)
  have E_b1 := E_b1.keep Kq
  have F_value_b1 := F_value_b1.keep Kq (ninS ne_b1_b2 nin0)
  have F_coder_b1 := F_coder_b1.keep Kq (ninS ne_b1_b2 nin0)
  have Z0 := Nat.le_trans Z0 Kq.1
  have A_b2 := A_b2n
  have N := fN _ z_b2 N
  have Kp := Kp.trans Kq (allS (P := fun x => x ∈ [] ∨ h0.size ≤ x) (Or.inr s_b2) all0)
  rw [own_nc bd1] at A_b2
  have A_b2 : Arv Z h4 b2 _ .char (2 : Int32) [(.int d0), (.int d1)] (.int (0 : Int32)) := A_b2
  refine own_callN X hx hZ b1 [(.ref b2)] rfl hown (own_w hw 12 rfl) (own_w hw 13 rfl) (own_w hw 10 rfl) (own_w hw 14 rfl) (by decide) (rm_ic2 l Z a0 hw [] b1 b2 _ cs d0 d1 h4 n0 Z0 S_C hcs S_A S_H S_L _ _ E_b1 F_coder_b1 F_value_b1 A_b2 ne_b1_b2 bd0 bd1 z_b1) eT (W := 1) (by decide) (by decide) (cells' := 4) (slots' := 12) rfl rfl (by decide) (by decide) (by rw [hml]; rfl) (lenOf own_pd_285bC29V rfl) rfl (S := [(.ref b1)]) rfl (Nat.le_of_eq rfl) (hb hby own14_55) (pc' := 58) rfl ?_
  intro v T h5 L lc X eT hq fN
  obtain ⟨rfl, Nq, Kq, bb, kb, hbb, F_v, hcd⟩ := hq
  have N := fN _ N Nq
  have Kp := Kp.trans Kq (allS (P := fun x => x ∈ ([] : List Addr) ∨ h0.size ≤ x) (Or.inr s_b1) all0)
  have lt_b1_bb : b1 < bb := Nat.lt_of_lt_of_le E_b1.lt hbb
  have ne_b1_bb : b1 ≠ bb := Nat.ne_of_lt lt_b1_bb
  have lt_b2_bb : b2 < bb := Nat.lt_of_lt_of_le A_b2.lt hbb
  have ne_b2_bb : b2 ≠ bb := Nat.ne_of_lt lt_b2_bb
  have hsf : ∀ x ∈ ([b1] : List Addr), Safe Z own_EL vm0 h4 x := (sfS S_b1 sf0)
  have S_b1 := S_b1.keep Kq hsf H
  have CR := CR.trans (CHr.keep Kq hsf H)
  have H := H.keep Kq hsf
  have hk := Nat.le_trans hk Kq.1
  have S_C := own_sta_keep S_C Kq (nsS (own_ns_exa E_b1) ns0)
  have S_A := own_sta_keep S_A Kq (nsS (own_ns_exa E_b1) ns0)
  have S_H := own_sta_keep S_H Kq (nsS (own_ns_exa E_b1) ns0)
  have S_L := own_sta_keep S_L Kq (nsS (own_ns_exa E_b1) ns0)
  have E_b1 := E_b1.keep Kq
  have A_b2 := A_b2.keep Kq (ninS (Ne.symm ne_b1_b2) nin0)
  have Z0 := Nat.le_trans Z0 Kq.1
  show own_W _ _ _ _ _ _ _ _ [(.ref b1)]
  refine own_retAS X hx hlk hZ eT hh hS hk hEL H CR Bd.returns (hb hby own14_58) rfl rfl rfl (by decide) (by decide) ?_
  rw [eT]
  exact ⟨b1, bb, kb, rfl, N, Kp, E_b1, F_v, hcd⟩
theorem own14_59 : decode method_5_code 59 = .ok (.iload_n 0, 1) := by decide +kernel
theorem own14_60 : decode method_5_code 60 = .ok (.iconst 3, 1) := by decide +kernel
theorem own14_61 : decode method_5_code 61 = .ok (.if_icmp .ne 26, 3) := by decide +kernel
theorem own14_64 : decode method_5_code 64 = .ok (.new 28, 3) := by decide +kernel
theorem own14_67 : decode method_5_code 67 = .ok (.dup, 1) := by decide +kernel
theorem own14_68 : decode method_5_code 68 = .ok (.iconst 3, 1) := by decide +kernel
theorem own14_69 : decode method_5_code 69 = .ok (.newarray .char, 2) := by decide +kernel
theorem own14_71 : decode method_5_code 71 = .ok (.dup, 1) := by decide +kernel
theorem own14_72 : decode method_5_code 72 = .ok (.iconst 0, 1) := by decide +kernel
theorem own14_73 : decode method_5_code 73 = .ok (.iload_n 1, 1) := by decide +kernel
theorem own14_74 : decode method_5_code 74 = .ok (.castore, 1) := by decide +kernel
theorem own14_75 : decode method_5_code 75 = .ok (.dup, 1) := by decide +kernel
theorem own14_76 : decode method_5_code 76 = .ok (.iconst 1, 1) := by decide +kernel
theorem own14_77 : decode method_5_code 77 = .ok (.iload_n 2, 1) := by decide +kernel
theorem own14_78 : decode method_5_code 78 = .ok (.castore, 1) := by decide +kernel
theorem own14_79 : decode method_5_code 79 = .ok (.dup, 1) := by decide +kernel
theorem own14_80 : decode method_5_code 80 = .ok (.iconst 2, 1) := by decide +kernel
theorem own14_81 : decode method_5_code 81 = .ok (.iload_n 3, 1) := by decide +kernel
theorem own14_82 : decode method_5_code 82 = .ok (.castore, 1) := by decide +kernel
theorem own14_83 : decode method_5_code 83 = .ok (.invokespecial 30, 3) := by decide +kernel
theorem own14_86 : decode method_5_code 86 = .ok (.areturn, 1) := by decide +kernel
theorem ef_tx3 (m : MethodId) (x0 : Int32) (x1 : Int32) (x2 : Int32) (x3 : Int32) (x4 : Int32) : entryFrame m #[(.int x0), (.int x1), (.int x2), (.int x3), (.int x4)] 5 = mkF m 0 #[.val (.int x0), .val (.int x1), .val (.int x2), .val (.int x3), .val (.int x4)] [] := by first | (simp [entryFrame, mkF, argsToLocals, Value.category]; done) | rfl
def Q_tx3 (Z : State) (cs d0 d1 d2 d3 : Int32) (h0 : Heap) (n0 : Nat) (v : Option Value) (h : Heap) (L : List Loc) : Prop := ∃ (a b : Addr) (k : ClassId), v = some (.ref a) ∧ Fr n0 L ∧ Keep h0 h [] ∧ Exa Z h a "java/lang/String" ∧ Fld Z h a "java/lang/String" "value" "[B" (.ref b) ∧ ((Fld Z h a "java/lang/String" "coder" "B" (.int (0 : Int32)) ∧ (¬ ((255 : Int32) < d0) ∧ ¬ ((255 : Int32) < d1) ∧ ¬ ((255 : Int32) < d2)) ∧ Arv Z h b k .byte (3 : Int32) [(.int (nar .byte d0.toInt8.toInt32)), (.int (nar .byte d1.toInt8.toInt32)), (.int (nar .byte d2.toInt8.toInt32))] (.int (0 : Int32))) ∨ (Fld Z h a "java/lang/String" "coder" "B" (.int (1 : Int32)) ∧ Arv Z h b k .byte (6 : Int32) [(.int (own_lb d0)), (.int (own_hb d0)), (.int (own_lb d1)), (.int (own_hb d1)), (.int (own_lb d2)), (.int (own_hb d2))] (.int (0 : Int32))))
set_option maxRecDepth 65536 in
set_option maxHeartbeats 40000000 in
theorem rm_tx3 (l : Launch) (Z : State) (a0 : Array Value) (hw : ∀ d ∈ tables_1, d.before a0 Z = true) (hEL : EW Z a0 own_EL) (ws : List Jvm.Cond) (cs d0 d1 d2 d3 : Int32) (h0 : Heap) (n0 : Nat) (Z0 : n0 ≤ h0.size) (S_C : Sta Z h0 "java/lang/String" "COMPACT_STRINGS" "Z" (.int cs)) (hcs : ¬ cs = 0) (S_A : Sta Z h0 "java/lang/StringUTF16" "$assertionsDisabled" "Z" (.int (1 : Int32))) (S_H : Sta Z h0 "java/lang/StringUTF16" "HI_BYTE_SHIFT" "I" (.int (0 : Int32))) (S_L : Sta Z h0 "java/lang/StringUTF16" "LO_BYTE_SHIFT" "I" (.int (8 : Int32))) (bd0 : own_c16 d0) (bd1 : own_c16 d1) (bd2 : own_c16 d2) (bd3 : own_c16 d3) :
    MetFree l (⟨"com/example/bleeper/bleeper/cli/FieldsCanHoldPinLaw", "text", "(ICCCC)Ljava/lang/String;"⟩ : MethodName) (head1 (Jvm.Cond.code (⟨"com/example/bleeper/bleeper/cli/FieldsCanHoldPinLaw", "text", "(ICCCC)Ljava/lang/String;"⟩ : MethodName) method_5_code 5 (some (.object "java/lang/String")) :: ws) ({ frames := 6, cells := 4, slots := 16, locals := 117 } : Room)) (fun a U => a = #[(.int (3 : Int32)), (.int d0), (.int d1), (.int d2), (.int d3)] ∧ Z.Warmed39 U.vm ∧ U.heap = h0 ∧ CHv Z own_EL U.vm h0) (fun _ _ _ _ _ => True) (fun _ U o U' => ∃ v L, o = .returned v ∧ Q_tx3 Z cs d0 d1 d2 d3 h0 n0 v U'.heap L ∧ CHr Z own_EL U.vm U.heap U'.vm U'.heap ∧ ReturnedEndW U o U' L ({ frames := 6, cells := 4, slots := 16, locals := 117 } : Room).cells ({ frames := 6, cells := 4, slots := 16, locals := 117 } : Room).slots) := by
  refine MetFree.of_bodySF (plainFor_of_name own_pn_com_example_bleeper_bleeper_cli_FieldsCanHoldPinLaw) hisR ?_
  intro p e s m args below meth c s₁ Bd hml0 hP hK
  obtain ⟨rfl, hZ, hh, H⟩ := hP
  have hx := Bd.exec
  have hby := Bd.bytes
  have hml : c.maxLocals = 5 := hml0
  have hown : s.vm.findClass "com/example/bleeper/bleeper/cli/FieldsCanHoldPinLaw" = some m.cls := findClass_of_methodNamed Bd.named
  have hnm := (name_of_methodNamed Bd.named Bd.method).1
  have hlk := Bd.notSynchronized
  obtain ⟨lc, hlc⟩ : ∃ lc : List Loc, lc = [] := ⟨_, rfl⟩
  have X : Stand p l e ({ frames := 6, cells := 4, slots := 16, locals := 117 } : Room) s m #[(.int (3 : Int32)), (.int d0), (.int d1), (.int d2), (.int d3)] below meth c s₁ lc 0 0 := hlc ▸ Stand.of_body Bd
  have eT : s₁.heap = h0 := by rw [← hh, Bd.state]; rfl
  have N : Fr n0 lc := hlc ▸ Fr.nil n0
  obtain ⟨vm0, hvm⟩ : ∃ v : Vm, v = s.vm := ⟨_, rfl⟩
  have X : Stand p l e ({ frames := 6, cells := 4, slots := 16, locals := 117 } : Room) (s.setVm vm0) m #[(.int (3 : Int32)), (.int d0), (.int d1), (.int d2), (.int d3)] below meth c s₁ lc 0 0 := by rw [hvm]; exact X
  have hZ : Z.Warmed39 (s.setVm vm0).vm := by rw [hvm]; exact hZ
  have hown : (s.setVm vm0).vm.findClass "com/example/bleeper/bleeper/cli/FieldsCanHoldPinLaw" = some m.cls := by rw [hvm]; exact hown
  have hS : s.Since vm0 h0.size := by rw [hvm]; exact (State.WarmedH.refl s).since _
  have hk : h0.size ≤ h0.size := Nat.le_refl _
  have CR : CHr Z own_EL s.vm h0 vm0 h0 := by rw [hvm]; exact CHr.refl H
  have H : CHv Z own_EL vm0 h0 := by rw [hvm]; exact H
  refine own_enterS (ef_tx3 m (3 : Int32) d0 d1 d2 d3) ?_
  obtain ⟨T, hT⟩ : ∃ T : State, T = s₁ := ⟨_, rfl⟩
  rw [← hT] at X eT ⊢
  show own_W _ _ _ _ _ _ _ _ []
  have Kp : Keep h0 h0 [] := Keep.refl _ _
  refine own_iloadN X hx (hb hby own14_0) (pc' := 1) rfl rfl ?_
  refine own_ifY X hx (hb hby own14_1) (by decide) (pc' := 15) rfl (show ¬ ((3 : Int32) = (0 : Int32)) from (by decide)) ?_
  refine own_iloadN X hx (hb hby own14_15) (pc' := 16) rfl rfl ?_
  refine own_iconst X hx (1 : Int32) (hb hby own14_16) (pc' := 17) rfl rfl ?_
  refine own_icmpY X hx (hb hby own14_17) (by decide) (pc' := 35) rfl (show ¬ ((3 : Int32) = (1 : Int32)) from (by decide)) ?_
  refine own_iloadN X hx (hb hby own14_35) (pc' := 36) rfl rfl ?_
  refine own_iconst X hx (2 : Int32) (hb hby own14_36) (pc' := 37) rfl rfl ?_
  refine own_icmpY X hx (hb hby own14_37) (by decide) (pc' := 59) rfl (show ¬ ((3 : Int32) = (2 : Int32)) from (by decide)) ?_
  refine own_iloadN X hx (hb hby own14_59) (pc' := 60) rfl rfl ?_
  refine own_iconst X hx (3 : Int32) (hb hby own14_60) (pc' := 61) rfl rfl ?_
  refine own_icmpN X hx (hb hby own14_61) (pc' := 64) rfl (show (3 : Int32) = (3 : Int32) from (by decide)) ?_
  refine own_new X hx hZ hown (own_w hw 8 rfl) (own_w hw 9 rfl) (own_w hw 10 rfl) eT (hb hby own14_64) (pc' := 67) rfl (cells' := 1) (slots' := 4) rfl rfl (by decide) (by decide) ?_
  intro T h1 b1 X eT E gb1 E_b1 Db1
  have z_b1 : n0 ≤ b1 := Nat.le_trans Z0 (Nat.le_of_eq gb1.symm)
  have s_b1 : h0.size ≤ b1 := Nat.le_trans Kp.1 (Nat.le_of_eq gb1.symm)
  have S_b1 : Safe Z own_EL vm0 h0 b1 := Safe.new (Nat.le_of_eq gb1.symm)
  have S_b1 := S_b1.ext E H
  have CR := CR.trans (CHr.ext E H)
  have H := H.ext E
  have hk := Nat.le_trans hk E.1
  have S_C := S_C.ext E
  have S_A := S_A.ext E
  have S_H := S_H.ext E
  have S_L := S_L.ext E
  have Z0 := Nat.le_trans Z0 E.1
  have Kp := Kp.ext E
  have F_value_b1 : Fld Z h1 b1 "java/lang/String" "value" "[B" .null := Db1 (Or.inr (own_w hw 24 rfl)) (ty := (.array .byte)) (by decide)
  have F_coder_b1 : Fld Z h1 b1 "java/lang/String" "coder" "B" (.int (0 : Int32)) := Db1 (Or.inr (own_w hw 25 rfl)) (ty := .byte) (by decide)
  refine own_dup X hx (hb hby own14_67) (pc' := 68) rfl rfl ?_
  refine own_iconst X hx (3 : Int32) (hb hby own14_68) (pc' := 69) rfl rfl ?_
  refine own_newarr X hx hZ (own_w hw 11 rfl) eT (hb hby own14_69) (pc' := 71) rfl (by decide) 3 (by decide) (by decide) (cells' := 2) (slots' := 7) rfl rfl (by decide) (by decide) ?_
  intro T h2 k_b2 b2 X eT E gb2 A_b2
  have lt_b1_b2 : b1 < b2 := Nat.lt_of_lt_of_le E_b1.lt (Nat.le_of_eq gb2.symm)
  have ne_b1_b2 : b1 ≠ b2 := Nat.ne_of_lt lt_b1_b2
  have z_b2 : n0 ≤ b2 := Nat.le_trans Z0 (Nat.le_of_eq gb2.symm)
  have s_b2 : h0.size ≤ b2 := Nat.le_trans Kp.1 (Nat.le_of_eq gb2.symm)
  have S_b1 := S_b1.ext E H
  have CR := CR.trans (CHr.ext E H)
  have H := H.ext E
  have hk := Nat.le_trans hk E.1
  have S_C := S_C.ext E
  have S_A := S_A.ext E
  have S_H := S_H.ext E
  have S_L := S_L.ext E
  have E_b1 := E_b1.ext E
  have F_value_b1 := F_value_b1.ext E
  have F_coder_b1 := F_coder_b1.ext E
  have Z0 := Nat.le_trans Z0 E.1
  have Kp := Kp.ext E
  have A_b2 : Arv Z h2 b2 k_b2 .char (3 : Int32) [(.int (0 : Int32)), (.int (0 : Int32)), (.int (0 : Int32))] (.int (0 : Int32)) := A_b2.pad (pad_rep [] (.int (0 : Int32)) 3)
  refine own_dup X hx (hb hby own14_71) (pc' := 72) rfl rfl ?_
  refine own_iconst X hx (0 : Int32) (hb hby own14_72) (pc' := 73) rfl rfl ?_
  refine own_iloadN X hx (hb hby own14_73) (pc' := 74) rfl rfl ?_
  refine own_castore X hx hZ eT A_b2 (by decide) 0 rfl (by show 0 < 3; decide) (hb hby own14_74) (pc' := 75) rfl ?_
  intro T h3 lc X eT Kq A_b2n fN
  have hsf : ∀ x ∈ ([b2] : List Addr), Safe Z own_EL vm0 h2 x := (sfS (Safe.arv hZ.alike A_b2 (by decide)) sf0)
  have S_b1 := S_b1.keep Kq hsf H
  have CR := CR.trans (CHr.keep Kq hsf H)
  have H := H.keep Kq hsf
  have hk := Nat.le_trans hk Kq.1
  have S_C := own_sta_keep S_C Kq (nsS (own_ns_arv A_b2) ns0)
  have S_A := own_sta_keep S_A Kq (nsS (own_ns_arv A_b2) ns0)
  have S_H := own_sta_keep S_H Kq (nsS (own_ns_arv A_b2) ns0)
  have S_L := own_sta_keep S_L Kq (nsS (own_ns_arv A_b2) ns0)
  have E_b1 := E_b1.keep Kq
  have F_value_b1 := F_value_b1.keep Kq (ninS ne_b1_b2 nin0)
  have F_coder_b1 := F_coder_b1.keep Kq (ninS ne_b1_b2 nin0)
  have Z0 := Nat.le_trans Z0 Kq.1
  have A_b2 := A_b2n
  have N := fN _ z_b2 N
  have Kp := Kp.trans Kq (allS (P := fun x => x ∈ [] ∨ h0.size ≤ x) (Or.inr s_b2) all0)
  rw [own_nc bd0] at A_b2
  have A_b2 : Arv Z h3 b2 _ .char (3 : Int32) [(.int d0), (.int (0 : Int32)), (.int (0 : Int32))] (.int (0 : Int32)) := A_b2
  refine own_dup X hx (hb hby own14_75) (pc' := 76) rfl rfl ?_
  refine own_iconst X hx (1 : Int32) (hb hby own14_76) (pc' := 77) rfl rfl ?_
  refine own_iloadN X hx (hb hby own14_77) (pc' := 78) rfl rfl ?_
  refine own_castore X hx hZ eT A_b2 (by decide) 1 rfl (by show 1 < 3; decide) (hb hby own14_78) (pc' := 79) rfl ?_
  intro T h4 lc X eT Kq A_b2n fN
  have hsf : ∀ x ∈ ([b2] : List Addr), Safe Z own_EL vm0 h3 x := (sfS (Safe.arv hZ.alike A_b2 (by decide)) sf0)
  have S_b1 := S_b1.keep Kq hsf H
  have CR := CR.trans (CHr.keep Kq hsf H)
  have H := H.keep Kq hsf
  have hk := Nat.le_trans hk Kq.1
  have S_C := own_sta_keep S_C Kq (nsS (own_ns_arv A_b2) ns0)
  have S_A := own_sta_keep S_A Kq (nsS (own_ns_arv A_b2) ns0)
  have S_H := own_sta_keep S_H Kq (nsS (own_ns_arv A_b2) ns0)
  have S_L := own_sta_keep S_L Kq (nsS (own_ns_arv A_b2) ns0)
  have E_b1 := E_b1.keep Kq
  have F_value_b1 := F_value_b1.keep Kq (ninS ne_b1_b2 nin0)
  have F_coder_b1 := F_coder_b1.keep Kq (ninS ne_b1_b2 nin0)
  have Z0 := Nat.le_trans Z0 Kq.1
  have A_b2 := A_b2n
  have N := fN _ z_b2 N
  have Kp := Kp.trans Kq (allS (P := fun x => x ∈ [] ∨ h0.size ≤ x) (Or.inr s_b2) all0)
  rw [own_nc bd1] at A_b2
  have A_b2 : Arv Z h4 b2 _ .char (3 : Int32) [(.int d0), (.int d1), (.int (0 : Int32))] (.int (0 : Int32)) := A_b2
  refine own_dup X hx (hb hby own14_79) (pc' := 80) rfl rfl ?_
  refine own_iconst X hx (2 : Int32) (hb hby own14_80) (pc' := 81) rfl rfl ?_
  refine own_iloadN X hx (hb hby own14_81) (pc' := 82) rfl rfl ?_
  refine own_castore X hx hZ eT A_b2 (by decide) 2 rfl (by show 2 < 3; decide) (hb hby own14_82) (pc' := 83) rfl ?_
  intro T h5 lc X eT Kq A_b2n fN
  have hsf : ∀ x ∈ ([b2] : List Addr), Safe Z own_EL vm0 h4 x := (sfS (Safe.arv hZ.alike A_b2 (by decide)) sf0)
  have S_b1 := S_b1.keep Kq hsf H
  have CR := CR.trans (CHr.keep Kq hsf H)
  have H := H.keep Kq hsf
  have hk := Nat.le_trans hk Kq.1
  have S_C := own_sta_keep S_C Kq (nsS (own_ns_arv A_b2) ns0)
  have S_A := own_sta_keep S_A Kq (nsS (own_ns_arv A_b2) ns0)
  have S_H := own_sta_keep S_H Kq (nsS (own_ns_arv A_b2) ns0)
  have S_L := own_sta_keep S_L Kq (nsS (own_ns_arv A_b2) ns0)
  have E_b1 := E_b1.keep Kq
  have F_value_b1 := F_value_b1.keep Kq (ninS ne_b1_b2 nin0)
  have F_coder_b1 := F_coder_b1.keep Kq (ninS ne_b1_b2 nin0)
  have Z0 := Nat.le_trans Z0 Kq.1
  have A_b2 := A_b2n
  have N := fN _ z_b2 N
  have Kp := Kp.trans Kq (allS (P := fun x => x ∈ [] ∨ h0.size ≤ x) (Or.inr s_b2) all0)
  rw [own_nc bd2] at A_b2
  have A_b2 : Arv Z h5 b2 _ .char (3 : Int32) [(.int d0), (.int d1), (.int d2)] (.int (0 : Int32)) := A_b2
  refine own_callN X hx hZ b1 [(.ref b2)] rfl hown (own_w hw 12 rfl) (own_w hw 13 rfl) (own_w hw 10 rfl) (own_w hw 14 rfl) (by decide) (rm_ic3 l Z a0 hw [] b1 b2 _ cs d0 d1 d2 h5 n0 Z0 S_C hcs S_A S_H S_L _ _ E_b1 F_coder_b1 F_value_b1 A_b2 ne_b1_b2 bd0 bd1 bd2 z_b1) eT (W := 1) (by decide) (by decide) (cells' := 4) (slots' := 16) rfl rfl (by decide) (by decide) (by rw [hml]; rfl) (lenOf own_pd_285bC29V rfl) rfl (S := [(.ref b1)]) rfl (Nat.le_of_eq rfl) (hb hby own14_83) (pc' := 86) rfl ?_
  intro v T h6 L lc X eT hq fN
  obtain ⟨rfl, Nq, Kq, bb, kb, hbb, F_v, hcd⟩ := hq
  have N := fN _ N Nq
  have Kp := Kp.trans Kq (allS (P := fun x => x ∈ ([] : List Addr) ∨ h0.size ≤ x) (Or.inr s_b1) all0)
  have lt_b1_bb : b1 < bb := Nat.lt_of_lt_of_le E_b1.lt hbb
  have ne_b1_bb : b1 ≠ bb := Nat.ne_of_lt lt_b1_bb
  have lt_b2_bb : b2 < bb := Nat.lt_of_lt_of_le A_b2.lt hbb
  have ne_b2_bb : b2 ≠ bb := Nat.ne_of_lt lt_b2_bb
  have hsf : ∀ x ∈ ([b1] : List Addr), Safe Z own_EL vm0 h5 x := (sfS S_b1 sf0)
  have S_b1 := S_b1.keep Kq hsf H
  have CR := CR.trans (CHr.keep Kq hsf H)
  have H := H.keep Kq hsf
  have hk := Nat.le_trans hk Kq.1
  have S_C := own_sta_keep S_C Kq (nsS (own_ns_exa E_b1) ns0)
  have S_A := own_sta_keep S_A Kq (nsS (own_ns_exa E_b1) ns0)
  have S_H := own_sta_keep S_H Kq (nsS (own_ns_exa E_b1) ns0)
  have S_L := own_sta_keep S_L Kq (nsS (own_ns_exa E_b1) ns0)
  have E_b1 := E_b1.keep Kq
  have A_b2 := A_b2.keep Kq (ninS (Ne.symm ne_b1_b2) nin0)
  have Z0 := Nat.le_trans Z0 Kq.1
  show own_W _ _ _ _ _ _ _ _ [(.ref b1)]
  refine own_retAS X hx hlk hZ eT hh hS hk hEL H CR Bd.returns (hb hby own14_86) rfl rfl rfl (by decide) (by decide) ?_
  rw [eT]
  exact ⟨b1, bb, kb, rfl, N, Kp, E_b1, F_v, hcd⟩
theorem own14_87 : decode method_5_code 87 = .ok (.new 28, 3) := by decide +kernel
theorem own14_90 : decode method_5_code 90 = .ok (.dup, 1) := by decide +kernel
theorem own14_91 : decode method_5_code 91 = .ok (.iconst 4, 1) := by decide +kernel
theorem own14_92 : decode method_5_code 92 = .ok (.newarray .char, 2) := by decide +kernel
theorem own14_94 : decode method_5_code 94 = .ok (.dup, 1) := by decide +kernel
theorem own14_95 : decode method_5_code 95 = .ok (.iconst 0, 1) := by decide +kernel
theorem own14_96 : decode method_5_code 96 = .ok (.iload_n 1, 1) := by decide +kernel
theorem own14_97 : decode method_5_code 97 = .ok (.castore, 1) := by decide +kernel
theorem own14_98 : decode method_5_code 98 = .ok (.dup, 1) := by decide +kernel
theorem own14_99 : decode method_5_code 99 = .ok (.iconst 1, 1) := by decide +kernel
theorem own14_100 : decode method_5_code 100 = .ok (.iload_n 2, 1) := by decide +kernel
theorem own14_101 : decode method_5_code 101 = .ok (.castore, 1) := by decide +kernel
theorem own14_102 : decode method_5_code 102 = .ok (.dup, 1) := by decide +kernel
theorem own14_103 : decode method_5_code 103 = .ok (.iconst 2, 1) := by decide +kernel
theorem own14_104 : decode method_5_code 104 = .ok (.iload_n 3, 1) := by decide +kernel
theorem own14_105 : decode method_5_code 105 = .ok (.castore, 1) := by decide +kernel
theorem own14_106 : decode method_5_code 106 = .ok (.dup, 1) := by decide +kernel
theorem own14_107 : decode method_5_code 107 = .ok (.iconst 3, 1) := by decide +kernel
theorem own14_108 : decode method_5_code 108 = .ok (.iload 4, 2) := by decide +kernel
theorem own14_110 : decode method_5_code 110 = .ok (.castore, 1) := by decide +kernel
theorem own14_111 : decode method_5_code 111 = .ok (.invokespecial 30, 3) := by decide +kernel
theorem own14_114 : decode method_5_code 114 = .ok (.areturn, 1) := by decide +kernel
theorem ef_tx4 (m : MethodId) (x0 : Int32) (x1 : Int32) (x2 : Int32) (x3 : Int32) (x4 : Int32) : entryFrame m #[(.int x0), (.int x1), (.int x2), (.int x3), (.int x4)] 5 = mkF m 0 #[.val (.int x0), .val (.int x1), .val (.int x2), .val (.int x3), .val (.int x4)] [] := by first | (simp [entryFrame, mkF, argsToLocals, Value.category]; done) | rfl
def Q_tx4 (Z : State) (cs d0 d1 d2 d3 : Int32) (h0 : Heap) (n0 : Nat) (v : Option Value) (h : Heap) (L : List Loc) : Prop := ∃ (a b : Addr) (k : ClassId), v = some (.ref a) ∧ Fr n0 L ∧ Keep h0 h [] ∧ Exa Z h a "java/lang/String" ∧ Fld Z h a "java/lang/String" "value" "[B" (.ref b) ∧ ((Fld Z h a "java/lang/String" "coder" "B" (.int (0 : Int32)) ∧ (¬ ((255 : Int32) < d0) ∧ ¬ ((255 : Int32) < d1) ∧ ¬ ((255 : Int32) < d2) ∧ ¬ ((255 : Int32) < d3)) ∧ Arv Z h b k .byte (4 : Int32) [(.int (nar .byte d0.toInt8.toInt32)), (.int (nar .byte d1.toInt8.toInt32)), (.int (nar .byte d2.toInt8.toInt32)), (.int (nar .byte d3.toInt8.toInt32))] (.int (0 : Int32))) ∨ (Fld Z h a "java/lang/String" "coder" "B" (.int (1 : Int32)) ∧ Arv Z h b k .byte (8 : Int32) [(.int (own_lb d0)), (.int (own_hb d0)), (.int (own_lb d1)), (.int (own_hb d1)), (.int (own_lb d2)), (.int (own_hb d2)), (.int (own_lb d3)), (.int (own_hb d3))] (.int (0 : Int32))))
set_option maxRecDepth 65536 in
set_option maxHeartbeats 40000000 in
theorem rm_tx4 (l : Launch) (Z : State) (a0 : Array Value) (hw : ∀ d ∈ tables_1, d.before a0 Z = true) (hEL : EW Z a0 own_EL) (ws : List Jvm.Cond) (cs d0 d1 d2 d3 : Int32) (h0 : Heap) (n0 : Nat) (Z0 : n0 ≤ h0.size) (S_C : Sta Z h0 "java/lang/String" "COMPACT_STRINGS" "Z" (.int cs)) (hcs : ¬ cs = 0) (S_A : Sta Z h0 "java/lang/StringUTF16" "$assertionsDisabled" "Z" (.int (1 : Int32))) (S_H : Sta Z h0 "java/lang/StringUTF16" "HI_BYTE_SHIFT" "I" (.int (0 : Int32))) (S_L : Sta Z h0 "java/lang/StringUTF16" "LO_BYTE_SHIFT" "I" (.int (8 : Int32))) (bd0 : own_c16 d0) (bd1 : own_c16 d1) (bd2 : own_c16 d2) (bd3 : own_c16 d3) :
    MetFree l (⟨"com/example/bleeper/bleeper/cli/FieldsCanHoldPinLaw", "text", "(ICCCC)Ljava/lang/String;"⟩ : MethodName) (head1 (Jvm.Cond.code (⟨"com/example/bleeper/bleeper/cli/FieldsCanHoldPinLaw", "text", "(ICCCC)Ljava/lang/String;"⟩ : MethodName) method_5_code 5 (some (.object "java/lang/String")) :: ws) ({ frames := 6, cells := 4, slots := 20, locals := 117 } : Room)) (fun a U => a = #[(.int (4 : Int32)), (.int d0), (.int d1), (.int d2), (.int d3)] ∧ Z.Warmed39 U.vm ∧ U.heap = h0 ∧ CHv Z own_EL U.vm h0) (fun _ _ _ _ _ => True) (fun _ U o U' => ∃ v L, o = .returned v ∧ Q_tx4 Z cs d0 d1 d2 d3 h0 n0 v U'.heap L ∧ CHr Z own_EL U.vm U.heap U'.vm U'.heap ∧ ReturnedEndW U o U' L ({ frames := 6, cells := 4, slots := 20, locals := 117 } : Room).cells ({ frames := 6, cells := 4, slots := 20, locals := 117 } : Room).slots) := by
  refine MetFree.of_bodySF (plainFor_of_name own_pn_com_example_bleeper_bleeper_cli_FieldsCanHoldPinLaw) hisR ?_
  intro p e s m args below meth c s₁ Bd hml0 hP hK
  obtain ⟨rfl, hZ, hh, H⟩ := hP
  have hx := Bd.exec
  have hby := Bd.bytes
  have hml : c.maxLocals = 5 := hml0
  have hown : s.vm.findClass "com/example/bleeper/bleeper/cli/FieldsCanHoldPinLaw" = some m.cls := findClass_of_methodNamed Bd.named
  have hnm := (name_of_methodNamed Bd.named Bd.method).1
  have hlk := Bd.notSynchronized
  obtain ⟨lc, hlc⟩ : ∃ lc : List Loc, lc = [] := ⟨_, rfl⟩
  have X : Stand p l e ({ frames := 6, cells := 4, slots := 20, locals := 117 } : Room) s m #[(.int (4 : Int32)), (.int d0), (.int d1), (.int d2), (.int d3)] below meth c s₁ lc 0 0 := hlc ▸ Stand.of_body Bd
  have eT : s₁.heap = h0 := by rw [← hh, Bd.state]; rfl
  have N : Fr n0 lc := hlc ▸ Fr.nil n0
  obtain ⟨vm0, hvm⟩ : ∃ v : Vm, v = s.vm := ⟨_, rfl⟩
  have X : Stand p l e ({ frames := 6, cells := 4, slots := 20, locals := 117 } : Room) (s.setVm vm0) m #[(.int (4 : Int32)), (.int d0), (.int d1), (.int d2), (.int d3)] below meth c s₁ lc 0 0 := by rw [hvm]; exact X
  have hZ : Z.Warmed39 (s.setVm vm0).vm := by rw [hvm]; exact hZ
  have hown : (s.setVm vm0).vm.findClass "com/example/bleeper/bleeper/cli/FieldsCanHoldPinLaw" = some m.cls := by rw [hvm]; exact hown
  have hS : s.Since vm0 h0.size := by rw [hvm]; exact (State.WarmedH.refl s).since _
  have hk : h0.size ≤ h0.size := Nat.le_refl _
  have CR : CHr Z own_EL s.vm h0 vm0 h0 := by rw [hvm]; exact CHr.refl H
  have H : CHv Z own_EL vm0 h0 := by rw [hvm]; exact H
  refine own_enterS (ef_tx4 m (4 : Int32) d0 d1 d2 d3) ?_
  obtain ⟨T, hT⟩ : ∃ T : State, T = s₁ := ⟨_, rfl⟩
  rw [← hT] at X eT ⊢
  show own_W _ _ _ _ _ _ _ _ []
  have Kp : Keep h0 h0 [] := Keep.refl _ _
  refine own_iloadN X hx (hb hby own14_0) (pc' := 1) rfl rfl ?_
  refine own_ifY X hx (hb hby own14_1) (by decide) (pc' := 15) rfl (show ¬ ((4 : Int32) = (0 : Int32)) from (by decide)) ?_
  refine own_iloadN X hx (hb hby own14_15) (pc' := 16) rfl rfl ?_
  refine own_iconst X hx (1 : Int32) (hb hby own14_16) (pc' := 17) rfl rfl ?_
  refine own_icmpY X hx (hb hby own14_17) (by decide) (pc' := 35) rfl (show ¬ ((4 : Int32) = (1 : Int32)) from (by decide)) ?_
  refine own_iloadN X hx (hb hby own14_35) (pc' := 36) rfl rfl ?_
  refine own_iconst X hx (2 : Int32) (hb hby own14_36) (pc' := 37) rfl rfl ?_
  refine own_icmpY X hx (hb hby own14_37) (by decide) (pc' := 59) rfl (show ¬ ((4 : Int32) = (2 : Int32)) from (by decide)) ?_
  refine own_iloadN X hx (hb hby own14_59) (pc' := 60) rfl rfl ?_
  refine own_iconst X hx (3 : Int32) (hb hby own14_60) (pc' := 61) rfl rfl ?_
  refine own_icmpY X hx (hb hby own14_61) (by decide) (pc' := 87) rfl (show ¬ ((4 : Int32) = (3 : Int32)) from (by decide)) ?_
  refine own_new X hx hZ hown (own_w hw 8 rfl) (own_w hw 9 rfl) (own_w hw 10 rfl) eT (hb hby own14_87) (pc' := 90) rfl (cells' := 1) (slots' := 4) rfl rfl (by decide) (by decide) ?_
  intro T h1 b1 X eT E gb1 E_b1 Db1
  have z_b1 : n0 ≤ b1 := Nat.le_trans Z0 (Nat.le_of_eq gb1.symm)
  have s_b1 : h0.size ≤ b1 := Nat.le_trans Kp.1 (Nat.le_of_eq gb1.symm)
  have S_b1 : Safe Z own_EL vm0 h0 b1 := Safe.new (Nat.le_of_eq gb1.symm)
  have S_b1 := S_b1.ext E H
  have CR := CR.trans (CHr.ext E H)
  have H := H.ext E
  have hk := Nat.le_trans hk E.1
  have S_C := S_C.ext E
  have S_A := S_A.ext E
  have S_H := S_H.ext E
  have S_L := S_L.ext E
  have Z0 := Nat.le_trans Z0 E.1
  have Kp := Kp.ext E
  have F_value_b1 : Fld Z h1 b1 "java/lang/String" "value" "[B" .null := Db1 (Or.inr (own_w hw 24 rfl)) (ty := (.array .byte)) (by decide)
  have F_coder_b1 : Fld Z h1 b1 "java/lang/String" "coder" "B" (.int (0 : Int32)) := Db1 (Or.inr (own_w hw 25 rfl)) (ty := .byte) (by decide)
  refine own_dup X hx (hb hby own14_90) (pc' := 91) rfl rfl ?_
  refine own_iconst X hx (4 : Int32) (hb hby own14_91) (pc' := 92) rfl rfl ?_
  refine own_newarr X hx hZ (own_w hw 11 rfl) eT (hb hby own14_92) (pc' := 94) rfl (by decide) 4 (by decide) (by decide) (cells' := 2) (slots' := 8) rfl rfl (by decide) (by decide) ?_
  intro T h2 k_b2 b2 X eT E gb2 A_b2
  have lt_b1_b2 : b1 < b2 := Nat.lt_of_lt_of_le E_b1.lt (Nat.le_of_eq gb2.symm)
  have ne_b1_b2 : b1 ≠ b2 := Nat.ne_of_lt lt_b1_b2
  have z_b2 : n0 ≤ b2 := Nat.le_trans Z0 (Nat.le_of_eq gb2.symm)
  have s_b2 : h0.size ≤ b2 := Nat.le_trans Kp.1 (Nat.le_of_eq gb2.symm)
  have S_b1 := S_b1.ext E H
  have CR := CR.trans (CHr.ext E H)
  have H := H.ext E
  have hk := Nat.le_trans hk E.1
  have S_C := S_C.ext E
  have S_A := S_A.ext E
  have S_H := S_H.ext E
  have S_L := S_L.ext E
  have E_b1 := E_b1.ext E
  have F_value_b1 := F_value_b1.ext E
  have F_coder_b1 := F_coder_b1.ext E
  have Z0 := Nat.le_trans Z0 E.1
  have Kp := Kp.ext E
  have A_b2 : Arv Z h2 b2 k_b2 .char (4 : Int32) [(.int (0 : Int32)), (.int (0 : Int32)), (.int (0 : Int32)), (.int (0 : Int32))] (.int (0 : Int32)) := A_b2.pad (pad_rep [] (.int (0 : Int32)) 4)
  refine own_dup X hx (hb hby own14_94) (pc' := 95) rfl rfl ?_
  refine own_iconst X hx (0 : Int32) (hb hby own14_95) (pc' := 96) rfl rfl ?_
  refine own_iloadN X hx (hb hby own14_96) (pc' := 97) rfl rfl ?_
  refine own_castore X hx hZ eT A_b2 (by decide) 0 rfl (by show 0 < 4; decide) (hb hby own14_97) (pc' := 98) rfl ?_
  intro T h3 lc X eT Kq A_b2n fN
  have hsf : ∀ x ∈ ([b2] : List Addr), Safe Z own_EL vm0 h2 x := (sfS (Safe.arv hZ.alike A_b2 (by decide)) sf0)
  have S_b1 := S_b1.keep Kq hsf H
  have CR := CR.trans (CHr.keep Kq hsf H)
  have H := H.keep Kq hsf
  have hk := Nat.le_trans hk Kq.1
  have S_C := own_sta_keep S_C Kq (nsS (own_ns_arv A_b2) ns0)
  have S_A := own_sta_keep S_A Kq (nsS (own_ns_arv A_b2) ns0)
  have S_H := own_sta_keep S_H Kq (nsS (own_ns_arv A_b2) ns0)
  have S_L := own_sta_keep S_L Kq (nsS (own_ns_arv A_b2) ns0)
  have E_b1 := E_b1.keep Kq
  have F_value_b1 := F_value_b1.keep Kq (ninS ne_b1_b2 nin0)
  have F_coder_b1 := F_coder_b1.keep Kq (ninS ne_b1_b2 nin0)
  have Z0 := Nat.le_trans Z0 Kq.1
  have A_b2 := A_b2n
  have N := fN _ z_b2 N
  have Kp := Kp.trans Kq (allS (P := fun x => x ∈ [] ∨ h0.size ≤ x) (Or.inr s_b2) all0)
  rw [own_nc bd0] at A_b2
  have A_b2 : Arv Z h3 b2 _ .char (4 : Int32) [(.int d0), (.int (0 : Int32)), (.int (0 : Int32)), (.int (0 : Int32))] (.int (0 : Int32)) := A_b2
  refine own_dup X hx (hb hby own14_98) (pc' := 99) rfl rfl ?_
  refine own_iconst X hx (1 : Int32) (hb hby own14_99) (pc' := 100) rfl rfl ?_
  refine own_iloadN X hx (hb hby own14_100) (pc' := 101) rfl rfl ?_
  refine own_castore X hx hZ eT A_b2 (by decide) 1 rfl (by show 1 < 4; decide) (hb hby own14_101) (pc' := 102) rfl ?_
  intro T h4 lc X eT Kq A_b2n fN
  have hsf : ∀ x ∈ ([b2] : List Addr), Safe Z own_EL vm0 h3 x := (sfS (Safe.arv hZ.alike A_b2 (by decide)) sf0)
  have S_b1 := S_b1.keep Kq hsf H
  have CR := CR.trans (CHr.keep Kq hsf H)
  have H := H.keep Kq hsf
  have hk := Nat.le_trans hk Kq.1
  have S_C := own_sta_keep S_C Kq (nsS (own_ns_arv A_b2) ns0)
  have S_A := own_sta_keep S_A Kq (nsS (own_ns_arv A_b2) ns0)
  have S_H := own_sta_keep S_H Kq (nsS (own_ns_arv A_b2) ns0)
  have S_L := own_sta_keep S_L Kq (nsS (own_ns_arv A_b2) ns0)
  have E_b1 := E_b1.keep Kq
  have F_value_b1 := F_value_b1.keep Kq (ninS ne_b1_b2 nin0)
  have F_coder_b1 := F_coder_b1.keep Kq (ninS ne_b1_b2 nin0)
  have Z0 := Nat.le_trans Z0 Kq.1
  have A_b2 := A_b2n
  have N := fN _ z_b2 N
  have Kp := Kp.trans Kq (allS (P := fun x => x ∈ [] ∨ h0.size ≤ x) (Or.inr s_b2) all0)
  rw [own_nc bd1] at A_b2
  have A_b2 : Arv Z h4 b2 _ .char (4 : Int32) [(.int d0), (.int d1), (.int (0 : Int32)), (.int (0 : Int32))] (.int (0 : Int32)) := A_b2
  refine own_dup X hx (hb hby own14_102) (pc' := 103) rfl rfl ?_
  refine own_iconst X hx (2 : Int32) (hb hby own14_103) (pc' := 104) rfl rfl ?_
  refine own_iloadN X hx (hb hby own14_104) (pc' := 105) rfl rfl ?_
  refine own_castore X hx hZ eT A_b2 (by decide) 2 rfl (by show 2 < 4; decide) (hb hby own14_105) (pc' := 106) rfl ?_
  intro T h5 lc X eT Kq A_b2n fN
  have hsf : ∀ x ∈ ([b2] : List Addr), Safe Z own_EL vm0 h4 x := (sfS (Safe.arv hZ.alike A_b2 (by decide)) sf0)
  have S_b1 := S_b1.keep Kq hsf H
  have CR := CR.trans (CHr.keep Kq hsf H)
  have H := H.keep Kq hsf
  have hk := Nat.le_trans hk Kq.1
  have S_C := own_sta_keep S_C Kq (nsS (own_ns_arv A_b2) ns0)
  have S_A := own_sta_keep S_A Kq (nsS (own_ns_arv A_b2) ns0)
  have S_H := own_sta_keep S_H Kq (nsS (own_ns_arv A_b2) ns0)
  have S_L := own_sta_keep S_L Kq (nsS (own_ns_arv A_b2) ns0)
  have E_b1 := E_b1.keep Kq
  have F_value_b1 := F_value_b1.keep Kq (ninS ne_b1_b2 nin0)
  have F_coder_b1 := F_coder_b1.keep Kq (ninS ne_b1_b2 nin0)
  have Z0 := Nat.le_trans Z0 Kq.1
  have A_b2 := A_b2n
  have N := fN _ z_b2 N
  have Kp := Kp.trans Kq (allS (P := fun x => x ∈ [] ∨ h0.size ≤ x) (Or.inr s_b2) all0)
  rw [own_nc bd2] at A_b2
  have A_b2 : Arv Z h5 b2 _ .char (4 : Int32) [(.int d0), (.int d1), (.int d2), (.int (0 : Int32))] (.int (0 : Int32)) := A_b2
  refine own_dup X hx (hb hby own14_106) (pc' := 107) rfl rfl ?_
  refine own_iconst X hx (3 : Int32) (hb hby own14_107) (pc' := 108) rfl rfl ?_
  refine own_iload X hx (hb hby own14_108) (pc' := 110) rfl rfl ?_
  refine own_castore X hx hZ eT A_b2 (by decide) 3 rfl (by show 3 < 4; decide) (hb hby own14_110) (pc' := 111) rfl ?_
  intro T h6 lc X eT Kq A_b2n fN
  have hsf : ∀ x ∈ ([b2] : List Addr), Safe Z own_EL vm0 h5 x := (sfS (Safe.arv hZ.alike A_b2 (by decide)) sf0)
  have S_b1 := S_b1.keep Kq hsf H
  have CR := CR.trans (CHr.keep Kq hsf H)
  have H := H.keep Kq hsf
  have hk := Nat.le_trans hk Kq.1
  have S_C := own_sta_keep S_C Kq (nsS (own_ns_arv A_b2) ns0)
  have S_A := own_sta_keep S_A Kq (nsS (own_ns_arv A_b2) ns0)
  have S_H := own_sta_keep S_H Kq (nsS (own_ns_arv A_b2) ns0)
  have S_L := own_sta_keep S_L Kq (nsS (own_ns_arv A_b2) ns0)
  have E_b1 := E_b1.keep Kq
  have F_value_b1 := F_value_b1.keep Kq (ninS ne_b1_b2 nin0)
  have F_coder_b1 := F_coder_b1.keep Kq (ninS ne_b1_b2 nin0)
  have Z0 := Nat.le_trans Z0 Kq.1
  have A_b2 := A_b2n
  have N := fN _ z_b2 N
  have Kp := Kp.trans Kq (allS (P := fun x => x ∈ [] ∨ h0.size ≤ x) (Or.inr s_b2) all0)
  rw [own_nc bd3] at A_b2
  have A_b2 : Arv Z h6 b2 _ .char (4 : Int32) [(.int d0), (.int d1), (.int d2), (.int d3)] (.int (0 : Int32)) := A_b2
  refine own_callN X hx hZ b1 [(.ref b2)] rfl hown (own_w hw 12 rfl) (own_w hw 13 rfl) (own_w hw 10 rfl) (own_w hw 14 rfl) (by decide) (rm_ic4 l Z a0 hw [] b1 b2 _ cs d0 d1 d2 d3 h6 n0 Z0 S_C hcs S_A S_H S_L _ _ E_b1 F_coder_b1 F_value_b1 A_b2 ne_b1_b2 bd0 bd1 bd2 bd3 z_b1) eT (W := 1) (by decide) (by decide) (cells' := 4) (slots' := 20) rfl rfl (by decide) (by decide) (by rw [hml]; rfl) (lenOf own_pd_285bC29V rfl) rfl (S := [(.ref b1)]) rfl (Nat.le_of_eq rfl) (hb hby own14_111) (pc' := 114) rfl ?_
  intro v T h7 L lc X eT hq fN
  obtain ⟨rfl, Nq, Kq, bb, kb, hbb, F_v, hcd⟩ := hq
  have N := fN _ N Nq
  have Kp := Kp.trans Kq (allS (P := fun x => x ∈ ([] : List Addr) ∨ h0.size ≤ x) (Or.inr s_b1) all0)
  have lt_b1_bb : b1 < bb := Nat.lt_of_lt_of_le E_b1.lt hbb
  have ne_b1_bb : b1 ≠ bb := Nat.ne_of_lt lt_b1_bb
  have lt_b2_bb : b2 < bb := Nat.lt_of_lt_of_le A_b2.lt hbb
  have ne_b2_bb : b2 ≠ bb := Nat.ne_of_lt lt_b2_bb
  have hsf : ∀ x ∈ ([b1] : List Addr), Safe Z own_EL vm0 h6 x := (sfS S_b1 sf0)
  have S_b1 := S_b1.keep Kq hsf H
  have CR := CR.trans (CHr.keep Kq hsf H)
  have H := H.keep Kq hsf
  have hk := Nat.le_trans hk Kq.1
  have S_C := own_sta_keep S_C Kq (nsS (own_ns_exa E_b1) ns0)
  have S_A := own_sta_keep S_A Kq (nsS (own_ns_exa E_b1) ns0)
  have S_H := own_sta_keep S_H Kq (nsS (own_ns_exa E_b1) ns0)
  have S_L := own_sta_keep S_L Kq (nsS (own_ns_exa E_b1) ns0)
  have E_b1 := E_b1.keep Kq
  have A_b2 := A_b2.keep Kq (ninS (Ne.symm ne_b1_b2) nin0)
  have Z0 := Nat.le_trans Z0 Kq.1
  show own_W _ _ _ _ _ _ _ _ [(.ref b1)]
  refine own_retAS X hx hlk hZ eT hh hS hk hEL H CR Bd.returns (hb hby own14_114) rfl rfl rfl (by decide) (by decide) ?_
  rw [eT]
  exact ⟨b1, bb, kb, rfl, N, Kp, E_b1, F_v, hcd⟩
theorem own15_0 : decode jdk_43_method_4_code 0 = .ok (.iload_n 0, 1) := by decide +kernel
theorem own15_1 : decode jdk_43_method_4_code 1 = .ok (.ifCond .lt 14, 3) := by decide +kernel
theorem own15_4 : decode jdk_43_method_4_code 4 = .ok (.iload_n 0, 1) := by decide +kernel
theorem own15_5 : decode jdk_43_method_4_code 5 = .ok (.sipush 255, 3) := by decide +kernel
theorem own15_8 : decode jdk_43_method_4_code 8 = .ok (.if_icmp .gt 7, 3) := by decide +kernel
theorem own15_11 : decode jdk_43_method_4_code 11 = .ok (.iconst 1, 1) := by decide +kernel
theorem own15_12 : decode jdk_43_method_4_code 12 = .ok (.goto 4, 3) := by decide +kernel
theorem own15_16 : decode jdk_43_method_4_code 16 = .ok (.ireturn, 1) := by decide +kernel
theorem own_pn_java_lang_StringLatin1 : plainName "java/lang/StringLatin1" = true := by first | (simp [plainName, overriddenIn]; done) | decide +kernel
def Q_cei (Z : State) (p0 : Int32) (h0 : Heap) (n0 : Nat) (v : Option Value) (h : Heap) (L : List Loc) : Prop := v = some (.int (1 : Int32)) ∧ Fr n0 L ∧ h = h0
set_option maxRecDepth 65536 in
set_option maxHeartbeats 40000000 in
theorem rm_cei (l : Launch) (Z : State) (a0 : Array Value) (hw : ∀ d ∈ tables_1, d.before a0 Z = true) (ws : List Jvm.Cond) (p0 : Int32) (h0 : Heap) (n0 : Nat) (Z0 : n0 ≤ h0.size) (hp : own_p1 p0) : own_Met l Z ⟨"java/lang/StringLatin1", "canEncode", "(I)Z"⟩ jdk_43_method_4_code 1 (some .boolean) ws ⟨0, 0, 0, 0⟩ #[(.int p0)] h0 (Q_cei Z p0 h0 n0) := by
  refine own_met n0 own_pn_java_lang_StringLatin1 (fun m => ef1I m p0) ?_
  intro p e s m below meth c T lc hret hx hZ hby hml hown hnm hlk X eT N
  refine own_iloadN X hx (hb hby own15_0) (pc' := 1) rfl rfl ?_
  refine own_ifN X hx (hb hby own15_1) (pc' := 4) rfl (show ¬ (p0 < (0 : Int32)) from (own_q0 hp)) ?_
  refine own_iloadN X hx (hb hby own15_4) (pc' := 5) rfl rfl ?_
  refine own_sipush X hx (255 : Int32) (hb hby own15_5) (pc' := 8) rfl rfl ?_
  refine own_icmpN X hx (hb hby own15_8) (pc' := 11) rfl (show ¬ ((255 : Int32) < p0) from (own_q255 hp)) ?_
  refine own_iconst X hx (1 : Int32) (hb hby own15_11) (pc' := 12) rfl rfl ?_
  refine own_goto X hx (hb hby own15_12) (by decide) (pc' := 16) rfl ?_
  refine own_retI X hx hlk (t := .boolean) (w' := (.int (1 : Int32))) hret (hb hby own15_16) rfl rfl (by simp) (by decide) (by decide) ?_
  rw [eT]
  exact ⟨rfl, N, rfl⟩
theorem own16_0 : decode jdk_42_method_152_code 0 = .ok (.getstatic 38, 3) := by decide +kernel
theorem own16_3 : decode jdk_42_method_152_code 3 = .ok (.ifCond .eq 10, 3) := by decide +kernel
theorem own16_6 : decode jdk_42_method_152_code 6 = .ok (.aload_n 0, 1) := by decide +kernel
theorem own16_7 : decode jdk_42_method_152_code 7 = .ok (.getfield 15, 3) := by decide +kernel
theorem own16_10 : decode jdk_42_method_152_code 10 = .ok (.goto 4, 3) := by decide +kernel
theorem own16_14 : decode jdk_42_method_152_code 14 = .ok (.ireturn, 1) := by decide +kernel
theorem ef1R (m : MethodId) (x0 : Addr) : entryFrame m #[(.ref x0)] 1 = mkF m 0 #[.val (.ref x0)] [] := by first | (simp [entryFrame, mkF, argsToLocals, Value.category]; done) | rfl
def Q_coder (Z : State) (a1 : Addr) (cs : Int32) (h0 : Heap) (n0 : Nat) (v : Option Value) (h : Heap) (L : List Loc) : Prop := v = some (.int (0 : Int32)) ∧ Fr n0 L ∧ h = h0
set_option maxRecDepth 65536 in
set_option maxHeartbeats 40000000 in
theorem rm_coder (l : Launch) (Z : State) (a0 : Array Value) (hw : ∀ d ∈ tables_1, d.before a0 Z = true) (ws : List Jvm.Cond) (a1 : Addr) (cs : Int32) (h0 : Heap) (n0 : Nat) (Z0 : n0 ≤ h0.size) (S_C : Sta Z h0 "java/lang/String" "COMPACT_STRINGS" "Z" (.int cs)) (hcs : ¬ cs = 0) (F_c : Fld Z h0 a1 "java/lang/String" "coder" "B" (.int (0 : Int32))) : own_Met l Z ⟨"java/lang/String", "coder", "()B"⟩ jdk_42_method_152_code 1 (some .byte) ws ⟨0, 0, 0, 0⟩ #[(.ref a1)] h0 (Q_coder Z a1 cs h0 n0) := by
  refine own_met n0 own_pn_java_lang_String (fun m => ef1R m a1) ?_
  intro p e s m below meth c T lc hret hx hZ hby hml hown hnm hlk X eT N
  refine own_getS X hx hZ hown (host := "") (Or.inl (own_w hw 49 rfl)) Via.refl eT S_C (hb hby own16_0) (pc' := 3) rfl ?_
  intro T X eT
  refine own_ifN X hx (hb hby own16_3) (pc' := 6) rfl (show ¬ (cs = (0 : Int32)) from hcs) ?_
  refine own_aloadN X hx (hb hby own16_6) (pc' := 7) rfl rfl rfl ?_
  refine own_getF X hx hZ hown (host := "") (Or.inl (own_w hw 29 rfl)) Via.refl eT F_c (hb hby own16_7) (pc' := 10) rfl ?_
  intro T X eT
  refine own_goto X hx (hb hby own16_10) (by decide) (pc' := 14) rfl ?_
  refine own_retI X hx hlk (t := .byte) (w' := (.int (0 : Int32))) hret (hb hby own16_14) rfl rfl (by simp) (by decide) (by decide) ?_
  rw [eT]
  exact ⟨rfl, N, rfl⟩
theorem own17_0 : decode jdk_42_method_154_code 0 = .ok (.getstatic 38, 3) := by decide +kernel
theorem own17_3 : decode jdk_42_method_154_code 3 = .ok (.ifCond .eq 14, 3) := by decide +kernel
theorem own17_6 : decode jdk_42_method_154_code 6 = .ok (.aload_n 0, 1) := by decide +kernel
theorem own17_7 : decode jdk_42_method_154_code 7 = .ok (.getfield 15, 3) := by decide +kernel
theorem own17_10 : decode jdk_42_method_154_code 10 = .ok (.ifCond .ne 7, 3) := by decide +kernel
theorem own17_13 : decode jdk_42_method_154_code 13 = .ok (.iconst 1, 1) := by decide +kernel
theorem own17_14 : decode jdk_42_method_154_code 14 = .ok (.goto 4, 3) := by decide +kernel
theorem own17_18 : decode jdk_42_method_154_code 18 = .ok (.ireturn, 1) := by decide +kernel
def Q_isLat (Z : State) (a1 : Addr) (cs : Int32) (h0 : Heap) (n0 : Nat) (v : Option Value) (h : Heap) (L : List Loc) : Prop := v = some (.int (1 : Int32)) ∧ Fr n0 L ∧ h = h0
set_option maxRecDepth 65536 in
set_option maxHeartbeats 40000000 in
theorem rm_isLat (l : Launch) (Z : State) (a0 : Array Value) (hw : ∀ d ∈ tables_1, d.before a0 Z = true) (ws : List Jvm.Cond) (a1 : Addr) (cs : Int32) (h0 : Heap) (n0 : Nat) (Z0 : n0 ≤ h0.size) (S_C : Sta Z h0 "java/lang/String" "COMPACT_STRINGS" "Z" (.int cs)) (hcs : ¬ cs = 0) (F_c : Fld Z h0 a1 "java/lang/String" "coder" "B" (.int (0 : Int32))) : own_Met l Z ⟨"java/lang/String", "isLatin1", "()Z"⟩ jdk_42_method_154_code 1 (some .boolean) ws ⟨0, 0, 0, 0⟩ #[(.ref a1)] h0 (Q_isLat Z a1 cs h0 n0) := by
  refine own_met n0 own_pn_java_lang_String (fun m => ef1R m a1) ?_
  intro p e s m below meth c T lc hret hx hZ hby hml hown hnm hlk X eT N
  refine own_getS X hx hZ hown (host := "") (Or.inl (own_w hw 49 rfl)) Via.refl eT S_C (hb hby own17_0) (pc' := 3) rfl ?_
  intro T X eT
  refine own_ifN X hx (hb hby own17_3) (pc' := 6) rfl (show ¬ (cs = (0 : Int32)) from hcs) ?_
  refine own_aloadN X hx (hb hby own17_6) (pc' := 7) rfl rfl rfl ?_
  refine own_getF X hx hZ hown (host := "") (Or.inl (own_w hw 29 rfl)) Via.refl eT F_c (hb hby own17_7) (pc' := 10) rfl ?_
  intro T X eT
  refine own_ifN X hx (hb hby own17_10) (pc' := 13) rfl (show (0 : Int32) = (0 : Int32) from (by decide)) ?_
  refine own_iconst X hx (1 : Int32) (hb hby own17_13) (pc' := 14) rfl rfl ?_
  refine own_goto X hx (hb hby own17_14) (by decide) (pc' := 18) rfl ?_
  refine own_retI X hx hlk (t := .boolean) (w' := (.int (1 : Int32))) hret (hb hby own17_18) rfl rfl (by simp) (by decide) (by decide) ?_
  rw [eT]
  exact ⟨rfl, N, rfl⟩
theorem own_shr0 (x : Int32) : x >>> ((0 : Int32) &&& 31) = x := by simp
theorem own18_0 : decode jdk_42_method_54_code 0 = .ok (.aload_n 0, 1) := by decide +kernel
theorem own18_1 : decode jdk_42_method_54_code 1 = .ok (.getfield 9, 3) := by decide +kernel
theorem own18_4 : decode jdk_42_method_54_code 4 = .ok (.arraylength, 1) := by decide +kernel
theorem own18_5 : decode jdk_42_method_54_code 5 = .ok (.aload_n 0, 1) := by decide +kernel
theorem own18_6 : decode jdk_42_method_54_code 6 = .ok (.invokevirtual 335, 3) := by decide +kernel
theorem own_pd_2829B : parseMethodDescriptor "()B" = some ⟨[], some .byte⟩ := by decide +kernel
theorem own18_9 : decode jdk_42_method_54_code 9 = .ok (.ishr, 1) := by decide +kernel
theorem own18_10 : decode jdk_42_method_54_code 10 = .ok (.ireturn, 1) := by decide +kernel
def Q_len (Z : State) (a1 b : Addr) (cs nl : Int32) (h0 : Heap) (n0 : Nat) (v : Option Value) (h : Heap) (L : List Loc) : Prop := v = some (.int nl) ∧ Fr n0 L ∧ h = h0
set_option maxRecDepth 65536 in
set_option maxHeartbeats 40000000 in
theorem rm_len (l : Launch) (Z : State) (a0 : Array Value) (hw : ∀ d ∈ tables_1, d.before a0 Z = true) (ws : List Jvm.Cond) (a1 b : Addr) (cs nl : Int32) (h0 : Heap) (n0 : Nat) (Z0 : n0 ≤ h0.size) (S_C : Sta Z h0 "java/lang/String" "COMPACT_STRINGS" "Z" (.int cs)) (hcs : ¬ cs = 0) (E_a1 : Exa Z h0 a1 "java/lang/String") (F_c : Fld Z h0 a1 "java/lang/String" "coder" "B" (.int (0 : Int32))) (F_v : Fld Z h0 a1 "java/lang/String" "value" "[B" (.ref b)) (k : ClassId) (vs : List Value) (A_b : Arv Z h0 b k .byte nl vs (.int (0 : Int32))) : own_Met l Z ⟨"java/lang/String", "length", "()I"⟩ jdk_42_method_54_code 1 (some .int) ws ⟨1, 0, 0, 13⟩ #[(.ref a1)] h0 (Q_len Z a1 b cs nl h0 n0) := by
  refine own_met n0 own_pn_java_lang_String (fun m => ef1R m a1) ?_
  intro p e s m below meth c T lc hret hx hZ hby hml hown hnm hlk X eT N
  refine own_aloadN X hx (hb hby own18_0) (pc' := 1) rfl rfl rfl ?_
  refine own_getF X hx hZ hown (host := "") (Or.inl (own_w hw 28 rfl)) Via.refl eT F_v (hb hby own18_1) (pc' := 4) rfl ?_
  intro T X eT
  refine own_arrlen X hx hZ eT A_b (hb hby own18_4) (pc' := 5) rfl ?_
  refine own_aloadN X hx (hb hby own18_5) (pc' := 6) rfl rfl rfl ?_
  refine own_callV X hx hZ (y := (⟨"java/lang/String", "coder", "()B"⟩ : MethodName)) a1 [] hown (own_w hw 55 rfl) (own_w hw 56 rfl) (own_w hw 58 rfl) (own_w hw 57 rfl) (own_w hw 10 rfl) (own_w hw 59 rfl) (by decide) (rm_coder l Z a0 hw [] a1 cs h0 n0 Z0 S_C hcs F_c) E_a1 eT (W := 1) (by decide) (by decide) (cells' := 0) (slots' := 0) rfl rfl (by decide) (by decide) (by rw [hml]; rfl) (lenOf own_pd_2829B rfl) rfl (S := [(.int nl)]) rfl (Nat.le_of_eq rfl) (hb hby own18_6) (pc' := 9) rfl ?_
  intro v T h1 L lc X eT hq fN
  obtain ⟨rfl, Nq, hqe⟩ := hq
  have N := fN _ N Nq
  rw [hqe] at eT
  show own_W _ _ _ _ _ _ _ _ [(.int (0 : Int32)), (.int nl)]
  refine own_ishr X hx (hb hby own18_9) (pc' := 10) rfl ?_
  refine own_retI X hx hlk (t := .int) (w' := (.int (nl >>> ((0 : Int32) &&& 31)))) hret (hb hby own18_10) rfl rfl (by simp) (by decide) (by decide) ?_
  rw [eT]
  exact ⟨by rw [own_shr0], N, rfl⟩
def Q_coderU (Z : State) (a1 : Addr) (cs : Int32) (h0 : Heap) (n0 : Nat) (v : Option Value) (h : Heap) (L : List Loc) : Prop := v = some (.int (1 : Int32)) ∧ Fr n0 L ∧ h = h0
set_option maxRecDepth 65536 in
set_option maxHeartbeats 40000000 in
theorem rm_coderU (l : Launch) (Z : State) (a0 : Array Value) (hw : ∀ d ∈ tables_1, d.before a0 Z = true) (ws : List Jvm.Cond) (a1 : Addr) (cs : Int32) (h0 : Heap) (n0 : Nat) (Z0 : n0 ≤ h0.size) (S_C : Sta Z h0 "java/lang/String" "COMPACT_STRINGS" "Z" (.int cs)) (hcs : ¬ cs = 0) (F_c : Fld Z h0 a1 "java/lang/String" "coder" "B" (.int (1 : Int32))) : own_Met l Z ⟨"java/lang/String", "coder", "()B"⟩ jdk_42_method_152_code 1 (some .byte) ws ⟨0, 0, 0, 0⟩ #[(.ref a1)] h0 (Q_coderU Z a1 cs h0 n0) := by
  refine own_met n0 own_pn_java_lang_String (fun m => ef1R m a1) ?_
  intro p e s m below meth c T lc hret hx hZ hby hml hown hnm hlk X eT N
  refine own_getS X hx hZ hown (host := "") (Or.inl (own_w hw 49 rfl)) Via.refl eT S_C (hb hby own16_0) (pc' := 3) rfl ?_
  intro T X eT
  refine own_ifN X hx (hb hby own16_3) (pc' := 6) rfl (show ¬ (cs = (0 : Int32)) from hcs) ?_
  refine own_aloadN X hx (hb hby own16_6) (pc' := 7) rfl rfl rfl ?_
  refine own_getF X hx hZ hown (host := "") (Or.inl (own_w hw 29 rfl)) Via.refl eT F_c (hb hby own16_7) (pc' := 10) rfl ?_
  intro T X eT
  refine own_goto X hx (hb hby own16_10) (by decide) (pc' := 14) rfl ?_
  refine own_retI X hx hlk (t := .byte) (w' := (.int (1 : Int32))) hret (hb hby own16_14) rfl rfl (by simp) (by decide) (by decide) ?_
  rw [eT]
  exact ⟨rfl, N, rfl⟩
theorem own17_17 : decode jdk_42_method_154_code 17 = .ok (.iconst 0, 1) := by decide +kernel
def Q_isLatU (Z : State) (a1 : Addr) (cs : Int32) (h0 : Heap) (n0 : Nat) (v : Option Value) (h : Heap) (L : List Loc) : Prop := v = some (.int (0 : Int32)) ∧ Fr n0 L ∧ h = h0
set_option maxRecDepth 65536 in
set_option maxHeartbeats 40000000 in
theorem rm_isLatU (l : Launch) (Z : State) (a0 : Array Value) (hw : ∀ d ∈ tables_1, d.before a0 Z = true) (ws : List Jvm.Cond) (a1 : Addr) (cs : Int32) (h0 : Heap) (n0 : Nat) (Z0 : n0 ≤ h0.size) (S_C : Sta Z h0 "java/lang/String" "COMPACT_STRINGS" "Z" (.int cs)) (hcs : ¬ cs = 0) (F_c : Fld Z h0 a1 "java/lang/String" "coder" "B" (.int (1 : Int32))) : own_Met l Z ⟨"java/lang/String", "isLatin1", "()Z"⟩ jdk_42_method_154_code 1 (some .boolean) ws ⟨0, 0, 0, 0⟩ #[(.ref a1)] h0 (Q_isLatU Z a1 cs h0 n0) := by
  refine own_met n0 own_pn_java_lang_String (fun m => ef1R m a1) ?_
  intro p e s m below meth c T lc hret hx hZ hby hml hown hnm hlk X eT N
  refine own_getS X hx hZ hown (host := "") (Or.inl (own_w hw 49 rfl)) Via.refl eT S_C (hb hby own17_0) (pc' := 3) rfl ?_
  intro T X eT
  refine own_ifN X hx (hb hby own17_3) (pc' := 6) rfl (show ¬ (cs = (0 : Int32)) from hcs) ?_
  refine own_aloadN X hx (hb hby own17_6) (pc' := 7) rfl rfl rfl ?_
  refine own_getF X hx hZ hown (host := "") (Or.inl (own_w hw 29 rfl)) Via.refl eT F_c (hb hby own17_7) (pc' := 10) rfl ?_
  intro T X eT
  refine own_ifY X hx (hb hby own17_10) (by decide) (pc' := 17) rfl (show ¬ ((1 : Int32) = (0 : Int32)) from (by decide)) ?_
  refine own_iconst X hx (0 : Int32) (hb hby own17_17) (pc' := 18) rfl rfl ?_
  refine own_retI X hx hlk (t := .boolean) (w' := (.int (0 : Int32))) hret (hb hby own17_18) rfl rfl (by simp) (by decide) (by decide) ?_
  rw [eT]
  exact ⟨rfl, N, rfl⟩
theorem own19_0 : decode jdk_43_method_22_code 0 = .ok (.iload_n 1, 1) := by decide +kernel
theorem own19_1 : decode jdk_43_method_22_code 1 = .ok (.invokestatic 88, 3) := by decide +kernel
theorem own_pd_28I29Z : parseMethodDescriptor "(I)Z" = some ⟨[.int], some .boolean⟩ := by decide +kernel
theorem own19_4 : decode jdk_43_method_22_code 4 = .ok (.ifCond .ne 5, 3) := by decide +kernel
theorem own19_9 : decode jdk_43_method_22_code 9 = .ok (.iload_n 2, 1) := by decide +kernel
theorem own19_10 : decode jdk_43_method_22_code 10 = .ok (.iconst 0, 1) := by decide +kernel
theorem own19_11 : decode jdk_43_method_22_code 11 = .ok (.invokestatic 92, 3) := by decide +kernel
theorem own_pd_28II29I : parseMethodDescriptor "(II)I" = some ⟨[.int, .int], some .int⟩ := by decide +kernel
theorem own19_14 : decode jdk_43_method_22_code 14 = .ok (.istore_n 2, 1) := by decide +kernel
theorem own19_15 : decode jdk_43_method_22_code 15 = .ok (.iload_n 3, 1) := by decide +kernel
theorem own19_16 : decode jdk_43_method_22_code 16 = .ok (.aload_n 0, 1) := by decide +kernel
theorem own19_17 : decode jdk_43_method_22_code 17 = .ok (.arraylength, 1) := by decide +kernel
theorem own19_18 : decode jdk_43_method_22_code 18 = .ok (.invokestatic 38, 3) := by decide +kernel
theorem own19_21 : decode jdk_43_method_22_code 21 = .ok (.istore_n 3, 1) := by decide +kernel
theorem own19_22 : decode jdk_43_method_22_code 22 = .ok (.iload_n 2, 1) := by decide +kernel
theorem own19_23 : decode jdk_43_method_22_code 23 = .ok (.iload_n 3, 1) := by decide +kernel
theorem own19_24 : decode jdk_43_method_22_code 24 = .ok (.if_icmp .lt 5, 3) := by decide +kernel
theorem own19_27 : decode jdk_43_method_22_code 27 = .ok (.iconst (-1), 1) := by decide +kernel
theorem own19_28 : decode jdk_43_method_22_code 28 = .ok (.ireturn, 1) := by decide +kernel
theorem ef4RIII (m : MethodId) (x0 : Addr) (x1 : Int32) (x2 : Int32) (x3 : Int32) : entryFrame m #[(.ref x0), (.int x1), (.int x2), (.int x3)] 4 = mkF m 0 #[.val (.ref x0), .val (.int x1), .val (.int x2), .val (.int x3)] [] := by first | (simp [entryFrame, mkF, argsToLocals, Value.category]; done) | rfl
def Q_lx0 (Z : State) (b : Addr) (p1 : Int32)  (h0 : Heap) (n0 : Nat) (v : Option Value) (h : Heap) (L : List Loc) : Prop := ∃ z : Int32, v = some (.int z) ∧ Fr n0 L ∧ h = h0 ∧ (z < 0 ↔ (True))
set_option maxRecDepth 65536 in
set_option maxHeartbeats 40000000 in
theorem rm_lx0 (l : Launch) (Z : State) (a0 : Array Value) (hw : ∀ d ∈ tables_1, d.before a0 Z = true) (ws : List Jvm.Cond) (b : Addr) (p1 : Int32)  (h0 : Heap) (n0 : Nat) (Z0 : n0 ≤ h0.size) (hp : own_p1 p1) (k : ClassId) (A_b : Arv Z h0 b k .byte (0 : Int32) [] (.int (0 : Int32)))  : own_Met l Z ⟨"java/lang/StringLatin1", "indexOf", "([BIII)I"⟩ jdk_43_method_22_code 4 (some .int) ws ⟨1, 0, 0, 22⟩ #[(.ref b), (.int p1), (.int (0 : Int32)), (.int (0 : Int32))] h0 (Q_lx0 Z b p1 h0 n0) := by
  refine own_met n0 own_pn_java_lang_StringLatin1 (fun m => ef4RIII m b p1 (0 : Int32) (0 : Int32)) ?_
  intro p e s m below meth c T lc hret hx hZ hby hml hown hnm hlk X eT N
  refine own_iloadN X hx (hb hby own19_0) (pc' := 1) rfl rfl ?_
  refine own_callS X hx hZ [(.int p1)] hown (own_w hw 64 rfl) (own_w hw 65 rfl) (own_w hw 62 rfl) (own_w hw 66 rfl) (by decide) (rm_cei l Z a0 hw [] p1 h0 n0 Z0 hp) eT (W := 0) (by decide) (by decide) (cells' := 0) (slots' := 0) rfl rfl (by decide) (by decide) (by rw [hml]; rfl) (lenOf own_pd_28I29Z rfl) rfl (S := []) rfl (Nat.le_of_eq rfl) (hb hby own19_1) (pc' := 4) rfl ?_
  intro v T h1 L lc X eT hq fN
  obtain ⟨rfl, Nq, hqe⟩ := hq
  have N := fN _ N Nq
  rw [hqe] at eT
  show own_W _ _ _ _ _ _ _ _ [(.int (1 : Int32))]
  refine own_ifY X hx (hb hby own19_4) (by decide) (pc' := 9) rfl (show ¬ ((1 : Int32) = (0 : Int32)) from (by decide)) ?_
  refine own_iloadN X hx (hb hby own19_9) (pc' := 10) rfl rfl ?_
  refine own_iconst X hx (0 : Int32) (hb hby own19_10) (pc' := 11) rfl rfl ?_
  refine own_callS X hx hZ [(.int (0 : Int32)), (.int (0 : Int32))] hown (own_w hw 67 rfl) (own_w hw 68 rfl) (own_w hw 69 rfl) (own_w hw 70 rfl) (by decide) (rm_max l Z a0 hw [] (0 : Int32) (0 : Int32) h0 n0 Z0 (by decide)) eT (W := 0) (by decide) (by decide) (cells' := 0) (slots' := 0) rfl rfl (by decide) (by decide) (by rw [hml]; rfl) (lenOf own_pd_28II29I rfl) rfl (S := []) rfl (Nat.le_of_eq rfl) (hb hby own19_11) (pc' := 14) rfl ?_
  intro v T h2 L lc X eT hq fN
  obtain ⟨rfl, Nq, hqe⟩ := hq
  have N := fN _ N Nq
  rw [hqe] at eT
  show own_W _ _ _ _ _ _ _ _ [(.int (0 : Int32))]
  refine own_istoreN X hx (hb hby own19_14) (pc' := 15) rfl (Ls' := #[.val (.ref b), .val (.int p1), .val (.int (0 : Int32)), .val (.int (0 : Int32))]) rfl ?_
  refine own_iloadN X hx (hb hby own19_15) (pc' := 16) rfl rfl ?_
  refine own_aloadN X hx (hb hby own19_16) (pc' := 17) rfl rfl rfl ?_
  refine own_arrlen X hx hZ eT A_b (hb hby own19_17) (pc' := 18) rfl ?_
  refine own_callS X hx hZ [(.int (0 : Int32)), (.int (0 : Int32))] hown (own_w hw 71 rfl) (own_w hw 72 rfl) (own_w hw 69 rfl) (own_w hw 73 rfl) (by decide) (rm_min l Z a0 hw [] (0 : Int32) (0 : Int32) h0 n0 Z0 (by decide)) eT (W := 0) (by decide) (by decide) (cells' := 0) (slots' := 0) rfl rfl (by decide) (by decide) (by rw [hml]; rfl) (lenOf own_pd_28II29I rfl) rfl (S := []) rfl (Nat.le_of_eq rfl) (hb hby own19_18) (pc' := 21) rfl ?_
  intro v T h3 L lc X eT hq fN
  obtain ⟨rfl, Nq, hqe⟩ := hq
  have N := fN _ N Nq
  rw [hqe] at eT
  show own_W _ _ _ _ _ _ _ _ [(.int (0 : Int32))]
  refine own_istoreN X hx (hb hby own19_21) (pc' := 22) rfl (Ls' := #[.val (.ref b), .val (.int p1), .val (.int (0 : Int32)), .val (.int (0 : Int32))]) rfl ?_
  refine own_iloadN X hx (hb hby own19_22) (pc' := 23) rfl rfl ?_
  refine own_iloadN X hx (hb hby own19_23) (pc' := 24) rfl rfl ?_
  refine own_icmpN X hx (hb hby own19_24) (pc' := 27) rfl (show ¬ ((0 : Int32) < (0 : Int32)) from (by decide)) ?_
  refine own_iconst X hx (-1 : Int32) (hb hby own19_27) (pc' := 28) rfl rfl ?_
  refine own_retI X hx hlk (t := .int) (w' := (.int (-1 : Int32))) hret (hb hby own19_28) rfl rfl (by simp) (by decide) (by decide) ?_
  rw [eT]
  exact ⟨_, rfl, N, rfl, ⟨fun _ => trivial, fun _ => by decide⟩⟩
theorem own20_0 : decode jdk_42_method_80_code 0 = .ok (.aload_n 0, 1) := by decide +kernel
theorem own20_1 : decode jdk_42_method_80_code 1 = .ok (.invokevirtual 492, 3) := by decide +kernel
theorem own_pd_2829Z : parseMethodDescriptor "()Z" = some ⟨[], some .boolean⟩ := by decide +kernel
theorem own20_4 : decode jdk_42_method_80_code 4 = .ok (.ifCond .eq 19, 3) := by decide +kernel
theorem own20_7 : decode jdk_42_method_80_code 7 = .ok (.aload_n 0, 1) := by decide +kernel
theorem own20_8 : decode jdk_42_method_80_code 8 = .ok (.getfield 9, 3) := by decide +kernel
theorem own20_11 : decode jdk_42_method_80_code 11 = .ok (.iload_n 1, 1) := by decide +kernel
theorem own20_12 : decode jdk_42_method_80_code 12 = .ok (.iload_n 2, 1) := by decide +kernel
theorem own20_13 : decode jdk_42_method_80_code 13 = .ok (.aload_n 0, 1) := by decide +kernel
theorem own20_14 : decode jdk_42_method_80_code 14 = .ok (.invokevirtual 505, 3) := by decide +kernel
theorem own_pd_2829I : parseMethodDescriptor "()I" = some ⟨[], some .int⟩ := by decide +kernel
theorem own20_17 : decode jdk_42_method_80_code 17 = .ok (.invokestatic 637, 3) := by decide +kernel
theorem own_pd_285bBIII29I : parseMethodDescriptor "([BIII)I" = some ⟨[(.array .byte), .int, .int, .int], some .int⟩ := by decide +kernel
theorem own20_20 : decode jdk_42_method_80_code 20 = .ok (.goto 16, 3) := by decide +kernel
theorem own20_36 : decode jdk_42_method_80_code 36 = .ok (.ireturn, 1) := by decide +kernel
def Q_siL0 (Z : State) (a1 b : Addr) (p1 cs : Int32)  (h0 : Heap) (n0 : Nat) (v : Option Value) (h : Heap) (L : List Loc) : Prop := ∃ z : Int32, v = some (.int z) ∧ Fr n0 L ∧ h = h0 ∧ (z < 0 ↔ (True))
set_option maxRecDepth 65536 in
set_option maxHeartbeats 40000000 in
theorem rm_siL0 (l : Launch) (Z : State) (a0 : Array Value) (hw : ∀ d ∈ tables_1, d.before a0 Z = true) (ws : List Jvm.Cond) (a1 b : Addr) (p1 cs : Int32)  (h0 : Heap) (n0 : Nat) (Z0 : n0 ≤ h0.size) (S_C : Sta Z h0 "java/lang/String" "COMPACT_STRINGS" "Z" (.int cs)) (hcs : ¬ cs = 0) (E_a1 : Exa Z h0 a1 "java/lang/String") (F_c : Fld Z h0 a1 "java/lang/String" "coder" "B" (.int (0 : Int32))) (F_v : Fld Z h0 a1 "java/lang/String" "value" "[B" (.ref b)) (hp : own_p1 p1) (k : ClassId) (A_b : Arv Z h0 b k .byte (0 : Int32) [] (.int (0 : Int32)))  : own_Met l Z ⟨"java/lang/String", "indexOf", "(II)I"⟩ jdk_42_method_80_code 3 (some .int) ws ⟨2, 0, 0, 42⟩ #[(.ref a1), (.int p1), (.int (0 : Int32))] h0 (Q_siL0 Z a1 b p1 cs h0 n0) := by
  refine own_met n0 own_pn_java_lang_String (fun m => ef3RII m a1 p1 (0 : Int32)) ?_
  intro p e s m below meth c T lc hret hx hZ hby hml hown hnm hlk X eT N
  refine own_aloadN X hx (hb hby own20_0) (pc' := 1) rfl rfl rfl ?_
  refine own_callV X hx hZ (y := (⟨"java/lang/String", "isLatin1", "()Z"⟩ : MethodName)) a1 [] hown (own_w hw 44 rfl) (own_w hw 45 rfl) (own_w hw 47 rfl) (own_w hw 46 rfl) (own_w hw 10 rfl) (own_w hw 48 rfl) (by decide) (rm_isLat l Z a0 hw [] a1 cs h0 n0 Z0 S_C hcs F_c) E_a1 eT (W := 0) (by decide) (by decide) (cells' := 0) (slots' := 0) rfl rfl (by decide) (by decide) (by rw [hml]; rfl) (lenOf own_pd_2829Z rfl) rfl (S := []) rfl (Nat.le_of_eq rfl) (hb hby own20_1) (pc' := 4) rfl ?_
  intro v T h1 L lc X eT hq fN
  obtain ⟨rfl, Nq, hqe⟩ := hq
  have N := fN _ N Nq
  rw [hqe] at eT
  show own_W _ _ _ _ _ _ _ _ [(.int (1 : Int32))]
  refine own_ifN X hx (hb hby own20_4) (pc' := 7) rfl (show ¬ ((1 : Int32) = (0 : Int32)) from (by decide)) ?_
  refine own_aloadN X hx (hb hby own20_7) (pc' := 8) rfl rfl rfl ?_
  refine own_getF X hx hZ hown (host := "") (Or.inl (own_w hw 28 rfl)) Via.refl eT F_v (hb hby own20_8) (pc' := 11) rfl ?_
  intro T X eT
  refine own_iloadN X hx (hb hby own20_11) (pc' := 12) rfl rfl ?_
  refine own_iloadN X hx (hb hby own20_12) (pc' := 13) rfl rfl ?_
  refine own_aloadN X hx (hb hby own20_13) (pc' := 14) rfl rfl rfl ?_
  refine own_callV X hx hZ (y := (⟨"java/lang/String", "length", "()I"⟩ : MethodName)) a1 [] hown (own_w hw 50 rfl) (own_w hw 51 rfl) (own_w hw 53 rfl) (own_w hw 52 rfl) (own_w hw 10 rfl) (own_w hw 54 rfl) (by decide) (rm_len l Z a0 hw [] a1 b cs (0 : Int32) h0 n0 Z0 S_C hcs E_a1 F_c F_v _ _ A_b) E_a1 eT (W := 3) (by decide) (by decide) (cells' := 0) (slots' := 0) rfl rfl (by decide) (by decide) (by rw [hml]; rfl) (lenOf own_pd_2829I rfl) rfl (S := [(.int (0 : Int32)), (.int p1), (.ref b)]) rfl (Nat.le_of_eq rfl) (hb hby own20_14) (pc' := 17) rfl ?_
  intro v T h2 L lc X eT hq fN
  obtain ⟨rfl, Nq, hqe⟩ := hq
  have N := fN _ N Nq
  rw [hqe] at eT
  show own_W _ _ _ _ _ _ _ _ [(.int (0 : Int32)), (.int (0 : Int32)), (.int p1), (.ref b)]
  refine own_callS X hx hZ [(.ref b), (.int p1), (.int (0 : Int32)), (.int (0 : Int32))] hown (own_w hw 60 rfl) (own_w hw 61 rfl) (own_w hw 62 rfl) (own_w hw 63 rfl) (by decide) (rm_lx0 l Z a0 hw [] b p1  h0 n0 Z0 hp _ A_b ) eT (W := 0) (by decide) (by decide) (cells' := 0) (slots' := 0) rfl rfl (by decide) (by decide) (by rw [hml]; rfl) (lenOf own_pd_285bBIII29I rfl) rfl (S := []) rfl (Nat.le_of_eq rfl) (hb hby own20_17) (pc' := 20) rfl ?_
  intro v T h3 L lc X eT hq fN
  obtain ⟨zz, rfl, Nq, hqe, hz⟩ := hq
  have N := fN _ N Nq
  rw [hqe] at eT
  show own_W _ _ _ _ _ _ _ _ [(.int zz)]
  refine own_goto X hx (hb hby own20_20) (by decide) (pc' := 36) rfl ?_
  refine own_retI X hx hlk (t := .int) (w' := (.int zz)) hret (hb hby own20_36) rfl rfl (by simp) (by decide) (by decide) ?_
  rw [eT]
  exact ⟨_, rfl, N, rfl, hz⟩
theorem own21_0 : decode jdk_42_method_79_code 0 = .ok (.aload_n 0, 1) := by decide +kernel
theorem own21_1 : decode jdk_42_method_79_code 1 = .ok (.iload_n 1, 1) := by decide +kernel
theorem own21_2 : decode jdk_42_method_79_code 2 = .ok (.iconst 0, 1) := by decide +kernel
theorem own21_3 : decode jdk_42_method_79_code 3 = .ok (.invokevirtual 633, 3) := by decide +kernel
theorem own21_6 : decode jdk_42_method_79_code 6 = .ok (.ireturn, 1) := by decide +kernel
def Q_sjL0 (Z : State) (a1 b : Addr) (p1 cs : Int32)  (h0 : Heap) (n0 : Nat) (v : Option Value) (h : Heap) (L : List Loc) : Prop := ∃ z : Int32, v = some (.int z) ∧ Fr n0 L ∧ h = h0 ∧ (z < 0 ↔ (True))
set_option maxRecDepth 65536 in
set_option maxHeartbeats 40000000 in
theorem rm_sjL0 (l : Launch) (Z : State) (a0 : Array Value) (hw : ∀ d ∈ tables_1, d.before a0 Z = true) (ws : List Jvm.Cond) (a1 b : Addr) (p1 cs : Int32)  (h0 : Heap) (n0 : Nat) (Z0 : n0 ≤ h0.size) (S_C : Sta Z h0 "java/lang/String" "COMPACT_STRINGS" "Z" (.int cs)) (hcs : ¬ cs = 0) (E_a1 : Exa Z h0 a1 "java/lang/String") (F_c : Fld Z h0 a1 "java/lang/String" "coder" "B" (.int (0 : Int32))) (F_v : Fld Z h0 a1 "java/lang/String" "value" "[B" (.ref b)) (hp : own_p1 p1) (k : ClassId) (A_b : Arv Z h0 b k .byte (0 : Int32) [] (.int (0 : Int32)))  : own_Met l Z ⟨"java/lang/String", "indexOf", "(I)I"⟩ jdk_42_method_79_code 2 (some .int) ws ⟨3, 0, 0, 61⟩ #[(.ref a1), (.int p1)] h0 (Q_sjL0 Z a1 b p1 cs h0 n0) := by
  refine own_met n0 own_pn_java_lang_String (fun m => ef2RI m a1 p1) ?_
  intro p e s m below meth c T lc hret hx hZ hby hml hown hnm hlk X eT N
  refine own_aloadN X hx (hb hby own21_0) (pc' := 1) rfl rfl rfl ?_
  refine own_iloadN X hx (hb hby own21_1) (pc' := 2) rfl rfl ?_
  refine own_iconst X hx (0 : Int32) (hb hby own21_2) (pc' := 3) rfl rfl ?_
  refine own_callV X hx hZ (y := (⟨"java/lang/String", "indexOf", "(II)I"⟩ : MethodName)) a1 [(.int p1), (.int (0 : Int32))] hown (own_w hw 39 rfl) (own_w hw 40 rfl) (own_w hw 42 rfl) (own_w hw 41 rfl) (own_w hw 10 rfl) (own_w hw 43 rfl) (by decide) (rm_siL0 l Z a0 hw [] a1 b p1 cs  h0 n0 Z0 S_C hcs E_a1 F_c F_v hp _ A_b ) E_a1 eT (W := 0) (by decide) (by decide) (cells' := 0) (slots' := 0) rfl rfl (by decide) (by decide) (by rw [hml]; rfl) (lenOf own_pd_28II29I rfl) rfl (S := []) rfl (Nat.le_of_eq rfl) (hb hby own21_3) (pc' := 6) rfl ?_
  intro v T h1 L lc X eT hq fN
  obtain ⟨zz, rfl, Nq, hqe, hz⟩ := hq
  have N := fN _ N Nq
  rw [hqe] at eT
  show own_W _ _ _ _ _ _ _ _ [(.int zz)]
  refine own_retI X hx hlk (t := .int) (w' := (.int zz)) hret (hb hby own21_6) rfl rfl (by simp) (by decide) (by decide) ?_
  rw [eT]
  exact ⟨_, rfl, N, rfl, hz⟩
theorem own22_0 : decode prog_47_method_2_code 0 = .ok (.aload_n 0, 1) := by decide +kernel
theorem own22_1 : decode prog_47_method_2_code 1 = .ok (.bipush 9, 2) := by decide +kernel
theorem own22_3 : decode prog_47_method_2_code 3 = .ok (.invokevirtual 20, 3) := by decide +kernel
theorem own22_6 : decode prog_47_method_2_code 6 = .ok (.ifCond .ge 16, 3) := by decide +kernel
theorem own22_22 : decode prog_47_method_2_code 22 = .ok (.iconst 0, 1) := by decide +kernel
theorem own22_23 : decode prog_47_method_2_code 23 = .ok (.ireturn, 1) := by decide +kernel
theorem own22_9 : decode prog_47_method_2_code 9 = .ok (.aload_n 0, 1) := by decide +kernel
theorem own22_10 : decode prog_47_method_2_code 10 = .ok (.bipush 10, 2) := by decide +kernel
theorem own22_12 : decode prog_47_method_2_code 12 = .ok (.invokevirtual 20, 3) := by decide +kernel
theorem own22_15 : decode prog_47_method_2_code 15 = .ok (.ifCond .ge 7, 3) := by decide +kernel
theorem own22_18 : decode prog_47_method_2_code 18 = .ok (.iconst 1, 1) := by decide +kernel
theorem own22_19 : decode prog_47_method_2_code 19 = .ok (.goto 4, 3) := by decide +kernel
theorem own_pn_com_example_bleeper_bleeper_cli_Fields : plainName "com/example/bleeper/bleeper/cli/Fields" = true := by first | (simp [plainName, overriddenIn]; done) | decide +kernel
def Q_chL0 (Z : State) (a1 b : Addr) (cs : Int32)  (h0 : Heap) (n0 : Nat) (v : Option Value) (h : Heap) (L : List Loc) : Prop := ∃ z : Int32, v = some (.int z) ∧ Fr n0 L ∧ h = h0 ∧ ((z = 1 ∧ (True) ∧ (True)) ∨ (z = 0 ∧ ¬ ((True) ∧ (True))))
set_option maxRecDepth 65536 in
set_option maxHeartbeats 40000000 in
theorem rm_chL0 (l : Launch) (Z : State) (a0 : Array Value) (hw : ∀ d ∈ tables_1, d.before a0 Z = true) (ws : List Jvm.Cond) (a1 b : Addr) (cs : Int32)  (h0 : Heap) (n0 : Nat) (Z0 : n0 ≤ h0.size) (S_C : Sta Z h0 "java/lang/String" "COMPACT_STRINGS" "Z" (.int cs)) (hcs : ¬ cs = 0) (E_a1 : Exa Z h0 a1 "java/lang/String") (F_c : Fld Z h0 a1 "java/lang/String" "coder" "B" (.int (0 : Int32))) (F_v : Fld Z h0 a1 "java/lang/String" "value" "[B" (.ref b)) (k : ClassId) (A_b : Arv Z h0 b k .byte (0 : Int32) [] (.int (0 : Int32)))  : own_Met l Z ⟨"com/example/bleeper/bleeper/cli/Fields", "canHold", "(Ljava/lang/String;)Z"⟩ prog_47_method_2_code 1 (some .boolean) ws ⟨4, 0, 0, 79⟩ #[(.ref a1)] h0 (Q_chL0 Z a1 b cs h0 n0) := by
  refine own_met n0 own_pn_com_example_bleeper_bleeper_cli_Fields (fun m => ef1R m a1) ?_
  intro p e s m below meth c T lc hret hx hZ hby hml hown hnm hlk X eT N
  refine own_aloadN X hx (hb hby own22_0) (pc' := 1) rfl rfl rfl ?_
  refine own_bipush X hx (9 : Int32) (hb hby own22_1) (pc' := 3) rfl rfl ?_
  refine own_callV X hx hZ (y := (⟨"java/lang/String", "indexOf", "(I)I"⟩ : MethodName)) a1 [(.int (9 : Int32))] hown (own_w hw 34 rfl) (own_w hw 35 rfl) (own_w hw 37 rfl) (own_w hw 36 rfl) (own_w hw 10 rfl) (own_w hw 38 rfl) (by decide) (rm_sjL0 l Z a0 hw [] a1 b (9 : Int32) cs  h0 n0 Z0 S_C hcs E_a1 F_c F_v (show own_p1 _ from ⟨by decide, by decide⟩) _ A_b ) E_a1 eT (W := 0) (by decide) (by decide) (cells' := 0) (slots' := 0) rfl rfl (by decide) (by decide) (by rw [hml]; rfl) (lenOf own_pd_28I29I rfl) rfl (S := []) rfl (Nat.le_of_eq rfl) (hb hby own22_3) (pc' := 6) rfl ?_
  intro v T h1 L lc X eT hq fN
  obtain ⟨z1, rfl, Nq, hqe, B1⟩ := hq
  have N := fN _ N Nq
  rw [hqe] at eT
  show own_W _ _ _ _ _ _ _ _ [(.int z1)]
  refine own_if X hx (hb hby own22_6) (by decide) (pcY := 22) (pcN := 9) rfl rfl (fun (hc6 : ¬ (z1 < (0 : Int32))) => ?_) (fun (hc6 : z1 < (0 : Int32)) => ?_)
  · refine own_iconst X hx (0 : Int32) (hb hby own22_22) (pc' := 23) rfl rfl ?_
    refine own_retI X hx hlk (t := .boolean) (w' := (.int (0 : Int32))) hret (hb hby own22_23) rfl rfl (by simp) (by decide) (by decide) ?_
    rw [eT]
    exact ⟨_, rfl, N, rfl, Or.inr ⟨rfl, fun q => hc6 (B1.mpr q.1)⟩⟩
  · refine own_aloadN X hx (hb hby own22_9) (pc' := 10) rfl rfl rfl ?_
    refine own_bipush X hx (10 : Int32) (hb hby own22_10) (pc' := 12) rfl rfl ?_
    refine own_callV X hx hZ (y := (⟨"java/lang/String", "indexOf", "(I)I"⟩ : MethodName)) a1 [(.int (10 : Int32))] hown (own_w hw 34 rfl) (own_w hw 35 rfl) (own_w hw 37 rfl) (own_w hw 36 rfl) (own_w hw 10 rfl) (own_w hw 38 rfl) (by decide) (rm_sjL0 l Z a0 hw [] a1 b (10 : Int32) cs  h0 n0 Z0 S_C hcs E_a1 F_c F_v (show own_p1 _ from ⟨by decide, by decide⟩) _ A_b ) E_a1 eT (W := 0) (by decide) (by decide) (cells' := 0) (slots' := 0) rfl rfl (by decide) (by decide) (by rw [hml]; rfl) (lenOf own_pd_28I29I rfl) rfl (S := []) rfl (Nat.le_of_eq rfl) (hb hby own22_12) (pc' := 15) rfl ?_
    intro v T h2 L lc X eT hq fN
    obtain ⟨z2, rfl, Nq, hqe, B2⟩ := hq
    have N := fN _ N Nq
    rw [hqe] at eT
    show own_W _ _ _ _ _ _ _ _ [(.int z2)]
    refine own_if X hx (hb hby own22_15) (by decide) (pcY := 22) (pcN := 18) rfl rfl (fun (hc15 : ¬ (z2 < (0 : Int32))) => ?_) (fun (hc15 : z2 < (0 : Int32)) => ?_)
    · refine own_iconst X hx (0 : Int32) (hb hby own22_22) (pc' := 23) rfl rfl ?_
      refine own_retI X hx hlk (t := .boolean) (w' := (.int (0 : Int32))) hret (hb hby own22_23) rfl rfl (by simp) (by decide) (by decide) ?_
      rw [eT]
      exact ⟨_, rfl, N, rfl, Or.inr ⟨rfl, fun q => hc15 (B2.mpr q.2)⟩⟩
    · refine own_iconst X hx (1 : Int32) (hb hby own22_18) (pc' := 19) rfl rfl ?_
      refine own_goto X hx (hb hby own22_19) (by decide) (pc' := 23) rfl ?_
      refine own_retI X hx hlk (t := .boolean) (w' := (.int (1 : Int32))) hret (hb hby own22_23) rfl rfl (by simp) (by decide) (by decide) ?_
      rw [eT]
      exact ⟨_, rfl, N, rfl, Or.inl ⟨rfl, B1.mp hc6, B2.mp hc15⟩⟩
theorem own23_0 : decode jdk_43_method_23_code 0 = .ok (.iload_n 1, 1) := by decide +kernel
theorem own23_1 : decode jdk_43_method_23_code 1 = .ok (.i2b, 1) := by decide +kernel
theorem own23_2 : decode jdk_43_method_23_code 2 = .ok (.istore 4, 2) := by decide +kernel
theorem own23_4 : decode jdk_43_method_23_code 4 = .ok (.iload_n 2, 1) := by decide +kernel
theorem own23_5 : decode jdk_43_method_23_code 5 = .ok (.istore 5, 2) := by decide +kernel
theorem own23_7 : decode jdk_43_method_23_code 7 = .ok (.iload 5, 2) := by decide +kernel
theorem own23_9 : decode jdk_43_method_23_code 9 = .ok (.iload_n 3, 1) := by decide +kernel
theorem own23_10 : decode jdk_43_method_23_code 10 = .ok (.if_icmp .ge 21, 3) := by decide +kernel
theorem own23_13 : decode jdk_43_method_23_code 13 = .ok (.aload_n 0, 1) := by decide +kernel
theorem own23_14 : decode jdk_43_method_23_code 14 = .ok (.iload 5, 2) := by decide +kernel
theorem own23_16 : decode jdk_43_method_23_code 16 = .ok (.baload, 1) := by decide +kernel
theorem own23_17 : decode jdk_43_method_23_code 17 = .ok (.iload 4, 2) := by decide +kernel
theorem own23_19 : decode jdk_43_method_23_code 19 = .ok (.if_icmp .ne 6, 3) := by decide +kernel
theorem own23_25 : decode jdk_43_method_23_code 25 = .ok (.iinc 5 1, 3) := by decide +kernel
theorem own23_28 : decode jdk_43_method_23_code 28 = .ok (.goto (-21), 3) := by decide +kernel
theorem own23_31 : decode jdk_43_method_23_code 31 = .ok (.iconst (-1), 1) := by decide +kernel
theorem own23_32 : decode jdk_43_method_23_code 32 = .ok (.ireturn, 1) := by decide +kernel
theorem own23_22 : decode jdk_43_method_23_code 22 = .ok (.iload 5, 2) := by decide +kernel
theorem own23_24 : decode jdk_43_method_23_code 24 = .ok (.ireturn, 1) := by decide +kernel
theorem ef6RIII (m : MethodId) (x0 : Addr) (x1 : Int32) (x2 : Int32) (x3 : Int32) : entryFrame m #[(.ref x0), (.int x1), (.int x2), (.int x3)] 6 = mkF m 0 #[.val (.ref x0), .val (.int x1), .val (.int x2), .val (.int x3), .unset, .unset] [] := by first | (simp [entryFrame, mkF, argsToLocals, Value.category]; done) | rfl
def Q_lc1 (Z : State) (b : Addr) (p1 : Int32) (d0 : Int32) (h0 : Heap) (n0 : Nat) (v : Option Value) (h : Heap) (L : List Loc) : Prop := ∃ z : Int32, v = some (.int z) ∧ Fr n0 L ∧ h = h0 ∧ (z < 0 ↔ (¬ (d0 = p1) ∧ True))
set_option maxRecDepth 65536 in
set_option maxHeartbeats 40000000 in
theorem rm_lc1 (l : Launch) (Z : State) (a0 : Array Value) (hw : ∀ d ∈ tables_1, d.before a0 Z = true) (ws : List Jvm.Cond) (b : Addr) (p1 : Int32) (d0 : Int32) (h0 : Heap) (n0 : Nat) (Z0 : n0 ≤ h0.size) (hp : own_p1 p1) (k : ClassId) (A_b : Arv Z h0 b k .byte (1 : Int32) [(.int (nar .byte d0.toInt8.toInt32))] (.int (0 : Int32))) (bd0 : own_c16 d0) (hall : (¬ ((255 : Int32) < d0))) : own_Met l Z ⟨"java/lang/StringLatin1", "indexOfChar", "([BIII)I"⟩ jdk_43_method_23_code 6 (some .int) ws ⟨0, 0, 0, 0⟩ #[(.ref b), (.int p1), (.int (0 : Int32)), (.int (1 : Int32))] h0 (Q_lc1 Z b p1 d0 h0 n0) := by
  refine own_met n0 own_pn_java_lang_StringLatin1 (fun m => ef6RIII m b p1 (0 : Int32) (1 : Int32)) ?_
  intro p e s m below meth c T lc hret hx hZ hby hml hown hnm hlk X eT N
  refine own_iloadN X hx (hb hby own23_0) (pc' := 1) rfl rfl ?_
  refine own_i2b X hx (hb hby own23_1) (pc' := 2) rfl ?_
  refine own_istore X hx (hb hby own23_2) (pc' := 4) rfl (Ls' := #[.val (.ref b), .val (.int p1), .val (.int (0 : Int32)), .val (.int (1 : Int32)), .val (.int p1.toInt8.toInt32), .unset]) rfl ?_
  refine own_iloadN X hx (hb hby own23_4) (pc' := 5) rfl rfl ?_
  refine own_istore X hx (hb hby own23_5) (pc' := 7) rfl (Ls' := #[.val (.ref b), .val (.int p1), .val (.int (0 : Int32)), .val (.int (1 : Int32)), .val (.int p1.toInt8.toInt32), .val (.int (0 : Int32))]) rfl ?_
  refine own_iload X hx (hb hby own23_7) (pc' := 9) rfl rfl ?_
  refine own_iloadN X hx (hb hby own23_9) (pc' := 10) rfl rfl ?_
  refine own_icmpN X hx (hb hby own23_10) (pc' := 13) rfl (show (0 : Int32) < (1 : Int32) from (by decide)) ?_
  refine own_aloadN X hx (hb hby own23_13) (pc' := 14) rfl rfl rfl ?_
  refine own_iload X hx (hb hby own23_14) (pc' := 16) rfl rfl ?_
  refine own_baloadB X hx hZ eT A_b (v := (.int (nar .byte d0.toInt8.toInt32))) (by decide) rfl (hb hby own23_16) (pc' := 17) rfl ?_
  refine own_iload X hx (hb hby own23_17) (pc' := 19) rfl rfl ?_
  refine own_icmp X hx (hb hby own23_19) (by decide) (pcY := 25) (pcN := 22) rfl rfl (fun (hc19 : ¬ ((nar .byte d0.toInt8.toInt32) = p1.toInt8.toInt32)) => ?_) (fun (hc19 : (nar .byte d0.toInt8.toInt32) = p1.toInt8.toInt32) => ?_)
  · refine own_iinc X hx (1 : Int32) (hb hby own23_25) (pc' := 28) rfl rfl rfl (Ls' := #[.val (.ref b), .val (.int p1), .val (.int (0 : Int32)), .val (.int (1 : Int32)), .val (.int p1.toInt8.toInt32), .val (.int (1 : Int32))]) rfl ?_
    refine own_goto X hx (hb hby own23_28) (by decide) (pc' := 7) rfl ?_
    refine own_iload X hx (hb hby own23_7) (pc' := 9) rfl rfl ?_
    refine own_iloadN X hx (hb hby own23_9) (pc' := 10) rfl rfl ?_
    refine own_icmpY X hx (hb hby own23_10) (by decide) (pc' := 31) rfl (show ¬ ((1 : Int32) < (1 : Int32)) from (by decide)) ?_
    refine own_iconst X hx (-1 : Int32) (hb hby own23_31) (pc' := 32) rfl rfl ?_
    refine own_retI X hx hlk (t := .int) (w' := (.int (-1 : Int32))) hret (hb hby own23_32) rfl rfl (by simp) (by decide) (by decide) ?_
    rw [eT]
    exact ⟨_, rfl, N, rfl, ⟨fun _ => ⟨fun e => hc19 ((own_lo8 bd0 hall hp).mpr e), trivial⟩, fun _ => by decide⟩⟩
  · refine own_iload X hx (hb hby own23_22) (pc' := 24) rfl rfl ?_
    refine own_retI X hx hlk (t := .int) (w' := (.int (0 : Int32))) hret (hb hby own23_24) rfl rfl (by simp) (by decide) (by decide) ?_
    rw [eT]
    exact ⟨_, rfl, N, rfl, ⟨fun q => absurd q (by decide), fun q => absurd ((own_lo8 bd0 hall hp).mp hc19) q.1⟩⟩
theorem own19_29 : decode jdk_43_method_22_code 29 = .ok (.aload_n 0, 1) := by decide +kernel
theorem own19_30 : decode jdk_43_method_22_code 30 = .ok (.iload_n 1, 1) := by decide +kernel
theorem own19_31 : decode jdk_43_method_22_code 31 = .ok (.iload_n 2, 1) := by decide +kernel
theorem own19_32 : decode jdk_43_method_22_code 32 = .ok (.iload_n 3, 1) := by decide +kernel
theorem own19_33 : decode jdk_43_method_22_code 33 = .ok (.invokestatic 95, 3) := by decide +kernel
theorem own19_36 : decode jdk_43_method_22_code 36 = .ok (.ireturn, 1) := by decide +kernel
def Q_lx1 (Z : State) (b : Addr) (p1 : Int32) (d0 : Int32) (h0 : Heap) (n0 : Nat) (v : Option Value) (h : Heap) (L : List Loc) : Prop := ∃ z : Int32, v = some (.int z) ∧ Fr n0 L ∧ h = h0 ∧ (z < 0 ↔ (¬ (d0 = p1) ∧ True))
set_option maxRecDepth 65536 in
set_option maxHeartbeats 40000000 in
theorem rm_lx1 (l : Launch) (Z : State) (a0 : Array Value) (hw : ∀ d ∈ tables_1, d.before a0 Z = true) (ws : List Jvm.Cond) (b : Addr) (p1 : Int32) (d0 : Int32) (h0 : Heap) (n0 : Nat) (Z0 : n0 ≤ h0.size) (hp : own_p1 p1) (k : ClassId) (A_b : Arv Z h0 b k .byte (1 : Int32) [(.int (nar .byte d0.toInt8.toInt32))] (.int (0 : Int32))) (bd0 : own_c16 d0) (hall : (¬ ((255 : Int32) < d0))) : own_Met l Z ⟨"java/lang/StringLatin1", "indexOf", "([BIII)I"⟩ jdk_43_method_22_code 4 (some .int) ws ⟨1, 0, 0, 22⟩ #[(.ref b), (.int p1), (.int (0 : Int32)), (.int (1 : Int32))] h0 (Q_lx1 Z b p1 d0 h0 n0) := by
  refine own_met n0 own_pn_java_lang_StringLatin1 (fun m => ef4RIII m b p1 (0 : Int32) (1 : Int32)) ?_
  intro p e s m below meth c T lc hret hx hZ hby hml hown hnm hlk X eT N
  refine own_iloadN X hx (hb hby own19_0) (pc' := 1) rfl rfl ?_
  refine own_callS X hx hZ [(.int p1)] hown (own_w hw 64 rfl) (own_w hw 65 rfl) (own_w hw 62 rfl) (own_w hw 66 rfl) (by decide) (rm_cei l Z a0 hw [] p1 h0 n0 Z0 hp) eT (W := 0) (by decide) (by decide) (cells' := 0) (slots' := 0) rfl rfl (by decide) (by decide) (by rw [hml]; rfl) (lenOf own_pd_28I29Z rfl) rfl (S := []) rfl (Nat.le_of_eq rfl) (hb hby own19_1) (pc' := 4) rfl ?_
  intro v T h1 L lc X eT hq fN
  obtain ⟨rfl, Nq, hqe⟩ := hq
  have N := fN _ N Nq
  rw [hqe] at eT
  show own_W _ _ _ _ _ _ _ _ [(.int (1 : Int32))]
  refine own_ifY X hx (hb hby own19_4) (by decide) (pc' := 9) rfl (show ¬ ((1 : Int32) = (0 : Int32)) from (by decide)) ?_
  refine own_iloadN X hx (hb hby own19_9) (pc' := 10) rfl rfl ?_
  refine own_iconst X hx (0 : Int32) (hb hby own19_10) (pc' := 11) rfl rfl ?_
  refine own_callS X hx hZ [(.int (0 : Int32)), (.int (0 : Int32))] hown (own_w hw 67 rfl) (own_w hw 68 rfl) (own_w hw 69 rfl) (own_w hw 70 rfl) (by decide) (rm_max l Z a0 hw [] (0 : Int32) (0 : Int32) h0 n0 Z0 (by decide)) eT (W := 0) (by decide) (by decide) (cells' := 0) (slots' := 0) rfl rfl (by decide) (by decide) (by rw [hml]; rfl) (lenOf own_pd_28II29I rfl) rfl (S := []) rfl (Nat.le_of_eq rfl) (hb hby own19_11) (pc' := 14) rfl ?_
  intro v T h2 L lc X eT hq fN
  obtain ⟨rfl, Nq, hqe⟩ := hq
  have N := fN _ N Nq
  rw [hqe] at eT
  show own_W _ _ _ _ _ _ _ _ [(.int (0 : Int32))]
  refine own_istoreN X hx (hb hby own19_14) (pc' := 15) rfl (Ls' := #[.val (.ref b), .val (.int p1), .val (.int (0 : Int32)), .val (.int (1 : Int32))]) rfl ?_
  refine own_iloadN X hx (hb hby own19_15) (pc' := 16) rfl rfl ?_
  refine own_aloadN X hx (hb hby own19_16) (pc' := 17) rfl rfl rfl ?_
  refine own_arrlen X hx hZ eT A_b (hb hby own19_17) (pc' := 18) rfl ?_
  refine own_callS X hx hZ [(.int (1 : Int32)), (.int (1 : Int32))] hown (own_w hw 71 rfl) (own_w hw 72 rfl) (own_w hw 69 rfl) (own_w hw 73 rfl) (by decide) (rm_min l Z a0 hw [] (1 : Int32) (1 : Int32) h0 n0 Z0 (by decide)) eT (W := 0) (by decide) (by decide) (cells' := 0) (slots' := 0) rfl rfl (by decide) (by decide) (by rw [hml]; rfl) (lenOf own_pd_28II29I rfl) rfl (S := []) rfl (Nat.le_of_eq rfl) (hb hby own19_18) (pc' := 21) rfl ?_
  intro v T h3 L lc X eT hq fN
  obtain ⟨rfl, Nq, hqe⟩ := hq
  have N := fN _ N Nq
  rw [hqe] at eT
  show own_W _ _ _ _ _ _ _ _ [(.int (1 : Int32))]
  refine own_istoreN X hx (hb hby own19_21) (pc' := 22) rfl (Ls' := #[.val (.ref b), .val (.int p1), .val (.int (0 : Int32)), .val (.int (1 : Int32))]) rfl ?_
  refine own_iloadN X hx (hb hby own19_22) (pc' := 23) rfl rfl ?_
  refine own_iloadN X hx (hb hby own19_23) (pc' := 24) rfl rfl ?_
  refine own_icmpY X hx (hb hby own19_24) (by decide) (pc' := 29) rfl (show (0 : Int32) < (1 : Int32) from (by decide)) ?_
  refine own_aloadN X hx (hb hby own19_29) (pc' := 30) rfl rfl rfl ?_
  refine own_iloadN X hx (hb hby own19_30) (pc' := 31) rfl rfl ?_
  refine own_iloadN X hx (hb hby own19_31) (pc' := 32) rfl rfl ?_
  refine own_iloadN X hx (hb hby own19_32) (pc' := 33) rfl rfl ?_
  refine own_callS X hx hZ [(.ref b), (.int p1), (.int (0 : Int32)), (.int (1 : Int32))] hown (own_w hw 87 rfl) (own_w hw 88 rfl) (own_w hw 62 rfl) (own_w hw 89 rfl) (by decide) (rm_lc1 l Z a0 hw [] b p1 d0 h0 n0 Z0 hp _ A_b bd0 hall) eT (W := 0) (by decide) (by decide) (cells' := 0) (slots' := 0) rfl rfl (by decide) (by decide) (by rw [hml]; rfl) (lenOf own_pd_285bBIII29I rfl) rfl (S := []) rfl (Nat.le_of_eq rfl) (hb hby own19_33) (pc' := 36) rfl ?_
  intro v T h4 L lc X eT hq fN
  obtain ⟨zz, rfl, Nq, hqe, hz⟩ := hq
  have N := fN _ N Nq
  rw [hqe] at eT
  show own_W _ _ _ _ _ _ _ _ [(.int zz)]
  refine own_retI X hx hlk (t := .int) (w' := (.int zz)) hret (hb hby own19_36) rfl rfl (by simp) (by decide) (by decide) ?_
  rw [eT]
  exact ⟨_, rfl, N, rfl, hz⟩
theorem own24_0 : decode jdk_52_method_48_code 0 = .ok (.iload_n 2, 1) := by decide +kernel
theorem own24_1 : decode jdk_52_method_48_code 1 = .ok (.istore 4, 2) := by decide +kernel
theorem own24_3 : decode jdk_52_method_48_code 3 = .ok (.iload 4, 2) := by decide +kernel
theorem own24_5 : decode jdk_52_method_48_code 5 = .ok (.iload_n 3, 1) := by decide +kernel
theorem own24_6 : decode jdk_52_method_48_code 6 = .ok (.if_icmp .ge 22, 3) := by decide +kernel
theorem own24_9 : decode jdk_52_method_48_code 9 = .ok (.aload_n 0, 1) := by decide +kernel
theorem own24_10 : decode jdk_52_method_48_code 10 = .ok (.iload 4, 2) := by decide +kernel
theorem own24_12 : decode jdk_52_method_48_code 12 = .ok (.invokestatic 71, 3) := by decide +kernel
theorem own24_15 : decode jdk_52_method_48_code 15 = .ok (.iload_n 1, 1) := by decide +kernel
theorem own24_16 : decode jdk_52_method_48_code 16 = .ok (.if_icmp .ne 6, 3) := by decide +kernel
theorem own24_22 : decode jdk_52_method_48_code 22 = .ok (.iinc 4 1, 3) := by decide +kernel
theorem own24_25 : decode jdk_52_method_48_code 25 = .ok (.goto (-22), 3) := by decide +kernel
theorem own24_28 : decode jdk_52_method_48_code 28 = .ok (.iconst (-1), 1) := by decide +kernel
theorem own24_29 : decode jdk_52_method_48_code 29 = .ok (.ireturn, 1) := by decide +kernel
theorem own24_19 : decode jdk_52_method_48_code 19 = .ok (.iload 4, 2) := by decide +kernel
theorem own24_21 : decode jdk_52_method_48_code 21 = .ok (.ireturn, 1) := by decide +kernel
theorem ef5RIII (m : MethodId) (x0 : Addr) (x1 : Int32) (x2 : Int32) (x3 : Int32) : entryFrame m #[(.ref x0), (.int x1), (.int x2), (.int x3)] 5 = mkF m 0 #[.val (.ref x0), .val (.int x1), .val (.int x2), .val (.int x3), .unset] [] := by first | (simp [entryFrame, mkF, argsToLocals, Value.category]; done) | rfl
def Q_uu1 (Z : State) (b : Addr) (p1 : Int32) (fm : Value) (d0 : Int32) (h0 : Heap) (n0 : Nat) (v : Option Value) (h : Heap) (L : List Loc) : Prop := ∃ z : Int32, v = some (.int z) ∧ Fr n0 L ∧ h = h0 ∧ (z < 0 ↔ (¬ (d0 = p1) ∧ True))
set_option maxRecDepth 65536 in
set_option maxHeartbeats 40000000 in
theorem rm_uu1 (l : Launch) (Z : State) (a0 : Array Value) (hw : ∀ d ∈ tables_1, d.before a0 Z = true) (ws : List Jvm.Cond) (b : Addr) (p1 : Int32) (fm : Value) (d0 : Int32) (h0 : Heap) (n0 : Nat) (Z0 : n0 ≤ h0.size) (S_A : Sta Z h0 "java/lang/StringUTF16" "$assertionsDisabled" "Z" (.int (1 : Int32))) (S_H : Sta Z h0 "java/lang/StringUTF16" "HI_BYTE_SHIFT" "I" (.int (0 : Int32))) (S_L : Sta Z h0 "java/lang/StringUTF16" "LO_BYTE_SHIFT" "I" (.int (8 : Int32))) (S_F : Sta Z h0 "jdk/internal/util/Preconditions" "SIOOBE_FORMATTER" "Ljava/util/function/BiFunction;" fm) (hfm : fm.isRef = true) (hp : own_p1 p1) (k : ClassId) (A_b : Arv Z h0 b k .byte (2 : Int32) [(.int (own_lb d0)), (.int (own_hb d0))] (.int (0 : Int32))) (bd0 : own_c16 d0) : own_Met l Z ⟨"java/lang/StringUTF16", "indexOfCharUnsafe", "([BIII)I"⟩ jdk_52_method_48_code 5 (some .int) ws ⟨1, 0, 0, 18⟩ #[(.ref b), (.int p1), (.int (0 : Int32)), (.int (1 : Int32))] h0 (Q_uu1 Z b p1 fm d0 h0 n0) := by
  refine own_met n0 own_pn_java_lang_StringUTF16 (fun m => ef5RIII m b p1 (0 : Int32) (1 : Int32)) ?_
  intro p e s m below meth c T lc hret hx hZ hby hml hown hnm hlk X eT N
  refine own_iloadN X hx (hb hby own24_0) (pc' := 1) rfl rfl ?_
  refine own_istore X hx (hb hby own24_1) (pc' := 3) rfl (Ls' := #[.val (.ref b), .val (.int p1), .val (.int (0 : Int32)), .val (.int (1 : Int32)), .val (.int (0 : Int32))]) rfl ?_
  refine own_iload X hx (hb hby own24_3) (pc' := 5) rfl rfl ?_
  refine own_iloadN X hx (hb hby own24_5) (pc' := 6) rfl rfl ?_
  refine own_icmpN X hx (hb hby own24_6) (pc' := 9) rfl (show (0 : Int32) < (1 : Int32) from (by decide)) ?_
  refine own_aloadN X hx (hb hby own24_9) (pc' := 10) rfl rfl rfl ?_
  refine own_iload X hx (hb hby own24_10) (pc' := 12) rfl rfl ?_
  refine own_callS X hx hZ [(.ref b), (.int (0 : Int32))] hown (own_w hw 106 rfl) (own_w hw 107 rfl) (own_w hw 76 rfl) (own_w hw 108 rfl) (by decide) (rm_gc1_0 l Z a0 hw [] b _ d0 h0 n0 Z0 S_A S_H S_L bd0 A_b) eT (W := 0) (by decide) (by decide) (cells' := 0) (slots' := 0) rfl rfl (by decide) (by decide) (by rw [hml]; rfl) (lenOf own_pd_285bBI29C rfl) rfl (S := []) rfl (Nat.le_of_eq rfl) (hb hby own24_12) (pc' := 15) rfl ?_
  intro v T h1 L lc X eT hq fN
  obtain ⟨rfl, Nq, hqe⟩ := hq
  have N := fN _ N Nq
  rw [hqe] at eT
  show own_W _ _ _ _ _ _ _ _ [(.int d0)]
  refine own_iloadN X hx (hb hby own24_15) (pc' := 16) rfl rfl ?_
  refine own_icmp X hx (hb hby own24_16) (by decide) (pcY := 22) (pcN := 19) rfl rfl (fun (hc16 : ¬ (d0 = p1)) => ?_) (fun (hc16 : d0 = p1) => ?_)
  · refine own_iinc X hx (1 : Int32) (hb hby own24_22) (pc' := 25) rfl rfl rfl (Ls' := #[.val (.ref b), .val (.int p1), .val (.int (0 : Int32)), .val (.int (1 : Int32)), .val (.int (1 : Int32))]) rfl ?_
    refine own_goto X hx (hb hby own24_25) (by decide) (pc' := 3) rfl ?_
    refine own_iload X hx (hb hby own24_3) (pc' := 5) rfl rfl ?_
    refine own_iloadN X hx (hb hby own24_5) (pc' := 6) rfl rfl ?_
    refine own_icmpY X hx (hb hby own24_6) (by decide) (pc' := 28) rfl (show ¬ ((1 : Int32) < (1 : Int32)) from (by decide)) ?_
    refine own_iconst X hx (-1 : Int32) (hb hby own24_28) (pc' := 29) rfl rfl ?_
    refine own_retI X hx hlk (t := .int) (w' := (.int (-1 : Int32))) hret (hb hby own24_29) rfl rfl (by simp) (by decide) (by decide) ?_
    rw [eT]
    exact ⟨_, rfl, N, rfl, ⟨fun _ => ⟨fun e => hc16 e, trivial⟩, fun _ => by decide⟩⟩
  · refine own_iload X hx (hb hby own24_19) (pc' := 21) rfl rfl ?_
    refine own_retI X hx hlk (t := .int) (w' := (.int (0 : Int32))) hret (hb hby own24_21) rfl rfl (by simp) (by decide) (by decide) ?_
    rw [eT]
    exact ⟨_, rfl, N, rfl, ⟨fun q => absurd q (by decide), fun q => absurd hc16 q.1⟩⟩
theorem own25_0 : decode jdk_52_method_6_code 0 = .ok (.aload_n 0, 1) := by decide +kernel
theorem own25_1 : decode jdk_52_method_6_code 1 = .ok (.arraylength, 1) := by decide +kernel
theorem own25_2 : decode jdk_52_method_6_code 2 = .ok (.iconst 1, 1) := by decide +kernel
theorem own25_3 : decode jdk_52_method_6_code 3 = .ok (.ishr, 1) := by decide +kernel
theorem own25_4 : decode jdk_52_method_6_code 4 = .ok (.ireturn, 1) := by decide +kernel
def Q_ln1 (Z : State) (b : Addr) (h0 : Heap) (n0 : Nat) (v : Option Value) (h : Heap) (L : List Loc) : Prop := v = some (.int (1 : Int32)) ∧ Fr n0 L ∧ h = h0
set_option maxRecDepth 65536 in
set_option maxHeartbeats 40000000 in
theorem rm_ln1 (l : Launch) (Z : State) (a0 : Array Value) (hw : ∀ d ∈ tables_1, d.before a0 Z = true) (ws : List Jvm.Cond) (b : Addr) (h0 : Heap) (n0 : Nat) (Z0 : n0 ≤ h0.size) (k : ClassId) (vs : List Value) (A_b : Arv Z h0 b k .byte (2 : Int32) vs (.int (0 : Int32))) : own_Met l Z ⟨"java/lang/StringUTF16", "length", "([B)I"⟩ jdk_52_method_6_code 1 (some .int) ws ⟨0, 0, 0, 0⟩ #[(.ref b)] h0 (Q_ln1 Z b h0 n0) := by
  refine own_met n0 own_pn_java_lang_StringUTF16 (fun m => ef1R m b) ?_
  intro p e s m below meth c T lc hret hx hZ hby hml hown hnm hlk X eT N
  refine own_aloadN X hx (hb hby own25_0) (pc' := 1) rfl rfl rfl ?_
  refine own_arrlen X hx hZ eT A_b (hb hby own25_1) (pc' := 2) rfl ?_
  refine own_iconst X hx (1 : Int32) (hb hby own25_2) (pc' := 3) rfl rfl ?_
  refine own_ishr X hx (hb hby own25_3) (pc' := 4) rfl ?_
  rw [show ((2 : Int32) >>> ((1 : Int32) &&& 31)) = (1 : Int32) from by decide]
  refine own_retI X hx hlk (t := .int) (w' := (.int (1 : Int32))) hret (hb hby own25_4) rfl rfl (by simp) (by decide) (by decide) ?_
  rw [eT]
  exact ⟨rfl, N, rfl⟩
theorem own26_0 : decode jdk_41_method_12_code 0 = .ok (.iload_n 0, 1) := by decide +kernel
theorem own26_1 : decode jdk_41_method_12_code 1 = .ok (.ifCond .lt 13, 3) := by decide +kernel
theorem own26_4 : decode jdk_41_method_12_code 4 = .ok (.iload_n 0, 1) := by decide +kernel
theorem own26_5 : decode jdk_41_method_12_code 5 = .ok (.iload_n 1, 1) := by decide +kernel
theorem own26_6 : decode jdk_41_method_12_code 6 = .ok (.if_icmp .gt 8, 3) := by decide +kernel
theorem own26_9 : decode jdk_41_method_12_code 9 = .ok (.iload_n 1, 1) := by decide +kernel
theorem own26_10 : decode jdk_41_method_12_code 10 = .ok (.iload_n 2, 1) := by decide +kernel
theorem own26_11 : decode jdk_41_method_12_code 11 = .ok (.if_icmp .le 11, 3) := by decide +kernel
theorem own26_22 : decode jdk_41_method_12_code 22 = .ok (.iload_n 0, 1) := by decide +kernel
theorem own26_23 : decode jdk_41_method_12_code 23 = .ok (.ireturn, 1) := by decide +kernel
theorem own_pn_jdk_internal_util_Preconditions : plainName "jdk/internal/util/Preconditions" = true := by first | (simp [plainName, overriddenIn]; done) | decide +kernel
theorem ef4IIIV (m : MethodId) (x0 : Int32) (x1 : Int32) (x2 : Int32) (x3 : Value) (hx3 : x3.isRef = true) : entryFrame m #[(.int x0), (.int x1), (.int x2), x3] 4 = mkF m 0 #[.val (.int x0), .val (.int x1), .val (.int x2), .val x3] [] := by rcases ref_cases hx3 with rfl | ⟨_, rfl⟩ <;> first | (simp [entryFrame, mkF, argsToLocals, Value.category]; done) | rfl
def Q_pf1 (Z : State) (fm : Value) (h0 : Heap) (n0 : Nat) (v : Option Value) (h : Heap) (L : List Loc) : Prop := v = some (.int (0 : Int32)) ∧ Fr n0 L ∧ h = h0
set_option maxRecDepth 65536 in
set_option maxHeartbeats 40000000 in
theorem rm_pf1 (l : Launch) (Z : State) (a0 : Array Value) (hw : ∀ d ∈ tables_1, d.before a0 Z = true) (ws : List Jvm.Cond) (fm : Value) (h0 : Heap) (n0 : Nat) (Z0 : n0 ≤ h0.size) (hfm : fm.isRef = true) : own_Met l Z ⟨"jdk/internal/util/Preconditions", "checkFromToIndex", "(IIILjava/util/function/BiFunction;)I"⟩ jdk_41_method_12_code 4 (some .int) ws ⟨0, 0, 0, 0⟩ #[(.int (0 : Int32)), (.int (1 : Int32)), (.int (1 : Int32)), fm] h0 (Q_pf1 Z fm h0 n0) := by
  refine own_met n0 own_pn_jdk_internal_util_Preconditions (fun m => ef4IIIV m (0 : Int32) (1 : Int32) (1 : Int32) fm hfm) ?_
  intro p e s m below meth c T lc hret hx hZ hby hml hown hnm hlk X eT N
  refine own_iloadN X hx (hb hby own26_0) (pc' := 1) rfl rfl ?_
  refine own_ifN X hx (hb hby own26_1) (pc' := 4) rfl (show ¬ ((0 : Int32) < (0 : Int32)) from (by decide)) ?_
  refine own_iloadN X hx (hb hby own26_4) (pc' := 5) rfl rfl ?_
  refine own_iloadN X hx (hb hby own26_5) (pc' := 6) rfl rfl ?_
  refine own_icmpN X hx (hb hby own26_6) (pc' := 9) rfl (show ¬ ((1 : Int32) < (0 : Int32)) from (by decide)) ?_
  refine own_iloadN X hx (hb hby own26_9) (pc' := 10) rfl rfl ?_
  refine own_iloadN X hx (hb hby own26_10) (pc' := 11) rfl rfl ?_
  refine own_icmpY X hx (hb hby own26_11) (by decide) (pc' := 22) rfl (show ¬ ((1 : Int32) < (1 : Int32)) from (by decide)) ?_
  refine own_iloadN X hx (hb hby own26_22) (pc' := 23) rfl rfl ?_
  refine own_retI X hx hlk (t := .int) (w' := (.int (0 : Int32))) hret (hb hby own26_23) rfl rfl (by simp) (by decide) (by decide) ?_
  rw [eT]
  exact ⟨rfl, N, rfl⟩
theorem own27_0 : decode jdk_42_method_158_code 0 = .ok (.iload_n 0, 1) := by decide +kernel
theorem own27_1 : decode jdk_42_method_158_code 1 = .ok (.iload_n 1, 1) := by decide +kernel
theorem own27_2 : decode jdk_42_method_158_code 2 = .ok (.iload_n 2, 1) := by decide +kernel
theorem own27_3 : decode jdk_42_method_158_code 3 = .ok (.getstatic 1053, 3) := by decide +kernel
theorem own27_6 : decode jdk_42_method_158_code 6 = .ok (.invokestatic 1062, 3) := by decide +kernel
theorem own_pd_28IIILjava2futil2ffunction2fBiFunction3b29I : parseMethodDescriptor "(IIILjava/util/function/BiFunction;)I" = some ⟨[.int, .int, .int, (.object "java/util/function/BiFunction")], some .int⟩ := by decide +kernel
theorem own27_9 : decode jdk_42_method_158_code 9 = .ok (.pop, 1) := by decide +kernel
theorem own27_10 : decode jdk_42_method_158_code 10 = .ok (.return_, 1) := by decide +kernel
theorem ef3III (m : MethodId) (x0 : Int32) (x1 : Int32) (x2 : Int32) : entryFrame m #[(.int x0), (.int x1), (.int x2)] 3 = mkF m 0 #[.val (.int x0), .val (.int x1), .val (.int x2)] [] := by first | (simp [entryFrame, mkF, argsToLocals, Value.category]; done) | rfl
def Q_sb1 (Z : State) (fm : Value) (h0 : Heap) (n0 : Nat) (v : Option Value) (h : Heap) (L : List Loc) : Prop := v = none ∧ Fr n0 L ∧ h = h0
set_option maxRecDepth 65536 in
set_option maxHeartbeats 40000000 in
theorem rm_sb1 (l : Launch) (Z : State) (a0 : Array Value) (hw : ∀ d ∈ tables_1, d.before a0 Z = true) (ws : List Jvm.Cond) (fm : Value) (h0 : Heap) (n0 : Nat) (Z0 : n0 ≤ h0.size) (S_F : Sta Z h0 "jdk/internal/util/Preconditions" "SIOOBE_FORMATTER" "Ljava/util/function/BiFunction;" fm) (hfm : fm.isRef = true) : own_Met l Z ⟨"java/lang/String", "checkBoundsBeginEnd", "(III)V"⟩ jdk_42_method_158_code 3 none ws ⟨1, 0, 0, 20⟩ #[(.int (0 : Int32)), (.int (1 : Int32)), (.int (1 : Int32))] h0 (Q_sb1 Z fm h0 n0) := by
  refine own_met n0 own_pn_java_lang_String (fun m => ef3III m (0 : Int32) (1 : Int32) (1 : Int32)) ?_
  intro p e s m below meth c T lc hret hx hZ hby hml hown hnm hlk X eT N
  refine own_iloadN X hx (hb hby own27_0) (pc' := 1) rfl rfl ?_
  refine own_iloadN X hx (hb hby own27_1) (pc' := 2) rfl rfl ?_
  refine own_iloadN X hx (hb hby own27_2) (pc' := 3) rfl rfl ?_
  refine own_getS X hx hZ hown (host := "") (Or.inl (own_w hw 127 rfl)) Via.refl eT S_F (hb hby own27_3) (pc' := 6) rfl ?_
  intro T X eT
  refine own_callS X hx hZ [(.int (0 : Int32)), (.int (1 : Int32)), (.int (1 : Int32)), fm] hown (own_w hw 129 rfl) (own_w hw 130 rfl) (own_w hw 128 rfl) (own_w hw 131 rfl) (by decide) (rm_pf1 l Z a0 hw [] fm h0 n0 Z0 hfm) eT (W := 0) (by decide) (by decide) (cells' := 0) (slots' := 0) rfl rfl (by decide) (by decide) (by rw [hml]; rfl) (lenOf own_pd_28IIILjava2futil2ffunction2fBiFunction3b29I rfl) rfl (S := []) rfl (Nat.le_of_eq rfl) (hb hby own27_6) (pc' := 9) rfl ?_
  intro v T h1 L lc X eT hq fN
  obtain ⟨rfl, Nq, hqe⟩ := hq
  have N := fN _ N Nq
  rw [hqe] at eT
  show own_W _ _ _ _ _ _ _ _ [(.int (0 : Int32))]
  refine own_pop X hx (hb hby own27_9) (pc' := 10) rfl rfl ?_
  refine own_ret0 X hx hlk hret (hb hby own27_10) (by decide) (by decide) ?_
  rw [eT]
  exact ⟨rfl, N, rfl⟩
theorem own28_0 : decode jdk_52_method_93_code 0 = .ok (.iload_n 0, 1) := by decide +kernel
theorem own28_1 : decode jdk_52_method_93_code 1 = .ok (.iload_n 1, 1) := by decide +kernel
theorem own28_2 : decode jdk_52_method_93_code 2 = .ok (.aload_n 2, 1) := by decide +kernel
theorem own28_3 : decode jdk_52_method_93_code 3 = .ok (.invokestatic 48, 3) := by decide +kernel
theorem own_pd_285bB29I : parseMethodDescriptor "([B)I" = some ⟨[(.array .byte)], some .int⟩ := by decide +kernel
theorem own28_6 : decode jdk_52_method_93_code 6 = .ok (.invokestatic 241, 3) := by decide +kernel
theorem own_pd_28III29V : parseMethodDescriptor "(III)V" = some ⟨[.int, .int, .int], none⟩ := by decide +kernel
theorem own28_9 : decode jdk_52_method_93_code 9 = .ok (.return_, 1) := by decide +kernel
theorem ef3IIR (m : MethodId) (x0 : Int32) (x1 : Int32) (x2 : Addr) : entryFrame m #[(.int x0), (.int x1), (.ref x2)] 3 = mkF m 0 #[.val (.int x0), .val (.int x1), .val (.ref x2)] [] := by first | (simp [entryFrame, mkF, argsToLocals, Value.category]; done) | rfl
def Q_ub1 (Z : State) (b : Addr) (fm : Value) (h0 : Heap) (n0 : Nat) (v : Option Value) (h : Heap) (L : List Loc) : Prop := v = none ∧ Fr n0 L ∧ h = h0
set_option maxRecDepth 65536 in
set_option maxHeartbeats 40000000 in
theorem rm_ub1 (l : Launch) (Z : State) (a0 : Array Value) (hw : ∀ d ∈ tables_1, d.before a0 Z = true) (ws : List Jvm.Cond) (b : Addr) (fm : Value) (h0 : Heap) (n0 : Nat) (Z0 : n0 ≤ h0.size) (S_F : Sta Z h0 "jdk/internal/util/Preconditions" "SIOOBE_FORMATTER" "Ljava/util/function/BiFunction;" fm) (hfm : fm.isRef = true) (k : ClassId) (vs : List Value) (A_b : Arv Z h0 b k .byte (2 : Int32) vs (.int (0 : Int32))) : own_Met l Z ⟨"java/lang/StringUTF16", "checkBoundsBeginEnd", "(II[B)V"⟩ jdk_52_method_93_code 3 none ws ⟨2, 0, 0, 39⟩ #[(.int (0 : Int32)), (.int (1 : Int32)), (.ref b)] h0 (Q_ub1 Z b fm h0 n0) := by
  refine own_met n0 own_pn_java_lang_StringUTF16 (fun m => ef3IIR m (0 : Int32) (1 : Int32) b) ?_
  intro p e s m below meth c T lc hret hx hZ hby hml hown hnm hlk X eT N
  refine own_iloadN X hx (hb hby own28_0) (pc' := 1) rfl rfl ?_
  refine own_iloadN X hx (hb hby own28_1) (pc' := 2) rfl rfl ?_
  refine own_aloadN X hx (hb hby own28_2) (pc' := 3) rfl rfl rfl ?_
  refine own_callS X hx hZ [(.ref b)] hown (own_w hw 121 rfl) (own_w hw 122 rfl) (own_w hw 76 rfl) (own_w hw 123 rfl) (by decide) (rm_ln1 l Z a0 hw [] b h0 n0 Z0 _ _ A_b) eT (W := 2) (by decide) (by decide) (cells' := 0) (slots' := 0) rfl rfl (by decide) (by decide) (by rw [hml]; rfl) (lenOf own_pd_285bB29I rfl) rfl (S := [(.int (1 : Int32)), (.int (0 : Int32))]) rfl (Nat.le_of_eq rfl) (hb hby own28_3) (pc' := 6) rfl ?_
  intro v T h1 L lc X eT hq fN
  obtain ⟨rfl, Nq, hqe⟩ := hq
  have N := fN _ N Nq
  rw [hqe] at eT
  show own_W _ _ _ _ _ _ _ _ [(.int (1 : Int32)), (.int (1 : Int32)), (.int (0 : Int32))]
  refine own_callS X hx hZ [(.int (0 : Int32)), (.int (1 : Int32)), (.int (1 : Int32))] hown (own_w hw 124 rfl) (own_w hw 125 rfl) (own_w hw 10 rfl) (own_w hw 126 rfl) (by decide) (rm_sb1 l Z a0 hw [] fm h0 n0 Z0 S_F hfm) eT (W := 0) (by decide) (by decide) (cells' := 0) (slots' := 0) rfl rfl (by decide) (by decide) (by rw [hml]; rfl) (lenOf own_pd_28III29V rfl) rfl (S := []) rfl (Nat.le_of_eq rfl) (hb hby own28_6) (pc' := 9) rfl ?_
  intro v T h2 L lc X eT hq fN
  obtain ⟨rfl, Nq, hqe⟩ := hq
  have N := fN _ N Nq
  rw [hqe] at eT
  show own_W _ _ _ _ _ _ _ _ []
  refine own_ret0 X hx hlk hret (hb hby own28_9) (by decide) (by decide) ?_
  rw [eT]
  exact ⟨rfl, N, rfl⟩
theorem own29_0 : decode jdk_52_method_47_code 0 = .ok (.iload_n 2, 1) := by decide +kernel
theorem own29_1 : decode jdk_52_method_47_code 1 = .ok (.iload_n 3, 1) := by decide +kernel
theorem own29_2 : decode jdk_52_method_47_code 2 = .ok (.aload_n 0, 1) := by decide +kernel
theorem own29_3 : decode jdk_52_method_47_code 3 = .ok (.invokestatic 96, 3) := by decide +kernel
theorem own_pd_28II5bB29V : parseMethodDescriptor "(II[B)V" = some ⟨[.int, .int, (.array .byte)], none⟩ := by decide +kernel
theorem own29_6 : decode jdk_52_method_47_code 6 = .ok (.aload_n 0, 1) := by decide +kernel
theorem own29_7 : decode jdk_52_method_47_code 7 = .ok (.iload_n 1, 1) := by decide +kernel
theorem own29_8 : decode jdk_52_method_47_code 8 = .ok (.iload_n 2, 1) := by decide +kernel
theorem own29_9 : decode jdk_52_method_47_code 9 = .ok (.iload_n 3, 1) := by decide +kernel
theorem own29_10 : decode jdk_52_method_47_code 10 = .ok (.invokestatic 244, 3) := by decide +kernel
theorem own29_13 : decode jdk_52_method_47_code 13 = .ok (.ireturn, 1) := by decide +kernel
def Q_uc1 (Z : State) (b : Addr) (p1 : Int32) (fm : Value) (d0 : Int32) (h0 : Heap) (n0 : Nat) (v : Option Value) (h : Heap) (L : List Loc) : Prop := ∃ z : Int32, v = some (.int z) ∧ Fr n0 L ∧ h = h0 ∧ (z < 0 ↔ (¬ (d0 = p1) ∧ True))
set_option maxRecDepth 65536 in
set_option maxHeartbeats 40000000 in
theorem rm_uc1 (l : Launch) (Z : State) (a0 : Array Value) (hw : ∀ d ∈ tables_1, d.before a0 Z = true) (ws : List Jvm.Cond) (b : Addr) (p1 : Int32) (fm : Value) (d0 : Int32) (h0 : Heap) (n0 : Nat) (Z0 : n0 ≤ h0.size) (S_A : Sta Z h0 "java/lang/StringUTF16" "$assertionsDisabled" "Z" (.int (1 : Int32))) (S_H : Sta Z h0 "java/lang/StringUTF16" "HI_BYTE_SHIFT" "I" (.int (0 : Int32))) (S_L : Sta Z h0 "java/lang/StringUTF16" "LO_BYTE_SHIFT" "I" (.int (8 : Int32))) (S_F : Sta Z h0 "jdk/internal/util/Preconditions" "SIOOBE_FORMATTER" "Ljava/util/function/BiFunction;" fm) (hfm : fm.isRef = true) (hp : own_p1 p1) (k : ClassId) (A_b : Arv Z h0 b k .byte (2 : Int32) [(.int (own_lb d0)), (.int (own_hb d0))] (.int (0 : Int32))) (bd0 : own_c16 d0) : own_Met l Z ⟨"java/lang/StringUTF16", "indexOfChar", "([BIII)I"⟩ jdk_52_method_47_code 4 (some .int) ws ⟨3, 0, 0, 58⟩ #[(.ref b), (.int p1), (.int (0 : Int32)), (.int (1 : Int32))] h0 (Q_uc1 Z b p1 fm d0 h0 n0) := by
  refine own_met n0 own_pn_java_lang_StringUTF16 (fun m => ef4RIII m b p1 (0 : Int32) (1 : Int32)) ?_
  intro p e s m below meth c T lc hret hx hZ hby hml hown hnm hlk X eT N
  refine own_iloadN X hx (hb hby own29_0) (pc' := 1) rfl rfl ?_
  refine own_iloadN X hx (hb hby own29_1) (pc' := 2) rfl rfl ?_
  refine own_aloadN X hx (hb hby own29_2) (pc' := 3) rfl rfl rfl ?_
  refine own_callS X hx hZ [(.int (0 : Int32)), (.int (1 : Int32)), (.ref b)] hown (own_w hw 118 rfl) (own_w hw 119 rfl) (own_w hw 76 rfl) (own_w hw 120 rfl) (by decide) (rm_ub1 l Z a0 hw [] b fm h0 n0 Z0 S_F hfm _ _ A_b) eT (W := 0) (by decide) (by decide) (cells' := 0) (slots' := 0) rfl rfl (by decide) (by decide) (by rw [hml]; rfl) (lenOf own_pd_28II5bB29V rfl) rfl (S := []) rfl (Nat.le_of_eq rfl) (hb hby own29_3) (pc' := 6) rfl ?_
  intro v T h1 L lc X eT hq fN
  obtain ⟨rfl, Nq, hqe⟩ := hq
  have N := fN _ N Nq
  rw [hqe] at eT
  show own_W _ _ _ _ _ _ _ _ []
  refine own_aloadN X hx (hb hby own29_6) (pc' := 7) rfl rfl rfl ?_
  refine own_iloadN X hx (hb hby own29_7) (pc' := 8) rfl rfl ?_
  refine own_iloadN X hx (hb hby own29_8) (pc' := 9) rfl rfl ?_
  refine own_iloadN X hx (hb hby own29_9) (pc' := 10) rfl rfl ?_
  refine own_callS X hx hZ [(.ref b), (.int p1), (.int (0 : Int32)), (.int (1 : Int32))] hown (own_w hw 132 rfl) (own_w hw 133 rfl) (own_w hw 76 rfl) (own_w hw 134 rfl) (by decide) (rm_uu1 l Z a0 hw [] b p1 fm d0 h0 n0 Z0 S_A S_H S_L S_F hfm hp _ A_b bd0) eT (W := 0) (by decide) (by decide) (cells' := 0) (slots' := 0) rfl rfl (by decide) (by decide) (by rw [hml]; rfl) (lenOf own_pd_285bBIII29I rfl) rfl (S := []) rfl (Nat.le_of_eq rfl) (hb hby own29_10) (pc' := 13) rfl ?_
  intro v T h2 L lc X eT hq fN
  obtain ⟨zz, rfl, Nq, hqe, hz⟩ := hq
  have N := fN _ N Nq
  rw [hqe] at eT
  show own_W _ _ _ _ _ _ _ _ [(.int zz)]
  refine own_retI X hx hlk (t := .int) (w' := (.int zz)) hret (hb hby own29_13) rfl rfl (by simp) (by decide) (by decide) ?_
  rw [eT]
  exact ⟨_, rfl, N, rfl, hz⟩
theorem own30_0 : decode jdk_52_method_40_code 0 = .ok (.iload_n 2, 1) := by decide +kernel
theorem own30_1 : decode jdk_52_method_40_code 1 = .ok (.iconst 0, 1) := by decide +kernel
theorem own30_2 : decode jdk_52_method_40_code 2 = .ok (.invokestatic 224, 3) := by decide +kernel
theorem own30_5 : decode jdk_52_method_40_code 5 = .ok (.istore_n 2, 1) := by decide +kernel
theorem own30_6 : decode jdk_52_method_40_code 6 = .ok (.iload_n 3, 1) := by decide +kernel
theorem own30_7 : decode jdk_52_method_40_code 7 = .ok (.aload_n 0, 1) := by decide +kernel
theorem own30_8 : decode jdk_52_method_40_code 8 = .ok (.arraylength, 1) := by decide +kernel
theorem own30_9 : decode jdk_52_method_40_code 9 = .ok (.iconst 1, 1) := by decide +kernel
theorem own30_10 : decode jdk_52_method_40_code 10 = .ok (.ishr, 1) := by decide +kernel
theorem own30_11 : decode jdk_52_method_40_code 11 = .ok (.invokestatic 183, 3) := by decide +kernel
theorem own30_14 : decode jdk_52_method_40_code 14 = .ok (.istore_n 3, 1) := by decide +kernel
theorem own30_15 : decode jdk_52_method_40_code 15 = .ok (.iload_n 2, 1) := by decide +kernel
theorem own30_16 : decode jdk_52_method_40_code 16 = .ok (.iload_n 3, 1) := by decide +kernel
theorem own30_17 : decode jdk_52_method_40_code 17 = .ok (.if_icmp .lt 5, 3) := by decide +kernel
theorem own30_22 : decode jdk_52_method_40_code 22 = .ok (.iload_n 1, 1) := by decide +kernel
theorem own30_23 : decode jdk_52_method_40_code 23 = .ok (.ldc 227, 2) := by decide +kernel
theorem own30_25 : decode jdk_52_method_40_code 25 = .ok (.if_icmp .ge 11, 3) := by decide +kernel
theorem own30_28 : decode jdk_52_method_40_code 28 = .ok (.aload_n 0, 1) := by decide +kernel
theorem own30_29 : decode jdk_52_method_40_code 29 = .ok (.iload_n 1, 1) := by decide +kernel
theorem own30_30 : decode jdk_52_method_40_code 30 = .ok (.iload_n 2, 1) := by decide +kernel
theorem own30_31 : decode jdk_52_method_40_code 31 = .ok (.iload_n 3, 1) := by decide +kernel
theorem own30_32 : decode jdk_52_method_40_code 32 = .ok (.invokestatic 228, 3) := by decide +kernel
theorem own30_35 : decode jdk_52_method_40_code 35 = .ok (.ireturn, 1) := by decide +kernel
def Q_ux1 (Z : State) (b : Addr) (p1 : Int32) (fm : Value) (d0 : Int32) (h0 : Heap) (n0 : Nat) (v : Option Value) (h : Heap) (L : List Loc) : Prop := ∃ z : Int32, v = some (.int z) ∧ Fr n0 L ∧ h = h0 ∧ (z < 0 ↔ (¬ (d0 = p1) ∧ True))
set_option maxRecDepth 65536 in
set_option maxHeartbeats 40000000 in
theorem rm_ux1 (l : Launch) (Z : State) (a0 : Array Value) (hw : ∀ d ∈ tables_1, d.before a0 Z = true) (ws : List Jvm.Cond) (b : Addr) (p1 : Int32) (fm : Value) (d0 : Int32) (h0 : Heap) (n0 : Nat) (Z0 : n0 ≤ h0.size) (S_A : Sta Z h0 "java/lang/StringUTF16" "$assertionsDisabled" "Z" (.int (1 : Int32))) (S_H : Sta Z h0 "java/lang/StringUTF16" "HI_BYTE_SHIFT" "I" (.int (0 : Int32))) (S_L : Sta Z h0 "java/lang/StringUTF16" "LO_BYTE_SHIFT" "I" (.int (8 : Int32))) (S_F : Sta Z h0 "jdk/internal/util/Preconditions" "SIOOBE_FORMATTER" "Ljava/util/function/BiFunction;" fm) (hfm : fm.isRef = true) (hp : own_p1 p1) (k : ClassId) (A_b : Arv Z h0 b k .byte (2 : Int32) [(.int (own_lb d0)), (.int (own_hb d0))] (.int (0 : Int32))) (bd0 : own_c16 d0) : own_Met l Z ⟨"java/lang/StringUTF16", "indexOf", "([BIII)I"⟩ jdk_52_method_40_code 4 (some .int) ws ⟨4, 0, 0, 78⟩ #[(.ref b), (.int p1), (.int (0 : Int32)), (.int (1 : Int32))] h0 (Q_ux1 Z b p1 fm d0 h0 n0) := by
  refine own_met n0 own_pn_java_lang_StringUTF16 (fun m => ef4RIII m b p1 (0 : Int32) (1 : Int32)) ?_
  intro p e s m below meth c T lc hret hx hZ hby hml hown hnm hlk X eT N
  refine own_iloadN X hx (hb hby own30_0) (pc' := 1) rfl rfl ?_
  refine own_iconst X hx (0 : Int32) (hb hby own30_1) (pc' := 2) rfl rfl ?_
  refine own_callS X hx hZ [(.int (0 : Int32)), (.int (0 : Int32))] hown (own_w hw 112 rfl) (own_w hw 68 rfl) (own_w hw 69 rfl) (own_w hw 70 rfl) (by decide) (rm_max l Z a0 hw [] (0 : Int32) (0 : Int32) h0 n0 Z0 (by decide)) eT (W := 0) (by decide) (by decide) (cells' := 0) (slots' := 0) rfl rfl (by decide) (by decide) (by rw [hml]; rfl) (lenOf own_pd_28II29I rfl) rfl (S := []) rfl (Nat.le_of_eq rfl) (hb hby own30_2) (pc' := 5) rfl ?_
  intro v T h1 L lc X eT hq fN
  obtain ⟨rfl, Nq, hqe⟩ := hq
  have N := fN _ N Nq
  rw [hqe] at eT
  show own_W _ _ _ _ _ _ _ _ [(.int (0 : Int32))]
  refine own_istoreN X hx (hb hby own30_5) (pc' := 6) rfl (Ls' := #[.val (.ref b), .val (.int p1), .val (.int (0 : Int32)), .val (.int (1 : Int32))]) rfl ?_
  refine own_iloadN X hx (hb hby own30_6) (pc' := 7) rfl rfl ?_
  refine own_aloadN X hx (hb hby own30_7) (pc' := 8) rfl rfl rfl ?_
  refine own_arrlen X hx hZ eT A_b (hb hby own30_8) (pc' := 9) rfl ?_
  refine own_iconst X hx (1 : Int32) (hb hby own30_9) (pc' := 10) rfl rfl ?_
  refine own_ishr X hx (hb hby own30_10) (pc' := 11) rfl ?_
  rw [show ((2 : Int32) >>> ((1 : Int32) &&& 31)) = (1 : Int32) from by decide]
  refine own_callS X hx hZ [(.int (1 : Int32)), (.int (1 : Int32))] hown (own_w hw 113 rfl) (own_w hw 72 rfl) (own_w hw 69 rfl) (own_w hw 73 rfl) (by decide) (rm_min l Z a0 hw [] (1 : Int32) (1 : Int32) h0 n0 Z0 (by decide)) eT (W := 0) (by decide) (by decide) (cells' := 0) (slots' := 0) rfl rfl (by decide) (by decide) (by rw [hml]; rfl) (lenOf own_pd_28II29I rfl) rfl (S := []) rfl (Nat.le_of_eq rfl) (hb hby own30_11) (pc' := 14) rfl ?_
  intro v T h2 L lc X eT hq fN
  obtain ⟨rfl, Nq, hqe⟩ := hq
  have N := fN _ N Nq
  rw [hqe] at eT
  show own_W _ _ _ _ _ _ _ _ [(.int (1 : Int32))]
  refine own_istoreN X hx (hb hby own30_14) (pc' := 15) rfl (Ls' := #[.val (.ref b), .val (.int p1), .val (.int (0 : Int32)), .val (.int (1 : Int32))]) rfl ?_
  refine own_iloadN X hx (hb hby own30_15) (pc' := 16) rfl rfl ?_
  refine own_iloadN X hx (hb hby own30_16) (pc' := 17) rfl rfl ?_
  refine own_icmpY X hx (hb hby own30_17) (by decide) (pc' := 22) rfl (show (0 : Int32) < (1 : Int32) from (by decide)) ?_
  refine own_iloadN X hx (hb hby own30_22) (pc' := 23) rfl rfl ?_
  refine own_ldc X hx hZ hown (own_w hw 114 rfl) (hb hby own30_23) (pc' := 25) rfl ?_
  refine own_icmpN X hx (hb hby own30_25) (pc' := 28) rfl (show p1 < (65536 : Int32) from (own_q65 hp)) ?_
  refine own_aloadN X hx (hb hby own30_28) (pc' := 29) rfl rfl rfl ?_
  refine own_iloadN X hx (hb hby own30_29) (pc' := 30) rfl rfl ?_
  refine own_iloadN X hx (hb hby own30_30) (pc' := 31) rfl rfl ?_
  refine own_iloadN X hx (hb hby own30_31) (pc' := 32) rfl rfl ?_
  refine own_callS X hx hZ [(.ref b), (.int p1), (.int (0 : Int32)), (.int (1 : Int32))] hown (own_w hw 115 rfl) (own_w hw 116 rfl) (own_w hw 76 rfl) (own_w hw 117 rfl) (by decide) (rm_uc1 l Z a0 hw [] b p1 fm d0 h0 n0 Z0 S_A S_H S_L S_F hfm hp _ A_b bd0) eT (W := 0) (by decide) (by decide) (cells' := 0) (slots' := 0) rfl rfl (by decide) (by decide) (by rw [hml]; rfl) (lenOf own_pd_285bBIII29I rfl) rfl (S := []) rfl (Nat.le_of_eq rfl) (hb hby own30_32) (pc' := 35) rfl ?_
  intro v T h3 L lc X eT hq fN
  obtain ⟨zz, rfl, Nq, hqe, hz⟩ := hq
  have N := fN _ N Nq
  rw [hqe] at eT
  show own_W _ _ _ _ _ _ _ _ [(.int zz)]
  refine own_retI X hx hlk (t := .int) (w' := (.int zz)) hret (hb hby own30_35) rfl rfl (by simp) (by decide) (by decide) ?_
  rw [eT]
  exact ⟨_, rfl, N, rfl, hz⟩
def Q_lenU1 (Z : State) (a1 b : Addr) (cs : Int32) (h0 : Heap) (n0 : Nat) (v : Option Value) (h : Heap) (L : List Loc) : Prop := v = some (.int (1 : Int32)) ∧ Fr n0 L ∧ h = h0
set_option maxRecDepth 65536 in
set_option maxHeartbeats 40000000 in
theorem rm_lenU1 (l : Launch) (Z : State) (a0 : Array Value) (hw : ∀ d ∈ tables_1, d.before a0 Z = true) (ws : List Jvm.Cond) (a1 b : Addr) (cs : Int32) (h0 : Heap) (n0 : Nat) (Z0 : n0 ≤ h0.size) (S_C : Sta Z h0 "java/lang/String" "COMPACT_STRINGS" "Z" (.int cs)) (hcs : ¬ cs = 0) (E_a1 : Exa Z h0 a1 "java/lang/String") (F_c : Fld Z h0 a1 "java/lang/String" "coder" "B" (.int (1 : Int32))) (F_v : Fld Z h0 a1 "java/lang/String" "value" "[B" (.ref b)) (k : ClassId) (vs : List Value) (A_b : Arv Z h0 b k .byte (2 : Int32) vs (.int (0 : Int32))) : own_Met l Z ⟨"java/lang/String", "length", "()I"⟩ jdk_42_method_54_code 1 (some .int) ws ⟨1, 0, 0, 13⟩ #[(.ref a1)] h0 (Q_lenU1 Z a1 b cs h0 n0) := by
  refine own_met n0 own_pn_java_lang_String (fun m => ef1R m a1) ?_
  intro p e s m below meth c T lc hret hx hZ hby hml hown hnm hlk X eT N
  refine own_aloadN X hx (hb hby own18_0) (pc' := 1) rfl rfl rfl ?_
  refine own_getF X hx hZ hown (host := "") (Or.inl (own_w hw 28 rfl)) Via.refl eT F_v (hb hby own18_1) (pc' := 4) rfl ?_
  intro T X eT
  refine own_arrlen X hx hZ eT A_b (hb hby own18_4) (pc' := 5) rfl ?_
  refine own_aloadN X hx (hb hby own18_5) (pc' := 6) rfl rfl rfl ?_
  refine own_callV X hx hZ (y := (⟨"java/lang/String", "coder", "()B"⟩ : MethodName)) a1 [] hown (own_w hw 55 rfl) (own_w hw 56 rfl) (own_w hw 58 rfl) (own_w hw 57 rfl) (own_w hw 10 rfl) (own_w hw 59 rfl) (by decide) (rm_coderU l Z a0 hw [] a1 cs h0 n0 Z0 S_C hcs F_c) E_a1 eT (W := 1) (by decide) (by decide) (cells' := 0) (slots' := 0) rfl rfl (by decide) (by decide) (by rw [hml]; rfl) (lenOf own_pd_2829B rfl) rfl (S := [(.int (2 : Int32))]) rfl (Nat.le_of_eq rfl) (hb hby own18_6) (pc' := 9) rfl ?_
  intro v T h1 L lc X eT hq fN
  obtain ⟨rfl, Nq, hqe⟩ := hq
  have N := fN _ N Nq
  rw [hqe] at eT
  show own_W _ _ _ _ _ _ _ _ [(.int (1 : Int32)), (.int (2 : Int32))]
  refine own_ishr X hx (hb hby own18_9) (pc' := 10) rfl ?_
  rw [show ((2 : Int32) >>> ((1 : Int32) &&& 31)) = (1 : Int32) from by decide]
  refine own_retI X hx hlk (t := .int) (w' := (.int (1 : Int32))) hret (hb hby own18_10) rfl rfl (by simp) (by decide) (by decide) ?_
  rw [eT]
  exact ⟨rfl, N, rfl⟩
def Q_siL1 (Z : State) (a1 b : Addr) (p1 cs : Int32) (d0 : Int32) (h0 : Heap) (n0 : Nat) (v : Option Value) (h : Heap) (L : List Loc) : Prop := ∃ z : Int32, v = some (.int z) ∧ Fr n0 L ∧ h = h0 ∧ (z < 0 ↔ (¬ (d0 = p1) ∧ True))
set_option maxRecDepth 65536 in
set_option maxHeartbeats 40000000 in
theorem rm_siL1 (l : Launch) (Z : State) (a0 : Array Value) (hw : ∀ d ∈ tables_1, d.before a0 Z = true) (ws : List Jvm.Cond) (a1 b : Addr) (p1 cs : Int32) (d0 : Int32) (h0 : Heap) (n0 : Nat) (Z0 : n0 ≤ h0.size) (S_C : Sta Z h0 "java/lang/String" "COMPACT_STRINGS" "Z" (.int cs)) (hcs : ¬ cs = 0) (E_a1 : Exa Z h0 a1 "java/lang/String") (F_c : Fld Z h0 a1 "java/lang/String" "coder" "B" (.int (0 : Int32))) (F_v : Fld Z h0 a1 "java/lang/String" "value" "[B" (.ref b)) (hp : own_p1 p1) (k : ClassId) (A_b : Arv Z h0 b k .byte (1 : Int32) [(.int (nar .byte d0.toInt8.toInt32))] (.int (0 : Int32))) (bd0 : own_c16 d0) (hall : (¬ ((255 : Int32) < d0))) : own_Met l Z ⟨"java/lang/String", "indexOf", "(II)I"⟩ jdk_42_method_80_code 3 (some .int) ws ⟨2, 0, 0, 42⟩ #[(.ref a1), (.int p1), (.int (0 : Int32))] h0 (Q_siL1 Z a1 b p1 cs d0 h0 n0) := by
  refine own_met n0 own_pn_java_lang_String (fun m => ef3RII m a1 p1 (0 : Int32)) ?_
  intro p e s m below meth c T lc hret hx hZ hby hml hown hnm hlk X eT N
  refine own_aloadN X hx (hb hby own20_0) (pc' := 1) rfl rfl rfl ?_
  refine own_callV X hx hZ (y := (⟨"java/lang/String", "isLatin1", "()Z"⟩ : MethodName)) a1 [] hown (own_w hw 44 rfl) (own_w hw 45 rfl) (own_w hw 47 rfl) (own_w hw 46 rfl) (own_w hw 10 rfl) (own_w hw 48 rfl) (by decide) (rm_isLat l Z a0 hw [] a1 cs h0 n0 Z0 S_C hcs F_c) E_a1 eT (W := 0) (by decide) (by decide) (cells' := 0) (slots' := 0) rfl rfl (by decide) (by decide) (by rw [hml]; rfl) (lenOf own_pd_2829Z rfl) rfl (S := []) rfl (Nat.le_of_eq rfl) (hb hby own20_1) (pc' := 4) rfl ?_
  intro v T h1 L lc X eT hq fN
  obtain ⟨rfl, Nq, hqe⟩ := hq
  have N := fN _ N Nq
  rw [hqe] at eT
  show own_W _ _ _ _ _ _ _ _ [(.int (1 : Int32))]
  refine own_ifN X hx (hb hby own20_4) (pc' := 7) rfl (show ¬ ((1 : Int32) = (0 : Int32)) from (by decide)) ?_
  refine own_aloadN X hx (hb hby own20_7) (pc' := 8) rfl rfl rfl ?_
  refine own_getF X hx hZ hown (host := "") (Or.inl (own_w hw 28 rfl)) Via.refl eT F_v (hb hby own20_8) (pc' := 11) rfl ?_
  intro T X eT
  refine own_iloadN X hx (hb hby own20_11) (pc' := 12) rfl rfl ?_
  refine own_iloadN X hx (hb hby own20_12) (pc' := 13) rfl rfl ?_
  refine own_aloadN X hx (hb hby own20_13) (pc' := 14) rfl rfl rfl ?_
  refine own_callV X hx hZ (y := (⟨"java/lang/String", "length", "()I"⟩ : MethodName)) a1 [] hown (own_w hw 50 rfl) (own_w hw 51 rfl) (own_w hw 53 rfl) (own_w hw 52 rfl) (own_w hw 10 rfl) (own_w hw 54 rfl) (by decide) (rm_len l Z a0 hw [] a1 b cs (1 : Int32) h0 n0 Z0 S_C hcs E_a1 F_c F_v _ _ A_b) E_a1 eT (W := 3) (by decide) (by decide) (cells' := 0) (slots' := 0) rfl rfl (by decide) (by decide) (by rw [hml]; rfl) (lenOf own_pd_2829I rfl) rfl (S := [(.int (0 : Int32)), (.int p1), (.ref b)]) rfl (Nat.le_of_eq rfl) (hb hby own20_14) (pc' := 17) rfl ?_
  intro v T h2 L lc X eT hq fN
  obtain ⟨rfl, Nq, hqe⟩ := hq
  have N := fN _ N Nq
  rw [hqe] at eT
  show own_W _ _ _ _ _ _ _ _ [(.int (1 : Int32)), (.int (0 : Int32)), (.int p1), (.ref b)]
  refine own_callS X hx hZ [(.ref b), (.int p1), (.int (0 : Int32)), (.int (1 : Int32))] hown (own_w hw 60 rfl) (own_w hw 61 rfl) (own_w hw 62 rfl) (own_w hw 63 rfl) (by decide) (rm_lx1 l Z a0 hw [] b p1 d0 h0 n0 Z0 hp _ A_b bd0 hall) eT (W := 0) (by decide) (by decide) (cells' := 0) (slots' := 0) rfl rfl (by decide) (by decide) (by rw [hml]; rfl) (lenOf own_pd_285bBIII29I rfl) rfl (S := []) rfl (Nat.le_of_eq rfl) (hb hby own20_17) (pc' := 20) rfl ?_
  intro v T h3 L lc X eT hq fN
  obtain ⟨zz, rfl, Nq, hqe, hz⟩ := hq
  have N := fN _ N Nq
  rw [hqe] at eT
  show own_W _ _ _ _ _ _ _ _ [(.int zz)]
  refine own_goto X hx (hb hby own20_20) (by decide) (pc' := 36) rfl ?_
  refine own_retI X hx hlk (t := .int) (w' := (.int zz)) hret (hb hby own20_36) rfl rfl (by simp) (by decide) (by decide) ?_
  rw [eT]
  exact ⟨_, rfl, N, rfl, hz⟩
def Q_sjL1 (Z : State) (a1 b : Addr) (p1 cs : Int32) (d0 : Int32) (h0 : Heap) (n0 : Nat) (v : Option Value) (h : Heap) (L : List Loc) : Prop := ∃ z : Int32, v = some (.int z) ∧ Fr n0 L ∧ h = h0 ∧ (z < 0 ↔ (¬ (d0 = p1) ∧ True))
set_option maxRecDepth 65536 in
set_option maxHeartbeats 40000000 in
theorem rm_sjL1 (l : Launch) (Z : State) (a0 : Array Value) (hw : ∀ d ∈ tables_1, d.before a0 Z = true) (ws : List Jvm.Cond) (a1 b : Addr) (p1 cs : Int32) (d0 : Int32) (h0 : Heap) (n0 : Nat) (Z0 : n0 ≤ h0.size) (S_C : Sta Z h0 "java/lang/String" "COMPACT_STRINGS" "Z" (.int cs)) (hcs : ¬ cs = 0) (E_a1 : Exa Z h0 a1 "java/lang/String") (F_c : Fld Z h0 a1 "java/lang/String" "coder" "B" (.int (0 : Int32))) (F_v : Fld Z h0 a1 "java/lang/String" "value" "[B" (.ref b)) (hp : own_p1 p1) (k : ClassId) (A_b : Arv Z h0 b k .byte (1 : Int32) [(.int (nar .byte d0.toInt8.toInt32))] (.int (0 : Int32))) (bd0 : own_c16 d0) (hall : (¬ ((255 : Int32) < d0))) : own_Met l Z ⟨"java/lang/String", "indexOf", "(I)I"⟩ jdk_42_method_79_code 2 (some .int) ws ⟨3, 0, 0, 61⟩ #[(.ref a1), (.int p1)] h0 (Q_sjL1 Z a1 b p1 cs d0 h0 n0) := by
  refine own_met n0 own_pn_java_lang_String (fun m => ef2RI m a1 p1) ?_
  intro p e s m below meth c T lc hret hx hZ hby hml hown hnm hlk X eT N
  refine own_aloadN X hx (hb hby own21_0) (pc' := 1) rfl rfl rfl ?_
  refine own_iloadN X hx (hb hby own21_1) (pc' := 2) rfl rfl ?_
  refine own_iconst X hx (0 : Int32) (hb hby own21_2) (pc' := 3) rfl rfl ?_
  refine own_callV X hx hZ (y := (⟨"java/lang/String", "indexOf", "(II)I"⟩ : MethodName)) a1 [(.int p1), (.int (0 : Int32))] hown (own_w hw 39 rfl) (own_w hw 40 rfl) (own_w hw 42 rfl) (own_w hw 41 rfl) (own_w hw 10 rfl) (own_w hw 43 rfl) (by decide) (rm_siL1 l Z a0 hw [] a1 b p1 cs d0 h0 n0 Z0 S_C hcs E_a1 F_c F_v hp _ A_b bd0 hall) E_a1 eT (W := 0) (by decide) (by decide) (cells' := 0) (slots' := 0) rfl rfl (by decide) (by decide) (by rw [hml]; rfl) (lenOf own_pd_28II29I rfl) rfl (S := []) rfl (Nat.le_of_eq rfl) (hb hby own21_3) (pc' := 6) rfl ?_
  intro v T h1 L lc X eT hq fN
  obtain ⟨zz, rfl, Nq, hqe, hz⟩ := hq
  have N := fN _ N Nq
  rw [hqe] at eT
  show own_W _ _ _ _ _ _ _ _ [(.int zz)]
  refine own_retI X hx hlk (t := .int) (w' := (.int zz)) hret (hb hby own21_6) rfl rfl (by simp) (by decide) (by decide) ?_
  rw [eT]
  exact ⟨_, rfl, N, rfl, hz⟩
def Q_chL1 (Z : State) (a1 b : Addr) (cs : Int32) (d0 : Int32) (h0 : Heap) (n0 : Nat) (v : Option Value) (h : Heap) (L : List Loc) : Prop := ∃ z : Int32, v = some (.int z) ∧ Fr n0 L ∧ h = h0 ∧ ((z = 1 ∧ (¬ (d0 = (9 : Int32)) ∧ True) ∧ (¬ (d0 = (10 : Int32)) ∧ True)) ∨ (z = 0 ∧ ¬ ((¬ (d0 = (9 : Int32)) ∧ True) ∧ (¬ (d0 = (10 : Int32)) ∧ True))))
set_option maxRecDepth 65536 in
set_option maxHeartbeats 40000000 in
theorem rm_chL1 (l : Launch) (Z : State) (a0 : Array Value) (hw : ∀ d ∈ tables_1, d.before a0 Z = true) (ws : List Jvm.Cond) (a1 b : Addr) (cs : Int32) (d0 : Int32) (h0 : Heap) (n0 : Nat) (Z0 : n0 ≤ h0.size) (S_C : Sta Z h0 "java/lang/String" "COMPACT_STRINGS" "Z" (.int cs)) (hcs : ¬ cs = 0) (E_a1 : Exa Z h0 a1 "java/lang/String") (F_c : Fld Z h0 a1 "java/lang/String" "coder" "B" (.int (0 : Int32))) (F_v : Fld Z h0 a1 "java/lang/String" "value" "[B" (.ref b)) (k : ClassId) (A_b : Arv Z h0 b k .byte (1 : Int32) [(.int (nar .byte d0.toInt8.toInt32))] (.int (0 : Int32))) (bd0 : own_c16 d0) (hall : (¬ ((255 : Int32) < d0))) : own_Met l Z ⟨"com/example/bleeper/bleeper/cli/Fields", "canHold", "(Ljava/lang/String;)Z"⟩ prog_47_method_2_code 1 (some .boolean) ws ⟨4, 0, 0, 79⟩ #[(.ref a1)] h0 (Q_chL1 Z a1 b cs d0 h0 n0) := by
  refine own_met n0 own_pn_com_example_bleeper_bleeper_cli_Fields (fun m => ef1R m a1) ?_
  intro p e s m below meth c T lc hret hx hZ hby hml hown hnm hlk X eT N
  refine own_aloadN X hx (hb hby own22_0) (pc' := 1) rfl rfl rfl ?_
  refine own_bipush X hx (9 : Int32) (hb hby own22_1) (pc' := 3) rfl rfl ?_
  refine own_callV X hx hZ (y := (⟨"java/lang/String", "indexOf", "(I)I"⟩ : MethodName)) a1 [(.int (9 : Int32))] hown (own_w hw 34 rfl) (own_w hw 35 rfl) (own_w hw 37 rfl) (own_w hw 36 rfl) (own_w hw 10 rfl) (own_w hw 38 rfl) (by decide) (rm_sjL1 l Z a0 hw [] a1 b (9 : Int32) cs d0 h0 n0 Z0 S_C hcs E_a1 F_c F_v (show own_p1 _ from ⟨by decide, by decide⟩) _ A_b bd0 hall) E_a1 eT (W := 0) (by decide) (by decide) (cells' := 0) (slots' := 0) rfl rfl (by decide) (by decide) (by rw [hml]; rfl) (lenOf own_pd_28I29I rfl) rfl (S := []) rfl (Nat.le_of_eq rfl) (hb hby own22_3) (pc' := 6) rfl ?_
  intro v T h1 L lc X eT hq fN
  obtain ⟨z1, rfl, Nq, hqe, B1⟩ := hq
  have N := fN _ N Nq
  rw [hqe] at eT
  show own_W _ _ _ _ _ _ _ _ [(.int z1)]
  refine own_if X hx (hb hby own22_6) (by decide) (pcY := 22) (pcN := 9) rfl rfl (fun (hc6 : ¬ (z1 < (0 : Int32))) => ?_) (fun (hc6 : z1 < (0 : Int32)) => ?_)
  · refine own_iconst X hx (0 : Int32) (hb hby own22_22) (pc' := 23) rfl rfl ?_
    refine own_retI X hx hlk (t := .boolean) (w' := (.int (0 : Int32))) hret (hb hby own22_23) rfl rfl (by simp) (by decide) (by decide) ?_
    rw [eT]
    exact ⟨_, rfl, N, rfl, Or.inr ⟨rfl, fun q => hc6 (B1.mpr q.1)⟩⟩
  · refine own_aloadN X hx (hb hby own22_9) (pc' := 10) rfl rfl rfl ?_
    refine own_bipush X hx (10 : Int32) (hb hby own22_10) (pc' := 12) rfl rfl ?_
    refine own_callV X hx hZ (y := (⟨"java/lang/String", "indexOf", "(I)I"⟩ : MethodName)) a1 [(.int (10 : Int32))] hown (own_w hw 34 rfl) (own_w hw 35 rfl) (own_w hw 37 rfl) (own_w hw 36 rfl) (own_w hw 10 rfl) (own_w hw 38 rfl) (by decide) (rm_sjL1 l Z a0 hw [] a1 b (10 : Int32) cs d0 h0 n0 Z0 S_C hcs E_a1 F_c F_v (show own_p1 _ from ⟨by decide, by decide⟩) _ A_b bd0 hall) E_a1 eT (W := 0) (by decide) (by decide) (cells' := 0) (slots' := 0) rfl rfl (by decide) (by decide) (by rw [hml]; rfl) (lenOf own_pd_28I29I rfl) rfl (S := []) rfl (Nat.le_of_eq rfl) (hb hby own22_12) (pc' := 15) rfl ?_
    intro v T h2 L lc X eT hq fN
    obtain ⟨z2, rfl, Nq, hqe, B2⟩ := hq
    have N := fN _ N Nq
    rw [hqe] at eT
    show own_W _ _ _ _ _ _ _ _ [(.int z2)]
    refine own_if X hx (hb hby own22_15) (by decide) (pcY := 22) (pcN := 18) rfl rfl (fun (hc15 : ¬ (z2 < (0 : Int32))) => ?_) (fun (hc15 : z2 < (0 : Int32)) => ?_)
    · refine own_iconst X hx (0 : Int32) (hb hby own22_22) (pc' := 23) rfl rfl ?_
      refine own_retI X hx hlk (t := .boolean) (w' := (.int (0 : Int32))) hret (hb hby own22_23) rfl rfl (by simp) (by decide) (by decide) ?_
      rw [eT]
      exact ⟨_, rfl, N, rfl, Or.inr ⟨rfl, fun q => hc15 (B2.mpr q.2)⟩⟩
    · refine own_iconst X hx (1 : Int32) (hb hby own22_18) (pc' := 19) rfl rfl ?_
      refine own_goto X hx (hb hby own22_19) (by decide) (pc' := 23) rfl ?_
      refine own_retI X hx hlk (t := .boolean) (w' := (.int (1 : Int32))) hret (hb hby own22_23) rfl rfl (by simp) (by decide) (by decide) ?_
      rw [eT]
      exact ⟨_, rfl, N, rfl, Or.inl ⟨rfl, B1.mp hc6, B2.mp hc15⟩⟩
theorem own20_23 : decode jdk_42_method_80_code 23 = .ok (.aload_n 0, 1) := by decide +kernel
theorem own20_24 : decode jdk_42_method_80_code 24 = .ok (.getfield 9, 3) := by decide +kernel
theorem own20_27 : decode jdk_42_method_80_code 27 = .ok (.iload_n 1, 1) := by decide +kernel
theorem own20_28 : decode jdk_42_method_80_code 28 = .ok (.iload_n 2, 1) := by decide +kernel
theorem own20_29 : decode jdk_42_method_80_code 29 = .ok (.aload_n 0, 1) := by decide +kernel
theorem own20_30 : decode jdk_42_method_80_code 30 = .ok (.invokevirtual 505, 3) := by decide +kernel
theorem own20_33 : decode jdk_42_method_80_code 33 = .ok (.invokestatic 640, 3) := by decide +kernel
def Q_siU1 (Z : State) (a1 b : Addr) (p1 cs : Int32) (fm : Value) (d0 : Int32) (h0 : Heap) (n0 : Nat) (v : Option Value) (h : Heap) (L : List Loc) : Prop := ∃ z : Int32, v = some (.int z) ∧ Fr n0 L ∧ h = h0 ∧ (z < 0 ↔ (¬ (d0 = p1) ∧ True))
set_option maxRecDepth 65536 in
set_option maxHeartbeats 40000000 in
theorem rm_siU1 (l : Launch) (Z : State) (a0 : Array Value) (hw : ∀ d ∈ tables_1, d.before a0 Z = true) (ws : List Jvm.Cond) (a1 b : Addr) (p1 cs : Int32) (fm : Value) (d0 : Int32) (h0 : Heap) (n0 : Nat) (Z0 : n0 ≤ h0.size) (S_C : Sta Z h0 "java/lang/String" "COMPACT_STRINGS" "Z" (.int cs)) (hcs : ¬ cs = 0) (E_a1 : Exa Z h0 a1 "java/lang/String") (F_c : Fld Z h0 a1 "java/lang/String" "coder" "B" (.int (1 : Int32))) (F_v : Fld Z h0 a1 "java/lang/String" "value" "[B" (.ref b)) (S_A : Sta Z h0 "java/lang/StringUTF16" "$assertionsDisabled" "Z" (.int (1 : Int32))) (S_H : Sta Z h0 "java/lang/StringUTF16" "HI_BYTE_SHIFT" "I" (.int (0 : Int32))) (S_L : Sta Z h0 "java/lang/StringUTF16" "LO_BYTE_SHIFT" "I" (.int (8 : Int32))) (S_F : Sta Z h0 "jdk/internal/util/Preconditions" "SIOOBE_FORMATTER" "Ljava/util/function/BiFunction;" fm) (hfm : fm.isRef = true) (hp : own_p1 p1) (k : ClassId) (A_b : Arv Z h0 b k .byte (2 : Int32) [(.int (own_lb d0)), (.int (own_hb d0))] (.int (0 : Int32))) (bd0 : own_c16 d0) : own_Met l Z ⟨"java/lang/String", "indexOf", "(II)I"⟩ jdk_42_method_80_code 3 (some .int) ws ⟨5, 0, 0, 98⟩ #[(.ref a1), (.int p1), (.int (0 : Int32))] h0 (Q_siU1 Z a1 b p1 cs fm d0 h0 n0) := by
  refine own_met n0 own_pn_java_lang_String (fun m => ef3RII m a1 p1 (0 : Int32)) ?_
  intro p e s m below meth c T lc hret hx hZ hby hml hown hnm hlk X eT N
  refine own_aloadN X hx (hb hby own20_0) (pc' := 1) rfl rfl rfl ?_
  refine own_callV X hx hZ (y := (⟨"java/lang/String", "isLatin1", "()Z"⟩ : MethodName)) a1 [] hown (own_w hw 44 rfl) (own_w hw 45 rfl) (own_w hw 47 rfl) (own_w hw 46 rfl) (own_w hw 10 rfl) (own_w hw 48 rfl) (by decide) (rm_isLatU l Z a0 hw [] a1 cs h0 n0 Z0 S_C hcs F_c) E_a1 eT (W := 0) (by decide) (by decide) (cells' := 0) (slots' := 0) rfl rfl (by decide) (by decide) (by rw [hml]; rfl) (lenOf own_pd_2829Z rfl) rfl (S := []) rfl (Nat.le_of_eq rfl) (hb hby own20_1) (pc' := 4) rfl ?_
  intro v T h1 L lc X eT hq fN
  obtain ⟨rfl, Nq, hqe⟩ := hq
  have N := fN _ N Nq
  rw [hqe] at eT
  show own_W _ _ _ _ _ _ _ _ [(.int (0 : Int32))]
  refine own_ifY X hx (hb hby own20_4) (by decide) (pc' := 23) rfl (show (0 : Int32) = (0 : Int32) from (by decide)) ?_
  refine own_aloadN X hx (hb hby own20_23) (pc' := 24) rfl rfl rfl ?_
  refine own_getF X hx hZ hown (host := "") (Or.inl (own_w hw 28 rfl)) Via.refl eT F_v (hb hby own20_24) (pc' := 27) rfl ?_
  intro T X eT
  refine own_iloadN X hx (hb hby own20_27) (pc' := 28) rfl rfl ?_
  refine own_iloadN X hx (hb hby own20_28) (pc' := 29) rfl rfl ?_
  refine own_aloadN X hx (hb hby own20_29) (pc' := 30) rfl rfl rfl ?_
  refine own_callV X hx hZ (y := (⟨"java/lang/String", "length", "()I"⟩ : MethodName)) a1 [] hown (own_w hw 50 rfl) (own_w hw 51 rfl) (own_w hw 53 rfl) (own_w hw 52 rfl) (own_w hw 10 rfl) (own_w hw 54 rfl) (by decide) (rm_lenU1 l Z a0 hw [] a1 b cs h0 n0 Z0 S_C hcs E_a1 F_c F_v _ _ A_b) E_a1 eT (W := 3) (by decide) (by decide) (cells' := 0) (slots' := 0) rfl rfl (by decide) (by decide) (by rw [hml]; rfl) (lenOf own_pd_2829I rfl) rfl (S := [(.int (0 : Int32)), (.int p1), (.ref b)]) rfl (Nat.le_of_eq rfl) (hb hby own20_30) (pc' := 33) rfl ?_
  intro v T h2 L lc X eT hq fN
  obtain ⟨rfl, Nq, hqe⟩ := hq
  have N := fN _ N Nq
  rw [hqe] at eT
  show own_W _ _ _ _ _ _ _ _ [(.int (1 : Int32)), (.int (0 : Int32)), (.int p1), (.ref b)]
  refine own_callS X hx hZ [(.ref b), (.int p1), (.int (0 : Int32)), (.int (1 : Int32))] hown (own_w hw 109 rfl) (own_w hw 110 rfl) (own_w hw 76 rfl) (own_w hw 111 rfl) (by decide) (rm_ux1 l Z a0 hw [] b p1 fm d0 h0 n0 Z0 S_A S_H S_L S_F hfm hp _ A_b bd0) eT (W := 0) (by decide) (by decide) (cells' := 0) (slots' := 0) rfl rfl (by decide) (by decide) (by rw [hml]; rfl) (lenOf own_pd_285bBIII29I rfl) rfl (S := []) rfl (Nat.le_of_eq rfl) (hb hby own20_33) (pc' := 36) rfl ?_
  intro v T h3 L lc X eT hq fN
  obtain ⟨zz, rfl, Nq, hqe, hz⟩ := hq
  have N := fN _ N Nq
  rw [hqe] at eT
  show own_W _ _ _ _ _ _ _ _ [(.int zz)]
  refine own_retI X hx hlk (t := .int) (w' := (.int zz)) hret (hb hby own20_36) rfl rfl (by simp) (by decide) (by decide) ?_
  rw [eT]
  exact ⟨_, rfl, N, rfl, hz⟩
def Q_sjU1 (Z : State) (a1 b : Addr) (p1 cs : Int32) (fm : Value) (d0 : Int32) (h0 : Heap) (n0 : Nat) (v : Option Value) (h : Heap) (L : List Loc) : Prop := ∃ z : Int32, v = some (.int z) ∧ Fr n0 L ∧ h = h0 ∧ (z < 0 ↔ (¬ (d0 = p1) ∧ True))
set_option maxRecDepth 65536 in
set_option maxHeartbeats 40000000 in
theorem rm_sjU1 (l : Launch) (Z : State) (a0 : Array Value) (hw : ∀ d ∈ tables_1, d.before a0 Z = true) (ws : List Jvm.Cond) (a1 b : Addr) (p1 cs : Int32) (fm : Value) (d0 : Int32) (h0 : Heap) (n0 : Nat) (Z0 : n0 ≤ h0.size) (S_C : Sta Z h0 "java/lang/String" "COMPACT_STRINGS" "Z" (.int cs)) (hcs : ¬ cs = 0) (E_a1 : Exa Z h0 a1 "java/lang/String") (F_c : Fld Z h0 a1 "java/lang/String" "coder" "B" (.int (1 : Int32))) (F_v : Fld Z h0 a1 "java/lang/String" "value" "[B" (.ref b)) (S_A : Sta Z h0 "java/lang/StringUTF16" "$assertionsDisabled" "Z" (.int (1 : Int32))) (S_H : Sta Z h0 "java/lang/StringUTF16" "HI_BYTE_SHIFT" "I" (.int (0 : Int32))) (S_L : Sta Z h0 "java/lang/StringUTF16" "LO_BYTE_SHIFT" "I" (.int (8 : Int32))) (S_F : Sta Z h0 "jdk/internal/util/Preconditions" "SIOOBE_FORMATTER" "Ljava/util/function/BiFunction;" fm) (hfm : fm.isRef = true) (hp : own_p1 p1) (k : ClassId) (A_b : Arv Z h0 b k .byte (2 : Int32) [(.int (own_lb d0)), (.int (own_hb d0))] (.int (0 : Int32))) (bd0 : own_c16 d0) : own_Met l Z ⟨"java/lang/String", "indexOf", "(I)I"⟩ jdk_42_method_79_code 2 (some .int) ws ⟨6, 0, 0, 117⟩ #[(.ref a1), (.int p1)] h0 (Q_sjU1 Z a1 b p1 cs fm d0 h0 n0) := by
  refine own_met n0 own_pn_java_lang_String (fun m => ef2RI m a1 p1) ?_
  intro p e s m below meth c T lc hret hx hZ hby hml hown hnm hlk X eT N
  refine own_aloadN X hx (hb hby own21_0) (pc' := 1) rfl rfl rfl ?_
  refine own_iloadN X hx (hb hby own21_1) (pc' := 2) rfl rfl ?_
  refine own_iconst X hx (0 : Int32) (hb hby own21_2) (pc' := 3) rfl rfl ?_
  refine own_callV X hx hZ (y := (⟨"java/lang/String", "indexOf", "(II)I"⟩ : MethodName)) a1 [(.int p1), (.int (0 : Int32))] hown (own_w hw 39 rfl) (own_w hw 40 rfl) (own_w hw 42 rfl) (own_w hw 41 rfl) (own_w hw 10 rfl) (own_w hw 43 rfl) (by decide) (rm_siU1 l Z a0 hw [] a1 b p1 cs fm d0 h0 n0 Z0 S_C hcs E_a1 F_c F_v S_A S_H S_L S_F hfm hp _ A_b bd0) E_a1 eT (W := 0) (by decide) (by decide) (cells' := 0) (slots' := 0) rfl rfl (by decide) (by decide) (by rw [hml]; rfl) (lenOf own_pd_28II29I rfl) rfl (S := []) rfl (Nat.le_of_eq rfl) (hb hby own21_3) (pc' := 6) rfl ?_
  intro v T h1 L lc X eT hq fN
  obtain ⟨zz, rfl, Nq, hqe, hz⟩ := hq
  have N := fN _ N Nq
  rw [hqe] at eT
  show own_W _ _ _ _ _ _ _ _ [(.int zz)]
  refine own_retI X hx hlk (t := .int) (w' := (.int zz)) hret (hb hby own21_6) rfl rfl (by simp) (by decide) (by decide) ?_
  rw [eT]
  exact ⟨_, rfl, N, rfl, hz⟩
def Q_chU1 (Z : State) (a1 b : Addr) (cs : Int32) (fm : Value) (d0 : Int32) (h0 : Heap) (n0 : Nat) (v : Option Value) (h : Heap) (L : List Loc) : Prop := ∃ z : Int32, v = some (.int z) ∧ Fr n0 L ∧ h = h0 ∧ ((z = 1 ∧ (¬ (d0 = (9 : Int32)) ∧ True) ∧ (¬ (d0 = (10 : Int32)) ∧ True)) ∨ (z = 0 ∧ ¬ ((¬ (d0 = (9 : Int32)) ∧ True) ∧ (¬ (d0 = (10 : Int32)) ∧ True))))
set_option maxRecDepth 65536 in
set_option maxHeartbeats 40000000 in
theorem rm_chU1 (l : Launch) (Z : State) (a0 : Array Value) (hw : ∀ d ∈ tables_1, d.before a0 Z = true) (ws : List Jvm.Cond) (a1 b : Addr) (cs : Int32) (fm : Value) (d0 : Int32) (h0 : Heap) (n0 : Nat) (Z0 : n0 ≤ h0.size) (S_C : Sta Z h0 "java/lang/String" "COMPACT_STRINGS" "Z" (.int cs)) (hcs : ¬ cs = 0) (E_a1 : Exa Z h0 a1 "java/lang/String") (F_c : Fld Z h0 a1 "java/lang/String" "coder" "B" (.int (1 : Int32))) (F_v : Fld Z h0 a1 "java/lang/String" "value" "[B" (.ref b)) (S_A : Sta Z h0 "java/lang/StringUTF16" "$assertionsDisabled" "Z" (.int (1 : Int32))) (S_H : Sta Z h0 "java/lang/StringUTF16" "HI_BYTE_SHIFT" "I" (.int (0 : Int32))) (S_L : Sta Z h0 "java/lang/StringUTF16" "LO_BYTE_SHIFT" "I" (.int (8 : Int32))) (S_F : Sta Z h0 "jdk/internal/util/Preconditions" "SIOOBE_FORMATTER" "Ljava/util/function/BiFunction;" fm) (hfm : fm.isRef = true) (k : ClassId) (A_b : Arv Z h0 b k .byte (2 : Int32) [(.int (own_lb d0)), (.int (own_hb d0))] (.int (0 : Int32))) (bd0 : own_c16 d0) : own_Met l Z ⟨"com/example/bleeper/bleeper/cli/Fields", "canHold", "(Ljava/lang/String;)Z"⟩ prog_47_method_2_code 1 (some .boolean) ws ⟨7, 0, 0, 135⟩ #[(.ref a1)] h0 (Q_chU1 Z a1 b cs fm d0 h0 n0) := by
  refine own_met n0 own_pn_com_example_bleeper_bleeper_cli_Fields (fun m => ef1R m a1) ?_
  intro p e s m below meth c T lc hret hx hZ hby hml hown hnm hlk X eT N
  refine own_aloadN X hx (hb hby own22_0) (pc' := 1) rfl rfl rfl ?_
  refine own_bipush X hx (9 : Int32) (hb hby own22_1) (pc' := 3) rfl rfl ?_
  refine own_callV X hx hZ (y := (⟨"java/lang/String", "indexOf", "(I)I"⟩ : MethodName)) a1 [(.int (9 : Int32))] hown (own_w hw 34 rfl) (own_w hw 35 rfl) (own_w hw 37 rfl) (own_w hw 36 rfl) (own_w hw 10 rfl) (own_w hw 38 rfl) (by decide) (rm_sjU1 l Z a0 hw [] a1 b (9 : Int32) cs fm d0 h0 n0 Z0 S_C hcs E_a1 F_c F_v S_A S_H S_L S_F hfm (show own_p1 _ from ⟨by decide, by decide⟩) _ A_b bd0) E_a1 eT (W := 0) (by decide) (by decide) (cells' := 0) (slots' := 0) rfl rfl (by decide) (by decide) (by rw [hml]; rfl) (lenOf own_pd_28I29I rfl) rfl (S := []) rfl (Nat.le_of_eq rfl) (hb hby own22_3) (pc' := 6) rfl ?_
  intro v T h1 L lc X eT hq fN
  obtain ⟨z1, rfl, Nq, hqe, B1⟩ := hq
  have N := fN _ N Nq
  rw [hqe] at eT
  show own_W _ _ _ _ _ _ _ _ [(.int z1)]
  refine own_if X hx (hb hby own22_6) (by decide) (pcY := 22) (pcN := 9) rfl rfl (fun (hc6 : ¬ (z1 < (0 : Int32))) => ?_) (fun (hc6 : z1 < (0 : Int32)) => ?_)
  · refine own_iconst X hx (0 : Int32) (hb hby own22_22) (pc' := 23) rfl rfl ?_
    refine own_retI X hx hlk (t := .boolean) (w' := (.int (0 : Int32))) hret (hb hby own22_23) rfl rfl (by simp) (by decide) (by decide) ?_
    rw [eT]
    exact ⟨_, rfl, N, rfl, Or.inr ⟨rfl, fun q => hc6 (B1.mpr q.1)⟩⟩
  · refine own_aloadN X hx (hb hby own22_9) (pc' := 10) rfl rfl rfl ?_
    refine own_bipush X hx (10 : Int32) (hb hby own22_10) (pc' := 12) rfl rfl ?_
    refine own_callV X hx hZ (y := (⟨"java/lang/String", "indexOf", "(I)I"⟩ : MethodName)) a1 [(.int (10 : Int32))] hown (own_w hw 34 rfl) (own_w hw 35 rfl) (own_w hw 37 rfl) (own_w hw 36 rfl) (own_w hw 10 rfl) (own_w hw 38 rfl) (by decide) (rm_sjU1 l Z a0 hw [] a1 b (10 : Int32) cs fm d0 h0 n0 Z0 S_C hcs E_a1 F_c F_v S_A S_H S_L S_F hfm (show own_p1 _ from ⟨by decide, by decide⟩) _ A_b bd0) E_a1 eT (W := 0) (by decide) (by decide) (cells' := 0) (slots' := 0) rfl rfl (by decide) (by decide) (by rw [hml]; rfl) (lenOf own_pd_28I29I rfl) rfl (S := []) rfl (Nat.le_of_eq rfl) (hb hby own22_12) (pc' := 15) rfl ?_
    intro v T h2 L lc X eT hq fN
    obtain ⟨z2, rfl, Nq, hqe, B2⟩ := hq
    have N := fN _ N Nq
    rw [hqe] at eT
    show own_W _ _ _ _ _ _ _ _ [(.int z2)]
    refine own_if X hx (hb hby own22_15) (by decide) (pcY := 22) (pcN := 18) rfl rfl (fun (hc15 : ¬ (z2 < (0 : Int32))) => ?_) (fun (hc15 : z2 < (0 : Int32)) => ?_)
    · refine own_iconst X hx (0 : Int32) (hb hby own22_22) (pc' := 23) rfl rfl ?_
      refine own_retI X hx hlk (t := .boolean) (w' := (.int (0 : Int32))) hret (hb hby own22_23) rfl rfl (by simp) (by decide) (by decide) ?_
      rw [eT]
      exact ⟨_, rfl, N, rfl, Or.inr ⟨rfl, fun q => hc15 (B2.mpr q.2)⟩⟩
    · refine own_iconst X hx (1 : Int32) (hb hby own22_18) (pc' := 19) rfl rfl ?_
      refine own_goto X hx (hb hby own22_19) (by decide) (pc' := 23) rfl ?_
      refine own_retI X hx hlk (t := .boolean) (w' := (.int (1 : Int32))) hret (hb hby own22_23) rfl rfl (by simp) (by decide) (by decide) ?_
      rw [eT]
      exact ⟨_, rfl, N, rfl, Or.inl ⟨rfl, B1.mp hc6, B2.mp hc15⟩⟩
def Q_lc2 (Z : State) (b : Addr) (p1 : Int32) (d0 d1 : Int32) (h0 : Heap) (n0 : Nat) (v : Option Value) (h : Heap) (L : List Loc) : Prop := ∃ z : Int32, v = some (.int z) ∧ Fr n0 L ∧ h = h0 ∧ (z < 0 ↔ (¬ (d0 = p1) ∧ ¬ (d1 = p1) ∧ True))
set_option maxRecDepth 65536 in
set_option maxHeartbeats 40000000 in
theorem rm_lc2 (l : Launch) (Z : State) (a0 : Array Value) (hw : ∀ d ∈ tables_1, d.before a0 Z = true) (ws : List Jvm.Cond) (b : Addr) (p1 : Int32) (d0 d1 : Int32) (h0 : Heap) (n0 : Nat) (Z0 : n0 ≤ h0.size) (hp : own_p1 p1) (k : ClassId) (A_b : Arv Z h0 b k .byte (2 : Int32) [(.int (nar .byte d0.toInt8.toInt32)), (.int (nar .byte d1.toInt8.toInt32))] (.int (0 : Int32))) (bd0 : own_c16 d0) (bd1 : own_c16 d1) (hall : (¬ ((255 : Int32) < d0) ∧ ¬ ((255 : Int32) < d1))) : own_Met l Z ⟨"java/lang/StringLatin1", "indexOfChar", "([BIII)I"⟩ jdk_43_method_23_code 6 (some .int) ws ⟨0, 0, 0, 0⟩ #[(.ref b), (.int p1), (.int (0 : Int32)), (.int (2 : Int32))] h0 (Q_lc2 Z b p1 d0 d1 h0 n0) := by
  refine own_met n0 own_pn_java_lang_StringLatin1 (fun m => ef6RIII m b p1 (0 : Int32) (2 : Int32)) ?_
  intro p e s m below meth c T lc hret hx hZ hby hml hown hnm hlk X eT N
  refine own_iloadN X hx (hb hby own23_0) (pc' := 1) rfl rfl ?_
  refine own_i2b X hx (hb hby own23_1) (pc' := 2) rfl ?_
  refine own_istore X hx (hb hby own23_2) (pc' := 4) rfl (Ls' := #[.val (.ref b), .val (.int p1), .val (.int (0 : Int32)), .val (.int (2 : Int32)), .val (.int p1.toInt8.toInt32), .unset]) rfl ?_
  refine own_iloadN X hx (hb hby own23_4) (pc' := 5) rfl rfl ?_
  refine own_istore X hx (hb hby own23_5) (pc' := 7) rfl (Ls' := #[.val (.ref b), .val (.int p1), .val (.int (0 : Int32)), .val (.int (2 : Int32)), .val (.int p1.toInt8.toInt32), .val (.int (0 : Int32))]) rfl ?_
  refine own_iload X hx (hb hby own23_7) (pc' := 9) rfl rfl ?_
  refine own_iloadN X hx (hb hby own23_9) (pc' := 10) rfl rfl ?_
  refine own_icmpN X hx (hb hby own23_10) (pc' := 13) rfl (show (0 : Int32) < (2 : Int32) from (by decide)) ?_
  refine own_aloadN X hx (hb hby own23_13) (pc' := 14) rfl rfl rfl ?_
  refine own_iload X hx (hb hby own23_14) (pc' := 16) rfl rfl ?_
  refine own_baloadB X hx hZ eT A_b (v := (.int (nar .byte d0.toInt8.toInt32))) (by decide) rfl (hb hby own23_16) (pc' := 17) rfl ?_
  refine own_iload X hx (hb hby own23_17) (pc' := 19) rfl rfl ?_
  refine own_icmp X hx (hb hby own23_19) (by decide) (pcY := 25) (pcN := 22) rfl rfl (fun (hc19 : ¬ ((nar .byte d0.toInt8.toInt32) = p1.toInt8.toInt32)) => ?_) (fun (hc19 : (nar .byte d0.toInt8.toInt32) = p1.toInt8.toInt32) => ?_)
  · refine own_iinc X hx (1 : Int32) (hb hby own23_25) (pc' := 28) rfl rfl rfl (Ls' := #[.val (.ref b), .val (.int p1), .val (.int (0 : Int32)), .val (.int (2 : Int32)), .val (.int p1.toInt8.toInt32), .val (.int (1 : Int32))]) rfl ?_
    refine own_goto X hx (hb hby own23_28) (by decide) (pc' := 7) rfl ?_
    refine own_iload X hx (hb hby own23_7) (pc' := 9) rfl rfl ?_
    refine own_iloadN X hx (hb hby own23_9) (pc' := 10) rfl rfl ?_
    refine own_icmpN X hx (hb hby own23_10) (pc' := 13) rfl (show (1 : Int32) < (2 : Int32) from (by decide)) ?_
    refine own_aloadN X hx (hb hby own23_13) (pc' := 14) rfl rfl rfl ?_
    refine own_iload X hx (hb hby own23_14) (pc' := 16) rfl rfl ?_
    refine own_baloadB X hx hZ eT A_b (v := (.int (nar .byte d1.toInt8.toInt32))) (by decide) rfl (hb hby own23_16) (pc' := 17) rfl ?_
    refine own_iload X hx (hb hby own23_17) (pc' := 19) rfl rfl ?_
    refine own_icmp X hx (hb hby own23_19) (by decide) (pcY := 25) (pcN := 22) rfl rfl (fun (hc19_2 : ¬ ((nar .byte d1.toInt8.toInt32) = p1.toInt8.toInt32)) => ?_) (fun (hc19_2 : (nar .byte d1.toInt8.toInt32) = p1.toInt8.toInt32) => ?_)
    · refine own_iinc X hx (1 : Int32) (hb hby own23_25) (pc' := 28) rfl rfl rfl (Ls' := #[.val (.ref b), .val (.int p1), .val (.int (0 : Int32)), .val (.int (2 : Int32)), .val (.int p1.toInt8.toInt32), .val (.int (2 : Int32))]) rfl ?_
      refine own_goto X hx (hb hby own23_28) (by decide) (pc' := 7) rfl ?_
      refine own_iload X hx (hb hby own23_7) (pc' := 9) rfl rfl ?_
      refine own_iloadN X hx (hb hby own23_9) (pc' := 10) rfl rfl ?_
      refine own_icmpY X hx (hb hby own23_10) (by decide) (pc' := 31) rfl (show ¬ ((2 : Int32) < (2 : Int32)) from (by decide)) ?_
      refine own_iconst X hx (-1 : Int32) (hb hby own23_31) (pc' := 32) rfl rfl ?_
      refine own_retI X hx hlk (t := .int) (w' := (.int (-1 : Int32))) hret (hb hby own23_32) rfl rfl (by simp) (by decide) (by decide) ?_
      rw [eT]
      exact ⟨_, rfl, N, rfl, ⟨fun _ => ⟨fun e => hc19 ((own_lo8 bd0 hall.1 hp).mpr e), fun e => hc19_2 ((own_lo8 bd1 hall.2 hp).mpr e), trivial⟩, fun _ => by decide⟩⟩
    · refine own_iload X hx (hb hby own23_22) (pc' := 24) rfl rfl ?_
      refine own_retI X hx hlk (t := .int) (w' := (.int (1 : Int32))) hret (hb hby own23_24) rfl rfl (by simp) (by decide) (by decide) ?_
      rw [eT]
      exact ⟨_, rfl, N, rfl, ⟨fun q => absurd q (by decide), fun q => absurd ((own_lo8 bd1 hall.2 hp).mp hc19_2) q.2.1⟩⟩
  · refine own_iload X hx (hb hby own23_22) (pc' := 24) rfl rfl ?_
    refine own_retI X hx hlk (t := .int) (w' := (.int (0 : Int32))) hret (hb hby own23_24) rfl rfl (by simp) (by decide) (by decide) ?_
    rw [eT]
    exact ⟨_, rfl, N, rfl, ⟨fun q => absurd q (by decide), fun q => absurd ((own_lo8 bd0 hall.1 hp).mp hc19) q.1⟩⟩
def Q_lx2 (Z : State) (b : Addr) (p1 : Int32) (d0 d1 : Int32) (h0 : Heap) (n0 : Nat) (v : Option Value) (h : Heap) (L : List Loc) : Prop := ∃ z : Int32, v = some (.int z) ∧ Fr n0 L ∧ h = h0 ∧ (z < 0 ↔ (¬ (d0 = p1) ∧ ¬ (d1 = p1) ∧ True))
set_option maxRecDepth 65536 in
set_option maxHeartbeats 40000000 in
theorem rm_lx2 (l : Launch) (Z : State) (a0 : Array Value) (hw : ∀ d ∈ tables_1, d.before a0 Z = true) (ws : List Jvm.Cond) (b : Addr) (p1 : Int32) (d0 d1 : Int32) (h0 : Heap) (n0 : Nat) (Z0 : n0 ≤ h0.size) (hp : own_p1 p1) (k : ClassId) (A_b : Arv Z h0 b k .byte (2 : Int32) [(.int (nar .byte d0.toInt8.toInt32)), (.int (nar .byte d1.toInt8.toInt32))] (.int (0 : Int32))) (bd0 : own_c16 d0) (bd1 : own_c16 d1) (hall : (¬ ((255 : Int32) < d0) ∧ ¬ ((255 : Int32) < d1))) : own_Met l Z ⟨"java/lang/StringLatin1", "indexOf", "([BIII)I"⟩ jdk_43_method_22_code 4 (some .int) ws ⟨1, 0, 0, 22⟩ #[(.ref b), (.int p1), (.int (0 : Int32)), (.int (2 : Int32))] h0 (Q_lx2 Z b p1 d0 d1 h0 n0) := by
  refine own_met n0 own_pn_java_lang_StringLatin1 (fun m => ef4RIII m b p1 (0 : Int32) (2 : Int32)) ?_
  intro p e s m below meth c T lc hret hx hZ hby hml hown hnm hlk X eT N
  refine own_iloadN X hx (hb hby own19_0) (pc' := 1) rfl rfl ?_
  refine own_callS X hx hZ [(.int p1)] hown (own_w hw 64 rfl) (own_w hw 65 rfl) (own_w hw 62 rfl) (own_w hw 66 rfl) (by decide) (rm_cei l Z a0 hw [] p1 h0 n0 Z0 hp) eT (W := 0) (by decide) (by decide) (cells' := 0) (slots' := 0) rfl rfl (by decide) (by decide) (by rw [hml]; rfl) (lenOf own_pd_28I29Z rfl) rfl (S := []) rfl (Nat.le_of_eq rfl) (hb hby own19_1) (pc' := 4) rfl ?_
  intro v T h1 L lc X eT hq fN
  obtain ⟨rfl, Nq, hqe⟩ := hq
  have N := fN _ N Nq
  rw [hqe] at eT
  show own_W _ _ _ _ _ _ _ _ [(.int (1 : Int32))]
  refine own_ifY X hx (hb hby own19_4) (by decide) (pc' := 9) rfl (show ¬ ((1 : Int32) = (0 : Int32)) from (by decide)) ?_
  refine own_iloadN X hx (hb hby own19_9) (pc' := 10) rfl rfl ?_
  refine own_iconst X hx (0 : Int32) (hb hby own19_10) (pc' := 11) rfl rfl ?_
  refine own_callS X hx hZ [(.int (0 : Int32)), (.int (0 : Int32))] hown (own_w hw 67 rfl) (own_w hw 68 rfl) (own_w hw 69 rfl) (own_w hw 70 rfl) (by decide) (rm_max l Z a0 hw [] (0 : Int32) (0 : Int32) h0 n0 Z0 (by decide)) eT (W := 0) (by decide) (by decide) (cells' := 0) (slots' := 0) rfl rfl (by decide) (by decide) (by rw [hml]; rfl) (lenOf own_pd_28II29I rfl) rfl (S := []) rfl (Nat.le_of_eq rfl) (hb hby own19_11) (pc' := 14) rfl ?_
  intro v T h2 L lc X eT hq fN
  obtain ⟨rfl, Nq, hqe⟩ := hq
  have N := fN _ N Nq
  rw [hqe] at eT
  show own_W _ _ _ _ _ _ _ _ [(.int (0 : Int32))]
  refine own_istoreN X hx (hb hby own19_14) (pc' := 15) rfl (Ls' := #[.val (.ref b), .val (.int p1), .val (.int (0 : Int32)), .val (.int (2 : Int32))]) rfl ?_
  refine own_iloadN X hx (hb hby own19_15) (pc' := 16) rfl rfl ?_
  refine own_aloadN X hx (hb hby own19_16) (pc' := 17) rfl rfl rfl ?_
  refine own_arrlen X hx hZ eT A_b (hb hby own19_17) (pc' := 18) rfl ?_
  refine own_callS X hx hZ [(.int (2 : Int32)), (.int (2 : Int32))] hown (own_w hw 71 rfl) (own_w hw 72 rfl) (own_w hw 69 rfl) (own_w hw 73 rfl) (by decide) (rm_min l Z a0 hw [] (2 : Int32) (2 : Int32) h0 n0 Z0 (by decide)) eT (W := 0) (by decide) (by decide) (cells' := 0) (slots' := 0) rfl rfl (by decide) (by decide) (by rw [hml]; rfl) (lenOf own_pd_28II29I rfl) rfl (S := []) rfl (Nat.le_of_eq rfl) (hb hby own19_18) (pc' := 21) rfl ?_
  intro v T h3 L lc X eT hq fN
  obtain ⟨rfl, Nq, hqe⟩ := hq
  have N := fN _ N Nq
  rw [hqe] at eT
  show own_W _ _ _ _ _ _ _ _ [(.int (2 : Int32))]
  refine own_istoreN X hx (hb hby own19_21) (pc' := 22) rfl (Ls' := #[.val (.ref b), .val (.int p1), .val (.int (0 : Int32)), .val (.int (2 : Int32))]) rfl ?_
  refine own_iloadN X hx (hb hby own19_22) (pc' := 23) rfl rfl ?_
  refine own_iloadN X hx (hb hby own19_23) (pc' := 24) rfl rfl ?_
  refine own_icmpY X hx (hb hby own19_24) (by decide) (pc' := 29) rfl (show (0 : Int32) < (2 : Int32) from (by decide)) ?_
  refine own_aloadN X hx (hb hby own19_29) (pc' := 30) rfl rfl rfl ?_
  refine own_iloadN X hx (hb hby own19_30) (pc' := 31) rfl rfl ?_
  refine own_iloadN X hx (hb hby own19_31) (pc' := 32) rfl rfl ?_
  refine own_iloadN X hx (hb hby own19_32) (pc' := 33) rfl rfl ?_
  refine own_callS X hx hZ [(.ref b), (.int p1), (.int (0 : Int32)), (.int (2 : Int32))] hown (own_w hw 87 rfl) (own_w hw 88 rfl) (own_w hw 62 rfl) (own_w hw 89 rfl) (by decide) (rm_lc2 l Z a0 hw [] b p1 d0 d1 h0 n0 Z0 hp _ A_b bd0 bd1 hall) eT (W := 0) (by decide) (by decide) (cells' := 0) (slots' := 0) rfl rfl (by decide) (by decide) (by rw [hml]; rfl) (lenOf own_pd_285bBIII29I rfl) rfl (S := []) rfl (Nat.le_of_eq rfl) (hb hby own19_33) (pc' := 36) rfl ?_
  intro v T h4 L lc X eT hq fN
  obtain ⟨zz, rfl, Nq, hqe, hz⟩ := hq
  have N := fN _ N Nq
  rw [hqe] at eT
  show own_W _ _ _ _ _ _ _ _ [(.int zz)]
  refine own_retI X hx hlk (t := .int) (w' := (.int zz)) hret (hb hby own19_36) rfl rfl (by simp) (by decide) (by decide) ?_
  rw [eT]
  exact ⟨_, rfl, N, rfl, hz⟩
def Q_uu2 (Z : State) (b : Addr) (p1 : Int32) (fm : Value) (d0 d1 : Int32) (h0 : Heap) (n0 : Nat) (v : Option Value) (h : Heap) (L : List Loc) : Prop := ∃ z : Int32, v = some (.int z) ∧ Fr n0 L ∧ h = h0 ∧ (z < 0 ↔ (¬ (d0 = p1) ∧ ¬ (d1 = p1) ∧ True))
set_option maxRecDepth 65536 in
set_option maxHeartbeats 40000000 in
theorem rm_uu2 (l : Launch) (Z : State) (a0 : Array Value) (hw : ∀ d ∈ tables_1, d.before a0 Z = true) (ws : List Jvm.Cond) (b : Addr) (p1 : Int32) (fm : Value) (d0 d1 : Int32) (h0 : Heap) (n0 : Nat) (Z0 : n0 ≤ h0.size) (S_A : Sta Z h0 "java/lang/StringUTF16" "$assertionsDisabled" "Z" (.int (1 : Int32))) (S_H : Sta Z h0 "java/lang/StringUTF16" "HI_BYTE_SHIFT" "I" (.int (0 : Int32))) (S_L : Sta Z h0 "java/lang/StringUTF16" "LO_BYTE_SHIFT" "I" (.int (8 : Int32))) (S_F : Sta Z h0 "jdk/internal/util/Preconditions" "SIOOBE_FORMATTER" "Ljava/util/function/BiFunction;" fm) (hfm : fm.isRef = true) (hp : own_p1 p1) (k : ClassId) (A_b : Arv Z h0 b k .byte (4 : Int32) [(.int (own_lb d0)), (.int (own_hb d0)), (.int (own_lb d1)), (.int (own_hb d1))] (.int (0 : Int32))) (bd0 : own_c16 d0) (bd1 : own_c16 d1) : own_Met l Z ⟨"java/lang/StringUTF16", "indexOfCharUnsafe", "([BIII)I"⟩ jdk_52_method_48_code 5 (some .int) ws ⟨1, 0, 0, 18⟩ #[(.ref b), (.int p1), (.int (0 : Int32)), (.int (2 : Int32))] h0 (Q_uu2 Z b p1 fm d0 d1 h0 n0) := by
  refine own_met n0 own_pn_java_lang_StringUTF16 (fun m => ef5RIII m b p1 (0 : Int32) (2 : Int32)) ?_
  intro p e s m below meth c T lc hret hx hZ hby hml hown hnm hlk X eT N
  refine own_iloadN X hx (hb hby own24_0) (pc' := 1) rfl rfl ?_
  refine own_istore X hx (hb hby own24_1) (pc' := 3) rfl (Ls' := #[.val (.ref b), .val (.int p1), .val (.int (0 : Int32)), .val (.int (2 : Int32)), .val (.int (0 : Int32))]) rfl ?_
  refine own_iload X hx (hb hby own24_3) (pc' := 5) rfl rfl ?_
  refine own_iloadN X hx (hb hby own24_5) (pc' := 6) rfl rfl ?_
  refine own_icmpN X hx (hb hby own24_6) (pc' := 9) rfl (show (0 : Int32) < (2 : Int32) from (by decide)) ?_
  refine own_aloadN X hx (hb hby own24_9) (pc' := 10) rfl rfl rfl ?_
  refine own_iload X hx (hb hby own24_10) (pc' := 12) rfl rfl ?_
  refine own_callS X hx hZ [(.ref b), (.int (0 : Int32))] hown (own_w hw 106 rfl) (own_w hw 107 rfl) (own_w hw 76 rfl) (own_w hw 108 rfl) (by decide) (rm_gc2_0 l Z a0 hw [] b _ d0 d1 h0 n0 Z0 S_A S_H S_L bd0 A_b) eT (W := 0) (by decide) (by decide) (cells' := 0) (slots' := 0) rfl rfl (by decide) (by decide) (by rw [hml]; rfl) (lenOf own_pd_285bBI29C rfl) rfl (S := []) rfl (Nat.le_of_eq rfl) (hb hby own24_12) (pc' := 15) rfl ?_
  intro v T h1 L lc X eT hq fN
  obtain ⟨rfl, Nq, hqe⟩ := hq
  have N := fN _ N Nq
  rw [hqe] at eT
  show own_W _ _ _ _ _ _ _ _ [(.int d0)]
  refine own_iloadN X hx (hb hby own24_15) (pc' := 16) rfl rfl ?_
  refine own_icmp X hx (hb hby own24_16) (by decide) (pcY := 22) (pcN := 19) rfl rfl (fun (hc16 : ¬ (d0 = p1)) => ?_) (fun (hc16 : d0 = p1) => ?_)
  · refine own_iinc X hx (1 : Int32) (hb hby own24_22) (pc' := 25) rfl rfl rfl (Ls' := #[.val (.ref b), .val (.int p1), .val (.int (0 : Int32)), .val (.int (2 : Int32)), .val (.int (1 : Int32))]) rfl ?_
    refine own_goto X hx (hb hby own24_25) (by decide) (pc' := 3) rfl ?_
    refine own_iload X hx (hb hby own24_3) (pc' := 5) rfl rfl ?_
    refine own_iloadN X hx (hb hby own24_5) (pc' := 6) rfl rfl ?_
    refine own_icmpN X hx (hb hby own24_6) (pc' := 9) rfl (show (1 : Int32) < (2 : Int32) from (by decide)) ?_
    refine own_aloadN X hx (hb hby own24_9) (pc' := 10) rfl rfl rfl ?_
    refine own_iload X hx (hb hby own24_10) (pc' := 12) rfl rfl ?_
    refine own_callS X hx hZ [(.ref b), (.int (1 : Int32))] hown (own_w hw 106 rfl) (own_w hw 107 rfl) (own_w hw 76 rfl) (own_w hw 108 rfl) (by decide) (rm_gc2_1 l Z a0 hw [] b _ d0 d1 h0 n0 Z0 S_A S_H S_L bd1 A_b) eT (W := 0) (by decide) (by decide) (cells' := 0) (slots' := 0) rfl rfl (by decide) (by decide) (by rw [hml]; rfl) (lenOf own_pd_285bBI29C rfl) rfl (S := []) rfl (Nat.le_of_eq rfl) (hb hby own24_12) (pc' := 15) rfl ?_
    intro v T h2 L lc X eT hq fN
    obtain ⟨rfl, Nq, hqe⟩ := hq
    have N := fN _ N Nq
    rw [hqe] at eT
    show own_W _ _ _ _ _ _ _ _ [(.int d1)]
    refine own_iloadN X hx (hb hby own24_15) (pc' := 16) rfl rfl ?_
    refine own_icmp X hx (hb hby own24_16) (by decide) (pcY := 22) (pcN := 19) rfl rfl (fun (hc16_2 : ¬ (d1 = p1)) => ?_) (fun (hc16_2 : d1 = p1) => ?_)
    · refine own_iinc X hx (1 : Int32) (hb hby own24_22) (pc' := 25) rfl rfl rfl (Ls' := #[.val (.ref b), .val (.int p1), .val (.int (0 : Int32)), .val (.int (2 : Int32)), .val (.int (2 : Int32))]) rfl ?_
      refine own_goto X hx (hb hby own24_25) (by decide) (pc' := 3) rfl ?_
      refine own_iload X hx (hb hby own24_3) (pc' := 5) rfl rfl ?_
      refine own_iloadN X hx (hb hby own24_5) (pc' := 6) rfl rfl ?_
      refine own_icmpY X hx (hb hby own24_6) (by decide) (pc' := 28) rfl (show ¬ ((2 : Int32) < (2 : Int32)) from (by decide)) ?_
      refine own_iconst X hx (-1 : Int32) (hb hby own24_28) (pc' := 29) rfl rfl ?_
      refine own_retI X hx hlk (t := .int) (w' := (.int (-1 : Int32))) hret (hb hby own24_29) rfl rfl (by simp) (by decide) (by decide) ?_
      rw [eT]
      exact ⟨_, rfl, N, rfl, ⟨fun _ => ⟨fun e => hc16 e, fun e => hc16_2 e, trivial⟩, fun _ => by decide⟩⟩
    · refine own_iload X hx (hb hby own24_19) (pc' := 21) rfl rfl ?_
      refine own_retI X hx hlk (t := .int) (w' := (.int (1 : Int32))) hret (hb hby own24_21) rfl rfl (by simp) (by decide) (by decide) ?_
      rw [eT]
      exact ⟨_, rfl, N, rfl, ⟨fun q => absurd q (by decide), fun q => absurd hc16_2 q.2.1⟩⟩
  · refine own_iload X hx (hb hby own24_19) (pc' := 21) rfl rfl ?_
    refine own_retI X hx hlk (t := .int) (w' := (.int (0 : Int32))) hret (hb hby own24_21) rfl rfl (by simp) (by decide) (by decide) ?_
    rw [eT]
    exact ⟨_, rfl, N, rfl, ⟨fun q => absurd q (by decide), fun q => absurd hc16 q.1⟩⟩
def Q_ln2 (Z : State) (b : Addr) (h0 : Heap) (n0 : Nat) (v : Option Value) (h : Heap) (L : List Loc) : Prop := v = some (.int (2 : Int32)) ∧ Fr n0 L ∧ h = h0
set_option maxRecDepth 65536 in
set_option maxHeartbeats 40000000 in
theorem rm_ln2 (l : Launch) (Z : State) (a0 : Array Value) (hw : ∀ d ∈ tables_1, d.before a0 Z = true) (ws : List Jvm.Cond) (b : Addr) (h0 : Heap) (n0 : Nat) (Z0 : n0 ≤ h0.size) (k : ClassId) (vs : List Value) (A_b : Arv Z h0 b k .byte (4 : Int32) vs (.int (0 : Int32))) : own_Met l Z ⟨"java/lang/StringUTF16", "length", "([B)I"⟩ jdk_52_method_6_code 1 (some .int) ws ⟨0, 0, 0, 0⟩ #[(.ref b)] h0 (Q_ln2 Z b h0 n0) := by
  refine own_met n0 own_pn_java_lang_StringUTF16 (fun m => ef1R m b) ?_
  intro p e s m below meth c T lc hret hx hZ hby hml hown hnm hlk X eT N
  refine own_aloadN X hx (hb hby own25_0) (pc' := 1) rfl rfl rfl ?_
  refine own_arrlen X hx hZ eT A_b (hb hby own25_1) (pc' := 2) rfl ?_
  refine own_iconst X hx (1 : Int32) (hb hby own25_2) (pc' := 3) rfl rfl ?_
  refine own_ishr X hx (hb hby own25_3) (pc' := 4) rfl ?_
  rw [show ((4 : Int32) >>> ((1 : Int32) &&& 31)) = (2 : Int32) from by decide]
  refine own_retI X hx hlk (t := .int) (w' := (.int (2 : Int32))) hret (hb hby own25_4) rfl rfl (by simp) (by decide) (by decide) ?_
  rw [eT]
  exact ⟨rfl, N, rfl⟩
def Q_pf2 (Z : State) (fm : Value) (h0 : Heap) (n0 : Nat) (v : Option Value) (h : Heap) (L : List Loc) : Prop := v = some (.int (0 : Int32)) ∧ Fr n0 L ∧ h = h0
set_option maxRecDepth 65536 in
set_option maxHeartbeats 40000000 in
theorem rm_pf2 (l : Launch) (Z : State) (a0 : Array Value) (hw : ∀ d ∈ tables_1, d.before a0 Z = true) (ws : List Jvm.Cond) (fm : Value) (h0 : Heap) (n0 : Nat) (Z0 : n0 ≤ h0.size) (hfm : fm.isRef = true) : own_Met l Z ⟨"jdk/internal/util/Preconditions", "checkFromToIndex", "(IIILjava/util/function/BiFunction;)I"⟩ jdk_41_method_12_code 4 (some .int) ws ⟨0, 0, 0, 0⟩ #[(.int (0 : Int32)), (.int (2 : Int32)), (.int (2 : Int32)), fm] h0 (Q_pf2 Z fm h0 n0) := by
  refine own_met n0 own_pn_jdk_internal_util_Preconditions (fun m => ef4IIIV m (0 : Int32) (2 : Int32) (2 : Int32) fm hfm) ?_
  intro p e s m below meth c T lc hret hx hZ hby hml hown hnm hlk X eT N
  refine own_iloadN X hx (hb hby own26_0) (pc' := 1) rfl rfl ?_
  refine own_ifN X hx (hb hby own26_1) (pc' := 4) rfl (show ¬ ((0 : Int32) < (0 : Int32)) from (by decide)) ?_
  refine own_iloadN X hx (hb hby own26_4) (pc' := 5) rfl rfl ?_
  refine own_iloadN X hx (hb hby own26_5) (pc' := 6) rfl rfl ?_
  refine own_icmpN X hx (hb hby own26_6) (pc' := 9) rfl (show ¬ ((2 : Int32) < (0 : Int32)) from (by decide)) ?_
  refine own_iloadN X hx (hb hby own26_9) (pc' := 10) rfl rfl ?_
  refine own_iloadN X hx (hb hby own26_10) (pc' := 11) rfl rfl ?_
  refine own_icmpY X hx (hb hby own26_11) (by decide) (pc' := 22) rfl (show ¬ ((2 : Int32) < (2 : Int32)) from (by decide)) ?_
  refine own_iloadN X hx (hb hby own26_22) (pc' := 23) rfl rfl ?_
  refine own_retI X hx hlk (t := .int) (w' := (.int (0 : Int32))) hret (hb hby own26_23) rfl rfl (by simp) (by decide) (by decide) ?_
  rw [eT]
  exact ⟨rfl, N, rfl⟩
def Q_sb2 (Z : State) (fm : Value) (h0 : Heap) (n0 : Nat) (v : Option Value) (h : Heap) (L : List Loc) : Prop := v = none ∧ Fr n0 L ∧ h = h0
set_option maxRecDepth 65536 in
set_option maxHeartbeats 40000000 in
theorem rm_sb2 (l : Launch) (Z : State) (a0 : Array Value) (hw : ∀ d ∈ tables_1, d.before a0 Z = true) (ws : List Jvm.Cond) (fm : Value) (h0 : Heap) (n0 : Nat) (Z0 : n0 ≤ h0.size) (S_F : Sta Z h0 "jdk/internal/util/Preconditions" "SIOOBE_FORMATTER" "Ljava/util/function/BiFunction;" fm) (hfm : fm.isRef = true) : own_Met l Z ⟨"java/lang/String", "checkBoundsBeginEnd", "(III)V"⟩ jdk_42_method_158_code 3 none ws ⟨1, 0, 0, 20⟩ #[(.int (0 : Int32)), (.int (2 : Int32)), (.int (2 : Int32))] h0 (Q_sb2 Z fm h0 n0) := by
  refine own_met n0 own_pn_java_lang_String (fun m => ef3III m (0 : Int32) (2 : Int32) (2 : Int32)) ?_
  intro p e s m below meth c T lc hret hx hZ hby hml hown hnm hlk X eT N
  refine own_iloadN X hx (hb hby own27_0) (pc' := 1) rfl rfl ?_
  refine own_iloadN X hx (hb hby own27_1) (pc' := 2) rfl rfl ?_
  refine own_iloadN X hx (hb hby own27_2) (pc' := 3) rfl rfl ?_
  refine own_getS X hx hZ hown (host := "") (Or.inl (own_w hw 127 rfl)) Via.refl eT S_F (hb hby own27_3) (pc' := 6) rfl ?_
  intro T X eT
  refine own_callS X hx hZ [(.int (0 : Int32)), (.int (2 : Int32)), (.int (2 : Int32)), fm] hown (own_w hw 129 rfl) (own_w hw 130 rfl) (own_w hw 128 rfl) (own_w hw 131 rfl) (by decide) (rm_pf2 l Z a0 hw [] fm h0 n0 Z0 hfm) eT (W := 0) (by decide) (by decide) (cells' := 0) (slots' := 0) rfl rfl (by decide) (by decide) (by rw [hml]; rfl) (lenOf own_pd_28IIILjava2futil2ffunction2fBiFunction3b29I rfl) rfl (S := []) rfl (Nat.le_of_eq rfl) (hb hby own27_6) (pc' := 9) rfl ?_
  intro v T h1 L lc X eT hq fN
  obtain ⟨rfl, Nq, hqe⟩ := hq
  have N := fN _ N Nq
  rw [hqe] at eT
  show own_W _ _ _ _ _ _ _ _ [(.int (0 : Int32))]
  refine own_pop X hx (hb hby own27_9) (pc' := 10) rfl rfl ?_
  refine own_ret0 X hx hlk hret (hb hby own27_10) (by decide) (by decide) ?_
  rw [eT]
  exact ⟨rfl, N, rfl⟩
def Q_ub2 (Z : State) (b : Addr) (fm : Value) (h0 : Heap) (n0 : Nat) (v : Option Value) (h : Heap) (L : List Loc) : Prop := v = none ∧ Fr n0 L ∧ h = h0
set_option maxRecDepth 65536 in
set_option maxHeartbeats 40000000 in
theorem rm_ub2 (l : Launch) (Z : State) (a0 : Array Value) (hw : ∀ d ∈ tables_1, d.before a0 Z = true) (ws : List Jvm.Cond) (b : Addr) (fm : Value) (h0 : Heap) (n0 : Nat) (Z0 : n0 ≤ h0.size) (S_F : Sta Z h0 "jdk/internal/util/Preconditions" "SIOOBE_FORMATTER" "Ljava/util/function/BiFunction;" fm) (hfm : fm.isRef = true) (k : ClassId) (vs : List Value) (A_b : Arv Z h0 b k .byte (4 : Int32) vs (.int (0 : Int32))) : own_Met l Z ⟨"java/lang/StringUTF16", "checkBoundsBeginEnd", "(II[B)V"⟩ jdk_52_method_93_code 3 none ws ⟨2, 0, 0, 39⟩ #[(.int (0 : Int32)), (.int (2 : Int32)), (.ref b)] h0 (Q_ub2 Z b fm h0 n0) := by
  refine own_met n0 own_pn_java_lang_StringUTF16 (fun m => ef3IIR m (0 : Int32) (2 : Int32) b) ?_
  intro p e s m below meth c T lc hret hx hZ hby hml hown hnm hlk X eT N
  refine own_iloadN X hx (hb hby own28_0) (pc' := 1) rfl rfl ?_
  refine own_iloadN X hx (hb hby own28_1) (pc' := 2) rfl rfl ?_
  refine own_aloadN X hx (hb hby own28_2) (pc' := 3) rfl rfl rfl ?_
  refine own_callS X hx hZ [(.ref b)] hown (own_w hw 121 rfl) (own_w hw 122 rfl) (own_w hw 76 rfl) (own_w hw 123 rfl) (by decide) (rm_ln2 l Z a0 hw [] b h0 n0 Z0 _ _ A_b) eT (W := 2) (by decide) (by decide) (cells' := 0) (slots' := 0) rfl rfl (by decide) (by decide) (by rw [hml]; rfl) (lenOf own_pd_285bB29I rfl) rfl (S := [(.int (2 : Int32)), (.int (0 : Int32))]) rfl (Nat.le_of_eq rfl) (hb hby own28_3) (pc' := 6) rfl ?_
  intro v T h1 L lc X eT hq fN
  obtain ⟨rfl, Nq, hqe⟩ := hq
  have N := fN _ N Nq
  rw [hqe] at eT
  show own_W _ _ _ _ _ _ _ _ [(.int (2 : Int32)), (.int (2 : Int32)), (.int (0 : Int32))]
  refine own_callS X hx hZ [(.int (0 : Int32)), (.int (2 : Int32)), (.int (2 : Int32))] hown (own_w hw 124 rfl) (own_w hw 125 rfl) (own_w hw 10 rfl) (own_w hw 126 rfl) (by decide) (rm_sb2 l Z a0 hw [] fm h0 n0 Z0 S_F hfm) eT (W := 0) (by decide) (by decide) (cells' := 0) (slots' := 0) rfl rfl (by decide) (by decide) (by rw [hml]; rfl) (lenOf own_pd_28III29V rfl) rfl (S := []) rfl (Nat.le_of_eq rfl) (hb hby own28_6) (pc' := 9) rfl ?_
  intro v T h2 L lc X eT hq fN
  obtain ⟨rfl, Nq, hqe⟩ := hq
  have N := fN _ N Nq
  rw [hqe] at eT
  show own_W _ _ _ _ _ _ _ _ []
  refine own_ret0 X hx hlk hret (hb hby own28_9) (by decide) (by decide) ?_
  rw [eT]
  exact ⟨rfl, N, rfl⟩
def Q_uc2 (Z : State) (b : Addr) (p1 : Int32) (fm : Value) (d0 d1 : Int32) (h0 : Heap) (n0 : Nat) (v : Option Value) (h : Heap) (L : List Loc) : Prop := ∃ z : Int32, v = some (.int z) ∧ Fr n0 L ∧ h = h0 ∧ (z < 0 ↔ (¬ (d0 = p1) ∧ ¬ (d1 = p1) ∧ True))
set_option maxRecDepth 65536 in
set_option maxHeartbeats 40000000 in
theorem rm_uc2 (l : Launch) (Z : State) (a0 : Array Value) (hw : ∀ d ∈ tables_1, d.before a0 Z = true) (ws : List Jvm.Cond) (b : Addr) (p1 : Int32) (fm : Value) (d0 d1 : Int32) (h0 : Heap) (n0 : Nat) (Z0 : n0 ≤ h0.size) (S_A : Sta Z h0 "java/lang/StringUTF16" "$assertionsDisabled" "Z" (.int (1 : Int32))) (S_H : Sta Z h0 "java/lang/StringUTF16" "HI_BYTE_SHIFT" "I" (.int (0 : Int32))) (S_L : Sta Z h0 "java/lang/StringUTF16" "LO_BYTE_SHIFT" "I" (.int (8 : Int32))) (S_F : Sta Z h0 "jdk/internal/util/Preconditions" "SIOOBE_FORMATTER" "Ljava/util/function/BiFunction;" fm) (hfm : fm.isRef = true) (hp : own_p1 p1) (k : ClassId) (A_b : Arv Z h0 b k .byte (4 : Int32) [(.int (own_lb d0)), (.int (own_hb d0)), (.int (own_lb d1)), (.int (own_hb d1))] (.int (0 : Int32))) (bd0 : own_c16 d0) (bd1 : own_c16 d1) : own_Met l Z ⟨"java/lang/StringUTF16", "indexOfChar", "([BIII)I"⟩ jdk_52_method_47_code 4 (some .int) ws ⟨3, 0, 0, 58⟩ #[(.ref b), (.int p1), (.int (0 : Int32)), (.int (2 : Int32))] h0 (Q_uc2 Z b p1 fm d0 d1 h0 n0) := by
  refine own_met n0 own_pn_java_lang_StringUTF16 (fun m => ef4RIII m b p1 (0 : Int32) (2 : Int32)) ?_
  intro p e s m below meth c T lc hret hx hZ hby hml hown hnm hlk X eT N
  refine own_iloadN X hx (hb hby own29_0) (pc' := 1) rfl rfl ?_
  refine own_iloadN X hx (hb hby own29_1) (pc' := 2) rfl rfl ?_
  refine own_aloadN X hx (hb hby own29_2) (pc' := 3) rfl rfl rfl ?_
  refine own_callS X hx hZ [(.int (0 : Int32)), (.int (2 : Int32)), (.ref b)] hown (own_w hw 118 rfl) (own_w hw 119 rfl) (own_w hw 76 rfl) (own_w hw 120 rfl) (by decide) (rm_ub2 l Z a0 hw [] b fm h0 n0 Z0 S_F hfm _ _ A_b) eT (W := 0) (by decide) (by decide) (cells' := 0) (slots' := 0) rfl rfl (by decide) (by decide) (by rw [hml]; rfl) (lenOf own_pd_28II5bB29V rfl) rfl (S := []) rfl (Nat.le_of_eq rfl) (hb hby own29_3) (pc' := 6) rfl ?_
  intro v T h1 L lc X eT hq fN
  obtain ⟨rfl, Nq, hqe⟩ := hq
  have N := fN _ N Nq
  rw [hqe] at eT
  show own_W _ _ _ _ _ _ _ _ []
  refine own_aloadN X hx (hb hby own29_6) (pc' := 7) rfl rfl rfl ?_
  refine own_iloadN X hx (hb hby own29_7) (pc' := 8) rfl rfl ?_
  refine own_iloadN X hx (hb hby own29_8) (pc' := 9) rfl rfl ?_
  refine own_iloadN X hx (hb hby own29_9) (pc' := 10) rfl rfl ?_
  refine own_callS X hx hZ [(.ref b), (.int p1), (.int (0 : Int32)), (.int (2 : Int32))] hown (own_w hw 132 rfl) (own_w hw 133 rfl) (own_w hw 76 rfl) (own_w hw 134 rfl) (by decide) (rm_uu2 l Z a0 hw [] b p1 fm d0 d1 h0 n0 Z0 S_A S_H S_L S_F hfm hp _ A_b bd0 bd1) eT (W := 0) (by decide) (by decide) (cells' := 0) (slots' := 0) rfl rfl (by decide) (by decide) (by rw [hml]; rfl) (lenOf own_pd_285bBIII29I rfl) rfl (S := []) rfl (Nat.le_of_eq rfl) (hb hby own29_10) (pc' := 13) rfl ?_
  intro v T h2 L lc X eT hq fN
  obtain ⟨zz, rfl, Nq, hqe, hz⟩ := hq
  have N := fN _ N Nq
  rw [hqe] at eT
  show own_W _ _ _ _ _ _ _ _ [(.int zz)]
  refine own_retI X hx hlk (t := .int) (w' := (.int zz)) hret (hb hby own29_13) rfl rfl (by simp) (by decide) (by decide) ?_
  rw [eT]
  exact ⟨_, rfl, N, rfl, hz⟩
def Q_ux2 (Z : State) (b : Addr) (p1 : Int32) (fm : Value) (d0 d1 : Int32) (h0 : Heap) (n0 : Nat) (v : Option Value) (h : Heap) (L : List Loc) : Prop := ∃ z : Int32, v = some (.int z) ∧ Fr n0 L ∧ h = h0 ∧ (z < 0 ↔ (¬ (d0 = p1) ∧ ¬ (d1 = p1) ∧ True))
set_option maxRecDepth 65536 in
set_option maxHeartbeats 40000000 in
theorem rm_ux2 (l : Launch) (Z : State) (a0 : Array Value) (hw : ∀ d ∈ tables_1, d.before a0 Z = true) (ws : List Jvm.Cond) (b : Addr) (p1 : Int32) (fm : Value) (d0 d1 : Int32) (h0 : Heap) (n0 : Nat) (Z0 : n0 ≤ h0.size) (S_A : Sta Z h0 "java/lang/StringUTF16" "$assertionsDisabled" "Z" (.int (1 : Int32))) (S_H : Sta Z h0 "java/lang/StringUTF16" "HI_BYTE_SHIFT" "I" (.int (0 : Int32))) (S_L : Sta Z h0 "java/lang/StringUTF16" "LO_BYTE_SHIFT" "I" (.int (8 : Int32))) (S_F : Sta Z h0 "jdk/internal/util/Preconditions" "SIOOBE_FORMATTER" "Ljava/util/function/BiFunction;" fm) (hfm : fm.isRef = true) (hp : own_p1 p1) (k : ClassId) (A_b : Arv Z h0 b k .byte (4 : Int32) [(.int (own_lb d0)), (.int (own_hb d0)), (.int (own_lb d1)), (.int (own_hb d1))] (.int (0 : Int32))) (bd0 : own_c16 d0) (bd1 : own_c16 d1) : own_Met l Z ⟨"java/lang/StringUTF16", "indexOf", "([BIII)I"⟩ jdk_52_method_40_code 4 (some .int) ws ⟨4, 0, 0, 78⟩ #[(.ref b), (.int p1), (.int (0 : Int32)), (.int (2 : Int32))] h0 (Q_ux2 Z b p1 fm d0 d1 h0 n0) := by
  refine own_met n0 own_pn_java_lang_StringUTF16 (fun m => ef4RIII m b p1 (0 : Int32) (2 : Int32)) ?_
  intro p e s m below meth c T lc hret hx hZ hby hml hown hnm hlk X eT N
  refine own_iloadN X hx (hb hby own30_0) (pc' := 1) rfl rfl ?_
  refine own_iconst X hx (0 : Int32) (hb hby own30_1) (pc' := 2) rfl rfl ?_
  refine own_callS X hx hZ [(.int (0 : Int32)), (.int (0 : Int32))] hown (own_w hw 112 rfl) (own_w hw 68 rfl) (own_w hw 69 rfl) (own_w hw 70 rfl) (by decide) (rm_max l Z a0 hw [] (0 : Int32) (0 : Int32) h0 n0 Z0 (by decide)) eT (W := 0) (by decide) (by decide) (cells' := 0) (slots' := 0) rfl rfl (by decide) (by decide) (by rw [hml]; rfl) (lenOf own_pd_28II29I rfl) rfl (S := []) rfl (Nat.le_of_eq rfl) (hb hby own30_2) (pc' := 5) rfl ?_
  intro v T h1 L lc X eT hq fN
  obtain ⟨rfl, Nq, hqe⟩ := hq
  have N := fN _ N Nq
  rw [hqe] at eT
  show own_W _ _ _ _ _ _ _ _ [(.int (0 : Int32))]
  refine own_istoreN X hx (hb hby own30_5) (pc' := 6) rfl (Ls' := #[.val (.ref b), .val (.int p1), .val (.int (0 : Int32)), .val (.int (2 : Int32))]) rfl ?_
  refine own_iloadN X hx (hb hby own30_6) (pc' := 7) rfl rfl ?_
  refine own_aloadN X hx (hb hby own30_7) (pc' := 8) rfl rfl rfl ?_
  refine own_arrlen X hx hZ eT A_b (hb hby own30_8) (pc' := 9) rfl ?_
  refine own_iconst X hx (1 : Int32) (hb hby own30_9) (pc' := 10) rfl rfl ?_
  refine own_ishr X hx (hb hby own30_10) (pc' := 11) rfl ?_
  rw [show ((4 : Int32) >>> ((1 : Int32) &&& 31)) = (2 : Int32) from by decide]
  refine own_callS X hx hZ [(.int (2 : Int32)), (.int (2 : Int32))] hown (own_w hw 113 rfl) (own_w hw 72 rfl) (own_w hw 69 rfl) (own_w hw 73 rfl) (by decide) (rm_min l Z a0 hw [] (2 : Int32) (2 : Int32) h0 n0 Z0 (by decide)) eT (W := 0) (by decide) (by decide) (cells' := 0) (slots' := 0) rfl rfl (by decide) (by decide) (by rw [hml]; rfl) (lenOf own_pd_28II29I rfl) rfl (S := []) rfl (Nat.le_of_eq rfl) (hb hby own30_11) (pc' := 14) rfl ?_
  intro v T h2 L lc X eT hq fN
  obtain ⟨rfl, Nq, hqe⟩ := hq
  have N := fN _ N Nq
  rw [hqe] at eT
  show own_W _ _ _ _ _ _ _ _ [(.int (2 : Int32))]
  refine own_istoreN X hx (hb hby own30_14) (pc' := 15) rfl (Ls' := #[.val (.ref b), .val (.int p1), .val (.int (0 : Int32)), .val (.int (2 : Int32))]) rfl ?_
  refine own_iloadN X hx (hb hby own30_15) (pc' := 16) rfl rfl ?_
  refine own_iloadN X hx (hb hby own30_16) (pc' := 17) rfl rfl ?_
  refine own_icmpY X hx (hb hby own30_17) (by decide) (pc' := 22) rfl (show (0 : Int32) < (2 : Int32) from (by decide)) ?_
  refine own_iloadN X hx (hb hby own30_22) (pc' := 23) rfl rfl ?_
  refine own_ldc X hx hZ hown (own_w hw 114 rfl) (hb hby own30_23) (pc' := 25) rfl ?_
  refine own_icmpN X hx (hb hby own30_25) (pc' := 28) rfl (show p1 < (65536 : Int32) from (own_q65 hp)) ?_
  refine own_aloadN X hx (hb hby own30_28) (pc' := 29) rfl rfl rfl ?_
  refine own_iloadN X hx (hb hby own30_29) (pc' := 30) rfl rfl ?_
  refine own_iloadN X hx (hb hby own30_30) (pc' := 31) rfl rfl ?_
  refine own_iloadN X hx (hb hby own30_31) (pc' := 32) rfl rfl ?_
  refine own_callS X hx hZ [(.ref b), (.int p1), (.int (0 : Int32)), (.int (2 : Int32))] hown (own_w hw 115 rfl) (own_w hw 116 rfl) (own_w hw 76 rfl) (own_w hw 117 rfl) (by decide) (rm_uc2 l Z a0 hw [] b p1 fm d0 d1 h0 n0 Z0 S_A S_H S_L S_F hfm hp _ A_b bd0 bd1) eT (W := 0) (by decide) (by decide) (cells' := 0) (slots' := 0) rfl rfl (by decide) (by decide) (by rw [hml]; rfl) (lenOf own_pd_285bBIII29I rfl) rfl (S := []) rfl (Nat.le_of_eq rfl) (hb hby own30_32) (pc' := 35) rfl ?_
  intro v T h3 L lc X eT hq fN
  obtain ⟨zz, rfl, Nq, hqe, hz⟩ := hq
  have N := fN _ N Nq
  rw [hqe] at eT
  show own_W _ _ _ _ _ _ _ _ [(.int zz)]
  refine own_retI X hx hlk (t := .int) (w' := (.int zz)) hret (hb hby own30_35) rfl rfl (by simp) (by decide) (by decide) ?_
  rw [eT]
  exact ⟨_, rfl, N, rfl, hz⟩
def Q_lenU2 (Z : State) (a1 b : Addr) (cs : Int32) (h0 : Heap) (n0 : Nat) (v : Option Value) (h : Heap) (L : List Loc) : Prop := v = some (.int (2 : Int32)) ∧ Fr n0 L ∧ h = h0
set_option maxRecDepth 65536 in
set_option maxHeartbeats 40000000 in
theorem rm_lenU2 (l : Launch) (Z : State) (a0 : Array Value) (hw : ∀ d ∈ tables_1, d.before a0 Z = true) (ws : List Jvm.Cond) (a1 b : Addr) (cs : Int32) (h0 : Heap) (n0 : Nat) (Z0 : n0 ≤ h0.size) (S_C : Sta Z h0 "java/lang/String" "COMPACT_STRINGS" "Z" (.int cs)) (hcs : ¬ cs = 0) (E_a1 : Exa Z h0 a1 "java/lang/String") (F_c : Fld Z h0 a1 "java/lang/String" "coder" "B" (.int (1 : Int32))) (F_v : Fld Z h0 a1 "java/lang/String" "value" "[B" (.ref b)) (k : ClassId) (vs : List Value) (A_b : Arv Z h0 b k .byte (4 : Int32) vs (.int (0 : Int32))) : own_Met l Z ⟨"java/lang/String", "length", "()I"⟩ jdk_42_method_54_code 1 (some .int) ws ⟨1, 0, 0, 13⟩ #[(.ref a1)] h0 (Q_lenU2 Z a1 b cs h0 n0) := by
  refine own_met n0 own_pn_java_lang_String (fun m => ef1R m a1) ?_
  intro p e s m below meth c T lc hret hx hZ hby hml hown hnm hlk X eT N
  refine own_aloadN X hx (hb hby own18_0) (pc' := 1) rfl rfl rfl ?_
  refine own_getF X hx hZ hown (host := "") (Or.inl (own_w hw 28 rfl)) Via.refl eT F_v (hb hby own18_1) (pc' := 4) rfl ?_
  intro T X eT
  refine own_arrlen X hx hZ eT A_b (hb hby own18_4) (pc' := 5) rfl ?_
  refine own_aloadN X hx (hb hby own18_5) (pc' := 6) rfl rfl rfl ?_
  refine own_callV X hx hZ (y := (⟨"java/lang/String", "coder", "()B"⟩ : MethodName)) a1 [] hown (own_w hw 55 rfl) (own_w hw 56 rfl) (own_w hw 58 rfl) (own_w hw 57 rfl) (own_w hw 10 rfl) (own_w hw 59 rfl) (by decide) (rm_coderU l Z a0 hw [] a1 cs h0 n0 Z0 S_C hcs F_c) E_a1 eT (W := 1) (by decide) (by decide) (cells' := 0) (slots' := 0) rfl rfl (by decide) (by decide) (by rw [hml]; rfl) (lenOf own_pd_2829B rfl) rfl (S := [(.int (4 : Int32))]) rfl (Nat.le_of_eq rfl) (hb hby own18_6) (pc' := 9) rfl ?_
  intro v T h1 L lc X eT hq fN
  obtain ⟨rfl, Nq, hqe⟩ := hq
  have N := fN _ N Nq
  rw [hqe] at eT
  show own_W _ _ _ _ _ _ _ _ [(.int (1 : Int32)), (.int (4 : Int32))]
  refine own_ishr X hx (hb hby own18_9) (pc' := 10) rfl ?_
  rw [show ((4 : Int32) >>> ((1 : Int32) &&& 31)) = (2 : Int32) from by decide]
  refine own_retI X hx hlk (t := .int) (w' := (.int (2 : Int32))) hret (hb hby own18_10) rfl rfl (by simp) (by decide) (by decide) ?_
  rw [eT]
  exact ⟨rfl, N, rfl⟩
def Q_siL2 (Z : State) (a1 b : Addr) (p1 cs : Int32) (d0 d1 : Int32) (h0 : Heap) (n0 : Nat) (v : Option Value) (h : Heap) (L : List Loc) : Prop := ∃ z : Int32, v = some (.int z) ∧ Fr n0 L ∧ h = h0 ∧ (z < 0 ↔ (¬ (d0 = p1) ∧ ¬ (d1 = p1) ∧ True))
set_option maxRecDepth 65536 in
set_option maxHeartbeats 40000000 in
theorem rm_siL2 (l : Launch) (Z : State) (a0 : Array Value) (hw : ∀ d ∈ tables_1, d.before a0 Z = true) (ws : List Jvm.Cond) (a1 b : Addr) (p1 cs : Int32) (d0 d1 : Int32) (h0 : Heap) (n0 : Nat) (Z0 : n0 ≤ h0.size) (S_C : Sta Z h0 "java/lang/String" "COMPACT_STRINGS" "Z" (.int cs)) (hcs : ¬ cs = 0) (E_a1 : Exa Z h0 a1 "java/lang/String") (F_c : Fld Z h0 a1 "java/lang/String" "coder" "B" (.int (0 : Int32))) (F_v : Fld Z h0 a1 "java/lang/String" "value" "[B" (.ref b)) (hp : own_p1 p1) (k : ClassId) (A_b : Arv Z h0 b k .byte (2 : Int32) [(.int (nar .byte d0.toInt8.toInt32)), (.int (nar .byte d1.toInt8.toInt32))] (.int (0 : Int32))) (bd0 : own_c16 d0) (bd1 : own_c16 d1) (hall : (¬ ((255 : Int32) < d0) ∧ ¬ ((255 : Int32) < d1))) : own_Met l Z ⟨"java/lang/String", "indexOf", "(II)I"⟩ jdk_42_method_80_code 3 (some .int) ws ⟨2, 0, 0, 42⟩ #[(.ref a1), (.int p1), (.int (0 : Int32))] h0 (Q_siL2 Z a1 b p1 cs d0 d1 h0 n0) := by
  refine own_met n0 own_pn_java_lang_String (fun m => ef3RII m a1 p1 (0 : Int32)) ?_
  intro p e s m below meth c T lc hret hx hZ hby hml hown hnm hlk X eT N
  refine own_aloadN X hx (hb hby own20_0) (pc' := 1) rfl rfl rfl ?_
  refine own_callV X hx hZ (y := (⟨"java/lang/String", "isLatin1", "()Z"⟩ : MethodName)) a1 [] hown (own_w hw 44 rfl) (own_w hw 45 rfl) (own_w hw 47 rfl) (own_w hw 46 rfl) (own_w hw 10 rfl) (own_w hw 48 rfl) (by decide) (rm_isLat l Z a0 hw [] a1 cs h0 n0 Z0 S_C hcs F_c) E_a1 eT (W := 0) (by decide) (by decide) (cells' := 0) (slots' := 0) rfl rfl (by decide) (by decide) (by rw [hml]; rfl) (lenOf own_pd_2829Z rfl) rfl (S := []) rfl (Nat.le_of_eq rfl) (hb hby own20_1) (pc' := 4) rfl ?_
  intro v T h1 L lc X eT hq fN
  obtain ⟨rfl, Nq, hqe⟩ := hq
  have N := fN _ N Nq
  rw [hqe] at eT
  show own_W _ _ _ _ _ _ _ _ [(.int (1 : Int32))]
  refine own_ifN X hx (hb hby own20_4) (pc' := 7) rfl (show ¬ ((1 : Int32) = (0 : Int32)) from (by decide)) ?_
  refine own_aloadN X hx (hb hby own20_7) (pc' := 8) rfl rfl rfl ?_
  refine own_getF X hx hZ hown (host := "") (Or.inl (own_w hw 28 rfl)) Via.refl eT F_v (hb hby own20_8) (pc' := 11) rfl ?_
  intro T X eT
  refine own_iloadN X hx (hb hby own20_11) (pc' := 12) rfl rfl ?_
  refine own_iloadN X hx (hb hby own20_12) (pc' := 13) rfl rfl ?_
  refine own_aloadN X hx (hb hby own20_13) (pc' := 14) rfl rfl rfl ?_
  refine own_callV X hx hZ (y := (⟨"java/lang/String", "length", "()I"⟩ : MethodName)) a1 [] hown (own_w hw 50 rfl) (own_w hw 51 rfl) (own_w hw 53 rfl) (own_w hw 52 rfl) (own_w hw 10 rfl) (own_w hw 54 rfl) (by decide) (rm_len l Z a0 hw [] a1 b cs (2 : Int32) h0 n0 Z0 S_C hcs E_a1 F_c F_v _ _ A_b) E_a1 eT (W := 3) (by decide) (by decide) (cells' := 0) (slots' := 0) rfl rfl (by decide) (by decide) (by rw [hml]; rfl) (lenOf own_pd_2829I rfl) rfl (S := [(.int (0 : Int32)), (.int p1), (.ref b)]) rfl (Nat.le_of_eq rfl) (hb hby own20_14) (pc' := 17) rfl ?_
  intro v T h2 L lc X eT hq fN
  obtain ⟨rfl, Nq, hqe⟩ := hq
  have N := fN _ N Nq
  rw [hqe] at eT
  show own_W _ _ _ _ _ _ _ _ [(.int (2 : Int32)), (.int (0 : Int32)), (.int p1), (.ref b)]
  refine own_callS X hx hZ [(.ref b), (.int p1), (.int (0 : Int32)), (.int (2 : Int32))] hown (own_w hw 60 rfl) (own_w hw 61 rfl) (own_w hw 62 rfl) (own_w hw 63 rfl) (by decide) (rm_lx2 l Z a0 hw [] b p1 d0 d1 h0 n0 Z0 hp _ A_b bd0 bd1 hall) eT (W := 0) (by decide) (by decide) (cells' := 0) (slots' := 0) rfl rfl (by decide) (by decide) (by rw [hml]; rfl) (lenOf own_pd_285bBIII29I rfl) rfl (S := []) rfl (Nat.le_of_eq rfl) (hb hby own20_17) (pc' := 20) rfl ?_
  intro v T h3 L lc X eT hq fN
  obtain ⟨zz, rfl, Nq, hqe, hz⟩ := hq
  have N := fN _ N Nq
  rw [hqe] at eT
  show own_W _ _ _ _ _ _ _ _ [(.int zz)]
  refine own_goto X hx (hb hby own20_20) (by decide) (pc' := 36) rfl ?_
  refine own_retI X hx hlk (t := .int) (w' := (.int zz)) hret (hb hby own20_36) rfl rfl (by simp) (by decide) (by decide) ?_
  rw [eT]
  exact ⟨_, rfl, N, rfl, hz⟩
def Q_sjL2 (Z : State) (a1 b : Addr) (p1 cs : Int32) (d0 d1 : Int32) (h0 : Heap) (n0 : Nat) (v : Option Value) (h : Heap) (L : List Loc) : Prop := ∃ z : Int32, v = some (.int z) ∧ Fr n0 L ∧ h = h0 ∧ (z < 0 ↔ (¬ (d0 = p1) ∧ ¬ (d1 = p1) ∧ True))
set_option maxRecDepth 65536 in
set_option maxHeartbeats 40000000 in
theorem rm_sjL2 (l : Launch) (Z : State) (a0 : Array Value) (hw : ∀ d ∈ tables_1, d.before a0 Z = true) (ws : List Jvm.Cond) (a1 b : Addr) (p1 cs : Int32) (d0 d1 : Int32) (h0 : Heap) (n0 : Nat) (Z0 : n0 ≤ h0.size) (S_C : Sta Z h0 "java/lang/String" "COMPACT_STRINGS" "Z" (.int cs)) (hcs : ¬ cs = 0) (E_a1 : Exa Z h0 a1 "java/lang/String") (F_c : Fld Z h0 a1 "java/lang/String" "coder" "B" (.int (0 : Int32))) (F_v : Fld Z h0 a1 "java/lang/String" "value" "[B" (.ref b)) (hp : own_p1 p1) (k : ClassId) (A_b : Arv Z h0 b k .byte (2 : Int32) [(.int (nar .byte d0.toInt8.toInt32)), (.int (nar .byte d1.toInt8.toInt32))] (.int (0 : Int32))) (bd0 : own_c16 d0) (bd1 : own_c16 d1) (hall : (¬ ((255 : Int32) < d0) ∧ ¬ ((255 : Int32) < d1))) : own_Met l Z ⟨"java/lang/String", "indexOf", "(I)I"⟩ jdk_42_method_79_code 2 (some .int) ws ⟨3, 0, 0, 61⟩ #[(.ref a1), (.int p1)] h0 (Q_sjL2 Z a1 b p1 cs d0 d1 h0 n0) := by
  refine own_met n0 own_pn_java_lang_String (fun m => ef2RI m a1 p1) ?_
  intro p e s m below meth c T lc hret hx hZ hby hml hown hnm hlk X eT N
  refine own_aloadN X hx (hb hby own21_0) (pc' := 1) rfl rfl rfl ?_
  refine own_iloadN X hx (hb hby own21_1) (pc' := 2) rfl rfl ?_
  refine own_iconst X hx (0 : Int32) (hb hby own21_2) (pc' := 3) rfl rfl ?_
  refine own_callV X hx hZ (y := (⟨"java/lang/String", "indexOf", "(II)I"⟩ : MethodName)) a1 [(.int p1), (.int (0 : Int32))] hown (own_w hw 39 rfl) (own_w hw 40 rfl) (own_w hw 42 rfl) (own_w hw 41 rfl) (own_w hw 10 rfl) (own_w hw 43 rfl) (by decide) (rm_siL2 l Z a0 hw [] a1 b p1 cs d0 d1 h0 n0 Z0 S_C hcs E_a1 F_c F_v hp _ A_b bd0 bd1 hall) E_a1 eT (W := 0) (by decide) (by decide) (cells' := 0) (slots' := 0) rfl rfl (by decide) (by decide) (by rw [hml]; rfl) (lenOf own_pd_28II29I rfl) rfl (S := []) rfl (Nat.le_of_eq rfl) (hb hby own21_3) (pc' := 6) rfl ?_
  intro v T h1 L lc X eT hq fN
  obtain ⟨zz, rfl, Nq, hqe, hz⟩ := hq
  have N := fN _ N Nq
  rw [hqe] at eT
  show own_W _ _ _ _ _ _ _ _ [(.int zz)]
  refine own_retI X hx hlk (t := .int) (w' := (.int zz)) hret (hb hby own21_6) rfl rfl (by simp) (by decide) (by decide) ?_
  rw [eT]
  exact ⟨_, rfl, N, rfl, hz⟩
def Q_chL2 (Z : State) (a1 b : Addr) (cs : Int32) (d0 d1 : Int32) (h0 : Heap) (n0 : Nat) (v : Option Value) (h : Heap) (L : List Loc) : Prop := ∃ z : Int32, v = some (.int z) ∧ Fr n0 L ∧ h = h0 ∧ ((z = 1 ∧ (¬ (d0 = (9 : Int32)) ∧ ¬ (d1 = (9 : Int32)) ∧ True) ∧ (¬ (d0 = (10 : Int32)) ∧ ¬ (d1 = (10 : Int32)) ∧ True)) ∨ (z = 0 ∧ ¬ ((¬ (d0 = (9 : Int32)) ∧ ¬ (d1 = (9 : Int32)) ∧ True) ∧ (¬ (d0 = (10 : Int32)) ∧ ¬ (d1 = (10 : Int32)) ∧ True))))
set_option maxRecDepth 65536 in
set_option maxHeartbeats 40000000 in
theorem rm_chL2 (l : Launch) (Z : State) (a0 : Array Value) (hw : ∀ d ∈ tables_1, d.before a0 Z = true) (ws : List Jvm.Cond) (a1 b : Addr) (cs : Int32) (d0 d1 : Int32) (h0 : Heap) (n0 : Nat) (Z0 : n0 ≤ h0.size) (S_C : Sta Z h0 "java/lang/String" "COMPACT_STRINGS" "Z" (.int cs)) (hcs : ¬ cs = 0) (E_a1 : Exa Z h0 a1 "java/lang/String") (F_c : Fld Z h0 a1 "java/lang/String" "coder" "B" (.int (0 : Int32))) (F_v : Fld Z h0 a1 "java/lang/String" "value" "[B" (.ref b)) (k : ClassId) (A_b : Arv Z h0 b k .byte (2 : Int32) [(.int (nar .byte d0.toInt8.toInt32)), (.int (nar .byte d1.toInt8.toInt32))] (.int (0 : Int32))) (bd0 : own_c16 d0) (bd1 : own_c16 d1) (hall : (¬ ((255 : Int32) < d0) ∧ ¬ ((255 : Int32) < d1))) : own_Met l Z ⟨"com/example/bleeper/bleeper/cli/Fields", "canHold", "(Ljava/lang/String;)Z"⟩ prog_47_method_2_code 1 (some .boolean) ws ⟨4, 0, 0, 79⟩ #[(.ref a1)] h0 (Q_chL2 Z a1 b cs d0 d1 h0 n0) := by
  refine own_met n0 own_pn_com_example_bleeper_bleeper_cli_Fields (fun m => ef1R m a1) ?_
  intro p e s m below meth c T lc hret hx hZ hby hml hown hnm hlk X eT N
  refine own_aloadN X hx (hb hby own22_0) (pc' := 1) rfl rfl rfl ?_
  refine own_bipush X hx (9 : Int32) (hb hby own22_1) (pc' := 3) rfl rfl ?_
  refine own_callV X hx hZ (y := (⟨"java/lang/String", "indexOf", "(I)I"⟩ : MethodName)) a1 [(.int (9 : Int32))] hown (own_w hw 34 rfl) (own_w hw 35 rfl) (own_w hw 37 rfl) (own_w hw 36 rfl) (own_w hw 10 rfl) (own_w hw 38 rfl) (by decide) (rm_sjL2 l Z a0 hw [] a1 b (9 : Int32) cs d0 d1 h0 n0 Z0 S_C hcs E_a1 F_c F_v (show own_p1 _ from ⟨by decide, by decide⟩) _ A_b bd0 bd1 hall) E_a1 eT (W := 0) (by decide) (by decide) (cells' := 0) (slots' := 0) rfl rfl (by decide) (by decide) (by rw [hml]; rfl) (lenOf own_pd_28I29I rfl) rfl (S := []) rfl (Nat.le_of_eq rfl) (hb hby own22_3) (pc' := 6) rfl ?_
  intro v T h1 L lc X eT hq fN
  obtain ⟨z1, rfl, Nq, hqe, B1⟩ := hq
  have N := fN _ N Nq
  rw [hqe] at eT
  show own_W _ _ _ _ _ _ _ _ [(.int z1)]
  refine own_if X hx (hb hby own22_6) (by decide) (pcY := 22) (pcN := 9) rfl rfl (fun (hc6 : ¬ (z1 < (0 : Int32))) => ?_) (fun (hc6 : z1 < (0 : Int32)) => ?_)
  · refine own_iconst X hx (0 : Int32) (hb hby own22_22) (pc' := 23) rfl rfl ?_
    refine own_retI X hx hlk (t := .boolean) (w' := (.int (0 : Int32))) hret (hb hby own22_23) rfl rfl (by simp) (by decide) (by decide) ?_
    rw [eT]
    exact ⟨_, rfl, N, rfl, Or.inr ⟨rfl, fun q => hc6 (B1.mpr q.1)⟩⟩
  · refine own_aloadN X hx (hb hby own22_9) (pc' := 10) rfl rfl rfl ?_
    refine own_bipush X hx (10 : Int32) (hb hby own22_10) (pc' := 12) rfl rfl ?_
    refine own_callV X hx hZ (y := (⟨"java/lang/String", "indexOf", "(I)I"⟩ : MethodName)) a1 [(.int (10 : Int32))] hown (own_w hw 34 rfl) (own_w hw 35 rfl) (own_w hw 37 rfl) (own_w hw 36 rfl) (own_w hw 10 rfl) (own_w hw 38 rfl) (by decide) (rm_sjL2 l Z a0 hw [] a1 b (10 : Int32) cs d0 d1 h0 n0 Z0 S_C hcs E_a1 F_c F_v (show own_p1 _ from ⟨by decide, by decide⟩) _ A_b bd0 bd1 hall) E_a1 eT (W := 0) (by decide) (by decide) (cells' := 0) (slots' := 0) rfl rfl (by decide) (by decide) (by rw [hml]; rfl) (lenOf own_pd_28I29I rfl) rfl (S := []) rfl (Nat.le_of_eq rfl) (hb hby own22_12) (pc' := 15) rfl ?_
    intro v T h2 L lc X eT hq fN
    obtain ⟨z2, rfl, Nq, hqe, B2⟩ := hq
    have N := fN _ N Nq
    rw [hqe] at eT
    show own_W _ _ _ _ _ _ _ _ [(.int z2)]
    refine own_if X hx (hb hby own22_15) (by decide) (pcY := 22) (pcN := 18) rfl rfl (fun (hc15 : ¬ (z2 < (0 : Int32))) => ?_) (fun (hc15 : z2 < (0 : Int32)) => ?_)
    · refine own_iconst X hx (0 : Int32) (hb hby own22_22) (pc' := 23) rfl rfl ?_
      refine own_retI X hx hlk (t := .boolean) (w' := (.int (0 : Int32))) hret (hb hby own22_23) rfl rfl (by simp) (by decide) (by decide) ?_
      rw [eT]
      exact ⟨_, rfl, N, rfl, Or.inr ⟨rfl, fun q => hc15 (B2.mpr q.2)⟩⟩
    · refine own_iconst X hx (1 : Int32) (hb hby own22_18) (pc' := 19) rfl rfl ?_
      refine own_goto X hx (hb hby own22_19) (by decide) (pc' := 23) rfl ?_
      refine own_retI X hx hlk (t := .boolean) (w' := (.int (1 : Int32))) hret (hb hby own22_23) rfl rfl (by simp) (by decide) (by decide) ?_
      rw [eT]
      exact ⟨_, rfl, N, rfl, Or.inl ⟨rfl, B1.mp hc6, B2.mp hc15⟩⟩
def Q_siU2 (Z : State) (a1 b : Addr) (p1 cs : Int32) (fm : Value) (d0 d1 : Int32) (h0 : Heap) (n0 : Nat) (v : Option Value) (h : Heap) (L : List Loc) : Prop := ∃ z : Int32, v = some (.int z) ∧ Fr n0 L ∧ h = h0 ∧ (z < 0 ↔ (¬ (d0 = p1) ∧ ¬ (d1 = p1) ∧ True))
set_option maxRecDepth 65536 in
set_option maxHeartbeats 40000000 in
theorem rm_siU2 (l : Launch) (Z : State) (a0 : Array Value) (hw : ∀ d ∈ tables_1, d.before a0 Z = true) (ws : List Jvm.Cond) (a1 b : Addr) (p1 cs : Int32) (fm : Value) (d0 d1 : Int32) (h0 : Heap) (n0 : Nat) (Z0 : n0 ≤ h0.size) (S_C : Sta Z h0 "java/lang/String" "COMPACT_STRINGS" "Z" (.int cs)) (hcs : ¬ cs = 0) (E_a1 : Exa Z h0 a1 "java/lang/String") (F_c : Fld Z h0 a1 "java/lang/String" "coder" "B" (.int (1 : Int32))) (F_v : Fld Z h0 a1 "java/lang/String" "value" "[B" (.ref b)) (S_A : Sta Z h0 "java/lang/StringUTF16" "$assertionsDisabled" "Z" (.int (1 : Int32))) (S_H : Sta Z h0 "java/lang/StringUTF16" "HI_BYTE_SHIFT" "I" (.int (0 : Int32))) (S_L : Sta Z h0 "java/lang/StringUTF16" "LO_BYTE_SHIFT" "I" (.int (8 : Int32))) (S_F : Sta Z h0 "jdk/internal/util/Preconditions" "SIOOBE_FORMATTER" "Ljava/util/function/BiFunction;" fm) (hfm : fm.isRef = true) (hp : own_p1 p1) (k : ClassId) (A_b : Arv Z h0 b k .byte (4 : Int32) [(.int (own_lb d0)), (.int (own_hb d0)), (.int (own_lb d1)), (.int (own_hb d1))] (.int (0 : Int32))) (bd0 : own_c16 d0) (bd1 : own_c16 d1) : own_Met l Z ⟨"java/lang/String", "indexOf", "(II)I"⟩ jdk_42_method_80_code 3 (some .int) ws ⟨5, 0, 0, 98⟩ #[(.ref a1), (.int p1), (.int (0 : Int32))] h0 (Q_siU2 Z a1 b p1 cs fm d0 d1 h0 n0) := by
  refine own_met n0 own_pn_java_lang_String (fun m => ef3RII m a1 p1 (0 : Int32)) ?_
  intro p e s m below meth c T lc hret hx hZ hby hml hown hnm hlk X eT N
  refine own_aloadN X hx (hb hby own20_0) (pc' := 1) rfl rfl rfl ?_
  refine own_callV X hx hZ (y := (⟨"java/lang/String", "isLatin1", "()Z"⟩ : MethodName)) a1 [] hown (own_w hw 44 rfl) (own_w hw 45 rfl) (own_w hw 47 rfl) (own_w hw 46 rfl) (own_w hw 10 rfl) (own_w hw 48 rfl) (by decide) (rm_isLatU l Z a0 hw [] a1 cs h0 n0 Z0 S_C hcs F_c) E_a1 eT (W := 0) (by decide) (by decide) (cells' := 0) (slots' := 0) rfl rfl (by decide) (by decide) (by rw [hml]; rfl) (lenOf own_pd_2829Z rfl) rfl (S := []) rfl (Nat.le_of_eq rfl) (hb hby own20_1) (pc' := 4) rfl ?_
  intro v T h1 L lc X eT hq fN
  obtain ⟨rfl, Nq, hqe⟩ := hq
  have N := fN _ N Nq
  rw [hqe] at eT
  show own_W _ _ _ _ _ _ _ _ [(.int (0 : Int32))]
  refine own_ifY X hx (hb hby own20_4) (by decide) (pc' := 23) rfl (show (0 : Int32) = (0 : Int32) from (by decide)) ?_
  refine own_aloadN X hx (hb hby own20_23) (pc' := 24) rfl rfl rfl ?_
  refine own_getF X hx hZ hown (host := "") (Or.inl (own_w hw 28 rfl)) Via.refl eT F_v (hb hby own20_24) (pc' := 27) rfl ?_
  intro T X eT
  refine own_iloadN X hx (hb hby own20_27) (pc' := 28) rfl rfl ?_
  refine own_iloadN X hx (hb hby own20_28) (pc' := 29) rfl rfl ?_
  refine own_aloadN X hx (hb hby own20_29) (pc' := 30) rfl rfl rfl ?_
  refine own_callV X hx hZ (y := (⟨"java/lang/String", "length", "()I"⟩ : MethodName)) a1 [] hown (own_w hw 50 rfl) (own_w hw 51 rfl) (own_w hw 53 rfl) (own_w hw 52 rfl) (own_w hw 10 rfl) (own_w hw 54 rfl) (by decide) (rm_lenU2 l Z a0 hw [] a1 b cs h0 n0 Z0 S_C hcs E_a1 F_c F_v _ _ A_b) E_a1 eT (W := 3) (by decide) (by decide) (cells' := 0) (slots' := 0) rfl rfl (by decide) (by decide) (by rw [hml]; rfl) (lenOf own_pd_2829I rfl) rfl (S := [(.int (0 : Int32)), (.int p1), (.ref b)]) rfl (Nat.le_of_eq rfl) (hb hby own20_30) (pc' := 33) rfl ?_
  intro v T h2 L lc X eT hq fN
  obtain ⟨rfl, Nq, hqe⟩ := hq
  have N := fN _ N Nq
  rw [hqe] at eT
  show own_W _ _ _ _ _ _ _ _ [(.int (2 : Int32)), (.int (0 : Int32)), (.int p1), (.ref b)]
  refine own_callS X hx hZ [(.ref b), (.int p1), (.int (0 : Int32)), (.int (2 : Int32))] hown (own_w hw 109 rfl) (own_w hw 110 rfl) (own_w hw 76 rfl) (own_w hw 111 rfl) (by decide) (rm_ux2 l Z a0 hw [] b p1 fm d0 d1 h0 n0 Z0 S_A S_H S_L S_F hfm hp _ A_b bd0 bd1) eT (W := 0) (by decide) (by decide) (cells' := 0) (slots' := 0) rfl rfl (by decide) (by decide) (by rw [hml]; rfl) (lenOf own_pd_285bBIII29I rfl) rfl (S := []) rfl (Nat.le_of_eq rfl) (hb hby own20_33) (pc' := 36) rfl ?_
  intro v T h3 L lc X eT hq fN
  obtain ⟨zz, rfl, Nq, hqe, hz⟩ := hq
  have N := fN _ N Nq
  rw [hqe] at eT
  show own_W _ _ _ _ _ _ _ _ [(.int zz)]
  refine own_retI X hx hlk (t := .int) (w' := (.int zz)) hret (hb hby own20_36) rfl rfl (by simp) (by decide) (by decide) ?_
  rw [eT]
  exact ⟨_, rfl, N, rfl, hz⟩
def Q_sjU2 (Z : State) (a1 b : Addr) (p1 cs : Int32) (fm : Value) (d0 d1 : Int32) (h0 : Heap) (n0 : Nat) (v : Option Value) (h : Heap) (L : List Loc) : Prop := ∃ z : Int32, v = some (.int z) ∧ Fr n0 L ∧ h = h0 ∧ (z < 0 ↔ (¬ (d0 = p1) ∧ ¬ (d1 = p1) ∧ True))
set_option maxRecDepth 65536 in
set_option maxHeartbeats 40000000 in
theorem rm_sjU2 (l : Launch) (Z : State) (a0 : Array Value) (hw : ∀ d ∈ tables_1, d.before a0 Z = true) (ws : List Jvm.Cond) (a1 b : Addr) (p1 cs : Int32) (fm : Value) (d0 d1 : Int32) (h0 : Heap) (n0 : Nat) (Z0 : n0 ≤ h0.size) (S_C : Sta Z h0 "java/lang/String" "COMPACT_STRINGS" "Z" (.int cs)) (hcs : ¬ cs = 0) (E_a1 : Exa Z h0 a1 "java/lang/String") (F_c : Fld Z h0 a1 "java/lang/String" "coder" "B" (.int (1 : Int32))) (F_v : Fld Z h0 a1 "java/lang/String" "value" "[B" (.ref b)) (S_A : Sta Z h0 "java/lang/StringUTF16" "$assertionsDisabled" "Z" (.int (1 : Int32))) (S_H : Sta Z h0 "java/lang/StringUTF16" "HI_BYTE_SHIFT" "I" (.int (0 : Int32))) (S_L : Sta Z h0 "java/lang/StringUTF16" "LO_BYTE_SHIFT" "I" (.int (8 : Int32))) (S_F : Sta Z h0 "jdk/internal/util/Preconditions" "SIOOBE_FORMATTER" "Ljava/util/function/BiFunction;" fm) (hfm : fm.isRef = true) (hp : own_p1 p1) (k : ClassId) (A_b : Arv Z h0 b k .byte (4 : Int32) [(.int (own_lb d0)), (.int (own_hb d0)), (.int (own_lb d1)), (.int (own_hb d1))] (.int (0 : Int32))) (bd0 : own_c16 d0) (bd1 : own_c16 d1) : own_Met l Z ⟨"java/lang/String", "indexOf", "(I)I"⟩ jdk_42_method_79_code 2 (some .int) ws ⟨6, 0, 0, 117⟩ #[(.ref a1), (.int p1)] h0 (Q_sjU2 Z a1 b p1 cs fm d0 d1 h0 n0) := by
  refine own_met n0 own_pn_java_lang_String (fun m => ef2RI m a1 p1) ?_
  intro p e s m below meth c T lc hret hx hZ hby hml hown hnm hlk X eT N
  refine own_aloadN X hx (hb hby own21_0) (pc' := 1) rfl rfl rfl ?_
  refine own_iloadN X hx (hb hby own21_1) (pc' := 2) rfl rfl ?_
  refine own_iconst X hx (0 : Int32) (hb hby own21_2) (pc' := 3) rfl rfl ?_
  refine own_callV X hx hZ (y := (⟨"java/lang/String", "indexOf", "(II)I"⟩ : MethodName)) a1 [(.int p1), (.int (0 : Int32))] hown (own_w hw 39 rfl) (own_w hw 40 rfl) (own_w hw 42 rfl) (own_w hw 41 rfl) (own_w hw 10 rfl) (own_w hw 43 rfl) (by decide) (rm_siU2 l Z a0 hw [] a1 b p1 cs fm d0 d1 h0 n0 Z0 S_C hcs E_a1 F_c F_v S_A S_H S_L S_F hfm hp _ A_b bd0 bd1) E_a1 eT (W := 0) (by decide) (by decide) (cells' := 0) (slots' := 0) rfl rfl (by decide) (by decide) (by rw [hml]; rfl) (lenOf own_pd_28II29I rfl) rfl (S := []) rfl (Nat.le_of_eq rfl) (hb hby own21_3) (pc' := 6) rfl ?_
  intro v T h1 L lc X eT hq fN
  obtain ⟨zz, rfl, Nq, hqe, hz⟩ := hq
  have N := fN _ N Nq
  rw [hqe] at eT
  show own_W _ _ _ _ _ _ _ _ [(.int zz)]
  refine own_retI X hx hlk (t := .int) (w' := (.int zz)) hret (hb hby own21_6) rfl rfl (by simp) (by decide) (by decide) ?_
  rw [eT]
  exact ⟨_, rfl, N, rfl, hz⟩
def Q_chU2 (Z : State) (a1 b : Addr) (cs : Int32) (fm : Value) (d0 d1 : Int32) (h0 : Heap) (n0 : Nat) (v : Option Value) (h : Heap) (L : List Loc) : Prop := ∃ z : Int32, v = some (.int z) ∧ Fr n0 L ∧ h = h0 ∧ ((z = 1 ∧ (¬ (d0 = (9 : Int32)) ∧ ¬ (d1 = (9 : Int32)) ∧ True) ∧ (¬ (d0 = (10 : Int32)) ∧ ¬ (d1 = (10 : Int32)) ∧ True)) ∨ (z = 0 ∧ ¬ ((¬ (d0 = (9 : Int32)) ∧ ¬ (d1 = (9 : Int32)) ∧ True) ∧ (¬ (d0 = (10 : Int32)) ∧ ¬ (d1 = (10 : Int32)) ∧ True))))
set_option maxRecDepth 65536 in
set_option maxHeartbeats 40000000 in
theorem rm_chU2 (l : Launch) (Z : State) (a0 : Array Value) (hw : ∀ d ∈ tables_1, d.before a0 Z = true) (ws : List Jvm.Cond) (a1 b : Addr) (cs : Int32) (fm : Value) (d0 d1 : Int32) (h0 : Heap) (n0 : Nat) (Z0 : n0 ≤ h0.size) (S_C : Sta Z h0 "java/lang/String" "COMPACT_STRINGS" "Z" (.int cs)) (hcs : ¬ cs = 0) (E_a1 : Exa Z h0 a1 "java/lang/String") (F_c : Fld Z h0 a1 "java/lang/String" "coder" "B" (.int (1 : Int32))) (F_v : Fld Z h0 a1 "java/lang/String" "value" "[B" (.ref b)) (S_A : Sta Z h0 "java/lang/StringUTF16" "$assertionsDisabled" "Z" (.int (1 : Int32))) (S_H : Sta Z h0 "java/lang/StringUTF16" "HI_BYTE_SHIFT" "I" (.int (0 : Int32))) (S_L : Sta Z h0 "java/lang/StringUTF16" "LO_BYTE_SHIFT" "I" (.int (8 : Int32))) (S_F : Sta Z h0 "jdk/internal/util/Preconditions" "SIOOBE_FORMATTER" "Ljava/util/function/BiFunction;" fm) (hfm : fm.isRef = true) (k : ClassId) (A_b : Arv Z h0 b k .byte (4 : Int32) [(.int (own_lb d0)), (.int (own_hb d0)), (.int (own_lb d1)), (.int (own_hb d1))] (.int (0 : Int32))) (bd0 : own_c16 d0) (bd1 : own_c16 d1) : own_Met l Z ⟨"com/example/bleeper/bleeper/cli/Fields", "canHold", "(Ljava/lang/String;)Z"⟩ prog_47_method_2_code 1 (some .boolean) ws ⟨7, 0, 0, 135⟩ #[(.ref a1)] h0 (Q_chU2 Z a1 b cs fm d0 d1 h0 n0) := by
  refine own_met n0 own_pn_com_example_bleeper_bleeper_cli_Fields (fun m => ef1R m a1) ?_
  intro p e s m below meth c T lc hret hx hZ hby hml hown hnm hlk X eT N
  refine own_aloadN X hx (hb hby own22_0) (pc' := 1) rfl rfl rfl ?_
  refine own_bipush X hx (9 : Int32) (hb hby own22_1) (pc' := 3) rfl rfl ?_
  refine own_callV X hx hZ (y := (⟨"java/lang/String", "indexOf", "(I)I"⟩ : MethodName)) a1 [(.int (9 : Int32))] hown (own_w hw 34 rfl) (own_w hw 35 rfl) (own_w hw 37 rfl) (own_w hw 36 rfl) (own_w hw 10 rfl) (own_w hw 38 rfl) (by decide) (rm_sjU2 l Z a0 hw [] a1 b (9 : Int32) cs fm d0 d1 h0 n0 Z0 S_C hcs E_a1 F_c F_v S_A S_H S_L S_F hfm (show own_p1 _ from ⟨by decide, by decide⟩) _ A_b bd0 bd1) E_a1 eT (W := 0) (by decide) (by decide) (cells' := 0) (slots' := 0) rfl rfl (by decide) (by decide) (by rw [hml]; rfl) (lenOf own_pd_28I29I rfl) rfl (S := []) rfl (Nat.le_of_eq rfl) (hb hby own22_3) (pc' := 6) rfl ?_
  intro v T h1 L lc X eT hq fN
  obtain ⟨z1, rfl, Nq, hqe, B1⟩ := hq
  have N := fN _ N Nq
  rw [hqe] at eT
  show own_W _ _ _ _ _ _ _ _ [(.int z1)]
  refine own_if X hx (hb hby own22_6) (by decide) (pcY := 22) (pcN := 9) rfl rfl (fun (hc6 : ¬ (z1 < (0 : Int32))) => ?_) (fun (hc6 : z1 < (0 : Int32)) => ?_)
  · refine own_iconst X hx (0 : Int32) (hb hby own22_22) (pc' := 23) rfl rfl ?_
    refine own_retI X hx hlk (t := .boolean) (w' := (.int (0 : Int32))) hret (hb hby own22_23) rfl rfl (by simp) (by decide) (by decide) ?_
    rw [eT]
    exact ⟨_, rfl, N, rfl, Or.inr ⟨rfl, fun q => hc6 (B1.mpr q.1)⟩⟩
  · refine own_aloadN X hx (hb hby own22_9) (pc' := 10) rfl rfl rfl ?_
    refine own_bipush X hx (10 : Int32) (hb hby own22_10) (pc' := 12) rfl rfl ?_
    refine own_callV X hx hZ (y := (⟨"java/lang/String", "indexOf", "(I)I"⟩ : MethodName)) a1 [(.int (10 : Int32))] hown (own_w hw 34 rfl) (own_w hw 35 rfl) (own_w hw 37 rfl) (own_w hw 36 rfl) (own_w hw 10 rfl) (own_w hw 38 rfl) (by decide) (rm_sjU2 l Z a0 hw [] a1 b (10 : Int32) cs fm d0 d1 h0 n0 Z0 S_C hcs E_a1 F_c F_v S_A S_H S_L S_F hfm (show own_p1 _ from ⟨by decide, by decide⟩) _ A_b bd0 bd1) E_a1 eT (W := 0) (by decide) (by decide) (cells' := 0) (slots' := 0) rfl rfl (by decide) (by decide) (by rw [hml]; rfl) (lenOf own_pd_28I29I rfl) rfl (S := []) rfl (Nat.le_of_eq rfl) (hb hby own22_12) (pc' := 15) rfl ?_
    intro v T h2 L lc X eT hq fN
    obtain ⟨z2, rfl, Nq, hqe, B2⟩ := hq
    have N := fN _ N Nq
    rw [hqe] at eT
    show own_W _ _ _ _ _ _ _ _ [(.int z2)]
    refine own_if X hx (hb hby own22_15) (by decide) (pcY := 22) (pcN := 18) rfl rfl (fun (hc15 : ¬ (z2 < (0 : Int32))) => ?_) (fun (hc15 : z2 < (0 : Int32)) => ?_)
    · refine own_iconst X hx (0 : Int32) (hb hby own22_22) (pc' := 23) rfl rfl ?_
      refine own_retI X hx hlk (t := .boolean) (w' := (.int (0 : Int32))) hret (hb hby own22_23) rfl rfl (by simp) (by decide) (by decide) ?_
      rw [eT]
      exact ⟨_, rfl, N, rfl, Or.inr ⟨rfl, fun q => hc15 (B2.mpr q.2)⟩⟩
    · refine own_iconst X hx (1 : Int32) (hb hby own22_18) (pc' := 19) rfl rfl ?_
      refine own_goto X hx (hb hby own22_19) (by decide) (pc' := 23) rfl ?_
      refine own_retI X hx hlk (t := .boolean) (w' := (.int (1 : Int32))) hret (hb hby own22_23) rfl rfl (by simp) (by decide) (by decide) ?_
      rw [eT]
      exact ⟨_, rfl, N, rfl, Or.inl ⟨rfl, B1.mp hc6, B2.mp hc15⟩⟩
def Q_lc3 (Z : State) (b : Addr) (p1 : Int32) (d0 d1 d2 : Int32) (h0 : Heap) (n0 : Nat) (v : Option Value) (h : Heap) (L : List Loc) : Prop := ∃ z : Int32, v = some (.int z) ∧ Fr n0 L ∧ h = h0 ∧ (z < 0 ↔ (¬ (d0 = p1) ∧ ¬ (d1 = p1) ∧ ¬ (d2 = p1) ∧ True))
set_option maxRecDepth 65536 in
set_option maxHeartbeats 40000000 in
theorem rm_lc3 (l : Launch) (Z : State) (a0 : Array Value) (hw : ∀ d ∈ tables_1, d.before a0 Z = true) (ws : List Jvm.Cond) (b : Addr) (p1 : Int32) (d0 d1 d2 : Int32) (h0 : Heap) (n0 : Nat) (Z0 : n0 ≤ h0.size) (hp : own_p1 p1) (k : ClassId) (A_b : Arv Z h0 b k .byte (3 : Int32) [(.int (nar .byte d0.toInt8.toInt32)), (.int (nar .byte d1.toInt8.toInt32)), (.int (nar .byte d2.toInt8.toInt32))] (.int (0 : Int32))) (bd0 : own_c16 d0) (bd1 : own_c16 d1) (bd2 : own_c16 d2) (hall : (¬ ((255 : Int32) < d0) ∧ ¬ ((255 : Int32) < d1) ∧ ¬ ((255 : Int32) < d2))) : own_Met l Z ⟨"java/lang/StringLatin1", "indexOfChar", "([BIII)I"⟩ jdk_43_method_23_code 6 (some .int) ws ⟨0, 0, 0, 0⟩ #[(.ref b), (.int p1), (.int (0 : Int32)), (.int (3 : Int32))] h0 (Q_lc3 Z b p1 d0 d1 d2 h0 n0) := by
  refine own_met n0 own_pn_java_lang_StringLatin1 (fun m => ef6RIII m b p1 (0 : Int32) (3 : Int32)) ?_
  intro p e s m below meth c T lc hret hx hZ hby hml hown hnm hlk X eT N
  refine own_iloadN X hx (hb hby own23_0) (pc' := 1) rfl rfl ?_
  refine own_i2b X hx (hb hby own23_1) (pc' := 2) rfl ?_
  refine own_istore X hx (hb hby own23_2) (pc' := 4) rfl (Ls' := #[.val (.ref b), .val (.int p1), .val (.int (0 : Int32)), .val (.int (3 : Int32)), .val (.int p1.toInt8.toInt32), .unset]) rfl ?_
  refine own_iloadN X hx (hb hby own23_4) (pc' := 5) rfl rfl ?_
  refine own_istore X hx (hb hby own23_5) (pc' := 7) rfl (Ls' := #[.val (.ref b), .val (.int p1), .val (.int (0 : Int32)), .val (.int (3 : Int32)), .val (.int p1.toInt8.toInt32), .val (.int (0 : Int32))]) rfl ?_
  refine own_iload X hx (hb hby own23_7) (pc' := 9) rfl rfl ?_
  refine own_iloadN X hx (hb hby own23_9) (pc' := 10) rfl rfl ?_
  refine own_icmpN X hx (hb hby own23_10) (pc' := 13) rfl (show (0 : Int32) < (3 : Int32) from (by decide)) ?_
  refine own_aloadN X hx (hb hby own23_13) (pc' := 14) rfl rfl rfl ?_
  refine own_iload X hx (hb hby own23_14) (pc' := 16) rfl rfl ?_
  refine own_baloadB X hx hZ eT A_b (v := (.int (nar .byte d0.toInt8.toInt32))) (by decide) rfl (hb hby own23_16) (pc' := 17) rfl ?_
  refine own_iload X hx (hb hby own23_17) (pc' := 19) rfl rfl ?_
  refine own_icmp X hx (hb hby own23_19) (by decide) (pcY := 25) (pcN := 22) rfl rfl (fun (hc19 : ¬ ((nar .byte d0.toInt8.toInt32) = p1.toInt8.toInt32)) => ?_) (fun (hc19 : (nar .byte d0.toInt8.toInt32) = p1.toInt8.toInt32) => ?_)
  · refine own_iinc X hx (1 : Int32) (hb hby own23_25) (pc' := 28) rfl rfl rfl (Ls' := #[.val (.ref b), .val (.int p1), .val (.int (0 : Int32)), .val (.int (3 : Int32)), .val (.int p1.toInt8.toInt32), .val (.int (1 : Int32))]) rfl ?_
    refine own_goto X hx (hb hby own23_28) (by decide) (pc' := 7) rfl ?_
    refine own_iload X hx (hb hby own23_7) (pc' := 9) rfl rfl ?_
    refine own_iloadN X hx (hb hby own23_9) (pc' := 10) rfl rfl ?_
    refine own_icmpN X hx (hb hby own23_10) (pc' := 13) rfl (show (1 : Int32) < (3 : Int32) from (by decide)) ?_
    refine own_aloadN X hx (hb hby own23_13) (pc' := 14) rfl rfl rfl ?_
    refine own_iload X hx (hb hby own23_14) (pc' := 16) rfl rfl ?_
    refine own_baloadB X hx hZ eT A_b (v := (.int (nar .byte d1.toInt8.toInt32))) (by decide) rfl (hb hby own23_16) (pc' := 17) rfl ?_
    refine own_iload X hx (hb hby own23_17) (pc' := 19) rfl rfl ?_
    refine own_icmp X hx (hb hby own23_19) (by decide) (pcY := 25) (pcN := 22) rfl rfl (fun (hc19_2 : ¬ ((nar .byte d1.toInt8.toInt32) = p1.toInt8.toInt32)) => ?_) (fun (hc19_2 : (nar .byte d1.toInt8.toInt32) = p1.toInt8.toInt32) => ?_)
    · refine own_iinc X hx (1 : Int32) (hb hby own23_25) (pc' := 28) rfl rfl rfl (Ls' := #[.val (.ref b), .val (.int p1), .val (.int (0 : Int32)), .val (.int (3 : Int32)), .val (.int p1.toInt8.toInt32), .val (.int (2 : Int32))]) rfl ?_
      refine own_goto X hx (hb hby own23_28) (by decide) (pc' := 7) rfl ?_
      refine own_iload X hx (hb hby own23_7) (pc' := 9) rfl rfl ?_
      refine own_iloadN X hx (hb hby own23_9) (pc' := 10) rfl rfl ?_
      refine own_icmpN X hx (hb hby own23_10) (pc' := 13) rfl (show (2 : Int32) < (3 : Int32) from (by decide)) ?_
      refine own_aloadN X hx (hb hby own23_13) (pc' := 14) rfl rfl rfl ?_
      refine own_iload X hx (hb hby own23_14) (pc' := 16) rfl rfl ?_
      refine own_baloadB X hx hZ eT A_b (v := (.int (nar .byte d2.toInt8.toInt32))) (by decide) rfl (hb hby own23_16) (pc' := 17) rfl ?_
      refine own_iload X hx (hb hby own23_17) (pc' := 19) rfl rfl ?_
      refine own_icmp X hx (hb hby own23_19) (by decide) (pcY := 25) (pcN := 22) rfl rfl (fun (hc19_3 : ¬ ((nar .byte d2.toInt8.toInt32) = p1.toInt8.toInt32)) => ?_) (fun (hc19_3 : (nar .byte d2.toInt8.toInt32) = p1.toInt8.toInt32) => ?_)
      · refine own_iinc X hx (1 : Int32) (hb hby own23_25) (pc' := 28) rfl rfl rfl (Ls' := #[.val (.ref b), .val (.int p1), .val (.int (0 : Int32)), .val (.int (3 : Int32)), .val (.int p1.toInt8.toInt32), .val (.int (3 : Int32))]) rfl ?_
        refine own_goto X hx (hb hby own23_28) (by decide) (pc' := 7) rfl ?_
        refine own_iload X hx (hb hby own23_7) (pc' := 9) rfl rfl ?_
        refine own_iloadN X hx (hb hby own23_9) (pc' := 10) rfl rfl ?_
        refine own_icmpY X hx (hb hby own23_10) (by decide) (pc' := 31) rfl (show ¬ ((3 : Int32) < (3 : Int32)) from (by decide)) ?_
        refine own_iconst X hx (-1 : Int32) (hb hby own23_31) (pc' := 32) rfl rfl ?_
        refine own_retI X hx hlk (t := .int) (w' := (.int (-1 : Int32))) hret (hb hby own23_32) rfl rfl (by simp) (by decide) (by decide) ?_
        rw [eT]
        exact ⟨_, rfl, N, rfl, ⟨fun _ => ⟨fun e => hc19 ((own_lo8 bd0 hall.1 hp).mpr e), fun e => hc19_2 ((own_lo8 bd1 hall.2.1 hp).mpr e), fun e => hc19_3 ((own_lo8 bd2 hall.2.2 hp).mpr e), trivial⟩, fun _ => by decide⟩⟩
      · refine own_iload X hx (hb hby own23_22) (pc' := 24) rfl rfl ?_
        refine own_retI X hx hlk (t := .int) (w' := (.int (2 : Int32))) hret (hb hby own23_24) rfl rfl (by simp) (by decide) (by decide) ?_
        rw [eT]
        exact ⟨_, rfl, N, rfl, ⟨fun q => absurd q (by decide), fun q => absurd ((own_lo8 bd2 hall.2.2 hp).mp hc19_3) q.2.2.1⟩⟩
    · refine own_iload X hx (hb hby own23_22) (pc' := 24) rfl rfl ?_
      refine own_retI X hx hlk (t := .int) (w' := (.int (1 : Int32))) hret (hb hby own23_24) rfl rfl (by simp) (by decide) (by decide) ?_
      rw [eT]
      exact ⟨_, rfl, N, rfl, ⟨fun q => absurd q (by decide), fun q => absurd ((own_lo8 bd1 hall.2.1 hp).mp hc19_2) q.2.1⟩⟩
  · refine own_iload X hx (hb hby own23_22) (pc' := 24) rfl rfl ?_
    refine own_retI X hx hlk (t := .int) (w' := (.int (0 : Int32))) hret (hb hby own23_24) rfl rfl (by simp) (by decide) (by decide) ?_
    rw [eT]
    exact ⟨_, rfl, N, rfl, ⟨fun q => absurd q (by decide), fun q => absurd ((own_lo8 bd0 hall.1 hp).mp hc19) q.1⟩⟩
def Q_lx3 (Z : State) (b : Addr) (p1 : Int32) (d0 d1 d2 : Int32) (h0 : Heap) (n0 : Nat) (v : Option Value) (h : Heap) (L : List Loc) : Prop := ∃ z : Int32, v = some (.int z) ∧ Fr n0 L ∧ h = h0 ∧ (z < 0 ↔ (¬ (d0 = p1) ∧ ¬ (d1 = p1) ∧ ¬ (d2 = p1) ∧ True))
set_option maxRecDepth 65536 in
set_option maxHeartbeats 40000000 in
theorem rm_lx3 (l : Launch) (Z : State) (a0 : Array Value) (hw : ∀ d ∈ tables_1, d.before a0 Z = true) (ws : List Jvm.Cond) (b : Addr) (p1 : Int32) (d0 d1 d2 : Int32) (h0 : Heap) (n0 : Nat) (Z0 : n0 ≤ h0.size) (hp : own_p1 p1) (k : ClassId) (A_b : Arv Z h0 b k .byte (3 : Int32) [(.int (nar .byte d0.toInt8.toInt32)), (.int (nar .byte d1.toInt8.toInt32)), (.int (nar .byte d2.toInt8.toInt32))] (.int (0 : Int32))) (bd0 : own_c16 d0) (bd1 : own_c16 d1) (bd2 : own_c16 d2) (hall : (¬ ((255 : Int32) < d0) ∧ ¬ ((255 : Int32) < d1) ∧ ¬ ((255 : Int32) < d2))) : own_Met l Z ⟨"java/lang/StringLatin1", "indexOf", "([BIII)I"⟩ jdk_43_method_22_code 4 (some .int) ws ⟨1, 0, 0, 22⟩ #[(.ref b), (.int p1), (.int (0 : Int32)), (.int (3 : Int32))] h0 (Q_lx3 Z b p1 d0 d1 d2 h0 n0) := by
  refine own_met n0 own_pn_java_lang_StringLatin1 (fun m => ef4RIII m b p1 (0 : Int32) (3 : Int32)) ?_
  intro p e s m below meth c T lc hret hx hZ hby hml hown hnm hlk X eT N
  refine own_iloadN X hx (hb hby own19_0) (pc' := 1) rfl rfl ?_
  refine own_callS X hx hZ [(.int p1)] hown (own_w hw 64 rfl) (own_w hw 65 rfl) (own_w hw 62 rfl) (own_w hw 66 rfl) (by decide) (rm_cei l Z a0 hw [] p1 h0 n0 Z0 hp) eT (W := 0) (by decide) (by decide) (cells' := 0) (slots' := 0) rfl rfl (by decide) (by decide) (by rw [hml]; rfl) (lenOf own_pd_28I29Z rfl) rfl (S := []) rfl (Nat.le_of_eq rfl) (hb hby own19_1) (pc' := 4) rfl ?_
  intro v T h1 L lc X eT hq fN
  obtain ⟨rfl, Nq, hqe⟩ := hq
  have N := fN _ N Nq
  rw [hqe] at eT
  show own_W _ _ _ _ _ _ _ _ [(.int (1 : Int32))]
  refine own_ifY X hx (hb hby own19_4) (by decide) (pc' := 9) rfl (show ¬ ((1 : Int32) = (0 : Int32)) from (by decide)) ?_
  refine own_iloadN X hx (hb hby own19_9) (pc' := 10) rfl rfl ?_
  refine own_iconst X hx (0 : Int32) (hb hby own19_10) (pc' := 11) rfl rfl ?_
  refine own_callS X hx hZ [(.int (0 : Int32)), (.int (0 : Int32))] hown (own_w hw 67 rfl) (own_w hw 68 rfl) (own_w hw 69 rfl) (own_w hw 70 rfl) (by decide) (rm_max l Z a0 hw [] (0 : Int32) (0 : Int32) h0 n0 Z0 (by decide)) eT (W := 0) (by decide) (by decide) (cells' := 0) (slots' := 0) rfl rfl (by decide) (by decide) (by rw [hml]; rfl) (lenOf own_pd_28II29I rfl) rfl (S := []) rfl (Nat.le_of_eq rfl) (hb hby own19_11) (pc' := 14) rfl ?_
  intro v T h2 L lc X eT hq fN
  obtain ⟨rfl, Nq, hqe⟩ := hq
  have N := fN _ N Nq
  rw [hqe] at eT
  show own_W _ _ _ _ _ _ _ _ [(.int (0 : Int32))]
  refine own_istoreN X hx (hb hby own19_14) (pc' := 15) rfl (Ls' := #[.val (.ref b), .val (.int p1), .val (.int (0 : Int32)), .val (.int (3 : Int32))]) rfl ?_
  refine own_iloadN X hx (hb hby own19_15) (pc' := 16) rfl rfl ?_
  refine own_aloadN X hx (hb hby own19_16) (pc' := 17) rfl rfl rfl ?_
  refine own_arrlen X hx hZ eT A_b (hb hby own19_17) (pc' := 18) rfl ?_
  refine own_callS X hx hZ [(.int (3 : Int32)), (.int (3 : Int32))] hown (own_w hw 71 rfl) (own_w hw 72 rfl) (own_w hw 69 rfl) (own_w hw 73 rfl) (by decide) (rm_min l Z a0 hw [] (3 : Int32) (3 : Int32) h0 n0 Z0 (by decide)) eT (W := 0) (by decide) (by decide) (cells' := 0) (slots' := 0) rfl rfl (by decide) (by decide) (by rw [hml]; rfl) (lenOf own_pd_28II29I rfl) rfl (S := []) rfl (Nat.le_of_eq rfl) (hb hby own19_18) (pc' := 21) rfl ?_
  intro v T h3 L lc X eT hq fN
  obtain ⟨rfl, Nq, hqe⟩ := hq
  have N := fN _ N Nq
  rw [hqe] at eT
  show own_W _ _ _ _ _ _ _ _ [(.int (3 : Int32))]
  refine own_istoreN X hx (hb hby own19_21) (pc' := 22) rfl (Ls' := #[.val (.ref b), .val (.int p1), .val (.int (0 : Int32)), .val (.int (3 : Int32))]) rfl ?_
  refine own_iloadN X hx (hb hby own19_22) (pc' := 23) rfl rfl ?_
  refine own_iloadN X hx (hb hby own19_23) (pc' := 24) rfl rfl ?_
  refine own_icmpY X hx (hb hby own19_24) (by decide) (pc' := 29) rfl (show (0 : Int32) < (3 : Int32) from (by decide)) ?_
  refine own_aloadN X hx (hb hby own19_29) (pc' := 30) rfl rfl rfl ?_
  refine own_iloadN X hx (hb hby own19_30) (pc' := 31) rfl rfl ?_
  refine own_iloadN X hx (hb hby own19_31) (pc' := 32) rfl rfl ?_
  refine own_iloadN X hx (hb hby own19_32) (pc' := 33) rfl rfl ?_
  refine own_callS X hx hZ [(.ref b), (.int p1), (.int (0 : Int32)), (.int (3 : Int32))] hown (own_w hw 87 rfl) (own_w hw 88 rfl) (own_w hw 62 rfl) (own_w hw 89 rfl) (by decide) (rm_lc3 l Z a0 hw [] b p1 d0 d1 d2 h0 n0 Z0 hp _ A_b bd0 bd1 bd2 hall) eT (W := 0) (by decide) (by decide) (cells' := 0) (slots' := 0) rfl rfl (by decide) (by decide) (by rw [hml]; rfl) (lenOf own_pd_285bBIII29I rfl) rfl (S := []) rfl (Nat.le_of_eq rfl) (hb hby own19_33) (pc' := 36) rfl ?_
  intro v T h4 L lc X eT hq fN
  obtain ⟨zz, rfl, Nq, hqe, hz⟩ := hq
  have N := fN _ N Nq
  rw [hqe] at eT
  show own_W _ _ _ _ _ _ _ _ [(.int zz)]
  refine own_retI X hx hlk (t := .int) (w' := (.int zz)) hret (hb hby own19_36) rfl rfl (by simp) (by decide) (by decide) ?_
  rw [eT]
  exact ⟨_, rfl, N, rfl, hz⟩
def Q_uu3 (Z : State) (b : Addr) (p1 : Int32) (fm : Value) (d0 d1 d2 : Int32) (h0 : Heap) (n0 : Nat) (v : Option Value) (h : Heap) (L : List Loc) : Prop := ∃ z : Int32, v = some (.int z) ∧ Fr n0 L ∧ h = h0 ∧ (z < 0 ↔ (¬ (d0 = p1) ∧ ¬ (d1 = p1) ∧ ¬ (d2 = p1) ∧ True))
set_option maxRecDepth 65536 in
set_option maxHeartbeats 40000000 in
theorem rm_uu3 (l : Launch) (Z : State) (a0 : Array Value) (hw : ∀ d ∈ tables_1, d.before a0 Z = true) (ws : List Jvm.Cond) (b : Addr) (p1 : Int32) (fm : Value) (d0 d1 d2 : Int32) (h0 : Heap) (n0 : Nat) (Z0 : n0 ≤ h0.size) (S_A : Sta Z h0 "java/lang/StringUTF16" "$assertionsDisabled" "Z" (.int (1 : Int32))) (S_H : Sta Z h0 "java/lang/StringUTF16" "HI_BYTE_SHIFT" "I" (.int (0 : Int32))) (S_L : Sta Z h0 "java/lang/StringUTF16" "LO_BYTE_SHIFT" "I" (.int (8 : Int32))) (S_F : Sta Z h0 "jdk/internal/util/Preconditions" "SIOOBE_FORMATTER" "Ljava/util/function/BiFunction;" fm) (hfm : fm.isRef = true) (hp : own_p1 p1) (k : ClassId) (A_b : Arv Z h0 b k .byte (6 : Int32) [(.int (own_lb d0)), (.int (own_hb d0)), (.int (own_lb d1)), (.int (own_hb d1)), (.int (own_lb d2)), (.int (own_hb d2))] (.int (0 : Int32))) (bd0 : own_c16 d0) (bd1 : own_c16 d1) (bd2 : own_c16 d2) : own_Met l Z ⟨"java/lang/StringUTF16", "indexOfCharUnsafe", "([BIII)I"⟩ jdk_52_method_48_code 5 (some .int) ws ⟨1, 0, 0, 18⟩ #[(.ref b), (.int p1), (.int (0 : Int32)), (.int (3 : Int32))] h0 (Q_uu3 Z b p1 fm d0 d1 d2 h0 n0) := by
  refine own_met n0 own_pn_java_lang_StringUTF16 (fun m => ef5RIII m b p1 (0 : Int32) (3 : Int32)) ?_
  intro p e s m below meth c T lc hret hx hZ hby hml hown hnm hlk X eT N
  refine own_iloadN X hx (hb hby own24_0) (pc' := 1) rfl rfl ?_
  refine own_istore X hx (hb hby own24_1) (pc' := 3) rfl (Ls' := #[.val (.ref b), .val (.int p1), .val (.int (0 : Int32)), .val (.int (3 : Int32)), .val (.int (0 : Int32))]) rfl ?_
  refine own_iload X hx (hb hby own24_3) (pc' := 5) rfl rfl ?_
  refine own_iloadN X hx (hb hby own24_5) (pc' := 6) rfl rfl ?_
  refine own_icmpN X hx (hb hby own24_6) (pc' := 9) rfl (show (0 : Int32) < (3 : Int32) from (by decide)) ?_
  refine own_aloadN X hx (hb hby own24_9) (pc' := 10) rfl rfl rfl ?_
  refine own_iload X hx (hb hby own24_10) (pc' := 12) rfl rfl ?_
  refine own_callS X hx hZ [(.ref b), (.int (0 : Int32))] hown (own_w hw 106 rfl) (own_w hw 107 rfl) (own_w hw 76 rfl) (own_w hw 108 rfl) (by decide) (rm_gc3_0 l Z a0 hw [] b _ d0 d1 d2 h0 n0 Z0 S_A S_H S_L bd0 A_b) eT (W := 0) (by decide) (by decide) (cells' := 0) (slots' := 0) rfl rfl (by decide) (by decide) (by rw [hml]; rfl) (lenOf own_pd_285bBI29C rfl) rfl (S := []) rfl (Nat.le_of_eq rfl) (hb hby own24_12) (pc' := 15) rfl ?_
  intro v T h1 L lc X eT hq fN
  obtain ⟨rfl, Nq, hqe⟩ := hq
  have N := fN _ N Nq
  rw [hqe] at eT
  show own_W _ _ _ _ _ _ _ _ [(.int d0)]
  refine own_iloadN X hx (hb hby own24_15) (pc' := 16) rfl rfl ?_
  refine own_icmp X hx (hb hby own24_16) (by decide) (pcY := 22) (pcN := 19) rfl rfl (fun (hc16 : ¬ (d0 = p1)) => ?_) (fun (hc16 : d0 = p1) => ?_)
  · refine own_iinc X hx (1 : Int32) (hb hby own24_22) (pc' := 25) rfl rfl rfl (Ls' := #[.val (.ref b), .val (.int p1), .val (.int (0 : Int32)), .val (.int (3 : Int32)), .val (.int (1 : Int32))]) rfl ?_
    refine own_goto X hx (hb hby own24_25) (by decide) (pc' := 3) rfl ?_
    refine own_iload X hx (hb hby own24_3) (pc' := 5) rfl rfl ?_
    refine own_iloadN X hx (hb hby own24_5) (pc' := 6) rfl rfl ?_
    refine own_icmpN X hx (hb hby own24_6) (pc' := 9) rfl (show (1 : Int32) < (3 : Int32) from (by decide)) ?_
    refine own_aloadN X hx (hb hby own24_9) (pc' := 10) rfl rfl rfl ?_
    refine own_iload X hx (hb hby own24_10) (pc' := 12) rfl rfl ?_
    refine own_callS X hx hZ [(.ref b), (.int (1 : Int32))] hown (own_w hw 106 rfl) (own_w hw 107 rfl) (own_w hw 76 rfl) (own_w hw 108 rfl) (by decide) (rm_gc3_1 l Z a0 hw [] b _ d0 d1 d2 h0 n0 Z0 S_A S_H S_L bd1 A_b) eT (W := 0) (by decide) (by decide) (cells' := 0) (slots' := 0) rfl rfl (by decide) (by decide) (by rw [hml]; rfl) (lenOf own_pd_285bBI29C rfl) rfl (S := []) rfl (Nat.le_of_eq rfl) (hb hby own24_12) (pc' := 15) rfl ?_
    intro v T h2 L lc X eT hq fN
    obtain ⟨rfl, Nq, hqe⟩ := hq
    have N := fN _ N Nq
    rw [hqe] at eT
    show own_W _ _ _ _ _ _ _ _ [(.int d1)]
    refine own_iloadN X hx (hb hby own24_15) (pc' := 16) rfl rfl ?_
    refine own_icmp X hx (hb hby own24_16) (by decide) (pcY := 22) (pcN := 19) rfl rfl (fun (hc16_2 : ¬ (d1 = p1)) => ?_) (fun (hc16_2 : d1 = p1) => ?_)
    · refine own_iinc X hx (1 : Int32) (hb hby own24_22) (pc' := 25) rfl rfl rfl (Ls' := #[.val (.ref b), .val (.int p1), .val (.int (0 : Int32)), .val (.int (3 : Int32)), .val (.int (2 : Int32))]) rfl ?_
      refine own_goto X hx (hb hby own24_25) (by decide) (pc' := 3) rfl ?_
      refine own_iload X hx (hb hby own24_3) (pc' := 5) rfl rfl ?_
      refine own_iloadN X hx (hb hby own24_5) (pc' := 6) rfl rfl ?_
      refine own_icmpN X hx (hb hby own24_6) (pc' := 9) rfl (show (2 : Int32) < (3 : Int32) from (by decide)) ?_
      refine own_aloadN X hx (hb hby own24_9) (pc' := 10) rfl rfl rfl ?_
      refine own_iload X hx (hb hby own24_10) (pc' := 12) rfl rfl ?_
      refine own_callS X hx hZ [(.ref b), (.int (2 : Int32))] hown (own_w hw 106 rfl) (own_w hw 107 rfl) (own_w hw 76 rfl) (own_w hw 108 rfl) (by decide) (rm_gc3_2 l Z a0 hw [] b _ d0 d1 d2 h0 n0 Z0 S_A S_H S_L bd2 A_b) eT (W := 0) (by decide) (by decide) (cells' := 0) (slots' := 0) rfl rfl (by decide) (by decide) (by rw [hml]; rfl) (lenOf own_pd_285bBI29C rfl) rfl (S := []) rfl (Nat.le_of_eq rfl) (hb hby own24_12) (pc' := 15) rfl ?_
      intro v T h3 L lc X eT hq fN
      obtain ⟨rfl, Nq, hqe⟩ := hq
      have N := fN _ N Nq
      rw [hqe] at eT
      show own_W _ _ _ _ _ _ _ _ [(.int d2)]
      refine own_iloadN X hx (hb hby own24_15) (pc' := 16) rfl rfl ?_
      refine own_icmp X hx (hb hby own24_16) (by decide) (pcY := 22) (pcN := 19) rfl rfl (fun (hc16_3 : ¬ (d2 = p1)) => ?_) (fun (hc16_3 : d2 = p1) => ?_)
      · refine own_iinc X hx (1 : Int32) (hb hby own24_22) (pc' := 25) rfl rfl rfl (Ls' := #[.val (.ref b), .val (.int p1), .val (.int (0 : Int32)), .val (.int (3 : Int32)), .val (.int (3 : Int32))]) rfl ?_
        refine own_goto X hx (hb hby own24_25) (by decide) (pc' := 3) rfl ?_
        refine own_iload X hx (hb hby own24_3) (pc' := 5) rfl rfl ?_
        refine own_iloadN X hx (hb hby own24_5) (pc' := 6) rfl rfl ?_
        refine own_icmpY X hx (hb hby own24_6) (by decide) (pc' := 28) rfl (show ¬ ((3 : Int32) < (3 : Int32)) from (by decide)) ?_
        refine own_iconst X hx (-1 : Int32) (hb hby own24_28) (pc' := 29) rfl rfl ?_
        refine own_retI X hx hlk (t := .int) (w' := (.int (-1 : Int32))) hret (hb hby own24_29) rfl rfl (by simp) (by decide) (by decide) ?_
        rw [eT]
        exact ⟨_, rfl, N, rfl, ⟨fun _ => ⟨fun e => hc16 e, fun e => hc16_2 e, fun e => hc16_3 e, trivial⟩, fun _ => by decide⟩⟩
      · refine own_iload X hx (hb hby own24_19) (pc' := 21) rfl rfl ?_
        refine own_retI X hx hlk (t := .int) (w' := (.int (2 : Int32))) hret (hb hby own24_21) rfl rfl (by simp) (by decide) (by decide) ?_
        rw [eT]
        exact ⟨_, rfl, N, rfl, ⟨fun q => absurd q (by decide), fun q => absurd hc16_3 q.2.2.1⟩⟩
    · refine own_iload X hx (hb hby own24_19) (pc' := 21) rfl rfl ?_
      refine own_retI X hx hlk (t := .int) (w' := (.int (1 : Int32))) hret (hb hby own24_21) rfl rfl (by simp) (by decide) (by decide) ?_
      rw [eT]
      exact ⟨_, rfl, N, rfl, ⟨fun q => absurd q (by decide), fun q => absurd hc16_2 q.2.1⟩⟩
  · refine own_iload X hx (hb hby own24_19) (pc' := 21) rfl rfl ?_
    refine own_retI X hx hlk (t := .int) (w' := (.int (0 : Int32))) hret (hb hby own24_21) rfl rfl (by simp) (by decide) (by decide) ?_
    rw [eT]
    exact ⟨_, rfl, N, rfl, ⟨fun q => absurd q (by decide), fun q => absurd hc16 q.1⟩⟩
def Q_ln3 (Z : State) (b : Addr) (h0 : Heap) (n0 : Nat) (v : Option Value) (h : Heap) (L : List Loc) : Prop := v = some (.int (3 : Int32)) ∧ Fr n0 L ∧ h = h0
set_option maxRecDepth 65536 in
set_option maxHeartbeats 40000000 in
theorem rm_ln3 (l : Launch) (Z : State) (a0 : Array Value) (hw : ∀ d ∈ tables_1, d.before a0 Z = true) (ws : List Jvm.Cond) (b : Addr) (h0 : Heap) (n0 : Nat) (Z0 : n0 ≤ h0.size) (k : ClassId) (vs : List Value) (A_b : Arv Z h0 b k .byte (6 : Int32) vs (.int (0 : Int32))) : own_Met l Z ⟨"java/lang/StringUTF16", "length", "([B)I"⟩ jdk_52_method_6_code 1 (some .int) ws ⟨0, 0, 0, 0⟩ #[(.ref b)] h0 (Q_ln3 Z b h0 n0) := by
  refine own_met n0 own_pn_java_lang_StringUTF16 (fun m => ef1R m b) ?_
  intro p e s m below meth c T lc hret hx hZ hby hml hown hnm hlk X eT N
  refine own_aloadN X hx (hb hby own25_0) (pc' := 1) rfl rfl rfl ?_
  refine own_arrlen X hx hZ eT A_b (hb hby own25_1) (pc' := 2) rfl ?_
  refine own_iconst X hx (1 : Int32) (hb hby own25_2) (pc' := 3) rfl rfl ?_
  refine own_ishr X hx (hb hby own25_3) (pc' := 4) rfl ?_
  rw [show ((6 : Int32) >>> ((1 : Int32) &&& 31)) = (3 : Int32) from by decide]
  refine own_retI X hx hlk (t := .int) (w' := (.int (3 : Int32))) hret (hb hby own25_4) rfl rfl (by simp) (by decide) (by decide) ?_
  rw [eT]
  exact ⟨rfl, N, rfl⟩
def Q_pf3 (Z : State) (fm : Value) (h0 : Heap) (n0 : Nat) (v : Option Value) (h : Heap) (L : List Loc) : Prop := v = some (.int (0 : Int32)) ∧ Fr n0 L ∧ h = h0
set_option maxRecDepth 65536 in
set_option maxHeartbeats 40000000 in
theorem rm_pf3 (l : Launch) (Z : State) (a0 : Array Value) (hw : ∀ d ∈ tables_1, d.before a0 Z = true) (ws : List Jvm.Cond) (fm : Value) (h0 : Heap) (n0 : Nat) (Z0 : n0 ≤ h0.size) (hfm : fm.isRef = true) : own_Met l Z ⟨"jdk/internal/util/Preconditions", "checkFromToIndex", "(IIILjava/util/function/BiFunction;)I"⟩ jdk_41_method_12_code 4 (some .int) ws ⟨0, 0, 0, 0⟩ #[(.int (0 : Int32)), (.int (3 : Int32)), (.int (3 : Int32)), fm] h0 (Q_pf3 Z fm h0 n0) := by
  refine own_met n0 own_pn_jdk_internal_util_Preconditions (fun m => ef4IIIV m (0 : Int32) (3 : Int32) (3 : Int32) fm hfm) ?_
  intro p e s m below meth c T lc hret hx hZ hby hml hown hnm hlk X eT N
  refine own_iloadN X hx (hb hby own26_0) (pc' := 1) rfl rfl ?_
  refine own_ifN X hx (hb hby own26_1) (pc' := 4) rfl (show ¬ ((0 : Int32) < (0 : Int32)) from (by decide)) ?_
  refine own_iloadN X hx (hb hby own26_4) (pc' := 5) rfl rfl ?_
  refine own_iloadN X hx (hb hby own26_5) (pc' := 6) rfl rfl ?_
  refine own_icmpN X hx (hb hby own26_6) (pc' := 9) rfl (show ¬ ((3 : Int32) < (0 : Int32)) from (by decide)) ?_
  refine own_iloadN X hx (hb hby own26_9) (pc' := 10) rfl rfl ?_
  refine own_iloadN X hx (hb hby own26_10) (pc' := 11) rfl rfl ?_
  refine own_icmpY X hx (hb hby own26_11) (by decide) (pc' := 22) rfl (show ¬ ((3 : Int32) < (3 : Int32)) from (by decide)) ?_
  refine own_iloadN X hx (hb hby own26_22) (pc' := 23) rfl rfl ?_
  refine own_retI X hx hlk (t := .int) (w' := (.int (0 : Int32))) hret (hb hby own26_23) rfl rfl (by simp) (by decide) (by decide) ?_
  rw [eT]
  exact ⟨rfl, N, rfl⟩
def Q_sb3 (Z : State) (fm : Value) (h0 : Heap) (n0 : Nat) (v : Option Value) (h : Heap) (L : List Loc) : Prop := v = none ∧ Fr n0 L ∧ h = h0
set_option maxRecDepth 65536 in
set_option maxHeartbeats 40000000 in
theorem rm_sb3 (l : Launch) (Z : State) (a0 : Array Value) (hw : ∀ d ∈ tables_1, d.before a0 Z = true) (ws : List Jvm.Cond) (fm : Value) (h0 : Heap) (n0 : Nat) (Z0 : n0 ≤ h0.size) (S_F : Sta Z h0 "jdk/internal/util/Preconditions" "SIOOBE_FORMATTER" "Ljava/util/function/BiFunction;" fm) (hfm : fm.isRef = true) : own_Met l Z ⟨"java/lang/String", "checkBoundsBeginEnd", "(III)V"⟩ jdk_42_method_158_code 3 none ws ⟨1, 0, 0, 20⟩ #[(.int (0 : Int32)), (.int (3 : Int32)), (.int (3 : Int32))] h0 (Q_sb3 Z fm h0 n0) := by
  refine own_met n0 own_pn_java_lang_String (fun m => ef3III m (0 : Int32) (3 : Int32) (3 : Int32)) ?_
  intro p e s m below meth c T lc hret hx hZ hby hml hown hnm hlk X eT N
  refine own_iloadN X hx (hb hby own27_0) (pc' := 1) rfl rfl ?_
  refine own_iloadN X hx (hb hby own27_1) (pc' := 2) rfl rfl ?_
  refine own_iloadN X hx (hb hby own27_2) (pc' := 3) rfl rfl ?_
  refine own_getS X hx hZ hown (host := "") (Or.inl (own_w hw 127 rfl)) Via.refl eT S_F (hb hby own27_3) (pc' := 6) rfl ?_
  intro T X eT
  refine own_callS X hx hZ [(.int (0 : Int32)), (.int (3 : Int32)), (.int (3 : Int32)), fm] hown (own_w hw 129 rfl) (own_w hw 130 rfl) (own_w hw 128 rfl) (own_w hw 131 rfl) (by decide) (rm_pf3 l Z a0 hw [] fm h0 n0 Z0 hfm) eT (W := 0) (by decide) (by decide) (cells' := 0) (slots' := 0) rfl rfl (by decide) (by decide) (by rw [hml]; rfl) (lenOf own_pd_28IIILjava2futil2ffunction2fBiFunction3b29I rfl) rfl (S := []) rfl (Nat.le_of_eq rfl) (hb hby own27_6) (pc' := 9) rfl ?_
  intro v T h1 L lc X eT hq fN
  obtain ⟨rfl, Nq, hqe⟩ := hq
  have N := fN _ N Nq
  rw [hqe] at eT
  show own_W _ _ _ _ _ _ _ _ [(.int (0 : Int32))]
  refine own_pop X hx (hb hby own27_9) (pc' := 10) rfl rfl ?_
  refine own_ret0 X hx hlk hret (hb hby own27_10) (by decide) (by decide) ?_
  rw [eT]
  exact ⟨rfl, N, rfl⟩
def Q_ub3 (Z : State) (b : Addr) (fm : Value) (h0 : Heap) (n0 : Nat) (v : Option Value) (h : Heap) (L : List Loc) : Prop := v = none ∧ Fr n0 L ∧ h = h0
set_option maxRecDepth 65536 in
set_option maxHeartbeats 40000000 in
theorem rm_ub3 (l : Launch) (Z : State) (a0 : Array Value) (hw : ∀ d ∈ tables_1, d.before a0 Z = true) (ws : List Jvm.Cond) (b : Addr) (fm : Value) (h0 : Heap) (n0 : Nat) (Z0 : n0 ≤ h0.size) (S_F : Sta Z h0 "jdk/internal/util/Preconditions" "SIOOBE_FORMATTER" "Ljava/util/function/BiFunction;" fm) (hfm : fm.isRef = true) (k : ClassId) (vs : List Value) (A_b : Arv Z h0 b k .byte (6 : Int32) vs (.int (0 : Int32))) : own_Met l Z ⟨"java/lang/StringUTF16", "checkBoundsBeginEnd", "(II[B)V"⟩ jdk_52_method_93_code 3 none ws ⟨2, 0, 0, 39⟩ #[(.int (0 : Int32)), (.int (3 : Int32)), (.ref b)] h0 (Q_ub3 Z b fm h0 n0) := by
  refine own_met n0 own_pn_java_lang_StringUTF16 (fun m => ef3IIR m (0 : Int32) (3 : Int32) b) ?_
  intro p e s m below meth c T lc hret hx hZ hby hml hown hnm hlk X eT N
  refine own_iloadN X hx (hb hby own28_0) (pc' := 1) rfl rfl ?_
  refine own_iloadN X hx (hb hby own28_1) (pc' := 2) rfl rfl ?_
  refine own_aloadN X hx (hb hby own28_2) (pc' := 3) rfl rfl rfl ?_
  refine own_callS X hx hZ [(.ref b)] hown (own_w hw 121 rfl) (own_w hw 122 rfl) (own_w hw 76 rfl) (own_w hw 123 rfl) (by decide) (rm_ln3 l Z a0 hw [] b h0 n0 Z0 _ _ A_b) eT (W := 2) (by decide) (by decide) (cells' := 0) (slots' := 0) rfl rfl (by decide) (by decide) (by rw [hml]; rfl) (lenOf own_pd_285bB29I rfl) rfl (S := [(.int (3 : Int32)), (.int (0 : Int32))]) rfl (Nat.le_of_eq rfl) (hb hby own28_3) (pc' := 6) rfl ?_
  intro v T h1 L lc X eT hq fN
  obtain ⟨rfl, Nq, hqe⟩ := hq
  have N := fN _ N Nq
  rw [hqe] at eT
  show own_W _ _ _ _ _ _ _ _ [(.int (3 : Int32)), (.int (3 : Int32)), (.int (0 : Int32))]
  refine own_callS X hx hZ [(.int (0 : Int32)), (.int (3 : Int32)), (.int (3 : Int32))] hown (own_w hw 124 rfl) (own_w hw 125 rfl) (own_w hw 10 rfl) (own_w hw 126 rfl) (by decide) (rm_sb3 l Z a0 hw [] fm h0 n0 Z0 S_F hfm) eT (W := 0) (by decide) (by decide) (cells' := 0) (slots' := 0) rfl rfl (by decide) (by decide) (by rw [hml]; rfl) (lenOf own_pd_28III29V rfl) rfl (S := []) rfl (Nat.le_of_eq rfl) (hb hby own28_6) (pc' := 9) rfl ?_
  intro v T h2 L lc X eT hq fN
  obtain ⟨rfl, Nq, hqe⟩ := hq
  have N := fN _ N Nq
  rw [hqe] at eT
  show own_W _ _ _ _ _ _ _ _ []
  refine own_ret0 X hx hlk hret (hb hby own28_9) (by decide) (by decide) ?_
  rw [eT]
  exact ⟨rfl, N, rfl⟩
def Q_uc3 (Z : State) (b : Addr) (p1 : Int32) (fm : Value) (d0 d1 d2 : Int32) (h0 : Heap) (n0 : Nat) (v : Option Value) (h : Heap) (L : List Loc) : Prop := ∃ z : Int32, v = some (.int z) ∧ Fr n0 L ∧ h = h0 ∧ (z < 0 ↔ (¬ (d0 = p1) ∧ ¬ (d1 = p1) ∧ ¬ (d2 = p1) ∧ True))
set_option maxRecDepth 65536 in
set_option maxHeartbeats 40000000 in
theorem rm_uc3 (l : Launch) (Z : State) (a0 : Array Value) (hw : ∀ d ∈ tables_1, d.before a0 Z = true) (ws : List Jvm.Cond) (b : Addr) (p1 : Int32) (fm : Value) (d0 d1 d2 : Int32) (h0 : Heap) (n0 : Nat) (Z0 : n0 ≤ h0.size) (S_A : Sta Z h0 "java/lang/StringUTF16" "$assertionsDisabled" "Z" (.int (1 : Int32))) (S_H : Sta Z h0 "java/lang/StringUTF16" "HI_BYTE_SHIFT" "I" (.int (0 : Int32))) (S_L : Sta Z h0 "java/lang/StringUTF16" "LO_BYTE_SHIFT" "I" (.int (8 : Int32))) (S_F : Sta Z h0 "jdk/internal/util/Preconditions" "SIOOBE_FORMATTER" "Ljava/util/function/BiFunction;" fm) (hfm : fm.isRef = true) (hp : own_p1 p1) (k : ClassId) (A_b : Arv Z h0 b k .byte (6 : Int32) [(.int (own_lb d0)), (.int (own_hb d0)), (.int (own_lb d1)), (.int (own_hb d1)), (.int (own_lb d2)), (.int (own_hb d2))] (.int (0 : Int32))) (bd0 : own_c16 d0) (bd1 : own_c16 d1) (bd2 : own_c16 d2) : own_Met l Z ⟨"java/lang/StringUTF16", "indexOfChar", "([BIII)I"⟩ jdk_52_method_47_code 4 (some .int) ws ⟨3, 0, 0, 58⟩ #[(.ref b), (.int p1), (.int (0 : Int32)), (.int (3 : Int32))] h0 (Q_uc3 Z b p1 fm d0 d1 d2 h0 n0) := by
  refine own_met n0 own_pn_java_lang_StringUTF16 (fun m => ef4RIII m b p1 (0 : Int32) (3 : Int32)) ?_
  intro p e s m below meth c T lc hret hx hZ hby hml hown hnm hlk X eT N
  refine own_iloadN X hx (hb hby own29_0) (pc' := 1) rfl rfl ?_
  refine own_iloadN X hx (hb hby own29_1) (pc' := 2) rfl rfl ?_
  refine own_aloadN X hx (hb hby own29_2) (pc' := 3) rfl rfl rfl ?_
  refine own_callS X hx hZ [(.int (0 : Int32)), (.int (3 : Int32)), (.ref b)] hown (own_w hw 118 rfl) (own_w hw 119 rfl) (own_w hw 76 rfl) (own_w hw 120 rfl) (by decide) (rm_ub3 l Z a0 hw [] b fm h0 n0 Z0 S_F hfm _ _ A_b) eT (W := 0) (by decide) (by decide) (cells' := 0) (slots' := 0) rfl rfl (by decide) (by decide) (by rw [hml]; rfl) (lenOf own_pd_28II5bB29V rfl) rfl (S := []) rfl (Nat.le_of_eq rfl) (hb hby own29_3) (pc' := 6) rfl ?_
  intro v T h1 L lc X eT hq fN
  obtain ⟨rfl, Nq, hqe⟩ := hq
  have N := fN _ N Nq
  rw [hqe] at eT
  show own_W _ _ _ _ _ _ _ _ []
  refine own_aloadN X hx (hb hby own29_6) (pc' := 7) rfl rfl rfl ?_
  refine own_iloadN X hx (hb hby own29_7) (pc' := 8) rfl rfl ?_
  refine own_iloadN X hx (hb hby own29_8) (pc' := 9) rfl rfl ?_
  refine own_iloadN X hx (hb hby own29_9) (pc' := 10) rfl rfl ?_
  refine own_callS X hx hZ [(.ref b), (.int p1), (.int (0 : Int32)), (.int (3 : Int32))] hown (own_w hw 132 rfl) (own_w hw 133 rfl) (own_w hw 76 rfl) (own_w hw 134 rfl) (by decide) (rm_uu3 l Z a0 hw [] b p1 fm d0 d1 d2 h0 n0 Z0 S_A S_H S_L S_F hfm hp _ A_b bd0 bd1 bd2) eT (W := 0) (by decide) (by decide) (cells' := 0) (slots' := 0) rfl rfl (by decide) (by decide) (by rw [hml]; rfl) (lenOf own_pd_285bBIII29I rfl) rfl (S := []) rfl (Nat.le_of_eq rfl) (hb hby own29_10) (pc' := 13) rfl ?_
  intro v T h2 L lc X eT hq fN
  obtain ⟨zz, rfl, Nq, hqe, hz⟩ := hq
  have N := fN _ N Nq
  rw [hqe] at eT
  show own_W _ _ _ _ _ _ _ _ [(.int zz)]
  refine own_retI X hx hlk (t := .int) (w' := (.int zz)) hret (hb hby own29_13) rfl rfl (by simp) (by decide) (by decide) ?_
  rw [eT]
  exact ⟨_, rfl, N, rfl, hz⟩
def Q_ux3 (Z : State) (b : Addr) (p1 : Int32) (fm : Value) (d0 d1 d2 : Int32) (h0 : Heap) (n0 : Nat) (v : Option Value) (h : Heap) (L : List Loc) : Prop := ∃ z : Int32, v = some (.int z) ∧ Fr n0 L ∧ h = h0 ∧ (z < 0 ↔ (¬ (d0 = p1) ∧ ¬ (d1 = p1) ∧ ¬ (d2 = p1) ∧ True))
set_option maxRecDepth 65536 in
set_option maxHeartbeats 40000000 in
theorem rm_ux3 (l : Launch) (Z : State) (a0 : Array Value) (hw : ∀ d ∈ tables_1, d.before a0 Z = true) (ws : List Jvm.Cond) (b : Addr) (p1 : Int32) (fm : Value) (d0 d1 d2 : Int32) (h0 : Heap) (n0 : Nat) (Z0 : n0 ≤ h0.size) (S_A : Sta Z h0 "java/lang/StringUTF16" "$assertionsDisabled" "Z" (.int (1 : Int32))) (S_H : Sta Z h0 "java/lang/StringUTF16" "HI_BYTE_SHIFT" "I" (.int (0 : Int32))) (S_L : Sta Z h0 "java/lang/StringUTF16" "LO_BYTE_SHIFT" "I" (.int (8 : Int32))) (S_F : Sta Z h0 "jdk/internal/util/Preconditions" "SIOOBE_FORMATTER" "Ljava/util/function/BiFunction;" fm) (hfm : fm.isRef = true) (hp : own_p1 p1) (k : ClassId) (A_b : Arv Z h0 b k .byte (6 : Int32) [(.int (own_lb d0)), (.int (own_hb d0)), (.int (own_lb d1)), (.int (own_hb d1)), (.int (own_lb d2)), (.int (own_hb d2))] (.int (0 : Int32))) (bd0 : own_c16 d0) (bd1 : own_c16 d1) (bd2 : own_c16 d2) : own_Met l Z ⟨"java/lang/StringUTF16", "indexOf", "([BIII)I"⟩ jdk_52_method_40_code 4 (some .int) ws ⟨4, 0, 0, 78⟩ #[(.ref b), (.int p1), (.int (0 : Int32)), (.int (3 : Int32))] h0 (Q_ux3 Z b p1 fm d0 d1 d2 h0 n0) := by
  refine own_met n0 own_pn_java_lang_StringUTF16 (fun m => ef4RIII m b p1 (0 : Int32) (3 : Int32)) ?_
  intro p e s m below meth c T lc hret hx hZ hby hml hown hnm hlk X eT N
  refine own_iloadN X hx (hb hby own30_0) (pc' := 1) rfl rfl ?_
  refine own_iconst X hx (0 : Int32) (hb hby own30_1) (pc' := 2) rfl rfl ?_
  refine own_callS X hx hZ [(.int (0 : Int32)), (.int (0 : Int32))] hown (own_w hw 112 rfl) (own_w hw 68 rfl) (own_w hw 69 rfl) (own_w hw 70 rfl) (by decide) (rm_max l Z a0 hw [] (0 : Int32) (0 : Int32) h0 n0 Z0 (by decide)) eT (W := 0) (by decide) (by decide) (cells' := 0) (slots' := 0) rfl rfl (by decide) (by decide) (by rw [hml]; rfl) (lenOf own_pd_28II29I rfl) rfl (S := []) rfl (Nat.le_of_eq rfl) (hb hby own30_2) (pc' := 5) rfl ?_
  intro v T h1 L lc X eT hq fN
  obtain ⟨rfl, Nq, hqe⟩ := hq
  have N := fN _ N Nq
  rw [hqe] at eT
  show own_W _ _ _ _ _ _ _ _ [(.int (0 : Int32))]
  refine own_istoreN X hx (hb hby own30_5) (pc' := 6) rfl (Ls' := #[.val (.ref b), .val (.int p1), .val (.int (0 : Int32)), .val (.int (3 : Int32))]) rfl ?_
  refine own_iloadN X hx (hb hby own30_6) (pc' := 7) rfl rfl ?_
  refine own_aloadN X hx (hb hby own30_7) (pc' := 8) rfl rfl rfl ?_
  refine own_arrlen X hx hZ eT A_b (hb hby own30_8) (pc' := 9) rfl ?_
  refine own_iconst X hx (1 : Int32) (hb hby own30_9) (pc' := 10) rfl rfl ?_
  refine own_ishr X hx (hb hby own30_10) (pc' := 11) rfl ?_
  rw [show ((6 : Int32) >>> ((1 : Int32) &&& 31)) = (3 : Int32) from by decide]
  refine own_callS X hx hZ [(.int (3 : Int32)), (.int (3 : Int32))] hown (own_w hw 113 rfl) (own_w hw 72 rfl) (own_w hw 69 rfl) (own_w hw 73 rfl) (by decide) (rm_min l Z a0 hw [] (3 : Int32) (3 : Int32) h0 n0 Z0 (by decide)) eT (W := 0) (by decide) (by decide) (cells' := 0) (slots' := 0) rfl rfl (by decide) (by decide) (by rw [hml]; rfl) (lenOf own_pd_28II29I rfl) rfl (S := []) rfl (Nat.le_of_eq rfl) (hb hby own30_11) (pc' := 14) rfl ?_
  intro v T h2 L lc X eT hq fN
  obtain ⟨rfl, Nq, hqe⟩ := hq
  have N := fN _ N Nq
  rw [hqe] at eT
  show own_W _ _ _ _ _ _ _ _ [(.int (3 : Int32))]
  refine own_istoreN X hx (hb hby own30_14) (pc' := 15) rfl (Ls' := #[.val (.ref b), .val (.int p1), .val (.int (0 : Int32)), .val (.int (3 : Int32))]) rfl ?_
  refine own_iloadN X hx (hb hby own30_15) (pc' := 16) rfl rfl ?_
  refine own_iloadN X hx (hb hby own30_16) (pc' := 17) rfl rfl ?_
  refine own_icmpY X hx (hb hby own30_17) (by decide) (pc' := 22) rfl (show (0 : Int32) < (3 : Int32) from (by decide)) ?_
  refine own_iloadN X hx (hb hby own30_22) (pc' := 23) rfl rfl ?_
  refine own_ldc X hx hZ hown (own_w hw 114 rfl) (hb hby own30_23) (pc' := 25) rfl ?_
  refine own_icmpN X hx (hb hby own30_25) (pc' := 28) rfl (show p1 < (65536 : Int32) from (own_q65 hp)) ?_
  refine own_aloadN X hx (hb hby own30_28) (pc' := 29) rfl rfl rfl ?_
  refine own_iloadN X hx (hb hby own30_29) (pc' := 30) rfl rfl ?_
  refine own_iloadN X hx (hb hby own30_30) (pc' := 31) rfl rfl ?_
  refine own_iloadN X hx (hb hby own30_31) (pc' := 32) rfl rfl ?_
  refine own_callS X hx hZ [(.ref b), (.int p1), (.int (0 : Int32)), (.int (3 : Int32))] hown (own_w hw 115 rfl) (own_w hw 116 rfl) (own_w hw 76 rfl) (own_w hw 117 rfl) (by decide) (rm_uc3 l Z a0 hw [] b p1 fm d0 d1 d2 h0 n0 Z0 S_A S_H S_L S_F hfm hp _ A_b bd0 bd1 bd2) eT (W := 0) (by decide) (by decide) (cells' := 0) (slots' := 0) rfl rfl (by decide) (by decide) (by rw [hml]; rfl) (lenOf own_pd_285bBIII29I rfl) rfl (S := []) rfl (Nat.le_of_eq rfl) (hb hby own30_32) (pc' := 35) rfl ?_
  intro v T h3 L lc X eT hq fN
  obtain ⟨zz, rfl, Nq, hqe, hz⟩ := hq
  have N := fN _ N Nq
  rw [hqe] at eT
  show own_W _ _ _ _ _ _ _ _ [(.int zz)]
  refine own_retI X hx hlk (t := .int) (w' := (.int zz)) hret (hb hby own30_35) rfl rfl (by simp) (by decide) (by decide) ?_
  rw [eT]
  exact ⟨_, rfl, N, rfl, hz⟩
def Q_lenU3 (Z : State) (a1 b : Addr) (cs : Int32) (h0 : Heap) (n0 : Nat) (v : Option Value) (h : Heap) (L : List Loc) : Prop := v = some (.int (3 : Int32)) ∧ Fr n0 L ∧ h = h0
set_option maxRecDepth 65536 in
set_option maxHeartbeats 40000000 in
theorem rm_lenU3 (l : Launch) (Z : State) (a0 : Array Value) (hw : ∀ d ∈ tables_1, d.before a0 Z = true) (ws : List Jvm.Cond) (a1 b : Addr) (cs : Int32) (h0 : Heap) (n0 : Nat) (Z0 : n0 ≤ h0.size) (S_C : Sta Z h0 "java/lang/String" "COMPACT_STRINGS" "Z" (.int cs)) (hcs : ¬ cs = 0) (E_a1 : Exa Z h0 a1 "java/lang/String") (F_c : Fld Z h0 a1 "java/lang/String" "coder" "B" (.int (1 : Int32))) (F_v : Fld Z h0 a1 "java/lang/String" "value" "[B" (.ref b)) (k : ClassId) (vs : List Value) (A_b : Arv Z h0 b k .byte (6 : Int32) vs (.int (0 : Int32))) : own_Met l Z ⟨"java/lang/String", "length", "()I"⟩ jdk_42_method_54_code 1 (some .int) ws ⟨1, 0, 0, 13⟩ #[(.ref a1)] h0 (Q_lenU3 Z a1 b cs h0 n0) := by
  refine own_met n0 own_pn_java_lang_String (fun m => ef1R m a1) ?_
  intro p e s m below meth c T lc hret hx hZ hby hml hown hnm hlk X eT N
  refine own_aloadN X hx (hb hby own18_0) (pc' := 1) rfl rfl rfl ?_
  refine own_getF X hx hZ hown (host := "") (Or.inl (own_w hw 28 rfl)) Via.refl eT F_v (hb hby own18_1) (pc' := 4) rfl ?_
  intro T X eT
  refine own_arrlen X hx hZ eT A_b (hb hby own18_4) (pc' := 5) rfl ?_
  refine own_aloadN X hx (hb hby own18_5) (pc' := 6) rfl rfl rfl ?_
  refine own_callV X hx hZ (y := (⟨"java/lang/String", "coder", "()B"⟩ : MethodName)) a1 [] hown (own_w hw 55 rfl) (own_w hw 56 rfl) (own_w hw 58 rfl) (own_w hw 57 rfl) (own_w hw 10 rfl) (own_w hw 59 rfl) (by decide) (rm_coderU l Z a0 hw [] a1 cs h0 n0 Z0 S_C hcs F_c) E_a1 eT (W := 1) (by decide) (by decide) (cells' := 0) (slots' := 0) rfl rfl (by decide) (by decide) (by rw [hml]; rfl) (lenOf own_pd_2829B rfl) rfl (S := [(.int (6 : Int32))]) rfl (Nat.le_of_eq rfl) (hb hby own18_6) (pc' := 9) rfl ?_
  intro v T h1 L lc X eT hq fN
  obtain ⟨rfl, Nq, hqe⟩ := hq
  have N := fN _ N Nq
  rw [hqe] at eT
  show own_W _ _ _ _ _ _ _ _ [(.int (1 : Int32)), (.int (6 : Int32))]
  refine own_ishr X hx (hb hby own18_9) (pc' := 10) rfl ?_
  rw [show ((6 : Int32) >>> ((1 : Int32) &&& 31)) = (3 : Int32) from by decide]
  refine own_retI X hx hlk (t := .int) (w' := (.int (3 : Int32))) hret (hb hby own18_10) rfl rfl (by simp) (by decide) (by decide) ?_
  rw [eT]
  exact ⟨rfl, N, rfl⟩
def Q_siL3 (Z : State) (a1 b : Addr) (p1 cs : Int32) (d0 d1 d2 : Int32) (h0 : Heap) (n0 : Nat) (v : Option Value) (h : Heap) (L : List Loc) : Prop := ∃ z : Int32, v = some (.int z) ∧ Fr n0 L ∧ h = h0 ∧ (z < 0 ↔ (¬ (d0 = p1) ∧ ¬ (d1 = p1) ∧ ¬ (d2 = p1) ∧ True))
set_option maxRecDepth 65536 in
set_option maxHeartbeats 40000000 in
theorem rm_siL3 (l : Launch) (Z : State) (a0 : Array Value) (hw : ∀ d ∈ tables_1, d.before a0 Z = true) (ws : List Jvm.Cond) (a1 b : Addr) (p1 cs : Int32) (d0 d1 d2 : Int32) (h0 : Heap) (n0 : Nat) (Z0 : n0 ≤ h0.size) (S_C : Sta Z h0 "java/lang/String" "COMPACT_STRINGS" "Z" (.int cs)) (hcs : ¬ cs = 0) (E_a1 : Exa Z h0 a1 "java/lang/String") (F_c : Fld Z h0 a1 "java/lang/String" "coder" "B" (.int (0 : Int32))) (F_v : Fld Z h0 a1 "java/lang/String" "value" "[B" (.ref b)) (hp : own_p1 p1) (k : ClassId) (A_b : Arv Z h0 b k .byte (3 : Int32) [(.int (nar .byte d0.toInt8.toInt32)), (.int (nar .byte d1.toInt8.toInt32)), (.int (nar .byte d2.toInt8.toInt32))] (.int (0 : Int32))) (bd0 : own_c16 d0) (bd1 : own_c16 d1) (bd2 : own_c16 d2) (hall : (¬ ((255 : Int32) < d0) ∧ ¬ ((255 : Int32) < d1) ∧ ¬ ((255 : Int32) < d2))) : own_Met l Z ⟨"java/lang/String", "indexOf", "(II)I"⟩ jdk_42_method_80_code 3 (some .int) ws ⟨2, 0, 0, 42⟩ #[(.ref a1), (.int p1), (.int (0 : Int32))] h0 (Q_siL3 Z a1 b p1 cs d0 d1 d2 h0 n0) := by
  refine own_met n0 own_pn_java_lang_String (fun m => ef3RII m a1 p1 (0 : Int32)) ?_
  intro p e s m below meth c T lc hret hx hZ hby hml hown hnm hlk X eT N
  refine own_aloadN X hx (hb hby own20_0) (pc' := 1) rfl rfl rfl ?_
  refine own_callV X hx hZ (y := (⟨"java/lang/String", "isLatin1", "()Z"⟩ : MethodName)) a1 [] hown (own_w hw 44 rfl) (own_w hw 45 rfl) (own_w hw 47 rfl) (own_w hw 46 rfl) (own_w hw 10 rfl) (own_w hw 48 rfl) (by decide) (rm_isLat l Z a0 hw [] a1 cs h0 n0 Z0 S_C hcs F_c) E_a1 eT (W := 0) (by decide) (by decide) (cells' := 0) (slots' := 0) rfl rfl (by decide) (by decide) (by rw [hml]; rfl) (lenOf own_pd_2829Z rfl) rfl (S := []) rfl (Nat.le_of_eq rfl) (hb hby own20_1) (pc' := 4) rfl ?_
  intro v T h1 L lc X eT hq fN
  obtain ⟨rfl, Nq, hqe⟩ := hq
  have N := fN _ N Nq
  rw [hqe] at eT
  show own_W _ _ _ _ _ _ _ _ [(.int (1 : Int32))]
  refine own_ifN X hx (hb hby own20_4) (pc' := 7) rfl (show ¬ ((1 : Int32) = (0 : Int32)) from (by decide)) ?_
  refine own_aloadN X hx (hb hby own20_7) (pc' := 8) rfl rfl rfl ?_
  refine own_getF X hx hZ hown (host := "") (Or.inl (own_w hw 28 rfl)) Via.refl eT F_v (hb hby own20_8) (pc' := 11) rfl ?_
  intro T X eT
  refine own_iloadN X hx (hb hby own20_11) (pc' := 12) rfl rfl ?_
  refine own_iloadN X hx (hb hby own20_12) (pc' := 13) rfl rfl ?_
  refine own_aloadN X hx (hb hby own20_13) (pc' := 14) rfl rfl rfl ?_
  refine own_callV X hx hZ (y := (⟨"java/lang/String", "length", "()I"⟩ : MethodName)) a1 [] hown (own_w hw 50 rfl) (own_w hw 51 rfl) (own_w hw 53 rfl) (own_w hw 52 rfl) (own_w hw 10 rfl) (own_w hw 54 rfl) (by decide) (rm_len l Z a0 hw [] a1 b cs (3 : Int32) h0 n0 Z0 S_C hcs E_a1 F_c F_v _ _ A_b) E_a1 eT (W := 3) (by decide) (by decide) (cells' := 0) (slots' := 0) rfl rfl (by decide) (by decide) (by rw [hml]; rfl) (lenOf own_pd_2829I rfl) rfl (S := [(.int (0 : Int32)), (.int p1), (.ref b)]) rfl (Nat.le_of_eq rfl) (hb hby own20_14) (pc' := 17) rfl ?_
  intro v T h2 L lc X eT hq fN
  obtain ⟨rfl, Nq, hqe⟩ := hq
  have N := fN _ N Nq
  rw [hqe] at eT
  show own_W _ _ _ _ _ _ _ _ [(.int (3 : Int32)), (.int (0 : Int32)), (.int p1), (.ref b)]
  refine own_callS X hx hZ [(.ref b), (.int p1), (.int (0 : Int32)), (.int (3 : Int32))] hown (own_w hw 60 rfl) (own_w hw 61 rfl) (own_w hw 62 rfl) (own_w hw 63 rfl) (by decide) (rm_lx3 l Z a0 hw [] b p1 d0 d1 d2 h0 n0 Z0 hp _ A_b bd0 bd1 bd2 hall) eT (W := 0) (by decide) (by decide) (cells' := 0) (slots' := 0) rfl rfl (by decide) (by decide) (by rw [hml]; rfl) (lenOf own_pd_285bBIII29I rfl) rfl (S := []) rfl (Nat.le_of_eq rfl) (hb hby own20_17) (pc' := 20) rfl ?_
  intro v T h3 L lc X eT hq fN
  obtain ⟨zz, rfl, Nq, hqe, hz⟩ := hq
  have N := fN _ N Nq
  rw [hqe] at eT
  show own_W _ _ _ _ _ _ _ _ [(.int zz)]
  refine own_goto X hx (hb hby own20_20) (by decide) (pc' := 36) rfl ?_
  refine own_retI X hx hlk (t := .int) (w' := (.int zz)) hret (hb hby own20_36) rfl rfl (by simp) (by decide) (by decide) ?_
  rw [eT]
  exact ⟨_, rfl, N, rfl, hz⟩
def Q_sjL3 (Z : State) (a1 b : Addr) (p1 cs : Int32) (d0 d1 d2 : Int32) (h0 : Heap) (n0 : Nat) (v : Option Value) (h : Heap) (L : List Loc) : Prop := ∃ z : Int32, v = some (.int z) ∧ Fr n0 L ∧ h = h0 ∧ (z < 0 ↔ (¬ (d0 = p1) ∧ ¬ (d1 = p1) ∧ ¬ (d2 = p1) ∧ True))
set_option maxRecDepth 65536 in
set_option maxHeartbeats 40000000 in
theorem rm_sjL3 (l : Launch) (Z : State) (a0 : Array Value) (hw : ∀ d ∈ tables_1, d.before a0 Z = true) (ws : List Jvm.Cond) (a1 b : Addr) (p1 cs : Int32) (d0 d1 d2 : Int32) (h0 : Heap) (n0 : Nat) (Z0 : n0 ≤ h0.size) (S_C : Sta Z h0 "java/lang/String" "COMPACT_STRINGS" "Z" (.int cs)) (hcs : ¬ cs = 0) (E_a1 : Exa Z h0 a1 "java/lang/String") (F_c : Fld Z h0 a1 "java/lang/String" "coder" "B" (.int (0 : Int32))) (F_v : Fld Z h0 a1 "java/lang/String" "value" "[B" (.ref b)) (hp : own_p1 p1) (k : ClassId) (A_b : Arv Z h0 b k .byte (3 : Int32) [(.int (nar .byte d0.toInt8.toInt32)), (.int (nar .byte d1.toInt8.toInt32)), (.int (nar .byte d2.toInt8.toInt32))] (.int (0 : Int32))) (bd0 : own_c16 d0) (bd1 : own_c16 d1) (bd2 : own_c16 d2) (hall : (¬ ((255 : Int32) < d0) ∧ ¬ ((255 : Int32) < d1) ∧ ¬ ((255 : Int32) < d2))) : own_Met l Z ⟨"java/lang/String", "indexOf", "(I)I"⟩ jdk_42_method_79_code 2 (some .int) ws ⟨3, 0, 0, 61⟩ #[(.ref a1), (.int p1)] h0 (Q_sjL3 Z a1 b p1 cs d0 d1 d2 h0 n0) := by
  refine own_met n0 own_pn_java_lang_String (fun m => ef2RI m a1 p1) ?_
  intro p e s m below meth c T lc hret hx hZ hby hml hown hnm hlk X eT N
  refine own_aloadN X hx (hb hby own21_0) (pc' := 1) rfl rfl rfl ?_
  refine own_iloadN X hx (hb hby own21_1) (pc' := 2) rfl rfl ?_
  refine own_iconst X hx (0 : Int32) (hb hby own21_2) (pc' := 3) rfl rfl ?_
  refine own_callV X hx hZ (y := (⟨"java/lang/String", "indexOf", "(II)I"⟩ : MethodName)) a1 [(.int p1), (.int (0 : Int32))] hown (own_w hw 39 rfl) (own_w hw 40 rfl) (own_w hw 42 rfl) (own_w hw 41 rfl) (own_w hw 10 rfl) (own_w hw 43 rfl) (by decide) (rm_siL3 l Z a0 hw [] a1 b p1 cs d0 d1 d2 h0 n0 Z0 S_C hcs E_a1 F_c F_v hp _ A_b bd0 bd1 bd2 hall) E_a1 eT (W := 0) (by decide) (by decide) (cells' := 0) (slots' := 0) rfl rfl (by decide) (by decide) (by rw [hml]; rfl) (lenOf own_pd_28II29I rfl) rfl (S := []) rfl (Nat.le_of_eq rfl) (hb hby own21_3) (pc' := 6) rfl ?_
  intro v T h1 L lc X eT hq fN
  obtain ⟨zz, rfl, Nq, hqe, hz⟩ := hq
  have N := fN _ N Nq
  rw [hqe] at eT
  show own_W _ _ _ _ _ _ _ _ [(.int zz)]
  refine own_retI X hx hlk (t := .int) (w' := (.int zz)) hret (hb hby own21_6) rfl rfl (by simp) (by decide) (by decide) ?_
  rw [eT]
  exact ⟨_, rfl, N, rfl, hz⟩
def Q_chL3 (Z : State) (a1 b : Addr) (cs : Int32) (d0 d1 d2 : Int32) (h0 : Heap) (n0 : Nat) (v : Option Value) (h : Heap) (L : List Loc) : Prop := ∃ z : Int32, v = some (.int z) ∧ Fr n0 L ∧ h = h0 ∧ ((z = 1 ∧ (¬ (d0 = (9 : Int32)) ∧ ¬ (d1 = (9 : Int32)) ∧ ¬ (d2 = (9 : Int32)) ∧ True) ∧ (¬ (d0 = (10 : Int32)) ∧ ¬ (d1 = (10 : Int32)) ∧ ¬ (d2 = (10 : Int32)) ∧ True)) ∨ (z = 0 ∧ ¬ ((¬ (d0 = (9 : Int32)) ∧ ¬ (d1 = (9 : Int32)) ∧ ¬ (d2 = (9 : Int32)) ∧ True) ∧ (¬ (d0 = (10 : Int32)) ∧ ¬ (d1 = (10 : Int32)) ∧ ¬ (d2 = (10 : Int32)) ∧ True))))
set_option maxRecDepth 65536 in
set_option maxHeartbeats 40000000 in
theorem rm_chL3 (l : Launch) (Z : State) (a0 : Array Value) (hw : ∀ d ∈ tables_1, d.before a0 Z = true) (ws : List Jvm.Cond) (a1 b : Addr) (cs : Int32) (d0 d1 d2 : Int32) (h0 : Heap) (n0 : Nat) (Z0 : n0 ≤ h0.size) (S_C : Sta Z h0 "java/lang/String" "COMPACT_STRINGS" "Z" (.int cs)) (hcs : ¬ cs = 0) (E_a1 : Exa Z h0 a1 "java/lang/String") (F_c : Fld Z h0 a1 "java/lang/String" "coder" "B" (.int (0 : Int32))) (F_v : Fld Z h0 a1 "java/lang/String" "value" "[B" (.ref b)) (k : ClassId) (A_b : Arv Z h0 b k .byte (3 : Int32) [(.int (nar .byte d0.toInt8.toInt32)), (.int (nar .byte d1.toInt8.toInt32)), (.int (nar .byte d2.toInt8.toInt32))] (.int (0 : Int32))) (bd0 : own_c16 d0) (bd1 : own_c16 d1) (bd2 : own_c16 d2) (hall : (¬ ((255 : Int32) < d0) ∧ ¬ ((255 : Int32) < d1) ∧ ¬ ((255 : Int32) < d2))) : own_Met l Z ⟨"com/example/bleeper/bleeper/cli/Fields", "canHold", "(Ljava/lang/String;)Z"⟩ prog_47_method_2_code 1 (some .boolean) ws ⟨4, 0, 0, 79⟩ #[(.ref a1)] h0 (Q_chL3 Z a1 b cs d0 d1 d2 h0 n0) := by
  refine own_met n0 own_pn_com_example_bleeper_bleeper_cli_Fields (fun m => ef1R m a1) ?_
  intro p e s m below meth c T lc hret hx hZ hby hml hown hnm hlk X eT N
  refine own_aloadN X hx (hb hby own22_0) (pc' := 1) rfl rfl rfl ?_
  refine own_bipush X hx (9 : Int32) (hb hby own22_1) (pc' := 3) rfl rfl ?_
  refine own_callV X hx hZ (y := (⟨"java/lang/String", "indexOf", "(I)I"⟩ : MethodName)) a1 [(.int (9 : Int32))] hown (own_w hw 34 rfl) (own_w hw 35 rfl) (own_w hw 37 rfl) (own_w hw 36 rfl) (own_w hw 10 rfl) (own_w hw 38 rfl) (by decide) (rm_sjL3 l Z a0 hw [] a1 b (9 : Int32) cs d0 d1 d2 h0 n0 Z0 S_C hcs E_a1 F_c F_v (show own_p1 _ from ⟨by decide, by decide⟩) _ A_b bd0 bd1 bd2 hall) E_a1 eT (W := 0) (by decide) (by decide) (cells' := 0) (slots' := 0) rfl rfl (by decide) (by decide) (by rw [hml]; rfl) (lenOf own_pd_28I29I rfl) rfl (S := []) rfl (Nat.le_of_eq rfl) (hb hby own22_3) (pc' := 6) rfl ?_
  intro v T h1 L lc X eT hq fN
  obtain ⟨z1, rfl, Nq, hqe, B1⟩ := hq
  have N := fN _ N Nq
  rw [hqe] at eT
  show own_W _ _ _ _ _ _ _ _ [(.int z1)]
  refine own_if X hx (hb hby own22_6) (by decide) (pcY := 22) (pcN := 9) rfl rfl (fun (hc6 : ¬ (z1 < (0 : Int32))) => ?_) (fun (hc6 : z1 < (0 : Int32)) => ?_)
  · refine own_iconst X hx (0 : Int32) (hb hby own22_22) (pc' := 23) rfl rfl ?_
    refine own_retI X hx hlk (t := .boolean) (w' := (.int (0 : Int32))) hret (hb hby own22_23) rfl rfl (by simp) (by decide) (by decide) ?_
    rw [eT]
    exact ⟨_, rfl, N, rfl, Or.inr ⟨rfl, fun q => hc6 (B1.mpr q.1)⟩⟩
  · refine own_aloadN X hx (hb hby own22_9) (pc' := 10) rfl rfl rfl ?_
    refine own_bipush X hx (10 : Int32) (hb hby own22_10) (pc' := 12) rfl rfl ?_
    refine own_callV X hx hZ (y := (⟨"java/lang/String", "indexOf", "(I)I"⟩ : MethodName)) a1 [(.int (10 : Int32))] hown (own_w hw 34 rfl) (own_w hw 35 rfl) (own_w hw 37 rfl) (own_w hw 36 rfl) (own_w hw 10 rfl) (own_w hw 38 rfl) (by decide) (rm_sjL3 l Z a0 hw [] a1 b (10 : Int32) cs d0 d1 d2 h0 n0 Z0 S_C hcs E_a1 F_c F_v (show own_p1 _ from ⟨by decide, by decide⟩) _ A_b bd0 bd1 bd2 hall) E_a1 eT (W := 0) (by decide) (by decide) (cells' := 0) (slots' := 0) rfl rfl (by decide) (by decide) (by rw [hml]; rfl) (lenOf own_pd_28I29I rfl) rfl (S := []) rfl (Nat.le_of_eq rfl) (hb hby own22_12) (pc' := 15) rfl ?_
    intro v T h2 L lc X eT hq fN
    obtain ⟨z2, rfl, Nq, hqe, B2⟩ := hq
    have N := fN _ N Nq
    rw [hqe] at eT
    show own_W _ _ _ _ _ _ _ _ [(.int z2)]
    refine own_if X hx (hb hby own22_15) (by decide) (pcY := 22) (pcN := 18) rfl rfl (fun (hc15 : ¬ (z2 < (0 : Int32))) => ?_) (fun (hc15 : z2 < (0 : Int32)) => ?_)
    · refine own_iconst X hx (0 : Int32) (hb hby own22_22) (pc' := 23) rfl rfl ?_
      refine own_retI X hx hlk (t := .boolean) (w' := (.int (0 : Int32))) hret (hb hby own22_23) rfl rfl (by simp) (by decide) (by decide) ?_
      rw [eT]
      exact ⟨_, rfl, N, rfl, Or.inr ⟨rfl, fun q => hc15 (B2.mpr q.2)⟩⟩
    · refine own_iconst X hx (1 : Int32) (hb hby own22_18) (pc' := 19) rfl rfl ?_
      refine own_goto X hx (hb hby own22_19) (by decide) (pc' := 23) rfl ?_
      refine own_retI X hx hlk (t := .boolean) (w' := (.int (1 : Int32))) hret (hb hby own22_23) rfl rfl (by simp) (by decide) (by decide) ?_
      rw [eT]
      exact ⟨_, rfl, N, rfl, Or.inl ⟨rfl, B1.mp hc6, B2.mp hc15⟩⟩
def Q_siU3 (Z : State) (a1 b : Addr) (p1 cs : Int32) (fm : Value) (d0 d1 d2 : Int32) (h0 : Heap) (n0 : Nat) (v : Option Value) (h : Heap) (L : List Loc) : Prop := ∃ z : Int32, v = some (.int z) ∧ Fr n0 L ∧ h = h0 ∧ (z < 0 ↔ (¬ (d0 = p1) ∧ ¬ (d1 = p1) ∧ ¬ (d2 = p1) ∧ True))
set_option maxRecDepth 65536 in
set_option maxHeartbeats 40000000 in
theorem rm_siU3 (l : Launch) (Z : State) (a0 : Array Value) (hw : ∀ d ∈ tables_1, d.before a0 Z = true) (ws : List Jvm.Cond) (a1 b : Addr) (p1 cs : Int32) (fm : Value) (d0 d1 d2 : Int32) (h0 : Heap) (n0 : Nat) (Z0 : n0 ≤ h0.size) (S_C : Sta Z h0 "java/lang/String" "COMPACT_STRINGS" "Z" (.int cs)) (hcs : ¬ cs = 0) (E_a1 : Exa Z h0 a1 "java/lang/String") (F_c : Fld Z h0 a1 "java/lang/String" "coder" "B" (.int (1 : Int32))) (F_v : Fld Z h0 a1 "java/lang/String" "value" "[B" (.ref b)) (S_A : Sta Z h0 "java/lang/StringUTF16" "$assertionsDisabled" "Z" (.int (1 : Int32))) (S_H : Sta Z h0 "java/lang/StringUTF16" "HI_BYTE_SHIFT" "I" (.int (0 : Int32))) (S_L : Sta Z h0 "java/lang/StringUTF16" "LO_BYTE_SHIFT" "I" (.int (8 : Int32))) (S_F : Sta Z h0 "jdk/internal/util/Preconditions" "SIOOBE_FORMATTER" "Ljava/util/function/BiFunction;" fm) (hfm : fm.isRef = true) (hp : own_p1 p1) (k : ClassId) (A_b : Arv Z h0 b k .byte (6 : Int32) [(.int (own_lb d0)), (.int (own_hb d0)), (.int (own_lb d1)), (.int (own_hb d1)), (.int (own_lb d2)), (.int (own_hb d2))] (.int (0 : Int32))) (bd0 : own_c16 d0) (bd1 : own_c16 d1) (bd2 : own_c16 d2) : own_Met l Z ⟨"java/lang/String", "indexOf", "(II)I"⟩ jdk_42_method_80_code 3 (some .int) ws ⟨5, 0, 0, 98⟩ #[(.ref a1), (.int p1), (.int (0 : Int32))] h0 (Q_siU3 Z a1 b p1 cs fm d0 d1 d2 h0 n0) := by
  refine own_met n0 own_pn_java_lang_String (fun m => ef3RII m a1 p1 (0 : Int32)) ?_
  intro p e s m below meth c T lc hret hx hZ hby hml hown hnm hlk X eT N
  refine own_aloadN X hx (hb hby own20_0) (pc' := 1) rfl rfl rfl ?_
  refine own_callV X hx hZ (y := (⟨"java/lang/String", "isLatin1", "()Z"⟩ : MethodName)) a1 [] hown (own_w hw 44 rfl) (own_w hw 45 rfl) (own_w hw 47 rfl) (own_w hw 46 rfl) (own_w hw 10 rfl) (own_w hw 48 rfl) (by decide) (rm_isLatU l Z a0 hw [] a1 cs h0 n0 Z0 S_C hcs F_c) E_a1 eT (W := 0) (by decide) (by decide) (cells' := 0) (slots' := 0) rfl rfl (by decide) (by decide) (by rw [hml]; rfl) (lenOf own_pd_2829Z rfl) rfl (S := []) rfl (Nat.le_of_eq rfl) (hb hby own20_1) (pc' := 4) rfl ?_
  intro v T h1 L lc X eT hq fN
  obtain ⟨rfl, Nq, hqe⟩ := hq
  have N := fN _ N Nq
  rw [hqe] at eT
  show own_W _ _ _ _ _ _ _ _ [(.int (0 : Int32))]
  refine own_ifY X hx (hb hby own20_4) (by decide) (pc' := 23) rfl (show (0 : Int32) = (0 : Int32) from (by decide)) ?_
  refine own_aloadN X hx (hb hby own20_23) (pc' := 24) rfl rfl rfl ?_
  refine own_getF X hx hZ hown (host := "") (Or.inl (own_w hw 28 rfl)) Via.refl eT F_v (hb hby own20_24) (pc' := 27) rfl ?_
  intro T X eT
  refine own_iloadN X hx (hb hby own20_27) (pc' := 28) rfl rfl ?_
  refine own_iloadN X hx (hb hby own20_28) (pc' := 29) rfl rfl ?_
  refine own_aloadN X hx (hb hby own20_29) (pc' := 30) rfl rfl rfl ?_
  refine own_callV X hx hZ (y := (⟨"java/lang/String", "length", "()I"⟩ : MethodName)) a1 [] hown (own_w hw 50 rfl) (own_w hw 51 rfl) (own_w hw 53 rfl) (own_w hw 52 rfl) (own_w hw 10 rfl) (own_w hw 54 rfl) (by decide) (rm_lenU3 l Z a0 hw [] a1 b cs h0 n0 Z0 S_C hcs E_a1 F_c F_v _ _ A_b) E_a1 eT (W := 3) (by decide) (by decide) (cells' := 0) (slots' := 0) rfl rfl (by decide) (by decide) (by rw [hml]; rfl) (lenOf own_pd_2829I rfl) rfl (S := [(.int (0 : Int32)), (.int p1), (.ref b)]) rfl (Nat.le_of_eq rfl) (hb hby own20_30) (pc' := 33) rfl ?_
  intro v T h2 L lc X eT hq fN
  obtain ⟨rfl, Nq, hqe⟩ := hq
  have N := fN _ N Nq
  rw [hqe] at eT
  show own_W _ _ _ _ _ _ _ _ [(.int (3 : Int32)), (.int (0 : Int32)), (.int p1), (.ref b)]
  refine own_callS X hx hZ [(.ref b), (.int p1), (.int (0 : Int32)), (.int (3 : Int32))] hown (own_w hw 109 rfl) (own_w hw 110 rfl) (own_w hw 76 rfl) (own_w hw 111 rfl) (by decide) (rm_ux3 l Z a0 hw [] b p1 fm d0 d1 d2 h0 n0 Z0 S_A S_H S_L S_F hfm hp _ A_b bd0 bd1 bd2) eT (W := 0) (by decide) (by decide) (cells' := 0) (slots' := 0) rfl rfl (by decide) (by decide) (by rw [hml]; rfl) (lenOf own_pd_285bBIII29I rfl) rfl (S := []) rfl (Nat.le_of_eq rfl) (hb hby own20_33) (pc' := 36) rfl ?_
  intro v T h3 L lc X eT hq fN
  obtain ⟨zz, rfl, Nq, hqe, hz⟩ := hq
  have N := fN _ N Nq
  rw [hqe] at eT
  show own_W _ _ _ _ _ _ _ _ [(.int zz)]
  refine own_retI X hx hlk (t := .int) (w' := (.int zz)) hret (hb hby own20_36) rfl rfl (by simp) (by decide) (by decide) ?_
  rw [eT]
  exact ⟨_, rfl, N, rfl, hz⟩
def Q_sjU3 (Z : State) (a1 b : Addr) (p1 cs : Int32) (fm : Value) (d0 d1 d2 : Int32) (h0 : Heap) (n0 : Nat) (v : Option Value) (h : Heap) (L : List Loc) : Prop := ∃ z : Int32, v = some (.int z) ∧ Fr n0 L ∧ h = h0 ∧ (z < 0 ↔ (¬ (d0 = p1) ∧ ¬ (d1 = p1) ∧ ¬ (d2 = p1) ∧ True))
set_option maxRecDepth 65536 in
set_option maxHeartbeats 40000000 in
theorem rm_sjU3 (l : Launch) (Z : State) (a0 : Array Value) (hw : ∀ d ∈ tables_1, d.before a0 Z = true) (ws : List Jvm.Cond) (a1 b : Addr) (p1 cs : Int32) (fm : Value) (d0 d1 d2 : Int32) (h0 : Heap) (n0 : Nat) (Z0 : n0 ≤ h0.size) (S_C : Sta Z h0 "java/lang/String" "COMPACT_STRINGS" "Z" (.int cs)) (hcs : ¬ cs = 0) (E_a1 : Exa Z h0 a1 "java/lang/String") (F_c : Fld Z h0 a1 "java/lang/String" "coder" "B" (.int (1 : Int32))) (F_v : Fld Z h0 a1 "java/lang/String" "value" "[B" (.ref b)) (S_A : Sta Z h0 "java/lang/StringUTF16" "$assertionsDisabled" "Z" (.int (1 : Int32))) (S_H : Sta Z h0 "java/lang/StringUTF16" "HI_BYTE_SHIFT" "I" (.int (0 : Int32))) (S_L : Sta Z h0 "java/lang/StringUTF16" "LO_BYTE_SHIFT" "I" (.int (8 : Int32))) (S_F : Sta Z h0 "jdk/internal/util/Preconditions" "SIOOBE_FORMATTER" "Ljava/util/function/BiFunction;" fm) (hfm : fm.isRef = true) (hp : own_p1 p1) (k : ClassId) (A_b : Arv Z h0 b k .byte (6 : Int32) [(.int (own_lb d0)), (.int (own_hb d0)), (.int (own_lb d1)), (.int (own_hb d1)), (.int (own_lb d2)), (.int (own_hb d2))] (.int (0 : Int32))) (bd0 : own_c16 d0) (bd1 : own_c16 d1) (bd2 : own_c16 d2) : own_Met l Z ⟨"java/lang/String", "indexOf", "(I)I"⟩ jdk_42_method_79_code 2 (some .int) ws ⟨6, 0, 0, 117⟩ #[(.ref a1), (.int p1)] h0 (Q_sjU3 Z a1 b p1 cs fm d0 d1 d2 h0 n0) := by
  refine own_met n0 own_pn_java_lang_String (fun m => ef2RI m a1 p1) ?_
  intro p e s m below meth c T lc hret hx hZ hby hml hown hnm hlk X eT N
  refine own_aloadN X hx (hb hby own21_0) (pc' := 1) rfl rfl rfl ?_
  refine own_iloadN X hx (hb hby own21_1) (pc' := 2) rfl rfl ?_
  refine own_iconst X hx (0 : Int32) (hb hby own21_2) (pc' := 3) rfl rfl ?_
  refine own_callV X hx hZ (y := (⟨"java/lang/String", "indexOf", "(II)I"⟩ : MethodName)) a1 [(.int p1), (.int (0 : Int32))] hown (own_w hw 39 rfl) (own_w hw 40 rfl) (own_w hw 42 rfl) (own_w hw 41 rfl) (own_w hw 10 rfl) (own_w hw 43 rfl) (by decide) (rm_siU3 l Z a0 hw [] a1 b p1 cs fm d0 d1 d2 h0 n0 Z0 S_C hcs E_a1 F_c F_v S_A S_H S_L S_F hfm hp _ A_b bd0 bd1 bd2) E_a1 eT (W := 0) (by decide) (by decide) (cells' := 0) (slots' := 0) rfl rfl (by decide) (by decide) (by rw [hml]; rfl) (lenOf own_pd_28II29I rfl) rfl (S := []) rfl (Nat.le_of_eq rfl) (hb hby own21_3) (pc' := 6) rfl ?_
  intro v T h1 L lc X eT hq fN
  obtain ⟨zz, rfl, Nq, hqe, hz⟩ := hq
  have N := fN _ N Nq
  rw [hqe] at eT
  show own_W _ _ _ _ _ _ _ _ [(.int zz)]
  refine own_retI X hx hlk (t := .int) (w' := (.int zz)) hret (hb hby own21_6) rfl rfl (by simp) (by decide) (by decide) ?_
  rw [eT]
  exact ⟨_, rfl, N, rfl, hz⟩
def Q_chU3 (Z : State) (a1 b : Addr) (cs : Int32) (fm : Value) (d0 d1 d2 : Int32) (h0 : Heap) (n0 : Nat) (v : Option Value) (h : Heap) (L : List Loc) : Prop := ∃ z : Int32, v = some (.int z) ∧ Fr n0 L ∧ h = h0 ∧ ((z = 1 ∧ (¬ (d0 = (9 : Int32)) ∧ ¬ (d1 = (9 : Int32)) ∧ ¬ (d2 = (9 : Int32)) ∧ True) ∧ (¬ (d0 = (10 : Int32)) ∧ ¬ (d1 = (10 : Int32)) ∧ ¬ (d2 = (10 : Int32)) ∧ True)) ∨ (z = 0 ∧ ¬ ((¬ (d0 = (9 : Int32)) ∧ ¬ (d1 = (9 : Int32)) ∧ ¬ (d2 = (9 : Int32)) ∧ True) ∧ (¬ (d0 = (10 : Int32)) ∧ ¬ (d1 = (10 : Int32)) ∧ ¬ (d2 = (10 : Int32)) ∧ True))))
set_option maxRecDepth 65536 in
set_option maxHeartbeats 40000000 in
theorem rm_chU3 (l : Launch) (Z : State) (a0 : Array Value) (hw : ∀ d ∈ tables_1, d.before a0 Z = true) (ws : List Jvm.Cond) (a1 b : Addr) (cs : Int32) (fm : Value) (d0 d1 d2 : Int32) (h0 : Heap) (n0 : Nat) (Z0 : n0 ≤ h0.size) (S_C : Sta Z h0 "java/lang/String" "COMPACT_STRINGS" "Z" (.int cs)) (hcs : ¬ cs = 0) (E_a1 : Exa Z h0 a1 "java/lang/String") (F_c : Fld Z h0 a1 "java/lang/String" "coder" "B" (.int (1 : Int32))) (F_v : Fld Z h0 a1 "java/lang/String" "value" "[B" (.ref b)) (S_A : Sta Z h0 "java/lang/StringUTF16" "$assertionsDisabled" "Z" (.int (1 : Int32))) (S_H : Sta Z h0 "java/lang/StringUTF16" "HI_BYTE_SHIFT" "I" (.int (0 : Int32))) (S_L : Sta Z h0 "java/lang/StringUTF16" "LO_BYTE_SHIFT" "I" (.int (8 : Int32))) (S_F : Sta Z h0 "jdk/internal/util/Preconditions" "SIOOBE_FORMATTER" "Ljava/util/function/BiFunction;" fm) (hfm : fm.isRef = true) (k : ClassId) (A_b : Arv Z h0 b k .byte (6 : Int32) [(.int (own_lb d0)), (.int (own_hb d0)), (.int (own_lb d1)), (.int (own_hb d1)), (.int (own_lb d2)), (.int (own_hb d2))] (.int (0 : Int32))) (bd0 : own_c16 d0) (bd1 : own_c16 d1) (bd2 : own_c16 d2) : own_Met l Z ⟨"com/example/bleeper/bleeper/cli/Fields", "canHold", "(Ljava/lang/String;)Z"⟩ prog_47_method_2_code 1 (some .boolean) ws ⟨7, 0, 0, 135⟩ #[(.ref a1)] h0 (Q_chU3 Z a1 b cs fm d0 d1 d2 h0 n0) := by
  refine own_met n0 own_pn_com_example_bleeper_bleeper_cli_Fields (fun m => ef1R m a1) ?_
  intro p e s m below meth c T lc hret hx hZ hby hml hown hnm hlk X eT N
  refine own_aloadN X hx (hb hby own22_0) (pc' := 1) rfl rfl rfl ?_
  refine own_bipush X hx (9 : Int32) (hb hby own22_1) (pc' := 3) rfl rfl ?_
  refine own_callV X hx hZ (y := (⟨"java/lang/String", "indexOf", "(I)I"⟩ : MethodName)) a1 [(.int (9 : Int32))] hown (own_w hw 34 rfl) (own_w hw 35 rfl) (own_w hw 37 rfl) (own_w hw 36 rfl) (own_w hw 10 rfl) (own_w hw 38 rfl) (by decide) (rm_sjU3 l Z a0 hw [] a1 b (9 : Int32) cs fm d0 d1 d2 h0 n0 Z0 S_C hcs E_a1 F_c F_v S_A S_H S_L S_F hfm (show own_p1 _ from ⟨by decide, by decide⟩) _ A_b bd0 bd1 bd2) E_a1 eT (W := 0) (by decide) (by decide) (cells' := 0) (slots' := 0) rfl rfl (by decide) (by decide) (by rw [hml]; rfl) (lenOf own_pd_28I29I rfl) rfl (S := []) rfl (Nat.le_of_eq rfl) (hb hby own22_3) (pc' := 6) rfl ?_
  intro v T h1 L lc X eT hq fN
  obtain ⟨z1, rfl, Nq, hqe, B1⟩ := hq
  have N := fN _ N Nq
  rw [hqe] at eT
  show own_W _ _ _ _ _ _ _ _ [(.int z1)]
  refine own_if X hx (hb hby own22_6) (by decide) (pcY := 22) (pcN := 9) rfl rfl (fun (hc6 : ¬ (z1 < (0 : Int32))) => ?_) (fun (hc6 : z1 < (0 : Int32)) => ?_)
  · refine own_iconst X hx (0 : Int32) (hb hby own22_22) (pc' := 23) rfl rfl ?_
    refine own_retI X hx hlk (t := .boolean) (w' := (.int (0 : Int32))) hret (hb hby own22_23) rfl rfl (by simp) (by decide) (by decide) ?_
    rw [eT]
    exact ⟨_, rfl, N, rfl, Or.inr ⟨rfl, fun q => hc6 (B1.mpr q.1)⟩⟩
  · refine own_aloadN X hx (hb hby own22_9) (pc' := 10) rfl rfl rfl ?_
    refine own_bipush X hx (10 : Int32) (hb hby own22_10) (pc' := 12) rfl rfl ?_
    refine own_callV X hx hZ (y := (⟨"java/lang/String", "indexOf", "(I)I"⟩ : MethodName)) a1 [(.int (10 : Int32))] hown (own_w hw 34 rfl) (own_w hw 35 rfl) (own_w hw 37 rfl) (own_w hw 36 rfl) (own_w hw 10 rfl) (own_w hw 38 rfl) (by decide) (rm_sjU3 l Z a0 hw [] a1 b (10 : Int32) cs fm d0 d1 d2 h0 n0 Z0 S_C hcs E_a1 F_c F_v S_A S_H S_L S_F hfm (show own_p1 _ from ⟨by decide, by decide⟩) _ A_b bd0 bd1 bd2) E_a1 eT (W := 0) (by decide) (by decide) (cells' := 0) (slots' := 0) rfl rfl (by decide) (by decide) (by rw [hml]; rfl) (lenOf own_pd_28I29I rfl) rfl (S := []) rfl (Nat.le_of_eq rfl) (hb hby own22_12) (pc' := 15) rfl ?_
    intro v T h2 L lc X eT hq fN
    obtain ⟨z2, rfl, Nq, hqe, B2⟩ := hq
    have N := fN _ N Nq
    rw [hqe] at eT
    show own_W _ _ _ _ _ _ _ _ [(.int z2)]
    refine own_if X hx (hb hby own22_15) (by decide) (pcY := 22) (pcN := 18) rfl rfl (fun (hc15 : ¬ (z2 < (0 : Int32))) => ?_) (fun (hc15 : z2 < (0 : Int32)) => ?_)
    · refine own_iconst X hx (0 : Int32) (hb hby own22_22) (pc' := 23) rfl rfl ?_
      refine own_retI X hx hlk (t := .boolean) (w' := (.int (0 : Int32))) hret (hb hby own22_23) rfl rfl (by simp) (by decide) (by decide) ?_
      rw [eT]
      exact ⟨_, rfl, N, rfl, Or.inr ⟨rfl, fun q => hc15 (B2.mpr q.2)⟩⟩
    · refine own_iconst X hx (1 : Int32) (hb hby own22_18) (pc' := 19) rfl rfl ?_
      refine own_goto X hx (hb hby own22_19) (by decide) (pc' := 23) rfl ?_
      refine own_retI X hx hlk (t := .boolean) (w' := (.int (1 : Int32))) hret (hb hby own22_23) rfl rfl (by simp) (by decide) (by decide) ?_
      rw [eT]
      exact ⟨_, rfl, N, rfl, Or.inl ⟨rfl, B1.mp hc6, B2.mp hc15⟩⟩
def Q_lc4 (Z : State) (b : Addr) (p1 : Int32) (d0 d1 d2 d3 : Int32) (h0 : Heap) (n0 : Nat) (v : Option Value) (h : Heap) (L : List Loc) : Prop := ∃ z : Int32, v = some (.int z) ∧ Fr n0 L ∧ h = h0 ∧ (z < 0 ↔ (¬ (d0 = p1) ∧ ¬ (d1 = p1) ∧ ¬ (d2 = p1) ∧ ¬ (d3 = p1) ∧ True))
set_option maxRecDepth 65536 in
set_option maxHeartbeats 40000000 in
theorem rm_lc4 (l : Launch) (Z : State) (a0 : Array Value) (hw : ∀ d ∈ tables_1, d.before a0 Z = true) (ws : List Jvm.Cond) (b : Addr) (p1 : Int32) (d0 d1 d2 d3 : Int32) (h0 : Heap) (n0 : Nat) (Z0 : n0 ≤ h0.size) (hp : own_p1 p1) (k : ClassId) (A_b : Arv Z h0 b k .byte (4 : Int32) [(.int (nar .byte d0.toInt8.toInt32)), (.int (nar .byte d1.toInt8.toInt32)), (.int (nar .byte d2.toInt8.toInt32)), (.int (nar .byte d3.toInt8.toInt32))] (.int (0 : Int32))) (bd0 : own_c16 d0) (bd1 : own_c16 d1) (bd2 : own_c16 d2) (bd3 : own_c16 d3) (hall : (¬ ((255 : Int32) < d0) ∧ ¬ ((255 : Int32) < d1) ∧ ¬ ((255 : Int32) < d2) ∧ ¬ ((255 : Int32) < d3))) : own_Met l Z ⟨"java/lang/StringLatin1", "indexOfChar", "([BIII)I"⟩ jdk_43_method_23_code 6 (some .int) ws ⟨0, 0, 0, 0⟩ #[(.ref b), (.int p1), (.int (0 : Int32)), (.int (4 : Int32))] h0 (Q_lc4 Z b p1 d0 d1 d2 d3 h0 n0) := by
  refine own_met n0 own_pn_java_lang_StringLatin1 (fun m => ef6RIII m b p1 (0 : Int32) (4 : Int32)) ?_
  intro p e s m below meth c T lc hret hx hZ hby hml hown hnm hlk X eT N
  refine own_iloadN X hx (hb hby own23_0) (pc' := 1) rfl rfl ?_
  refine own_i2b X hx (hb hby own23_1) (pc' := 2) rfl ?_
  refine own_istore X hx (hb hby own23_2) (pc' := 4) rfl (Ls' := #[.val (.ref b), .val (.int p1), .val (.int (0 : Int32)), .val (.int (4 : Int32)), .val (.int p1.toInt8.toInt32), .unset]) rfl ?_
  refine own_iloadN X hx (hb hby own23_4) (pc' := 5) rfl rfl ?_
  refine own_istore X hx (hb hby own23_5) (pc' := 7) rfl (Ls' := #[.val (.ref b), .val (.int p1), .val (.int (0 : Int32)), .val (.int (4 : Int32)), .val (.int p1.toInt8.toInt32), .val (.int (0 : Int32))]) rfl ?_
  refine own_iload X hx (hb hby own23_7) (pc' := 9) rfl rfl ?_
  refine own_iloadN X hx (hb hby own23_9) (pc' := 10) rfl rfl ?_
  refine own_icmpN X hx (hb hby own23_10) (pc' := 13) rfl (show (0 : Int32) < (4 : Int32) from (by decide)) ?_
  refine own_aloadN X hx (hb hby own23_13) (pc' := 14) rfl rfl rfl ?_
  refine own_iload X hx (hb hby own23_14) (pc' := 16) rfl rfl ?_
  refine own_baloadB X hx hZ eT A_b (v := (.int (nar .byte d0.toInt8.toInt32))) (by decide) rfl (hb hby own23_16) (pc' := 17) rfl ?_
  refine own_iload X hx (hb hby own23_17) (pc' := 19) rfl rfl ?_
  refine own_icmp X hx (hb hby own23_19) (by decide) (pcY := 25) (pcN := 22) rfl rfl (fun (hc19 : ¬ ((nar .byte d0.toInt8.toInt32) = p1.toInt8.toInt32)) => ?_) (fun (hc19 : (nar .byte d0.toInt8.toInt32) = p1.toInt8.toInt32) => ?_)
  · refine own_iinc X hx (1 : Int32) (hb hby own23_25) (pc' := 28) rfl rfl rfl (Ls' := #[.val (.ref b), .val (.int p1), .val (.int (0 : Int32)), .val (.int (4 : Int32)), .val (.int p1.toInt8.toInt32), .val (.int (1 : Int32))]) rfl ?_
    refine own_goto X hx (hb hby own23_28) (by decide) (pc' := 7) rfl ?_
    refine own_iload X hx (hb hby own23_7) (pc' := 9) rfl rfl ?_
    refine own_iloadN X hx (hb hby own23_9) (pc' := 10) rfl rfl ?_
    refine own_icmpN X hx (hb hby own23_10) (pc' := 13) rfl (show (1 : Int32) < (4 : Int32) from (by decide)) ?_
    refine own_aloadN X hx (hb hby own23_13) (pc' := 14) rfl rfl rfl ?_
    refine own_iload X hx (hb hby own23_14) (pc' := 16) rfl rfl ?_
    refine own_baloadB X hx hZ eT A_b (v := (.int (nar .byte d1.toInt8.toInt32))) (by decide) rfl (hb hby own23_16) (pc' := 17) rfl ?_
    refine own_iload X hx (hb hby own23_17) (pc' := 19) rfl rfl ?_
    refine own_icmp X hx (hb hby own23_19) (by decide) (pcY := 25) (pcN := 22) rfl rfl (fun (hc19_2 : ¬ ((nar .byte d1.toInt8.toInt32) = p1.toInt8.toInt32)) => ?_) (fun (hc19_2 : (nar .byte d1.toInt8.toInt32) = p1.toInt8.toInt32) => ?_)
    · refine own_iinc X hx (1 : Int32) (hb hby own23_25) (pc' := 28) rfl rfl rfl (Ls' := #[.val (.ref b), .val (.int p1), .val (.int (0 : Int32)), .val (.int (4 : Int32)), .val (.int p1.toInt8.toInt32), .val (.int (2 : Int32))]) rfl ?_
      refine own_goto X hx (hb hby own23_28) (by decide) (pc' := 7) rfl ?_
      refine own_iload X hx (hb hby own23_7) (pc' := 9) rfl rfl ?_
      refine own_iloadN X hx (hb hby own23_9) (pc' := 10) rfl rfl ?_
      refine own_icmpN X hx (hb hby own23_10) (pc' := 13) rfl (show (2 : Int32) < (4 : Int32) from (by decide)) ?_
      refine own_aloadN X hx (hb hby own23_13) (pc' := 14) rfl rfl rfl ?_
      refine own_iload X hx (hb hby own23_14) (pc' := 16) rfl rfl ?_
      refine own_baloadB X hx hZ eT A_b (v := (.int (nar .byte d2.toInt8.toInt32))) (by decide) rfl (hb hby own23_16) (pc' := 17) rfl ?_
      refine own_iload X hx (hb hby own23_17) (pc' := 19) rfl rfl ?_
      refine own_icmp X hx (hb hby own23_19) (by decide) (pcY := 25) (pcN := 22) rfl rfl (fun (hc19_3 : ¬ ((nar .byte d2.toInt8.toInt32) = p1.toInt8.toInt32)) => ?_) (fun (hc19_3 : (nar .byte d2.toInt8.toInt32) = p1.toInt8.toInt32) => ?_)
      · refine own_iinc X hx (1 : Int32) (hb hby own23_25) (pc' := 28) rfl rfl rfl (Ls' := #[.val (.ref b), .val (.int p1), .val (.int (0 : Int32)), .val (.int (4 : Int32)), .val (.int p1.toInt8.toInt32), .val (.int (3 : Int32))]) rfl ?_
        refine own_goto X hx (hb hby own23_28) (by decide) (pc' := 7) rfl ?_
        refine own_iload X hx (hb hby own23_7) (pc' := 9) rfl rfl ?_
        refine own_iloadN X hx (hb hby own23_9) (pc' := 10) rfl rfl ?_
        refine own_icmpN X hx (hb hby own23_10) (pc' := 13) rfl (show (3 : Int32) < (4 : Int32) from (by decide)) ?_
        refine own_aloadN X hx (hb hby own23_13) (pc' := 14) rfl rfl rfl ?_
        refine own_iload X hx (hb hby own23_14) (pc' := 16) rfl rfl ?_
        refine own_baloadB X hx hZ eT A_b (v := (.int (nar .byte d3.toInt8.toInt32))) (by decide) rfl (hb hby own23_16) (pc' := 17) rfl ?_
        refine own_iload X hx (hb hby own23_17) (pc' := 19) rfl rfl ?_
        refine own_icmp X hx (hb hby own23_19) (by decide) (pcY := 25) (pcN := 22) rfl rfl (fun (hc19_4 : ¬ ((nar .byte d3.toInt8.toInt32) = p1.toInt8.toInt32)) => ?_) (fun (hc19_4 : (nar .byte d3.toInt8.toInt32) = p1.toInt8.toInt32) => ?_)
        · refine own_iinc X hx (1 : Int32) (hb hby own23_25) (pc' := 28) rfl rfl rfl (Ls' := #[.val (.ref b), .val (.int p1), .val (.int (0 : Int32)), .val (.int (4 : Int32)), .val (.int p1.toInt8.toInt32), .val (.int (4 : Int32))]) rfl ?_
          refine own_goto X hx (hb hby own23_28) (by decide) (pc' := 7) rfl ?_
          refine own_iload X hx (hb hby own23_7) (pc' := 9) rfl rfl ?_
          refine own_iloadN X hx (hb hby own23_9) (pc' := 10) rfl rfl ?_
          refine own_icmpY X hx (hb hby own23_10) (by decide) (pc' := 31) rfl (show ¬ ((4 : Int32) < (4 : Int32)) from (by decide)) ?_
          refine own_iconst X hx (-1 : Int32) (hb hby own23_31) (pc' := 32) rfl rfl ?_
          refine own_retI X hx hlk (t := .int) (w' := (.int (-1 : Int32))) hret (hb hby own23_32) rfl rfl (by simp) (by decide) (by decide) ?_
          rw [eT]
          exact ⟨_, rfl, N, rfl, ⟨fun _ => ⟨fun e => hc19 ((own_lo8 bd0 hall.1 hp).mpr e), fun e => hc19_2 ((own_lo8 bd1 hall.2.1 hp).mpr e), fun e => hc19_3 ((own_lo8 bd2 hall.2.2.1 hp).mpr e), fun e => hc19_4 ((own_lo8 bd3 hall.2.2.2 hp).mpr e), trivial⟩, fun _ => by decide⟩⟩
        · refine own_iload X hx (hb hby own23_22) (pc' := 24) rfl rfl ?_
          refine own_retI X hx hlk (t := .int) (w' := (.int (3 : Int32))) hret (hb hby own23_24) rfl rfl (by simp) (by decide) (by decide) ?_
          rw [eT]
          exact ⟨_, rfl, N, rfl, ⟨fun q => absurd q (by decide), fun q => absurd ((own_lo8 bd3 hall.2.2.2 hp).mp hc19_4) q.2.2.2.1⟩⟩
      · refine own_iload X hx (hb hby own23_22) (pc' := 24) rfl rfl ?_
        refine own_retI X hx hlk (t := .int) (w' := (.int (2 : Int32))) hret (hb hby own23_24) rfl rfl (by simp) (by decide) (by decide) ?_
        rw [eT]
        exact ⟨_, rfl, N, rfl, ⟨fun q => absurd q (by decide), fun q => absurd ((own_lo8 bd2 hall.2.2.1 hp).mp hc19_3) q.2.2.1⟩⟩
    · refine own_iload X hx (hb hby own23_22) (pc' := 24) rfl rfl ?_
      refine own_retI X hx hlk (t := .int) (w' := (.int (1 : Int32))) hret (hb hby own23_24) rfl rfl (by simp) (by decide) (by decide) ?_
      rw [eT]
      exact ⟨_, rfl, N, rfl, ⟨fun q => absurd q (by decide), fun q => absurd ((own_lo8 bd1 hall.2.1 hp).mp hc19_2) q.2.1⟩⟩
  · refine own_iload X hx (hb hby own23_22) (pc' := 24) rfl rfl ?_
    refine own_retI X hx hlk (t := .int) (w' := (.int (0 : Int32))) hret (hb hby own23_24) rfl rfl (by simp) (by decide) (by decide) ?_
    rw [eT]
    exact ⟨_, rfl, N, rfl, ⟨fun q => absurd q (by decide), fun q => absurd ((own_lo8 bd0 hall.1 hp).mp hc19) q.1⟩⟩
def Q_lx4 (Z : State) (b : Addr) (p1 : Int32) (d0 d1 d2 d3 : Int32) (h0 : Heap) (n0 : Nat) (v : Option Value) (h : Heap) (L : List Loc) : Prop := ∃ z : Int32, v = some (.int z) ∧ Fr n0 L ∧ h = h0 ∧ (z < 0 ↔ (¬ (d0 = p1) ∧ ¬ (d1 = p1) ∧ ¬ (d2 = p1) ∧ ¬ (d3 = p1) ∧ True))
set_option maxRecDepth 65536 in
set_option maxHeartbeats 40000000 in
theorem rm_lx4 (l : Launch) (Z : State) (a0 : Array Value) (hw : ∀ d ∈ tables_1, d.before a0 Z = true) (ws : List Jvm.Cond) (b : Addr) (p1 : Int32) (d0 d1 d2 d3 : Int32) (h0 : Heap) (n0 : Nat) (Z0 : n0 ≤ h0.size) (hp : own_p1 p1) (k : ClassId) (A_b : Arv Z h0 b k .byte (4 : Int32) [(.int (nar .byte d0.toInt8.toInt32)), (.int (nar .byte d1.toInt8.toInt32)), (.int (nar .byte d2.toInt8.toInt32)), (.int (nar .byte d3.toInt8.toInt32))] (.int (0 : Int32))) (bd0 : own_c16 d0) (bd1 : own_c16 d1) (bd2 : own_c16 d2) (bd3 : own_c16 d3) (hall : (¬ ((255 : Int32) < d0) ∧ ¬ ((255 : Int32) < d1) ∧ ¬ ((255 : Int32) < d2) ∧ ¬ ((255 : Int32) < d3))) : own_Met l Z ⟨"java/lang/StringLatin1", "indexOf", "([BIII)I"⟩ jdk_43_method_22_code 4 (some .int) ws ⟨1, 0, 0, 22⟩ #[(.ref b), (.int p1), (.int (0 : Int32)), (.int (4 : Int32))] h0 (Q_lx4 Z b p1 d0 d1 d2 d3 h0 n0) := by
  refine own_met n0 own_pn_java_lang_StringLatin1 (fun m => ef4RIII m b p1 (0 : Int32) (4 : Int32)) ?_
  intro p e s m below meth c T lc hret hx hZ hby hml hown hnm hlk X eT N
  refine own_iloadN X hx (hb hby own19_0) (pc' := 1) rfl rfl ?_
  refine own_callS X hx hZ [(.int p1)] hown (own_w hw 64 rfl) (own_w hw 65 rfl) (own_w hw 62 rfl) (own_w hw 66 rfl) (by decide) (rm_cei l Z a0 hw [] p1 h0 n0 Z0 hp) eT (W := 0) (by decide) (by decide) (cells' := 0) (slots' := 0) rfl rfl (by decide) (by decide) (by rw [hml]; rfl) (lenOf own_pd_28I29Z rfl) rfl (S := []) rfl (Nat.le_of_eq rfl) (hb hby own19_1) (pc' := 4) rfl ?_
  intro v T h1 L lc X eT hq fN
  obtain ⟨rfl, Nq, hqe⟩ := hq
  have N := fN _ N Nq
  rw [hqe] at eT
  show own_W _ _ _ _ _ _ _ _ [(.int (1 : Int32))]
  refine own_ifY X hx (hb hby own19_4) (by decide) (pc' := 9) rfl (show ¬ ((1 : Int32) = (0 : Int32)) from (by decide)) ?_
  refine own_iloadN X hx (hb hby own19_9) (pc' := 10) rfl rfl ?_
  refine own_iconst X hx (0 : Int32) (hb hby own19_10) (pc' := 11) rfl rfl ?_
  refine own_callS X hx hZ [(.int (0 : Int32)), (.int (0 : Int32))] hown (own_w hw 67 rfl) (own_w hw 68 rfl) (own_w hw 69 rfl) (own_w hw 70 rfl) (by decide) (rm_max l Z a0 hw [] (0 : Int32) (0 : Int32) h0 n0 Z0 (by decide)) eT (W := 0) (by decide) (by decide) (cells' := 0) (slots' := 0) rfl rfl (by decide) (by decide) (by rw [hml]; rfl) (lenOf own_pd_28II29I rfl) rfl (S := []) rfl (Nat.le_of_eq rfl) (hb hby own19_11) (pc' := 14) rfl ?_
  intro v T h2 L lc X eT hq fN
  obtain ⟨rfl, Nq, hqe⟩ := hq
  have N := fN _ N Nq
  rw [hqe] at eT
  show own_W _ _ _ _ _ _ _ _ [(.int (0 : Int32))]
  refine own_istoreN X hx (hb hby own19_14) (pc' := 15) rfl (Ls' := #[.val (.ref b), .val (.int p1), .val (.int (0 : Int32)), .val (.int (4 : Int32))]) rfl ?_
  refine own_iloadN X hx (hb hby own19_15) (pc' := 16) rfl rfl ?_
  refine own_aloadN X hx (hb hby own19_16) (pc' := 17) rfl rfl rfl ?_
  refine own_arrlen X hx hZ eT A_b (hb hby own19_17) (pc' := 18) rfl ?_
  refine own_callS X hx hZ [(.int (4 : Int32)), (.int (4 : Int32))] hown (own_w hw 71 rfl) (own_w hw 72 rfl) (own_w hw 69 rfl) (own_w hw 73 rfl) (by decide) (rm_min l Z a0 hw [] (4 : Int32) (4 : Int32) h0 n0 Z0 (by decide)) eT (W := 0) (by decide) (by decide) (cells' := 0) (slots' := 0) rfl rfl (by decide) (by decide) (by rw [hml]; rfl) (lenOf own_pd_28II29I rfl) rfl (S := []) rfl (Nat.le_of_eq rfl) (hb hby own19_18) (pc' := 21) rfl ?_
  intro v T h3 L lc X eT hq fN
  obtain ⟨rfl, Nq, hqe⟩ := hq
  have N := fN _ N Nq
  rw [hqe] at eT
  show own_W _ _ _ _ _ _ _ _ [(.int (4 : Int32))]
  refine own_istoreN X hx (hb hby own19_21) (pc' := 22) rfl (Ls' := #[.val (.ref b), .val (.int p1), .val (.int (0 : Int32)), .val (.int (4 : Int32))]) rfl ?_
  refine own_iloadN X hx (hb hby own19_22) (pc' := 23) rfl rfl ?_
  refine own_iloadN X hx (hb hby own19_23) (pc' := 24) rfl rfl ?_
  refine own_icmpY X hx (hb hby own19_24) (by decide) (pc' := 29) rfl (show (0 : Int32) < (4 : Int32) from (by decide)) ?_
  refine own_aloadN X hx (hb hby own19_29) (pc' := 30) rfl rfl rfl ?_
  refine own_iloadN X hx (hb hby own19_30) (pc' := 31) rfl rfl ?_
  refine own_iloadN X hx (hb hby own19_31) (pc' := 32) rfl rfl ?_
  refine own_iloadN X hx (hb hby own19_32) (pc' := 33) rfl rfl ?_
  refine own_callS X hx hZ [(.ref b), (.int p1), (.int (0 : Int32)), (.int (4 : Int32))] hown (own_w hw 87 rfl) (own_w hw 88 rfl) (own_w hw 62 rfl) (own_w hw 89 rfl) (by decide) (rm_lc4 l Z a0 hw [] b p1 d0 d1 d2 d3 h0 n0 Z0 hp _ A_b bd0 bd1 bd2 bd3 hall) eT (W := 0) (by decide) (by decide) (cells' := 0) (slots' := 0) rfl rfl (by decide) (by decide) (by rw [hml]; rfl) (lenOf own_pd_285bBIII29I rfl) rfl (S := []) rfl (Nat.le_of_eq rfl) (hb hby own19_33) (pc' := 36) rfl ?_
  intro v T h4 L lc X eT hq fN
  obtain ⟨zz, rfl, Nq, hqe, hz⟩ := hq
  have N := fN _ N Nq
  rw [hqe] at eT
  show own_W _ _ _ _ _ _ _ _ [(.int zz)]
  refine own_retI X hx hlk (t := .int) (w' := (.int zz)) hret (hb hby own19_36) rfl rfl (by simp) (by decide) (by decide) ?_
  rw [eT]
  exact ⟨_, rfl, N, rfl, hz⟩
def Q_uu4 (Z : State) (b : Addr) (p1 : Int32) (fm : Value) (d0 d1 d2 d3 : Int32) (h0 : Heap) (n0 : Nat) (v : Option Value) (h : Heap) (L : List Loc) : Prop := ∃ z : Int32, v = some (.int z) ∧ Fr n0 L ∧ h = h0 ∧ (z < 0 ↔ (¬ (d0 = p1) ∧ ¬ (d1 = p1) ∧ ¬ (d2 = p1) ∧ ¬ (d3 = p1) ∧ True))
set_option maxRecDepth 65536 in
set_option maxHeartbeats 40000000 in
theorem rm_uu4 (l : Launch) (Z : State) (a0 : Array Value) (hw : ∀ d ∈ tables_1, d.before a0 Z = true) (ws : List Jvm.Cond) (b : Addr) (p1 : Int32) (fm : Value) (d0 d1 d2 d3 : Int32) (h0 : Heap) (n0 : Nat) (Z0 : n0 ≤ h0.size) (S_A : Sta Z h0 "java/lang/StringUTF16" "$assertionsDisabled" "Z" (.int (1 : Int32))) (S_H : Sta Z h0 "java/lang/StringUTF16" "HI_BYTE_SHIFT" "I" (.int (0 : Int32))) (S_L : Sta Z h0 "java/lang/StringUTF16" "LO_BYTE_SHIFT" "I" (.int (8 : Int32))) (S_F : Sta Z h0 "jdk/internal/util/Preconditions" "SIOOBE_FORMATTER" "Ljava/util/function/BiFunction;" fm) (hfm : fm.isRef = true) (hp : own_p1 p1) (k : ClassId) (A_b : Arv Z h0 b k .byte (8 : Int32) [(.int (own_lb d0)), (.int (own_hb d0)), (.int (own_lb d1)), (.int (own_hb d1)), (.int (own_lb d2)), (.int (own_hb d2)), (.int (own_lb d3)), (.int (own_hb d3))] (.int (0 : Int32))) (bd0 : own_c16 d0) (bd1 : own_c16 d1) (bd2 : own_c16 d2) (bd3 : own_c16 d3) : own_Met l Z ⟨"java/lang/StringUTF16", "indexOfCharUnsafe", "([BIII)I"⟩ jdk_52_method_48_code 5 (some .int) ws ⟨1, 0, 0, 18⟩ #[(.ref b), (.int p1), (.int (0 : Int32)), (.int (4 : Int32))] h0 (Q_uu4 Z b p1 fm d0 d1 d2 d3 h0 n0) := by
  refine own_met n0 own_pn_java_lang_StringUTF16 (fun m => ef5RIII m b p1 (0 : Int32) (4 : Int32)) ?_
  intro p e s m below meth c T lc hret hx hZ hby hml hown hnm hlk X eT N
  refine own_iloadN X hx (hb hby own24_0) (pc' := 1) rfl rfl ?_
  refine own_istore X hx (hb hby own24_1) (pc' := 3) rfl (Ls' := #[.val (.ref b), .val (.int p1), .val (.int (0 : Int32)), .val (.int (4 : Int32)), .val (.int (0 : Int32))]) rfl ?_
  refine own_iload X hx (hb hby own24_3) (pc' := 5) rfl rfl ?_
  refine own_iloadN X hx (hb hby own24_5) (pc' := 6) rfl rfl ?_
  refine own_icmpN X hx (hb hby own24_6) (pc' := 9) rfl (show (0 : Int32) < (4 : Int32) from (by decide)) ?_
  refine own_aloadN X hx (hb hby own24_9) (pc' := 10) rfl rfl rfl ?_
  refine own_iload X hx (hb hby own24_10) (pc' := 12) rfl rfl ?_
  refine own_callS X hx hZ [(.ref b), (.int (0 : Int32))] hown (own_w hw 106 rfl) (own_w hw 107 rfl) (own_w hw 76 rfl) (own_w hw 108 rfl) (by decide) (rm_gc4_0 l Z a0 hw [] b _ d0 d1 d2 d3 h0 n0 Z0 S_A S_H S_L bd0 A_b) eT (W := 0) (by decide) (by decide) (cells' := 0) (slots' := 0) rfl rfl (by decide) (by decide) (by rw [hml]; rfl) (lenOf own_pd_285bBI29C rfl) rfl (S := []) rfl (Nat.le_of_eq rfl) (hb hby own24_12) (pc' := 15) rfl ?_
  intro v T h1 L lc X eT hq fN
  obtain ⟨rfl, Nq, hqe⟩ := hq
  have N := fN _ N Nq
  rw [hqe] at eT
  show own_W _ _ _ _ _ _ _ _ [(.int d0)]
  refine own_iloadN X hx (hb hby own24_15) (pc' := 16) rfl rfl ?_
  refine own_icmp X hx (hb hby own24_16) (by decide) (pcY := 22) (pcN := 19) rfl rfl (fun (hc16 : ¬ (d0 = p1)) => ?_) (fun (hc16 : d0 = p1) => ?_)
  · refine own_iinc X hx (1 : Int32) (hb hby own24_22) (pc' := 25) rfl rfl rfl (Ls' := #[.val (.ref b), .val (.int p1), .val (.int (0 : Int32)), .val (.int (4 : Int32)), .val (.int (1 : Int32))]) rfl ?_
    refine own_goto X hx (hb hby own24_25) (by decide) (pc' := 3) rfl ?_
    refine own_iload X hx (hb hby own24_3) (pc' := 5) rfl rfl ?_
    refine own_iloadN X hx (hb hby own24_5) (pc' := 6) rfl rfl ?_
    refine own_icmpN X hx (hb hby own24_6) (pc' := 9) rfl (show (1 : Int32) < (4 : Int32) from (by decide)) ?_
    refine own_aloadN X hx (hb hby own24_9) (pc' := 10) rfl rfl rfl ?_
    refine own_iload X hx (hb hby own24_10) (pc' := 12) rfl rfl ?_
    refine own_callS X hx hZ [(.ref b), (.int (1 : Int32))] hown (own_w hw 106 rfl) (own_w hw 107 rfl) (own_w hw 76 rfl) (own_w hw 108 rfl) (by decide) (rm_gc4_1 l Z a0 hw [] b _ d0 d1 d2 d3 h0 n0 Z0 S_A S_H S_L bd1 A_b) eT (W := 0) (by decide) (by decide) (cells' := 0) (slots' := 0) rfl rfl (by decide) (by decide) (by rw [hml]; rfl) (lenOf own_pd_285bBI29C rfl) rfl (S := []) rfl (Nat.le_of_eq rfl) (hb hby own24_12) (pc' := 15) rfl ?_
    intro v T h2 L lc X eT hq fN
    obtain ⟨rfl, Nq, hqe⟩ := hq
    have N := fN _ N Nq
    rw [hqe] at eT
    show own_W _ _ _ _ _ _ _ _ [(.int d1)]
    refine own_iloadN X hx (hb hby own24_15) (pc' := 16) rfl rfl ?_
    refine own_icmp X hx (hb hby own24_16) (by decide) (pcY := 22) (pcN := 19) rfl rfl (fun (hc16_2 : ¬ (d1 = p1)) => ?_) (fun (hc16_2 : d1 = p1) => ?_)
    · refine own_iinc X hx (1 : Int32) (hb hby own24_22) (pc' := 25) rfl rfl rfl (Ls' := #[.val (.ref b), .val (.int p1), .val (.int (0 : Int32)), .val (.int (4 : Int32)), .val (.int (2 : Int32))]) rfl ?_
      refine own_goto X hx (hb hby own24_25) (by decide) (pc' := 3) rfl ?_
      refine own_iload X hx (hb hby own24_3) (pc' := 5) rfl rfl ?_
      refine own_iloadN X hx (hb hby own24_5) (pc' := 6) rfl rfl ?_
      refine own_icmpN X hx (hb hby own24_6) (pc' := 9) rfl (show (2 : Int32) < (4 : Int32) from (by decide)) ?_
      refine own_aloadN X hx (hb hby own24_9) (pc' := 10) rfl rfl rfl ?_
      refine own_iload X hx (hb hby own24_10) (pc' := 12) rfl rfl ?_
      refine own_callS X hx hZ [(.ref b), (.int (2 : Int32))] hown (own_w hw 106 rfl) (own_w hw 107 rfl) (own_w hw 76 rfl) (own_w hw 108 rfl) (by decide) (rm_gc4_2 l Z a0 hw [] b _ d0 d1 d2 d3 h0 n0 Z0 S_A S_H S_L bd2 A_b) eT (W := 0) (by decide) (by decide) (cells' := 0) (slots' := 0) rfl rfl (by decide) (by decide) (by rw [hml]; rfl) (lenOf own_pd_285bBI29C rfl) rfl (S := []) rfl (Nat.le_of_eq rfl) (hb hby own24_12) (pc' := 15) rfl ?_
      intro v T h3 L lc X eT hq fN
      obtain ⟨rfl, Nq, hqe⟩ := hq
      have N := fN _ N Nq
      rw [hqe] at eT
      show own_W _ _ _ _ _ _ _ _ [(.int d2)]
      refine own_iloadN X hx (hb hby own24_15) (pc' := 16) rfl rfl ?_
      refine own_icmp X hx (hb hby own24_16) (by decide) (pcY := 22) (pcN := 19) rfl rfl (fun (hc16_3 : ¬ (d2 = p1)) => ?_) (fun (hc16_3 : d2 = p1) => ?_)
      · refine own_iinc X hx (1 : Int32) (hb hby own24_22) (pc' := 25) rfl rfl rfl (Ls' := #[.val (.ref b), .val (.int p1), .val (.int (0 : Int32)), .val (.int (4 : Int32)), .val (.int (3 : Int32))]) rfl ?_
        refine own_goto X hx (hb hby own24_25) (by decide) (pc' := 3) rfl ?_
        refine own_iload X hx (hb hby own24_3) (pc' := 5) rfl rfl ?_
        refine own_iloadN X hx (hb hby own24_5) (pc' := 6) rfl rfl ?_
        refine own_icmpN X hx (hb hby own24_6) (pc' := 9) rfl (show (3 : Int32) < (4 : Int32) from (by decide)) ?_
        refine own_aloadN X hx (hb hby own24_9) (pc' := 10) rfl rfl rfl ?_
        refine own_iload X hx (hb hby own24_10) (pc' := 12) rfl rfl ?_
        refine own_callS X hx hZ [(.ref b), (.int (3 : Int32))] hown (own_w hw 106 rfl) (own_w hw 107 rfl) (own_w hw 76 rfl) (own_w hw 108 rfl) (by decide) (rm_gc4_3 l Z a0 hw [] b _ d0 d1 d2 d3 h0 n0 Z0 S_A S_H S_L bd3 A_b) eT (W := 0) (by decide) (by decide) (cells' := 0) (slots' := 0) rfl rfl (by decide) (by decide) (by rw [hml]; rfl) (lenOf own_pd_285bBI29C rfl) rfl (S := []) rfl (Nat.le_of_eq rfl) (hb hby own24_12) (pc' := 15) rfl ?_
        intro v T h4 L lc X eT hq fN
        obtain ⟨rfl, Nq, hqe⟩ := hq
        have N := fN _ N Nq
        rw [hqe] at eT
        show own_W _ _ _ _ _ _ _ _ [(.int d3)]
        refine own_iloadN X hx (hb hby own24_15) (pc' := 16) rfl rfl ?_
        refine own_icmp X hx (hb hby own24_16) (by decide) (pcY := 22) (pcN := 19) rfl rfl (fun (hc16_4 : ¬ (d3 = p1)) => ?_) (fun (hc16_4 : d3 = p1) => ?_)
        · refine own_iinc X hx (1 : Int32) (hb hby own24_22) (pc' := 25) rfl rfl rfl (Ls' := #[.val (.ref b), .val (.int p1), .val (.int (0 : Int32)), .val (.int (4 : Int32)), .val (.int (4 : Int32))]) rfl ?_
          refine own_goto X hx (hb hby own24_25) (by decide) (pc' := 3) rfl ?_
          refine own_iload X hx (hb hby own24_3) (pc' := 5) rfl rfl ?_
          refine own_iloadN X hx (hb hby own24_5) (pc' := 6) rfl rfl ?_
          refine own_icmpY X hx (hb hby own24_6) (by decide) (pc' := 28) rfl (show ¬ ((4 : Int32) < (4 : Int32)) from (by decide)) ?_
          refine own_iconst X hx (-1 : Int32) (hb hby own24_28) (pc' := 29) rfl rfl ?_
          refine own_retI X hx hlk (t := .int) (w' := (.int (-1 : Int32))) hret (hb hby own24_29) rfl rfl (by simp) (by decide) (by decide) ?_
          rw [eT]
          exact ⟨_, rfl, N, rfl, ⟨fun _ => ⟨fun e => hc16 e, fun e => hc16_2 e, fun e => hc16_3 e, fun e => hc16_4 e, trivial⟩, fun _ => by decide⟩⟩
        · refine own_iload X hx (hb hby own24_19) (pc' := 21) rfl rfl ?_
          refine own_retI X hx hlk (t := .int) (w' := (.int (3 : Int32))) hret (hb hby own24_21) rfl rfl (by simp) (by decide) (by decide) ?_
          rw [eT]
          exact ⟨_, rfl, N, rfl, ⟨fun q => absurd q (by decide), fun q => absurd hc16_4 q.2.2.2.1⟩⟩
      · refine own_iload X hx (hb hby own24_19) (pc' := 21) rfl rfl ?_
        refine own_retI X hx hlk (t := .int) (w' := (.int (2 : Int32))) hret (hb hby own24_21) rfl rfl (by simp) (by decide) (by decide) ?_
        rw [eT]
        exact ⟨_, rfl, N, rfl, ⟨fun q => absurd q (by decide), fun q => absurd hc16_3 q.2.2.1⟩⟩
    · refine own_iload X hx (hb hby own24_19) (pc' := 21) rfl rfl ?_
      refine own_retI X hx hlk (t := .int) (w' := (.int (1 : Int32))) hret (hb hby own24_21) rfl rfl (by simp) (by decide) (by decide) ?_
      rw [eT]
      exact ⟨_, rfl, N, rfl, ⟨fun q => absurd q (by decide), fun q => absurd hc16_2 q.2.1⟩⟩
  · refine own_iload X hx (hb hby own24_19) (pc' := 21) rfl rfl ?_
    refine own_retI X hx hlk (t := .int) (w' := (.int (0 : Int32))) hret (hb hby own24_21) rfl rfl (by simp) (by decide) (by decide) ?_
    rw [eT]
    exact ⟨_, rfl, N, rfl, ⟨fun q => absurd q (by decide), fun q => absurd hc16 q.1⟩⟩
def Q_ln4 (Z : State) (b : Addr) (h0 : Heap) (n0 : Nat) (v : Option Value) (h : Heap) (L : List Loc) : Prop := v = some (.int (4 : Int32)) ∧ Fr n0 L ∧ h = h0
set_option maxRecDepth 65536 in
set_option maxHeartbeats 40000000 in
theorem rm_ln4 (l : Launch) (Z : State) (a0 : Array Value) (hw : ∀ d ∈ tables_1, d.before a0 Z = true) (ws : List Jvm.Cond) (b : Addr) (h0 : Heap) (n0 : Nat) (Z0 : n0 ≤ h0.size) (k : ClassId) (vs : List Value) (A_b : Arv Z h0 b k .byte (8 : Int32) vs (.int (0 : Int32))) : own_Met l Z ⟨"java/lang/StringUTF16", "length", "([B)I"⟩ jdk_52_method_6_code 1 (some .int) ws ⟨0, 0, 0, 0⟩ #[(.ref b)] h0 (Q_ln4 Z b h0 n0) := by
  refine own_met n0 own_pn_java_lang_StringUTF16 (fun m => ef1R m b) ?_
  intro p e s m below meth c T lc hret hx hZ hby hml hown hnm hlk X eT N
  refine own_aloadN X hx (hb hby own25_0) (pc' := 1) rfl rfl rfl ?_
  refine own_arrlen X hx hZ eT A_b (hb hby own25_1) (pc' := 2) rfl ?_
  refine own_iconst X hx (1 : Int32) (hb hby own25_2) (pc' := 3) rfl rfl ?_
  refine own_ishr X hx (hb hby own25_3) (pc' := 4) rfl ?_
  rw [show ((8 : Int32) >>> ((1 : Int32) &&& 31)) = (4 : Int32) from by decide]
  refine own_retI X hx hlk (t := .int) (w' := (.int (4 : Int32))) hret (hb hby own25_4) rfl rfl (by simp) (by decide) (by decide) ?_
  rw [eT]
  exact ⟨rfl, N, rfl⟩
def Q_pf4 (Z : State) (fm : Value) (h0 : Heap) (n0 : Nat) (v : Option Value) (h : Heap) (L : List Loc) : Prop := v = some (.int (0 : Int32)) ∧ Fr n0 L ∧ h = h0
set_option maxRecDepth 65536 in
set_option maxHeartbeats 40000000 in
theorem rm_pf4 (l : Launch) (Z : State) (a0 : Array Value) (hw : ∀ d ∈ tables_1, d.before a0 Z = true) (ws : List Jvm.Cond) (fm : Value) (h0 : Heap) (n0 : Nat) (Z0 : n0 ≤ h0.size) (hfm : fm.isRef = true) : own_Met l Z ⟨"jdk/internal/util/Preconditions", "checkFromToIndex", "(IIILjava/util/function/BiFunction;)I"⟩ jdk_41_method_12_code 4 (some .int) ws ⟨0, 0, 0, 0⟩ #[(.int (0 : Int32)), (.int (4 : Int32)), (.int (4 : Int32)), fm] h0 (Q_pf4 Z fm h0 n0) := by
  refine own_met n0 own_pn_jdk_internal_util_Preconditions (fun m => ef4IIIV m (0 : Int32) (4 : Int32) (4 : Int32) fm hfm) ?_
  intro p e s m below meth c T lc hret hx hZ hby hml hown hnm hlk X eT N
  refine own_iloadN X hx (hb hby own26_0) (pc' := 1) rfl rfl ?_
  refine own_ifN X hx (hb hby own26_1) (pc' := 4) rfl (show ¬ ((0 : Int32) < (0 : Int32)) from (by decide)) ?_
  refine own_iloadN X hx (hb hby own26_4) (pc' := 5) rfl rfl ?_
  refine own_iloadN X hx (hb hby own26_5) (pc' := 6) rfl rfl ?_
  refine own_icmpN X hx (hb hby own26_6) (pc' := 9) rfl (show ¬ ((4 : Int32) < (0 : Int32)) from (by decide)) ?_
  refine own_iloadN X hx (hb hby own26_9) (pc' := 10) rfl rfl ?_
  refine own_iloadN X hx (hb hby own26_10) (pc' := 11) rfl rfl ?_
  refine own_icmpY X hx (hb hby own26_11) (by decide) (pc' := 22) rfl (show ¬ ((4 : Int32) < (4 : Int32)) from (by decide)) ?_
  refine own_iloadN X hx (hb hby own26_22) (pc' := 23) rfl rfl ?_
  refine own_retI X hx hlk (t := .int) (w' := (.int (0 : Int32))) hret (hb hby own26_23) rfl rfl (by simp) (by decide) (by decide) ?_
  rw [eT]
  exact ⟨rfl, N, rfl⟩
def Q_sb4 (Z : State) (fm : Value) (h0 : Heap) (n0 : Nat) (v : Option Value) (h : Heap) (L : List Loc) : Prop := v = none ∧ Fr n0 L ∧ h = h0
set_option maxRecDepth 65536 in
set_option maxHeartbeats 40000000 in
theorem rm_sb4 (l : Launch) (Z : State) (a0 : Array Value) (hw : ∀ d ∈ tables_1, d.before a0 Z = true) (ws : List Jvm.Cond) (fm : Value) (h0 : Heap) (n0 : Nat) (Z0 : n0 ≤ h0.size) (S_F : Sta Z h0 "jdk/internal/util/Preconditions" "SIOOBE_FORMATTER" "Ljava/util/function/BiFunction;" fm) (hfm : fm.isRef = true) : own_Met l Z ⟨"java/lang/String", "checkBoundsBeginEnd", "(III)V"⟩ jdk_42_method_158_code 3 none ws ⟨1, 0, 0, 20⟩ #[(.int (0 : Int32)), (.int (4 : Int32)), (.int (4 : Int32))] h0 (Q_sb4 Z fm h0 n0) := by
  refine own_met n0 own_pn_java_lang_String (fun m => ef3III m (0 : Int32) (4 : Int32) (4 : Int32)) ?_
  intro p e s m below meth c T lc hret hx hZ hby hml hown hnm hlk X eT N
  refine own_iloadN X hx (hb hby own27_0) (pc' := 1) rfl rfl ?_
  refine own_iloadN X hx (hb hby own27_1) (pc' := 2) rfl rfl ?_
  refine own_iloadN X hx (hb hby own27_2) (pc' := 3) rfl rfl ?_
  refine own_getS X hx hZ hown (host := "") (Or.inl (own_w hw 127 rfl)) Via.refl eT S_F (hb hby own27_3) (pc' := 6) rfl ?_
  intro T X eT
  refine own_callS X hx hZ [(.int (0 : Int32)), (.int (4 : Int32)), (.int (4 : Int32)), fm] hown (own_w hw 129 rfl) (own_w hw 130 rfl) (own_w hw 128 rfl) (own_w hw 131 rfl) (by decide) (rm_pf4 l Z a0 hw [] fm h0 n0 Z0 hfm) eT (W := 0) (by decide) (by decide) (cells' := 0) (slots' := 0) rfl rfl (by decide) (by decide) (by rw [hml]; rfl) (lenOf own_pd_28IIILjava2futil2ffunction2fBiFunction3b29I rfl) rfl (S := []) rfl (Nat.le_of_eq rfl) (hb hby own27_6) (pc' := 9) rfl ?_
  intro v T h1 L lc X eT hq fN
  obtain ⟨rfl, Nq, hqe⟩ := hq
  have N := fN _ N Nq
  rw [hqe] at eT
  show own_W _ _ _ _ _ _ _ _ [(.int (0 : Int32))]
  refine own_pop X hx (hb hby own27_9) (pc' := 10) rfl rfl ?_
  refine own_ret0 X hx hlk hret (hb hby own27_10) (by decide) (by decide) ?_
  rw [eT]
  exact ⟨rfl, N, rfl⟩
def Q_ub4 (Z : State) (b : Addr) (fm : Value) (h0 : Heap) (n0 : Nat) (v : Option Value) (h : Heap) (L : List Loc) : Prop := v = none ∧ Fr n0 L ∧ h = h0
set_option maxRecDepth 65536 in
set_option maxHeartbeats 40000000 in
theorem rm_ub4 (l : Launch) (Z : State) (a0 : Array Value) (hw : ∀ d ∈ tables_1, d.before a0 Z = true) (ws : List Jvm.Cond) (b : Addr) (fm : Value) (h0 : Heap) (n0 : Nat) (Z0 : n0 ≤ h0.size) (S_F : Sta Z h0 "jdk/internal/util/Preconditions" "SIOOBE_FORMATTER" "Ljava/util/function/BiFunction;" fm) (hfm : fm.isRef = true) (k : ClassId) (vs : List Value) (A_b : Arv Z h0 b k .byte (8 : Int32) vs (.int (0 : Int32))) : own_Met l Z ⟨"java/lang/StringUTF16", "checkBoundsBeginEnd", "(II[B)V"⟩ jdk_52_method_93_code 3 none ws ⟨2, 0, 0, 39⟩ #[(.int (0 : Int32)), (.int (4 : Int32)), (.ref b)] h0 (Q_ub4 Z b fm h0 n0) := by
  refine own_met n0 own_pn_java_lang_StringUTF16 (fun m => ef3IIR m (0 : Int32) (4 : Int32) b) ?_
  intro p e s m below meth c T lc hret hx hZ hby hml hown hnm hlk X eT N
  refine own_iloadN X hx (hb hby own28_0) (pc' := 1) rfl rfl ?_
  refine own_iloadN X hx (hb hby own28_1) (pc' := 2) rfl rfl ?_
  refine own_aloadN X hx (hb hby own28_2) (pc' := 3) rfl rfl rfl ?_
  refine own_callS X hx hZ [(.ref b)] hown (own_w hw 121 rfl) (own_w hw 122 rfl) (own_w hw 76 rfl) (own_w hw 123 rfl) (by decide) (rm_ln4 l Z a0 hw [] b h0 n0 Z0 _ _ A_b) eT (W := 2) (by decide) (by decide) (cells' := 0) (slots' := 0) rfl rfl (by decide) (by decide) (by rw [hml]; rfl) (lenOf own_pd_285bB29I rfl) rfl (S := [(.int (4 : Int32)), (.int (0 : Int32))]) rfl (Nat.le_of_eq rfl) (hb hby own28_3) (pc' := 6) rfl ?_
  intro v T h1 L lc X eT hq fN
  obtain ⟨rfl, Nq, hqe⟩ := hq
  have N := fN _ N Nq
  rw [hqe] at eT
  show own_W _ _ _ _ _ _ _ _ [(.int (4 : Int32)), (.int (4 : Int32)), (.int (0 : Int32))]
  refine own_callS X hx hZ [(.int (0 : Int32)), (.int (4 : Int32)), (.int (4 : Int32))] hown (own_w hw 124 rfl) (own_w hw 125 rfl) (own_w hw 10 rfl) (own_w hw 126 rfl) (by decide) (rm_sb4 l Z a0 hw [] fm h0 n0 Z0 S_F hfm) eT (W := 0) (by decide) (by decide) (cells' := 0) (slots' := 0) rfl rfl (by decide) (by decide) (by rw [hml]; rfl) (lenOf own_pd_28III29V rfl) rfl (S := []) rfl (Nat.le_of_eq rfl) (hb hby own28_6) (pc' := 9) rfl ?_
  intro v T h2 L lc X eT hq fN
  obtain ⟨rfl, Nq, hqe⟩ := hq
  have N := fN _ N Nq
  rw [hqe] at eT
  show own_W _ _ _ _ _ _ _ _ []
  refine own_ret0 X hx hlk hret (hb hby own28_9) (by decide) (by decide) ?_
  rw [eT]
  exact ⟨rfl, N, rfl⟩
def Q_uc4 (Z : State) (b : Addr) (p1 : Int32) (fm : Value) (d0 d1 d2 d3 : Int32) (h0 : Heap) (n0 : Nat) (v : Option Value) (h : Heap) (L : List Loc) : Prop := ∃ z : Int32, v = some (.int z) ∧ Fr n0 L ∧ h = h0 ∧ (z < 0 ↔ (¬ (d0 = p1) ∧ ¬ (d1 = p1) ∧ ¬ (d2 = p1) ∧ ¬ (d3 = p1) ∧ True))
set_option maxRecDepth 65536 in
set_option maxHeartbeats 40000000 in
theorem rm_uc4 (l : Launch) (Z : State) (a0 : Array Value) (hw : ∀ d ∈ tables_1, d.before a0 Z = true) (ws : List Jvm.Cond) (b : Addr) (p1 : Int32) (fm : Value) (d0 d1 d2 d3 : Int32) (h0 : Heap) (n0 : Nat) (Z0 : n0 ≤ h0.size) (S_A : Sta Z h0 "java/lang/StringUTF16" "$assertionsDisabled" "Z" (.int (1 : Int32))) (S_H : Sta Z h0 "java/lang/StringUTF16" "HI_BYTE_SHIFT" "I" (.int (0 : Int32))) (S_L : Sta Z h0 "java/lang/StringUTF16" "LO_BYTE_SHIFT" "I" (.int (8 : Int32))) (S_F : Sta Z h0 "jdk/internal/util/Preconditions" "SIOOBE_FORMATTER" "Ljava/util/function/BiFunction;" fm) (hfm : fm.isRef = true) (hp : own_p1 p1) (k : ClassId) (A_b : Arv Z h0 b k .byte (8 : Int32) [(.int (own_lb d0)), (.int (own_hb d0)), (.int (own_lb d1)), (.int (own_hb d1)), (.int (own_lb d2)), (.int (own_hb d2)), (.int (own_lb d3)), (.int (own_hb d3))] (.int (0 : Int32))) (bd0 : own_c16 d0) (bd1 : own_c16 d1) (bd2 : own_c16 d2) (bd3 : own_c16 d3) : own_Met l Z ⟨"java/lang/StringUTF16", "indexOfChar", "([BIII)I"⟩ jdk_52_method_47_code 4 (some .int) ws ⟨3, 0, 0, 58⟩ #[(.ref b), (.int p1), (.int (0 : Int32)), (.int (4 : Int32))] h0 (Q_uc4 Z b p1 fm d0 d1 d2 d3 h0 n0) := by
  refine own_met n0 own_pn_java_lang_StringUTF16 (fun m => ef4RIII m b p1 (0 : Int32) (4 : Int32)) ?_
  intro p e s m below meth c T lc hret hx hZ hby hml hown hnm hlk X eT N
  refine own_iloadN X hx (hb hby own29_0) (pc' := 1) rfl rfl ?_
  refine own_iloadN X hx (hb hby own29_1) (pc' := 2) rfl rfl ?_
  refine own_aloadN X hx (hb hby own29_2) (pc' := 3) rfl rfl rfl ?_
  refine own_callS X hx hZ [(.int (0 : Int32)), (.int (4 : Int32)), (.ref b)] hown (own_w hw 118 rfl) (own_w hw 119 rfl) (own_w hw 76 rfl) (own_w hw 120 rfl) (by decide) (rm_ub4 l Z a0 hw [] b fm h0 n0 Z0 S_F hfm _ _ A_b) eT (W := 0) (by decide) (by decide) (cells' := 0) (slots' := 0) rfl rfl (by decide) (by decide) (by rw [hml]; rfl) (lenOf own_pd_28II5bB29V rfl) rfl (S := []) rfl (Nat.le_of_eq rfl) (hb hby own29_3) (pc' := 6) rfl ?_
  intro v T h1 L lc X eT hq fN
  obtain ⟨rfl, Nq, hqe⟩ := hq
  have N := fN _ N Nq
  rw [hqe] at eT
  show own_W _ _ _ _ _ _ _ _ []
  refine own_aloadN X hx (hb hby own29_6) (pc' := 7) rfl rfl rfl ?_
  refine own_iloadN X hx (hb hby own29_7) (pc' := 8) rfl rfl ?_
  refine own_iloadN X hx (hb hby own29_8) (pc' := 9) rfl rfl ?_
  refine own_iloadN X hx (hb hby own29_9) (pc' := 10) rfl rfl ?_
  refine own_callS X hx hZ [(.ref b), (.int p1), (.int (0 : Int32)), (.int (4 : Int32))] hown (own_w hw 132 rfl) (own_w hw 133 rfl) (own_w hw 76 rfl) (own_w hw 134 rfl) (by decide) (rm_uu4 l Z a0 hw [] b p1 fm d0 d1 d2 d3 h0 n0 Z0 S_A S_H S_L S_F hfm hp _ A_b bd0 bd1 bd2 bd3) eT (W := 0) (by decide) (by decide) (cells' := 0) (slots' := 0) rfl rfl (by decide) (by decide) (by rw [hml]; rfl) (lenOf own_pd_285bBIII29I rfl) rfl (S := []) rfl (Nat.le_of_eq rfl) (hb hby own29_10) (pc' := 13) rfl ?_
  intro v T h2 L lc X eT hq fN
  obtain ⟨zz, rfl, Nq, hqe, hz⟩ := hq
  have N := fN _ N Nq
  rw [hqe] at eT
  show own_W _ _ _ _ _ _ _ _ [(.int zz)]
  refine own_retI X hx hlk (t := .int) (w' := (.int zz)) hret (hb hby own29_13) rfl rfl (by simp) (by decide) (by decide) ?_
  rw [eT]
  exact ⟨_, rfl, N, rfl, hz⟩
def Q_ux4 (Z : State) (b : Addr) (p1 : Int32) (fm : Value) (d0 d1 d2 d3 : Int32) (h0 : Heap) (n0 : Nat) (v : Option Value) (h : Heap) (L : List Loc) : Prop := ∃ z : Int32, v = some (.int z) ∧ Fr n0 L ∧ h = h0 ∧ (z < 0 ↔ (¬ (d0 = p1) ∧ ¬ (d1 = p1) ∧ ¬ (d2 = p1) ∧ ¬ (d3 = p1) ∧ True))
set_option maxRecDepth 65536 in
set_option maxHeartbeats 40000000 in
theorem rm_ux4 (l : Launch) (Z : State) (a0 : Array Value) (hw : ∀ d ∈ tables_1, d.before a0 Z = true) (ws : List Jvm.Cond) (b : Addr) (p1 : Int32) (fm : Value) (d0 d1 d2 d3 : Int32) (h0 : Heap) (n0 : Nat) (Z0 : n0 ≤ h0.size) (S_A : Sta Z h0 "java/lang/StringUTF16" "$assertionsDisabled" "Z" (.int (1 : Int32))) (S_H : Sta Z h0 "java/lang/StringUTF16" "HI_BYTE_SHIFT" "I" (.int (0 : Int32))) (S_L : Sta Z h0 "java/lang/StringUTF16" "LO_BYTE_SHIFT" "I" (.int (8 : Int32))) (S_F : Sta Z h0 "jdk/internal/util/Preconditions" "SIOOBE_FORMATTER" "Ljava/util/function/BiFunction;" fm) (hfm : fm.isRef = true) (hp : own_p1 p1) (k : ClassId) (A_b : Arv Z h0 b k .byte (8 : Int32) [(.int (own_lb d0)), (.int (own_hb d0)), (.int (own_lb d1)), (.int (own_hb d1)), (.int (own_lb d2)), (.int (own_hb d2)), (.int (own_lb d3)), (.int (own_hb d3))] (.int (0 : Int32))) (bd0 : own_c16 d0) (bd1 : own_c16 d1) (bd2 : own_c16 d2) (bd3 : own_c16 d3) : own_Met l Z ⟨"java/lang/StringUTF16", "indexOf", "([BIII)I"⟩ jdk_52_method_40_code 4 (some .int) ws ⟨4, 0, 0, 78⟩ #[(.ref b), (.int p1), (.int (0 : Int32)), (.int (4 : Int32))] h0 (Q_ux4 Z b p1 fm d0 d1 d2 d3 h0 n0) := by
  refine own_met n0 own_pn_java_lang_StringUTF16 (fun m => ef4RIII m b p1 (0 : Int32) (4 : Int32)) ?_
  intro p e s m below meth c T lc hret hx hZ hby hml hown hnm hlk X eT N
  refine own_iloadN X hx (hb hby own30_0) (pc' := 1) rfl rfl ?_
  refine own_iconst X hx (0 : Int32) (hb hby own30_1) (pc' := 2) rfl rfl ?_
  refine own_callS X hx hZ [(.int (0 : Int32)), (.int (0 : Int32))] hown (own_w hw 112 rfl) (own_w hw 68 rfl) (own_w hw 69 rfl) (own_w hw 70 rfl) (by decide) (rm_max l Z a0 hw [] (0 : Int32) (0 : Int32) h0 n0 Z0 (by decide)) eT (W := 0) (by decide) (by decide) (cells' := 0) (slots' := 0) rfl rfl (by decide) (by decide) (by rw [hml]; rfl) (lenOf own_pd_28II29I rfl) rfl (S := []) rfl (Nat.le_of_eq rfl) (hb hby own30_2) (pc' := 5) rfl ?_
  intro v T h1 L lc X eT hq fN
  obtain ⟨rfl, Nq, hqe⟩ := hq
  have N := fN _ N Nq
  rw [hqe] at eT
  show own_W _ _ _ _ _ _ _ _ [(.int (0 : Int32))]
  refine own_istoreN X hx (hb hby own30_5) (pc' := 6) rfl (Ls' := #[.val (.ref b), .val (.int p1), .val (.int (0 : Int32)), .val (.int (4 : Int32))]) rfl ?_
  refine own_iloadN X hx (hb hby own30_6) (pc' := 7) rfl rfl ?_
  refine own_aloadN X hx (hb hby own30_7) (pc' := 8) rfl rfl rfl ?_
  refine own_arrlen X hx hZ eT A_b (hb hby own30_8) (pc' := 9) rfl ?_
  refine own_iconst X hx (1 : Int32) (hb hby own30_9) (pc' := 10) rfl rfl ?_
  refine own_ishr X hx (hb hby own30_10) (pc' := 11) rfl ?_
  rw [show ((8 : Int32) >>> ((1 : Int32) &&& 31)) = (4 : Int32) from by decide]
  refine own_callS X hx hZ [(.int (4 : Int32)), (.int (4 : Int32))] hown (own_w hw 113 rfl) (own_w hw 72 rfl) (own_w hw 69 rfl) (own_w hw 73 rfl) (by decide) (rm_min l Z a0 hw [] (4 : Int32) (4 : Int32) h0 n0 Z0 (by decide)) eT (W := 0) (by decide) (by decide) (cells' := 0) (slots' := 0) rfl rfl (by decide) (by decide) (by rw [hml]; rfl) (lenOf own_pd_28II29I rfl) rfl (S := []) rfl (Nat.le_of_eq rfl) (hb hby own30_11) (pc' := 14) rfl ?_
  intro v T h2 L lc X eT hq fN
  obtain ⟨rfl, Nq, hqe⟩ := hq
  have N := fN _ N Nq
  rw [hqe] at eT
  show own_W _ _ _ _ _ _ _ _ [(.int (4 : Int32))]
  refine own_istoreN X hx (hb hby own30_14) (pc' := 15) rfl (Ls' := #[.val (.ref b), .val (.int p1), .val (.int (0 : Int32)), .val (.int (4 : Int32))]) rfl ?_
  refine own_iloadN X hx (hb hby own30_15) (pc' := 16) rfl rfl ?_
  refine own_iloadN X hx (hb hby own30_16) (pc' := 17) rfl rfl ?_
  refine own_icmpY X hx (hb hby own30_17) (by decide) (pc' := 22) rfl (show (0 : Int32) < (4 : Int32) from (by decide)) ?_
  refine own_iloadN X hx (hb hby own30_22) (pc' := 23) rfl rfl ?_
  refine own_ldc X hx hZ hown (own_w hw 114 rfl) (hb hby own30_23) (pc' := 25) rfl ?_
  refine own_icmpN X hx (hb hby own30_25) (pc' := 28) rfl (show p1 < (65536 : Int32) from (own_q65 hp)) ?_
  refine own_aloadN X hx (hb hby own30_28) (pc' := 29) rfl rfl rfl ?_
  refine own_iloadN X hx (hb hby own30_29) (pc' := 30) rfl rfl ?_
  refine own_iloadN X hx (hb hby own30_30) (pc' := 31) rfl rfl ?_
  refine own_iloadN X hx (hb hby own30_31) (pc' := 32) rfl rfl ?_
  refine own_callS X hx hZ [(.ref b), (.int p1), (.int (0 : Int32)), (.int (4 : Int32))] hown (own_w hw 115 rfl) (own_w hw 116 rfl) (own_w hw 76 rfl) (own_w hw 117 rfl) (by decide) (rm_uc4 l Z a0 hw [] b p1 fm d0 d1 d2 d3 h0 n0 Z0 S_A S_H S_L S_F hfm hp _ A_b bd0 bd1 bd2 bd3) eT (W := 0) (by decide) (by decide) (cells' := 0) (slots' := 0) rfl rfl (by decide) (by decide) (by rw [hml]; rfl) (lenOf own_pd_285bBIII29I rfl) rfl (S := []) rfl (Nat.le_of_eq rfl) (hb hby own30_32) (pc' := 35) rfl ?_
  intro v T h3 L lc X eT hq fN
  obtain ⟨zz, rfl, Nq, hqe, hz⟩ := hq
  have N := fN _ N Nq
  rw [hqe] at eT
  show own_W _ _ _ _ _ _ _ _ [(.int zz)]
  refine own_retI X hx hlk (t := .int) (w' := (.int zz)) hret (hb hby own30_35) rfl rfl (by simp) (by decide) (by decide) ?_
  rw [eT]
  exact ⟨_, rfl, N, rfl, hz⟩
def Q_lenU4 (Z : State) (a1 b : Addr) (cs : Int32) (h0 : Heap) (n0 : Nat) (v : Option Value) (h : Heap) (L : List Loc) : Prop := v = some (.int (4 : Int32)) ∧ Fr n0 L ∧ h = h0
set_option maxRecDepth 65536 in
set_option maxHeartbeats 40000000 in
theorem rm_lenU4 (l : Launch) (Z : State) (a0 : Array Value) (hw : ∀ d ∈ tables_1, d.before a0 Z = true) (ws : List Jvm.Cond) (a1 b : Addr) (cs : Int32) (h0 : Heap) (n0 : Nat) (Z0 : n0 ≤ h0.size) (S_C : Sta Z h0 "java/lang/String" "COMPACT_STRINGS" "Z" (.int cs)) (hcs : ¬ cs = 0) (E_a1 : Exa Z h0 a1 "java/lang/String") (F_c : Fld Z h0 a1 "java/lang/String" "coder" "B" (.int (1 : Int32))) (F_v : Fld Z h0 a1 "java/lang/String" "value" "[B" (.ref b)) (k : ClassId) (vs : List Value) (A_b : Arv Z h0 b k .byte (8 : Int32) vs (.int (0 : Int32))) : own_Met l Z ⟨"java/lang/String", "length", "()I"⟩ jdk_42_method_54_code 1 (some .int) ws ⟨1, 0, 0, 13⟩ #[(.ref a1)] h0 (Q_lenU4 Z a1 b cs h0 n0) := by
  refine own_met n0 own_pn_java_lang_String (fun m => ef1R m a1) ?_
  intro p e s m below meth c T lc hret hx hZ hby hml hown hnm hlk X eT N
  refine own_aloadN X hx (hb hby own18_0) (pc' := 1) rfl rfl rfl ?_
  refine own_getF X hx hZ hown (host := "") (Or.inl (own_w hw 28 rfl)) Via.refl eT F_v (hb hby own18_1) (pc' := 4) rfl ?_
  intro T X eT
  refine own_arrlen X hx hZ eT A_b (hb hby own18_4) (pc' := 5) rfl ?_
  refine own_aloadN X hx (hb hby own18_5) (pc' := 6) rfl rfl rfl ?_
  refine own_callV X hx hZ (y := (⟨"java/lang/String", "coder", "()B"⟩ : MethodName)) a1 [] hown (own_w hw 55 rfl) (own_w hw 56 rfl) (own_w hw 58 rfl) (own_w hw 57 rfl) (own_w hw 10 rfl) (own_w hw 59 rfl) (by decide) (rm_coderU l Z a0 hw [] a1 cs h0 n0 Z0 S_C hcs F_c) E_a1 eT (W := 1) (by decide) (by decide) (cells' := 0) (slots' := 0) rfl rfl (by decide) (by decide) (by rw [hml]; rfl) (lenOf own_pd_2829B rfl) rfl (S := [(.int (8 : Int32))]) rfl (Nat.le_of_eq rfl) (hb hby own18_6) (pc' := 9) rfl ?_
  intro v T h1 L lc X eT hq fN
  obtain ⟨rfl, Nq, hqe⟩ := hq
  have N := fN _ N Nq
  rw [hqe] at eT
  show own_W _ _ _ _ _ _ _ _ [(.int (1 : Int32)), (.int (8 : Int32))]
  refine own_ishr X hx (hb hby own18_9) (pc' := 10) rfl ?_
  rw [show ((8 : Int32) >>> ((1 : Int32) &&& 31)) = (4 : Int32) from by decide]
  refine own_retI X hx hlk (t := .int) (w' := (.int (4 : Int32))) hret (hb hby own18_10) rfl rfl (by simp) (by decide) (by decide) ?_
  rw [eT]
  exact ⟨rfl, N, rfl⟩
def Q_siL4 (Z : State) (a1 b : Addr) (p1 cs : Int32) (d0 d1 d2 d3 : Int32) (h0 : Heap) (n0 : Nat) (v : Option Value) (h : Heap) (L : List Loc) : Prop := ∃ z : Int32, v = some (.int z) ∧ Fr n0 L ∧ h = h0 ∧ (z < 0 ↔ (¬ (d0 = p1) ∧ ¬ (d1 = p1) ∧ ¬ (d2 = p1) ∧ ¬ (d3 = p1) ∧ True))
set_option maxRecDepth 65536 in
set_option maxHeartbeats 40000000 in
theorem rm_siL4 (l : Launch) (Z : State) (a0 : Array Value) (hw : ∀ d ∈ tables_1, d.before a0 Z = true) (ws : List Jvm.Cond) (a1 b : Addr) (p1 cs : Int32) (d0 d1 d2 d3 : Int32) (h0 : Heap) (n0 : Nat) (Z0 : n0 ≤ h0.size) (S_C : Sta Z h0 "java/lang/String" "COMPACT_STRINGS" "Z" (.int cs)) (hcs : ¬ cs = 0) (E_a1 : Exa Z h0 a1 "java/lang/String") (F_c : Fld Z h0 a1 "java/lang/String" "coder" "B" (.int (0 : Int32))) (F_v : Fld Z h0 a1 "java/lang/String" "value" "[B" (.ref b)) (hp : own_p1 p1) (k : ClassId) (A_b : Arv Z h0 b k .byte (4 : Int32) [(.int (nar .byte d0.toInt8.toInt32)), (.int (nar .byte d1.toInt8.toInt32)), (.int (nar .byte d2.toInt8.toInt32)), (.int (nar .byte d3.toInt8.toInt32))] (.int (0 : Int32))) (bd0 : own_c16 d0) (bd1 : own_c16 d1) (bd2 : own_c16 d2) (bd3 : own_c16 d3) (hall : (¬ ((255 : Int32) < d0) ∧ ¬ ((255 : Int32) < d1) ∧ ¬ ((255 : Int32) < d2) ∧ ¬ ((255 : Int32) < d3))) : own_Met l Z ⟨"java/lang/String", "indexOf", "(II)I"⟩ jdk_42_method_80_code 3 (some .int) ws ⟨2, 0, 0, 42⟩ #[(.ref a1), (.int p1), (.int (0 : Int32))] h0 (Q_siL4 Z a1 b p1 cs d0 d1 d2 d3 h0 n0) := by
  refine own_met n0 own_pn_java_lang_String (fun m => ef3RII m a1 p1 (0 : Int32)) ?_
  intro p e s m below meth c T lc hret hx hZ hby hml hown hnm hlk X eT N
  refine own_aloadN X hx (hb hby own20_0) (pc' := 1) rfl rfl rfl ?_
  refine own_callV X hx hZ (y := (⟨"java/lang/String", "isLatin1", "()Z"⟩ : MethodName)) a1 [] hown (own_w hw 44 rfl) (own_w hw 45 rfl) (own_w hw 47 rfl) (own_w hw 46 rfl) (own_w hw 10 rfl) (own_w hw 48 rfl) (by decide) (rm_isLat l Z a0 hw [] a1 cs h0 n0 Z0 S_C hcs F_c) E_a1 eT (W := 0) (by decide) (by decide) (cells' := 0) (slots' := 0) rfl rfl (by decide) (by decide) (by rw [hml]; rfl) (lenOf own_pd_2829Z rfl) rfl (S := []) rfl (Nat.le_of_eq rfl) (hb hby own20_1) (pc' := 4) rfl ?_
  intro v T h1 L lc X eT hq fN
  obtain ⟨rfl, Nq, hqe⟩ := hq
  have N := fN _ N Nq
  rw [hqe] at eT
  show own_W _ _ _ _ _ _ _ _ [(.int (1 : Int32))]
  refine own_ifN X hx (hb hby own20_4) (pc' := 7) rfl (show ¬ ((1 : Int32) = (0 : Int32)) from (by decide)) ?_
  refine own_aloadN X hx (hb hby own20_7) (pc' := 8) rfl rfl rfl ?_
  refine own_getF X hx hZ hown (host := "") (Or.inl (own_w hw 28 rfl)) Via.refl eT F_v (hb hby own20_8) (pc' := 11) rfl ?_
  intro T X eT
  refine own_iloadN X hx (hb hby own20_11) (pc' := 12) rfl rfl ?_
  refine own_iloadN X hx (hb hby own20_12) (pc' := 13) rfl rfl ?_
  refine own_aloadN X hx (hb hby own20_13) (pc' := 14) rfl rfl rfl ?_
  refine own_callV X hx hZ (y := (⟨"java/lang/String", "length", "()I"⟩ : MethodName)) a1 [] hown (own_w hw 50 rfl) (own_w hw 51 rfl) (own_w hw 53 rfl) (own_w hw 52 rfl) (own_w hw 10 rfl) (own_w hw 54 rfl) (by decide) (rm_len l Z a0 hw [] a1 b cs (4 : Int32) h0 n0 Z0 S_C hcs E_a1 F_c F_v _ _ A_b) E_a1 eT (W := 3) (by decide) (by decide) (cells' := 0) (slots' := 0) rfl rfl (by decide) (by decide) (by rw [hml]; rfl) (lenOf own_pd_2829I rfl) rfl (S := [(.int (0 : Int32)), (.int p1), (.ref b)]) rfl (Nat.le_of_eq rfl) (hb hby own20_14) (pc' := 17) rfl ?_
  intro v T h2 L lc X eT hq fN
  obtain ⟨rfl, Nq, hqe⟩ := hq
  have N := fN _ N Nq
  rw [hqe] at eT
  show own_W _ _ _ _ _ _ _ _ [(.int (4 : Int32)), (.int (0 : Int32)), (.int p1), (.ref b)]
  refine own_callS X hx hZ [(.ref b), (.int p1), (.int (0 : Int32)), (.int (4 : Int32))] hown (own_w hw 60 rfl) (own_w hw 61 rfl) (own_w hw 62 rfl) (own_w hw 63 rfl) (by decide) (rm_lx4 l Z a0 hw [] b p1 d0 d1 d2 d3 h0 n0 Z0 hp _ A_b bd0 bd1 bd2 bd3 hall) eT (W := 0) (by decide) (by decide) (cells' := 0) (slots' := 0) rfl rfl (by decide) (by decide) (by rw [hml]; rfl) (lenOf own_pd_285bBIII29I rfl) rfl (S := []) rfl (Nat.le_of_eq rfl) (hb hby own20_17) (pc' := 20) rfl ?_
  intro v T h3 L lc X eT hq fN
  obtain ⟨zz, rfl, Nq, hqe, hz⟩ := hq
  have N := fN _ N Nq
  rw [hqe] at eT
  show own_W _ _ _ _ _ _ _ _ [(.int zz)]
  refine own_goto X hx (hb hby own20_20) (by decide) (pc' := 36) rfl ?_
  refine own_retI X hx hlk (t := .int) (w' := (.int zz)) hret (hb hby own20_36) rfl rfl (by simp) (by decide) (by decide) ?_
  rw [eT]
  exact ⟨_, rfl, N, rfl, hz⟩
def Q_sjL4 (Z : State) (a1 b : Addr) (p1 cs : Int32) (d0 d1 d2 d3 : Int32) (h0 : Heap) (n0 : Nat) (v : Option Value) (h : Heap) (L : List Loc) : Prop := ∃ z : Int32, v = some (.int z) ∧ Fr n0 L ∧ h = h0 ∧ (z < 0 ↔ (¬ (d0 = p1) ∧ ¬ (d1 = p1) ∧ ¬ (d2 = p1) ∧ ¬ (d3 = p1) ∧ True))
set_option maxRecDepth 65536 in
set_option maxHeartbeats 40000000 in
theorem rm_sjL4 (l : Launch) (Z : State) (a0 : Array Value) (hw : ∀ d ∈ tables_1, d.before a0 Z = true) (ws : List Jvm.Cond) (a1 b : Addr) (p1 cs : Int32) (d0 d1 d2 d3 : Int32) (h0 : Heap) (n0 : Nat) (Z0 : n0 ≤ h0.size) (S_C : Sta Z h0 "java/lang/String" "COMPACT_STRINGS" "Z" (.int cs)) (hcs : ¬ cs = 0) (E_a1 : Exa Z h0 a1 "java/lang/String") (F_c : Fld Z h0 a1 "java/lang/String" "coder" "B" (.int (0 : Int32))) (F_v : Fld Z h0 a1 "java/lang/String" "value" "[B" (.ref b)) (hp : own_p1 p1) (k : ClassId) (A_b : Arv Z h0 b k .byte (4 : Int32) [(.int (nar .byte d0.toInt8.toInt32)), (.int (nar .byte d1.toInt8.toInt32)), (.int (nar .byte d2.toInt8.toInt32)), (.int (nar .byte d3.toInt8.toInt32))] (.int (0 : Int32))) (bd0 : own_c16 d0) (bd1 : own_c16 d1) (bd2 : own_c16 d2) (bd3 : own_c16 d3) (hall : (¬ ((255 : Int32) < d0) ∧ ¬ ((255 : Int32) < d1) ∧ ¬ ((255 : Int32) < d2) ∧ ¬ ((255 : Int32) < d3))) : own_Met l Z ⟨"java/lang/String", "indexOf", "(I)I"⟩ jdk_42_method_79_code 2 (some .int) ws ⟨3, 0, 0, 61⟩ #[(.ref a1), (.int p1)] h0 (Q_sjL4 Z a1 b p1 cs d0 d1 d2 d3 h0 n0) := by
  refine own_met n0 own_pn_java_lang_String (fun m => ef2RI m a1 p1) ?_
  intro p e s m below meth c T lc hret hx hZ hby hml hown hnm hlk X eT N
  refine own_aloadN X hx (hb hby own21_0) (pc' := 1) rfl rfl rfl ?_
  refine own_iloadN X hx (hb hby own21_1) (pc' := 2) rfl rfl ?_
  refine own_iconst X hx (0 : Int32) (hb hby own21_2) (pc' := 3) rfl rfl ?_
  refine own_callV X hx hZ (y := (⟨"java/lang/String", "indexOf", "(II)I"⟩ : MethodName)) a1 [(.int p1), (.int (0 : Int32))] hown (own_w hw 39 rfl) (own_w hw 40 rfl) (own_w hw 42 rfl) (own_w hw 41 rfl) (own_w hw 10 rfl) (own_w hw 43 rfl) (by decide) (rm_siL4 l Z a0 hw [] a1 b p1 cs d0 d1 d2 d3 h0 n0 Z0 S_C hcs E_a1 F_c F_v hp _ A_b bd0 bd1 bd2 bd3 hall) E_a1 eT (W := 0) (by decide) (by decide) (cells' := 0) (slots' := 0) rfl rfl (by decide) (by decide) (by rw [hml]; rfl) (lenOf own_pd_28II29I rfl) rfl (S := []) rfl (Nat.le_of_eq rfl) (hb hby own21_3) (pc' := 6) rfl ?_
  intro v T h1 L lc X eT hq fN
  obtain ⟨zz, rfl, Nq, hqe, hz⟩ := hq
  have N := fN _ N Nq
  rw [hqe] at eT
  show own_W _ _ _ _ _ _ _ _ [(.int zz)]
  refine own_retI X hx hlk (t := .int) (w' := (.int zz)) hret (hb hby own21_6) rfl rfl (by simp) (by decide) (by decide) ?_
  rw [eT]
  exact ⟨_, rfl, N, rfl, hz⟩
def Q_chL4 (Z : State) (a1 b : Addr) (cs : Int32) (d0 d1 d2 d3 : Int32) (h0 : Heap) (n0 : Nat) (v : Option Value) (h : Heap) (L : List Loc) : Prop := ∃ z : Int32, v = some (.int z) ∧ Fr n0 L ∧ h = h0 ∧ ((z = 1 ∧ (¬ (d0 = (9 : Int32)) ∧ ¬ (d1 = (9 : Int32)) ∧ ¬ (d2 = (9 : Int32)) ∧ ¬ (d3 = (9 : Int32)) ∧ True) ∧ (¬ (d0 = (10 : Int32)) ∧ ¬ (d1 = (10 : Int32)) ∧ ¬ (d2 = (10 : Int32)) ∧ ¬ (d3 = (10 : Int32)) ∧ True)) ∨ (z = 0 ∧ ¬ ((¬ (d0 = (9 : Int32)) ∧ ¬ (d1 = (9 : Int32)) ∧ ¬ (d2 = (9 : Int32)) ∧ ¬ (d3 = (9 : Int32)) ∧ True) ∧ (¬ (d0 = (10 : Int32)) ∧ ¬ (d1 = (10 : Int32)) ∧ ¬ (d2 = (10 : Int32)) ∧ ¬ (d3 = (10 : Int32)) ∧ True))))
set_option maxRecDepth 65536 in
set_option maxHeartbeats 40000000 in
theorem rm_chL4 (l : Launch) (Z : State) (a0 : Array Value) (hw : ∀ d ∈ tables_1, d.before a0 Z = true) (ws : List Jvm.Cond) (a1 b : Addr) (cs : Int32) (d0 d1 d2 d3 : Int32) (h0 : Heap) (n0 : Nat) (Z0 : n0 ≤ h0.size) (S_C : Sta Z h0 "java/lang/String" "COMPACT_STRINGS" "Z" (.int cs)) (hcs : ¬ cs = 0) (E_a1 : Exa Z h0 a1 "java/lang/String") (F_c : Fld Z h0 a1 "java/lang/String" "coder" "B" (.int (0 : Int32))) (F_v : Fld Z h0 a1 "java/lang/String" "value" "[B" (.ref b)) (k : ClassId) (A_b : Arv Z h0 b k .byte (4 : Int32) [(.int (nar .byte d0.toInt8.toInt32)), (.int (nar .byte d1.toInt8.toInt32)), (.int (nar .byte d2.toInt8.toInt32)), (.int (nar .byte d3.toInt8.toInt32))] (.int (0 : Int32))) (bd0 : own_c16 d0) (bd1 : own_c16 d1) (bd2 : own_c16 d2) (bd3 : own_c16 d3) (hall : (¬ ((255 : Int32) < d0) ∧ ¬ ((255 : Int32) < d1) ∧ ¬ ((255 : Int32) < d2) ∧ ¬ ((255 : Int32) < d3))) : own_Met l Z ⟨"com/example/bleeper/bleeper/cli/Fields", "canHold", "(Ljava/lang/String;)Z"⟩ prog_47_method_2_code 1 (some .boolean) ws ⟨4, 0, 0, 79⟩ #[(.ref a1)] h0 (Q_chL4 Z a1 b cs d0 d1 d2 d3 h0 n0) := by
  refine own_met n0 own_pn_com_example_bleeper_bleeper_cli_Fields (fun m => ef1R m a1) ?_
  intro p e s m below meth c T lc hret hx hZ hby hml hown hnm hlk X eT N
  refine own_aloadN X hx (hb hby own22_0) (pc' := 1) rfl rfl rfl ?_
  refine own_bipush X hx (9 : Int32) (hb hby own22_1) (pc' := 3) rfl rfl ?_
  refine own_callV X hx hZ (y := (⟨"java/lang/String", "indexOf", "(I)I"⟩ : MethodName)) a1 [(.int (9 : Int32))] hown (own_w hw 34 rfl) (own_w hw 35 rfl) (own_w hw 37 rfl) (own_w hw 36 rfl) (own_w hw 10 rfl) (own_w hw 38 rfl) (by decide) (rm_sjL4 l Z a0 hw [] a1 b (9 : Int32) cs d0 d1 d2 d3 h0 n0 Z0 S_C hcs E_a1 F_c F_v (show own_p1 _ from ⟨by decide, by decide⟩) _ A_b bd0 bd1 bd2 bd3 hall) E_a1 eT (W := 0) (by decide) (by decide) (cells' := 0) (slots' := 0) rfl rfl (by decide) (by decide) (by rw [hml]; rfl) (lenOf own_pd_28I29I rfl) rfl (S := []) rfl (Nat.le_of_eq rfl) (hb hby own22_3) (pc' := 6) rfl ?_
  intro v T h1 L lc X eT hq fN
  obtain ⟨z1, rfl, Nq, hqe, B1⟩ := hq
  have N := fN _ N Nq
  rw [hqe] at eT
  show own_W _ _ _ _ _ _ _ _ [(.int z1)]
  refine own_if X hx (hb hby own22_6) (by decide) (pcY := 22) (pcN := 9) rfl rfl (fun (hc6 : ¬ (z1 < (0 : Int32))) => ?_) (fun (hc6 : z1 < (0 : Int32)) => ?_)
  · refine own_iconst X hx (0 : Int32) (hb hby own22_22) (pc' := 23) rfl rfl ?_
    refine own_retI X hx hlk (t := .boolean) (w' := (.int (0 : Int32))) hret (hb hby own22_23) rfl rfl (by simp) (by decide) (by decide) ?_
    rw [eT]
    exact ⟨_, rfl, N, rfl, Or.inr ⟨rfl, fun q => hc6 (B1.mpr q.1)⟩⟩
  · refine own_aloadN X hx (hb hby own22_9) (pc' := 10) rfl rfl rfl ?_
    refine own_bipush X hx (10 : Int32) (hb hby own22_10) (pc' := 12) rfl rfl ?_
    refine own_callV X hx hZ (y := (⟨"java/lang/String", "indexOf", "(I)I"⟩ : MethodName)) a1 [(.int (10 : Int32))] hown (own_w hw 34 rfl) (own_w hw 35 rfl) (own_w hw 37 rfl) (own_w hw 36 rfl) (own_w hw 10 rfl) (own_w hw 38 rfl) (by decide) (rm_sjL4 l Z a0 hw [] a1 b (10 : Int32) cs d0 d1 d2 d3 h0 n0 Z0 S_C hcs E_a1 F_c F_v (show own_p1 _ from ⟨by decide, by decide⟩) _ A_b bd0 bd1 bd2 bd3 hall) E_a1 eT (W := 0) (by decide) (by decide) (cells' := 0) (slots' := 0) rfl rfl (by decide) (by decide) (by rw [hml]; rfl) (lenOf own_pd_28I29I rfl) rfl (S := []) rfl (Nat.le_of_eq rfl) (hb hby own22_12) (pc' := 15) rfl ?_
    intro v T h2 L lc X eT hq fN
    obtain ⟨z2, rfl, Nq, hqe, B2⟩ := hq
    have N := fN _ N Nq
    rw [hqe] at eT
    show own_W _ _ _ _ _ _ _ _ [(.int z2)]
    refine own_if X hx (hb hby own22_15) (by decide) (pcY := 22) (pcN := 18) rfl rfl (fun (hc15 : ¬ (z2 < (0 : Int32))) => ?_) (fun (hc15 : z2 < (0 : Int32)) => ?_)
    · refine own_iconst X hx (0 : Int32) (hb hby own22_22) (pc' := 23) rfl rfl ?_
      refine own_retI X hx hlk (t := .boolean) (w' := (.int (0 : Int32))) hret (hb hby own22_23) rfl rfl (by simp) (by decide) (by decide) ?_
      rw [eT]
      exact ⟨_, rfl, N, rfl, Or.inr ⟨rfl, fun q => hc15 (B2.mpr q.2)⟩⟩
    · refine own_iconst X hx (1 : Int32) (hb hby own22_18) (pc' := 19) rfl rfl ?_
      refine own_goto X hx (hb hby own22_19) (by decide) (pc' := 23) rfl ?_
      refine own_retI X hx hlk (t := .boolean) (w' := (.int (1 : Int32))) hret (hb hby own22_23) rfl rfl (by simp) (by decide) (by decide) ?_
      rw [eT]
      exact ⟨_, rfl, N, rfl, Or.inl ⟨rfl, B1.mp hc6, B2.mp hc15⟩⟩
def Q_siU4 (Z : State) (a1 b : Addr) (p1 cs : Int32) (fm : Value) (d0 d1 d2 d3 : Int32) (h0 : Heap) (n0 : Nat) (v : Option Value) (h : Heap) (L : List Loc) : Prop := ∃ z : Int32, v = some (.int z) ∧ Fr n0 L ∧ h = h0 ∧ (z < 0 ↔ (¬ (d0 = p1) ∧ ¬ (d1 = p1) ∧ ¬ (d2 = p1) ∧ ¬ (d3 = p1) ∧ True))
set_option maxRecDepth 65536 in
set_option maxHeartbeats 40000000 in
theorem rm_siU4 (l : Launch) (Z : State) (a0 : Array Value) (hw : ∀ d ∈ tables_1, d.before a0 Z = true) (ws : List Jvm.Cond) (a1 b : Addr) (p1 cs : Int32) (fm : Value) (d0 d1 d2 d3 : Int32) (h0 : Heap) (n0 : Nat) (Z0 : n0 ≤ h0.size) (S_C : Sta Z h0 "java/lang/String" "COMPACT_STRINGS" "Z" (.int cs)) (hcs : ¬ cs = 0) (E_a1 : Exa Z h0 a1 "java/lang/String") (F_c : Fld Z h0 a1 "java/lang/String" "coder" "B" (.int (1 : Int32))) (F_v : Fld Z h0 a1 "java/lang/String" "value" "[B" (.ref b)) (S_A : Sta Z h0 "java/lang/StringUTF16" "$assertionsDisabled" "Z" (.int (1 : Int32))) (S_H : Sta Z h0 "java/lang/StringUTF16" "HI_BYTE_SHIFT" "I" (.int (0 : Int32))) (S_L : Sta Z h0 "java/lang/StringUTF16" "LO_BYTE_SHIFT" "I" (.int (8 : Int32))) (S_F : Sta Z h0 "jdk/internal/util/Preconditions" "SIOOBE_FORMATTER" "Ljava/util/function/BiFunction;" fm) (hfm : fm.isRef = true) (hp : own_p1 p1) (k : ClassId) (A_b : Arv Z h0 b k .byte (8 : Int32) [(.int (own_lb d0)), (.int (own_hb d0)), (.int (own_lb d1)), (.int (own_hb d1)), (.int (own_lb d2)), (.int (own_hb d2)), (.int (own_lb d3)), (.int (own_hb d3))] (.int (0 : Int32))) (bd0 : own_c16 d0) (bd1 : own_c16 d1) (bd2 : own_c16 d2) (bd3 : own_c16 d3) : own_Met l Z ⟨"java/lang/String", "indexOf", "(II)I"⟩ jdk_42_method_80_code 3 (some .int) ws ⟨5, 0, 0, 98⟩ #[(.ref a1), (.int p1), (.int (0 : Int32))] h0 (Q_siU4 Z a1 b p1 cs fm d0 d1 d2 d3 h0 n0) := by
  refine own_met n0 own_pn_java_lang_String (fun m => ef3RII m a1 p1 (0 : Int32)) ?_
  intro p e s m below meth c T lc hret hx hZ hby hml hown hnm hlk X eT N
  refine own_aloadN X hx (hb hby own20_0) (pc' := 1) rfl rfl rfl ?_
  refine own_callV X hx hZ (y := (⟨"java/lang/String", "isLatin1", "()Z"⟩ : MethodName)) a1 [] hown (own_w hw 44 rfl) (own_w hw 45 rfl) (own_w hw 47 rfl) (own_w hw 46 rfl) (own_w hw 10 rfl) (own_w hw 48 rfl) (by decide) (rm_isLatU l Z a0 hw [] a1 cs h0 n0 Z0 S_C hcs F_c) E_a1 eT (W := 0) (by decide) (by decide) (cells' := 0) (slots' := 0) rfl rfl (by decide) (by decide) (by rw [hml]; rfl) (lenOf own_pd_2829Z rfl) rfl (S := []) rfl (Nat.le_of_eq rfl) (hb hby own20_1) (pc' := 4) rfl ?_
  intro v T h1 L lc X eT hq fN
  obtain ⟨rfl, Nq, hqe⟩ := hq
  have N := fN _ N Nq
  rw [hqe] at eT
  show own_W _ _ _ _ _ _ _ _ [(.int (0 : Int32))]
  refine own_ifY X hx (hb hby own20_4) (by decide) (pc' := 23) rfl (show (0 : Int32) = (0 : Int32) from (by decide)) ?_
  refine own_aloadN X hx (hb hby own20_23) (pc' := 24) rfl rfl rfl ?_
  refine own_getF X hx hZ hown (host := "") (Or.inl (own_w hw 28 rfl)) Via.refl eT F_v (hb hby own20_24) (pc' := 27) rfl ?_
  intro T X eT
  refine own_iloadN X hx (hb hby own20_27) (pc' := 28) rfl rfl ?_
  refine own_iloadN X hx (hb hby own20_28) (pc' := 29) rfl rfl ?_
  refine own_aloadN X hx (hb hby own20_29) (pc' := 30) rfl rfl rfl ?_
  refine own_callV X hx hZ (y := (⟨"java/lang/String", "length", "()I"⟩ : MethodName)) a1 [] hown (own_w hw 50 rfl) (own_w hw 51 rfl) (own_w hw 53 rfl) (own_w hw 52 rfl) (own_w hw 10 rfl) (own_w hw 54 rfl) (by decide) (rm_lenU4 l Z a0 hw [] a1 b cs h0 n0 Z0 S_C hcs E_a1 F_c F_v _ _ A_b) E_a1 eT (W := 3) (by decide) (by decide) (cells' := 0) (slots' := 0) rfl rfl (by decide) (by decide) (by rw [hml]; rfl) (lenOf own_pd_2829I rfl) rfl (S := [(.int (0 : Int32)), (.int p1), (.ref b)]) rfl (Nat.le_of_eq rfl) (hb hby own20_30) (pc' := 33) rfl ?_
  intro v T h2 L lc X eT hq fN
  obtain ⟨rfl, Nq, hqe⟩ := hq
  have N := fN _ N Nq
  rw [hqe] at eT
  show own_W _ _ _ _ _ _ _ _ [(.int (4 : Int32)), (.int (0 : Int32)), (.int p1), (.ref b)]
  refine own_callS X hx hZ [(.ref b), (.int p1), (.int (0 : Int32)), (.int (4 : Int32))] hown (own_w hw 109 rfl) (own_w hw 110 rfl) (own_w hw 76 rfl) (own_w hw 111 rfl) (by decide) (rm_ux4 l Z a0 hw [] b p1 fm d0 d1 d2 d3 h0 n0 Z0 S_A S_H S_L S_F hfm hp _ A_b bd0 bd1 bd2 bd3) eT (W := 0) (by decide) (by decide) (cells' := 0) (slots' := 0) rfl rfl (by decide) (by decide) (by rw [hml]; rfl) (lenOf own_pd_285bBIII29I rfl) rfl (S := []) rfl (Nat.le_of_eq rfl) (hb hby own20_33) (pc' := 36) rfl ?_
  intro v T h3 L lc X eT hq fN
  obtain ⟨zz, rfl, Nq, hqe, hz⟩ := hq
  have N := fN _ N Nq
  rw [hqe] at eT
  show own_W _ _ _ _ _ _ _ _ [(.int zz)]
  refine own_retI X hx hlk (t := .int) (w' := (.int zz)) hret (hb hby own20_36) rfl rfl (by simp) (by decide) (by decide) ?_
  rw [eT]
  exact ⟨_, rfl, N, rfl, hz⟩
def Q_sjU4 (Z : State) (a1 b : Addr) (p1 cs : Int32) (fm : Value) (d0 d1 d2 d3 : Int32) (h0 : Heap) (n0 : Nat) (v : Option Value) (h : Heap) (L : List Loc) : Prop := ∃ z : Int32, v = some (.int z) ∧ Fr n0 L ∧ h = h0 ∧ (z < 0 ↔ (¬ (d0 = p1) ∧ ¬ (d1 = p1) ∧ ¬ (d2 = p1) ∧ ¬ (d3 = p1) ∧ True))
set_option maxRecDepth 65536 in
set_option maxHeartbeats 40000000 in
theorem rm_sjU4 (l : Launch) (Z : State) (a0 : Array Value) (hw : ∀ d ∈ tables_1, d.before a0 Z = true) (ws : List Jvm.Cond) (a1 b : Addr) (p1 cs : Int32) (fm : Value) (d0 d1 d2 d3 : Int32) (h0 : Heap) (n0 : Nat) (Z0 : n0 ≤ h0.size) (S_C : Sta Z h0 "java/lang/String" "COMPACT_STRINGS" "Z" (.int cs)) (hcs : ¬ cs = 0) (E_a1 : Exa Z h0 a1 "java/lang/String") (F_c : Fld Z h0 a1 "java/lang/String" "coder" "B" (.int (1 : Int32))) (F_v : Fld Z h0 a1 "java/lang/String" "value" "[B" (.ref b)) (S_A : Sta Z h0 "java/lang/StringUTF16" "$assertionsDisabled" "Z" (.int (1 : Int32))) (S_H : Sta Z h0 "java/lang/StringUTF16" "HI_BYTE_SHIFT" "I" (.int (0 : Int32))) (S_L : Sta Z h0 "java/lang/StringUTF16" "LO_BYTE_SHIFT" "I" (.int (8 : Int32))) (S_F : Sta Z h0 "jdk/internal/util/Preconditions" "SIOOBE_FORMATTER" "Ljava/util/function/BiFunction;" fm) (hfm : fm.isRef = true) (hp : own_p1 p1) (k : ClassId) (A_b : Arv Z h0 b k .byte (8 : Int32) [(.int (own_lb d0)), (.int (own_hb d0)), (.int (own_lb d1)), (.int (own_hb d1)), (.int (own_lb d2)), (.int (own_hb d2)), (.int (own_lb d3)), (.int (own_hb d3))] (.int (0 : Int32))) (bd0 : own_c16 d0) (bd1 : own_c16 d1) (bd2 : own_c16 d2) (bd3 : own_c16 d3) : own_Met l Z ⟨"java/lang/String", "indexOf", "(I)I"⟩ jdk_42_method_79_code 2 (some .int) ws ⟨6, 0, 0, 117⟩ #[(.ref a1), (.int p1)] h0 (Q_sjU4 Z a1 b p1 cs fm d0 d1 d2 d3 h0 n0) := by
  refine own_met n0 own_pn_java_lang_String (fun m => ef2RI m a1 p1) ?_
  intro p e s m below meth c T lc hret hx hZ hby hml hown hnm hlk X eT N
  refine own_aloadN X hx (hb hby own21_0) (pc' := 1) rfl rfl rfl ?_
  refine own_iloadN X hx (hb hby own21_1) (pc' := 2) rfl rfl ?_
  refine own_iconst X hx (0 : Int32) (hb hby own21_2) (pc' := 3) rfl rfl ?_
  refine own_callV X hx hZ (y := (⟨"java/lang/String", "indexOf", "(II)I"⟩ : MethodName)) a1 [(.int p1), (.int (0 : Int32))] hown (own_w hw 39 rfl) (own_w hw 40 rfl) (own_w hw 42 rfl) (own_w hw 41 rfl) (own_w hw 10 rfl) (own_w hw 43 rfl) (by decide) (rm_siU4 l Z a0 hw [] a1 b p1 cs fm d0 d1 d2 d3 h0 n0 Z0 S_C hcs E_a1 F_c F_v S_A S_H S_L S_F hfm hp _ A_b bd0 bd1 bd2 bd3) E_a1 eT (W := 0) (by decide) (by decide) (cells' := 0) (slots' := 0) rfl rfl (by decide) (by decide) (by rw [hml]; rfl) (lenOf own_pd_28II29I rfl) rfl (S := []) rfl (Nat.le_of_eq rfl) (hb hby own21_3) (pc' := 6) rfl ?_
  intro v T h1 L lc X eT hq fN
  obtain ⟨zz, rfl, Nq, hqe, hz⟩ := hq
  have N := fN _ N Nq
  rw [hqe] at eT
  show own_W _ _ _ _ _ _ _ _ [(.int zz)]
  refine own_retI X hx hlk (t := .int) (w' := (.int zz)) hret (hb hby own21_6) rfl rfl (by simp) (by decide) (by decide) ?_
  rw [eT]
  exact ⟨_, rfl, N, rfl, hz⟩
def Q_chU4 (Z : State) (a1 b : Addr) (cs : Int32) (fm : Value) (d0 d1 d2 d3 : Int32) (h0 : Heap) (n0 : Nat) (v : Option Value) (h : Heap) (L : List Loc) : Prop := ∃ z : Int32, v = some (.int z) ∧ Fr n0 L ∧ h = h0 ∧ ((z = 1 ∧ (¬ (d0 = (9 : Int32)) ∧ ¬ (d1 = (9 : Int32)) ∧ ¬ (d2 = (9 : Int32)) ∧ ¬ (d3 = (9 : Int32)) ∧ True) ∧ (¬ (d0 = (10 : Int32)) ∧ ¬ (d1 = (10 : Int32)) ∧ ¬ (d2 = (10 : Int32)) ∧ ¬ (d3 = (10 : Int32)) ∧ True)) ∨ (z = 0 ∧ ¬ ((¬ (d0 = (9 : Int32)) ∧ ¬ (d1 = (9 : Int32)) ∧ ¬ (d2 = (9 : Int32)) ∧ ¬ (d3 = (9 : Int32)) ∧ True) ∧ (¬ (d0 = (10 : Int32)) ∧ ¬ (d1 = (10 : Int32)) ∧ ¬ (d2 = (10 : Int32)) ∧ ¬ (d3 = (10 : Int32)) ∧ True))))
set_option maxRecDepth 65536 in
set_option maxHeartbeats 40000000 in
theorem rm_chU4 (l : Launch) (Z : State) (a0 : Array Value) (hw : ∀ d ∈ tables_1, d.before a0 Z = true) (ws : List Jvm.Cond) (a1 b : Addr) (cs : Int32) (fm : Value) (d0 d1 d2 d3 : Int32) (h0 : Heap) (n0 : Nat) (Z0 : n0 ≤ h0.size) (S_C : Sta Z h0 "java/lang/String" "COMPACT_STRINGS" "Z" (.int cs)) (hcs : ¬ cs = 0) (E_a1 : Exa Z h0 a1 "java/lang/String") (F_c : Fld Z h0 a1 "java/lang/String" "coder" "B" (.int (1 : Int32))) (F_v : Fld Z h0 a1 "java/lang/String" "value" "[B" (.ref b)) (S_A : Sta Z h0 "java/lang/StringUTF16" "$assertionsDisabled" "Z" (.int (1 : Int32))) (S_H : Sta Z h0 "java/lang/StringUTF16" "HI_BYTE_SHIFT" "I" (.int (0 : Int32))) (S_L : Sta Z h0 "java/lang/StringUTF16" "LO_BYTE_SHIFT" "I" (.int (8 : Int32))) (S_F : Sta Z h0 "jdk/internal/util/Preconditions" "SIOOBE_FORMATTER" "Ljava/util/function/BiFunction;" fm) (hfm : fm.isRef = true) (k : ClassId) (A_b : Arv Z h0 b k .byte (8 : Int32) [(.int (own_lb d0)), (.int (own_hb d0)), (.int (own_lb d1)), (.int (own_hb d1)), (.int (own_lb d2)), (.int (own_hb d2)), (.int (own_lb d3)), (.int (own_hb d3))] (.int (0 : Int32))) (bd0 : own_c16 d0) (bd1 : own_c16 d1) (bd2 : own_c16 d2) (bd3 : own_c16 d3) : own_Met l Z ⟨"com/example/bleeper/bleeper/cli/Fields", "canHold", "(Ljava/lang/String;)Z"⟩ prog_47_method_2_code 1 (some .boolean) ws ⟨7, 0, 0, 135⟩ #[(.ref a1)] h0 (Q_chU4 Z a1 b cs fm d0 d1 d2 d3 h0 n0) := by
  refine own_met n0 own_pn_com_example_bleeper_bleeper_cli_Fields (fun m => ef1R m a1) ?_
  intro p e s m below meth c T lc hret hx hZ hby hml hown hnm hlk X eT N
  refine own_aloadN X hx (hb hby own22_0) (pc' := 1) rfl rfl rfl ?_
  refine own_bipush X hx (9 : Int32) (hb hby own22_1) (pc' := 3) rfl rfl ?_
  refine own_callV X hx hZ (y := (⟨"java/lang/String", "indexOf", "(I)I"⟩ : MethodName)) a1 [(.int (9 : Int32))] hown (own_w hw 34 rfl) (own_w hw 35 rfl) (own_w hw 37 rfl) (own_w hw 36 rfl) (own_w hw 10 rfl) (own_w hw 38 rfl) (by decide) (rm_sjU4 l Z a0 hw [] a1 b (9 : Int32) cs fm d0 d1 d2 d3 h0 n0 Z0 S_C hcs E_a1 F_c F_v S_A S_H S_L S_F hfm (show own_p1 _ from ⟨by decide, by decide⟩) _ A_b bd0 bd1 bd2 bd3) E_a1 eT (W := 0) (by decide) (by decide) (cells' := 0) (slots' := 0) rfl rfl (by decide) (by decide) (by rw [hml]; rfl) (lenOf own_pd_28I29I rfl) rfl (S := []) rfl (Nat.le_of_eq rfl) (hb hby own22_3) (pc' := 6) rfl ?_
  intro v T h1 L lc X eT hq fN
  obtain ⟨z1, rfl, Nq, hqe, B1⟩ := hq
  have N := fN _ N Nq
  rw [hqe] at eT
  show own_W _ _ _ _ _ _ _ _ [(.int z1)]
  refine own_if X hx (hb hby own22_6) (by decide) (pcY := 22) (pcN := 9) rfl rfl (fun (hc6 : ¬ (z1 < (0 : Int32))) => ?_) (fun (hc6 : z1 < (0 : Int32)) => ?_)
  · refine own_iconst X hx (0 : Int32) (hb hby own22_22) (pc' := 23) rfl rfl ?_
    refine own_retI X hx hlk (t := .boolean) (w' := (.int (0 : Int32))) hret (hb hby own22_23) rfl rfl (by simp) (by decide) (by decide) ?_
    rw [eT]
    exact ⟨_, rfl, N, rfl, Or.inr ⟨rfl, fun q => hc6 (B1.mpr q.1)⟩⟩
  · refine own_aloadN X hx (hb hby own22_9) (pc' := 10) rfl rfl rfl ?_
    refine own_bipush X hx (10 : Int32) (hb hby own22_10) (pc' := 12) rfl rfl ?_
    refine own_callV X hx hZ (y := (⟨"java/lang/String", "indexOf", "(I)I"⟩ : MethodName)) a1 [(.int (10 : Int32))] hown (own_w hw 34 rfl) (own_w hw 35 rfl) (own_w hw 37 rfl) (own_w hw 36 rfl) (own_w hw 10 rfl) (own_w hw 38 rfl) (by decide) (rm_sjU4 l Z a0 hw [] a1 b (10 : Int32) cs fm d0 d1 d2 d3 h0 n0 Z0 S_C hcs E_a1 F_c F_v S_A S_H S_L S_F hfm (show own_p1 _ from ⟨by decide, by decide⟩) _ A_b bd0 bd1 bd2 bd3) E_a1 eT (W := 0) (by decide) (by decide) (cells' := 0) (slots' := 0) rfl rfl (by decide) (by decide) (by rw [hml]; rfl) (lenOf own_pd_28I29I rfl) rfl (S := []) rfl (Nat.le_of_eq rfl) (hb hby own22_12) (pc' := 15) rfl ?_
    intro v T h2 L lc X eT hq fN
    obtain ⟨z2, rfl, Nq, hqe, B2⟩ := hq
    have N := fN _ N Nq
    rw [hqe] at eT
    show own_W _ _ _ _ _ _ _ _ [(.int z2)]
    refine own_if X hx (hb hby own22_15) (by decide) (pcY := 22) (pcN := 18) rfl rfl (fun (hc15 : ¬ (z2 < (0 : Int32))) => ?_) (fun (hc15 : z2 < (0 : Int32)) => ?_)
    · refine own_iconst X hx (0 : Int32) (hb hby own22_22) (pc' := 23) rfl rfl ?_
      refine own_retI X hx hlk (t := .boolean) (w' := (.int (0 : Int32))) hret (hb hby own22_23) rfl rfl (by simp) (by decide) (by decide) ?_
      rw [eT]
      exact ⟨_, rfl, N, rfl, Or.inr ⟨rfl, fun q => hc15 (B2.mpr q.2)⟩⟩
    · refine own_iconst X hx (1 : Int32) (hb hby own22_18) (pc' := 19) rfl rfl ?_
      refine own_goto X hx (hb hby own22_19) (by decide) (pc' := 23) rfl ?_
      refine own_retI X hx hlk (t := .boolean) (w' := (.int (1 : Int32))) hret (hb hby own22_23) rfl rfl (by simp) (by decide) (by decide) ?_
      rw [eT]
      exact ⟨_, rfl, N, rfl, Or.inl ⟨rfl, B1.mp hc6, B2.mp hc15⟩⟩
theorem own_pd_28I29C : parseMethodDescriptor "(I)C" = some ⟨[.int], some .char⟩ := by decide +kernel
theorem own_pd_28ICCCC29Ljava2flang2fString3b : parseMethodDescriptor "(ICCCC)Ljava/lang/String;" = some ⟨[.int, .char, .char, .char, .char], some (.object "java/lang/String")⟩ := by decide +kernel
theorem own_pd_28Ljava2flang2fString3b29Z : parseMethodDescriptor "(Ljava/lang/String;)Z" = some ⟨[(.object "java/lang/String")], some .boolean⟩ := by decide +kernel
theorem own_pd_28C29Z : parseMethodDescriptor "(C)Z" = some ⟨[.char], some .boolean⟩ := by decide +kernel
theorem ef_law (m : MethodId) (x0 : Int32) (x1 : Int32) (x2 : Int32) (x3 : Int32) (x4 : Int32) : entryFrame m #[(.int x0), (.int x1), (.int x2), (.int x3), (.int x4)] maxLocals = mkF m 0 #[.val (.int x0), .val (.int x1), .val (.int x2), .val (.int x3), .val (.int x4), .unset, .unset, .unset, .unset, .unset, .unset, .unset] [] := by first | (simp [entryFrame, mkF, argsToLocals, Value.category, maxLocals]; done) | rfl
def Q_law (Z : State) (p0 p1 p2 p3 p4 cs : Int32) (fm : Value) (h0 : Heap) (n0 : Nat) (v : Option Value) (h : Heap) (L : List Loc) : Prop := v = some (.int 1) ∧ Fr n0 L
set_option maxRecDepth 65536 in
set_option maxHeartbeats 40000000 in
theorem rm_law (l : Launch) (Z : State) (a0 : Array Value) (hw : ∀ d ∈ tables_1, d.before a0 Z = true) (hEL : EW Z a0 own_EL) (ws : List Jvm.Cond) (p0 p1 p2 p3 p4 cs : Int32) (fm : Value) (h0 : Heap) (n0 : Nat) (Z0 : n0 ≤ h0.size) (S_C : Sta Z h0 "java/lang/String" "COMPACT_STRINGS" "Z" (.int cs)) (hcs : ¬ cs = 0) (S_A : Sta Z h0 "java/lang/StringUTF16" "$assertionsDisabled" "Z" (.int (1 : Int32))) (S_H : Sta Z h0 "java/lang/StringUTF16" "HI_BYTE_SHIFT" "I" (.int (0 : Int32))) (S_L : Sta Z h0 "java/lang/StringUTF16" "LO_BYTE_SHIFT" "I" (.int (8 : Int32))) (S_F : Sta Z h0 "jdk/internal/util/Preconditions" "SIOOBE_FORMATTER" "Ljava/util/function/BiFunction;" fm) (hfm : fm.isRef = true) :
    MetFree l x (head1 (Jvm.Cond.code x code maxLocals ret :: ws) room_1) (fun a U => a = #[(.int p0), (.int p1), (.int p2), (.int p3), (.int p4)] ∧ Z.Warmed39 U.vm ∧ U.heap = h0 ∧ CHv Z own_EL U.vm h0) (fun _ _ _ _ _ => True) (fun _ U o U' => ∃ v L, o = .returned v ∧ Q_law Z p0 p1 p2 p3 p4 cs fm h0 n0 v U'.heap L ∧ CHr Z own_EL U.vm U.heap U'.vm U'.heap ∧ ReturnedEndW U o U' L room_1.cells room_1.slots) := by
  refine MetFree.of_bodySF (plainFor_of_name own_pn_com_example_bleeper_bleeper_cli_FieldsCanHoldPinLaw) hisR ?_
  intro p e s m args below meth c s₁ Bd hml0 hP hK
  obtain ⟨rfl, hZ, hh, H⟩ := hP
  have hx := Bd.exec
  have hby := Bd.bytes
  have hml : c.maxLocals = 12 := hml0
  have hown : s.vm.findClass "com/example/bleeper/bleeper/cli/FieldsCanHoldPinLaw" = some m.cls := findClass_of_methodNamed Bd.named
  have hnm := (name_of_methodNamed Bd.named Bd.method).1
  have hlk := Bd.notSynchronized
  obtain ⟨lc, hlc⟩ : ∃ lc : List Loc, lc = [] := ⟨_, rfl⟩
  have X : Stand p l e room_1 s m #[(.int p0), (.int p1), (.int p2), (.int p3), (.int p4)] below meth c s₁ lc 0 0 := hlc ▸ Stand.of_body Bd
  have eT : s₁.heap = h0 := by rw [← hh, Bd.state]; rfl
  have N : Fr n0 lc := hlc ▸ Fr.nil n0
  obtain ⟨vm0, hvm⟩ : ∃ v : Vm, v = s.vm := ⟨_, rfl⟩
  have X : Stand p l e room_1 (s.setVm vm0) m #[(.int p0), (.int p1), (.int p2), (.int p3), (.int p4)] below meth c s₁ lc 0 0 := by rw [hvm]; exact X
  have hZ : Z.Warmed39 (s.setVm vm0).vm := by rw [hvm]; exact hZ
  have hown : (s.setVm vm0).vm.findClass "com/example/bleeper/bleeper/cli/FieldsCanHoldPinLaw" = some m.cls := by rw [hvm]; exact hown
  have hS : s.Since vm0 h0.size := by rw [hvm]; exact (State.WarmedH.refl s).since _
  have hk : h0.size ≤ h0.size := Nat.le_refl _
  have CR : CHr Z own_EL s.vm h0 vm0 h0 := by rw [hvm]; exact CHr.refl H
  have H : CHv Z own_EL vm0 h0 := by rw [hvm]; exact H
  refine own_enterS (ef_law m p0 p1 p2 p3 p4) ?_
  obtain ⟨T, hT⟩ : ∃ T : State, T = s₁ := ⟨_, rfl⟩
  rw [← hT] at X eT ⊢
  show own_W _ _ _ _ _ _ _ _ []
  refine own_iloadN X hx (hb hby at_0) (pc' := 1) rfl rfl ?_
  refine own_ldc X hx hZ hown (own_w hw 0 rfl) (hb hby at_1) (pc' := 3) rfl ?_
  refine own_iand X hx (hb hby at_3) (pc' := 4) rfl ?_
  refine own_iconst X hx (5 : Int32) (hb hby at_4) (pc' := 5) rfl rfl ?_
  refine own_irem X hx (hb hby at_5) (pc' := 6) rfl (by decide) ?_
  refine own_istore X hx (hb hby at_6) (pc' := 8) rfl (Ls' := #[.val (.int p0), .val (.int p1), .val (.int p2), .val (.int p3), .val (.int p4), .val (.int ((p0 &&& (2147483647 : Int32)) % (5 : Int32))), .unset, .unset, .unset, .unset, .unset, .unset]) rfl ?_
  refine own_iloadN X hx (hb hby at_8) (pc' := 9) rfl rfl ?_
  refine own_callS X hx hZ [(.int p1)] hown (own_w hw 1 rfl) (own_w hw 2 rfl) (own_w hw 3 rfl) (own_w hw 4 rfl) (by decide) (rm_draw l Z a0 hw [] p1 h0 n0 Z0) eT (W := 0) (by decide) (by decide) (cells' := 0) (slots' := 0) rfl rfl (by decide) (by decide) (by rw [hml]; rfl) (lenOf own_pd_28I29C rfl) rfl (S := []) rfl (Nat.le_of_eq rfl) (hb hby at_9) (pc' := 12) rfl ?_
  intro v T h1 L lc X eT hq fN
  obtain ⟨d0, rfl, Nq, hqe, bd0⟩ := hq
  have N := fN _ N Nq
  rw [hqe] at eT
  show own_W _ _ _ _ _ _ _ _ [(.int d0)]
  refine own_istore X hx (hb hby at_12) (pc' := 14) rfl (Ls' := #[.val (.int p0), .val (.int p1), .val (.int p2), .val (.int p3), .val (.int p4), .val (.int ((p0 &&& (2147483647 : Int32)) % (5 : Int32))), .val (.int d0), .unset, .unset, .unset, .unset, .unset]) rfl ?_
  refine own_iloadN X hx (hb hby at_14) (pc' := 15) rfl rfl ?_
  refine own_callS X hx hZ [(.int p2)] hown (own_w hw 1 rfl) (own_w hw 2 rfl) (own_w hw 3 rfl) (own_w hw 4 rfl) (by decide) (rm_draw l Z a0 hw [] p2 h0 n0 Z0) eT (W := 0) (by decide) (by decide) (cells' := 0) (slots' := 0) rfl rfl (by decide) (by decide) (by rw [hml]; rfl) (lenOf own_pd_28I29C rfl) rfl (S := []) rfl (Nat.le_of_eq rfl) (hb hby at_15) (pc' := 18) rfl ?_
  intro v T h2 L lc X eT hq fN
  obtain ⟨d1, rfl, Nq, hqe, bd1⟩ := hq
  have N := fN _ N Nq
  rw [hqe] at eT
  show own_W _ _ _ _ _ _ _ _ [(.int d1)]
  refine own_istore X hx (hb hby at_18) (pc' := 20) rfl (Ls' := #[.val (.int p0), .val (.int p1), .val (.int p2), .val (.int p3), .val (.int p4), .val (.int ((p0 &&& (2147483647 : Int32)) % (5 : Int32))), .val (.int d0), .val (.int d1), .unset, .unset, .unset, .unset]) rfl ?_
  refine own_iloadN X hx (hb hby at_20) (pc' := 21) rfl rfl ?_
  refine own_callS X hx hZ [(.int p3)] hown (own_w hw 1 rfl) (own_w hw 2 rfl) (own_w hw 3 rfl) (own_w hw 4 rfl) (by decide) (rm_draw l Z a0 hw [] p3 h0 n0 Z0) eT (W := 0) (by decide) (by decide) (cells' := 0) (slots' := 0) rfl rfl (by decide) (by decide) (by rw [hml]; rfl) (lenOf own_pd_28I29C rfl) rfl (S := []) rfl (Nat.le_of_eq rfl) (hb hby at_21) (pc' := 24) rfl ?_
  intro v T h3 L lc X eT hq fN
  obtain ⟨d2, rfl, Nq, hqe, bd2⟩ := hq
  have N := fN _ N Nq
  rw [hqe] at eT
  show own_W _ _ _ _ _ _ _ _ [(.int d2)]
  refine own_istore X hx (hb hby at_24) (pc' := 26) rfl (Ls' := #[.val (.int p0), .val (.int p1), .val (.int p2), .val (.int p3), .val (.int p4), .val (.int ((p0 &&& (2147483647 : Int32)) % (5 : Int32))), .val (.int d0), .val (.int d1), .val (.int d2), .unset, .unset, .unset]) rfl ?_
  refine own_iload X hx (hb hby at_26) (pc' := 28) rfl rfl ?_
  refine own_callS X hx hZ [(.int p4)] hown (own_w hw 1 rfl) (own_w hw 2 rfl) (own_w hw 3 rfl) (own_w hw 4 rfl) (by decide) (rm_draw l Z a0 hw [] p4 h0 n0 Z0) eT (W := 0) (by decide) (by decide) (cells' := 0) (slots' := 0) rfl rfl (by decide) (by decide) (by rw [hml]; rfl) (lenOf own_pd_28I29C rfl) rfl (S := []) rfl (Nat.le_of_eq rfl) (hb hby at_28) (pc' := 31) rfl ?_
  intro v T h4 L lc X eT hq fN
  obtain ⟨d3, rfl, Nq, hqe, bd3⟩ := hq
  have N := fN _ N Nq
  rw [hqe] at eT
  show own_W _ _ _ _ _ _ _ _ [(.int d3)]
  refine own_istore X hx (hb hby at_31) (pc' := 33) rfl (Ls' := #[.val (.int p0), .val (.int p1), .val (.int p2), .val (.int p3), .val (.int p4), .val (.int ((p0 &&& (2147483647 : Int32)) % (5 : Int32))), .val (.int d0), .val (.int d1), .val (.int d2), .val (.int d3), .unset, .unset]) rfl ?_
  obtain ⟨ln, h_ln⟩ : ∃ z, z = ((p0 &&& (2147483647 : Int32)) % (5 : Int32)) := ⟨_, rfl⟩
  rw [← h_ln]
  have b_ln := own_n5 p0
  rw [← h_ln] at b_ln
  rcases b_ln with q | q | q | q | q
  · rw [q]
    show own_W _ _ _ _ _ _ _ _ []
    refine own_iload X hx (hb hby at_33) (pc' := 35) rfl rfl ?_
    refine own_iload X hx (hb hby at_35) (pc' := 37) rfl rfl ?_
    refine own_iload X hx (hb hby at_37) (pc' := 39) rfl rfl ?_
    refine own_iload X hx (hb hby at_39) (pc' := 41) rfl rfl ?_
    refine own_iload X hx (hb hby at_41) (pc' := 43) rfl rfl ?_
    refine own_callSS X hx hZ [(.int (0 : Int32)), (.int d0), (.int d1), (.int d2), (.int d3)] hown (own_w hw 5 rfl) (own_w hw 6 rfl) (own_w hw 3 rfl) (own_w hw 7 rfl) (by decide) (rm_tx0 l Z a0 hw hEL [] cs d0 d1 d2 d3 h0 n0 Z0 S_C hcs S_A S_H S_L bd0 bd1 bd2 bd3) eT hS hk hEL H (W := 0) (by decide) (by decide) (cells' := 6) (slots' := 12) rfl rfl (by decide) (by decide) (by rw [hml]; rfl) (lenOf own_pd_28ICCCC29Ljava2flang2fString3b rfl) rfl (S := []) rfl (Nat.le_of_eq rfl) (hb hby at_43) (pc' := 46) rfl ?_
    intro v T h5 L lc vm0 k1 X eT hS hk hZ hown CQ hq fN
    obtain ⟨sa, sb, kb, rfl, Nq, Kq, E_s, V_s, C_s, A_s⟩ := hq
    have N := fN _ N Nq
    have CR := CR.trans CQ
    have H := CQ.1
    have S_C := own_sta_keep S_C Kq ns0
    have S_A := own_sta_keep S_A Kq ns0
    have S_H := own_sta_keep S_H Kq ns0
    have S_L := own_sta_keep S_L Kq ns0
    have S_F := own_sta_keep S_F Kq ns0
    have Z0 := Nat.le_trans Z0 Kq.1
    show own_W _ _ _ _ _ _ _ _ [(.ref sa)]
    refine own_astore X hx (hb hby at_46) (pc' := 48) rfl rfl (Ls' := #[.val (.int p0), .val (.int p1), .val (.int p2), .val (.int p3), .val (.int p4), .val (.int (0 : Int32)), .val (.int d0), .val (.int d1), .val (.int d2), .val (.int d3), .val (.ref sa), .unset]) rfl ?_
    refine own_iload X hx (hb hby at_48) (pc' := 50) rfl rfl ?_
    refine own_iconst X hx (1 : Int32) (hb hby at_50) (pc' := 51) rfl rfl ?_
    refine own_icmpY X hx (hb hby at_51) (by decide) (pc' := 62) rfl (show (0 : Int32) < (1 : Int32) from (by decide)) ?_
    refine own_iload X hx (hb hby at_62) (pc' := 64) rfl rfl ?_
    refine own_iconst X hx (2 : Int32) (hb hby at_64) (pc' := 65) rfl rfl ?_
    refine own_icmpY X hx (hb hby at_65) (by decide) (pc' := 76) rfl (show (0 : Int32) < (2 : Int32) from (by decide)) ?_
    refine own_iload X hx (hb hby at_76) (pc' := 78) rfl rfl ?_
    refine own_iconst X hx (3 : Int32) (hb hby at_78) (pc' := 79) rfl rfl ?_
    refine own_icmpY X hx (hb hby at_79) (by decide) (pc' := 90) rfl (show (0 : Int32) < (3 : Int32) from (by decide)) ?_
    refine own_iload X hx (hb hby at_90) (pc' := 92) rfl rfl ?_
    refine own_iconst X hx (4 : Int32) (hb hby at_92) (pc' := 93) rfl rfl ?_
    refine own_icmpY X hx (hb hby at_93) (by decide) (pc' := 104) rfl (show (0 : Int32) < (4 : Int32) from (by decide)) ?_
    refine own_iconst X hx (1 : Int32) (hb hby at_104) (pc' := 105) rfl rfl ?_
    refine own_goto X hx (hb hby at_105) (by decide) (pc' := 109) rfl ?_
    refine own_istore X hx (hb hby at_109) (pc' := 111) rfl (Ls' := #[.val (.int p0), .val (.int p1), .val (.int p2), .val (.int p3), .val (.int p4), .val (.int (0 : Int32)), .val (.int d0), .val (.int d1), .val (.int d2), .val (.int d3), .val (.ref sa), .val (.int (1 : Int32))]) rfl ?_
    refine own_aload X hx (hb hby at_111) (pc' := 113) rfl rfl rfl ?_
    refine own_callS X hx hZ [(.ref sa)] hown (own_w hw 30 rfl) (own_w hw 31 rfl) (own_w hw 32 rfl) (own_w hw 33 rfl) (by decide) (rm_chL0 l Z a0 hw [] sa sb cs  h5 n0 Z0 S_C hcs E_s C_s V_s _ A_s ) eT (W := 0) (by decide) (by decide) (cells' := 6) (slots' := 12) rfl rfl (by decide) (by decide) (by rw [hml]; rfl) (lenOf own_pd_28Ljava2flang2fString3b29Z rfl) rfl (S := []) rfl (Nat.le_of_eq rfl) (hb hby at_113) (pc' := 116) rfl ?_
    intro v T h6 L lc X eT hq fN
    obtain ⟨zc, rfl, Nq, hqe, hB⟩ := hq
    have N := fN _ N Nq
    rw [hqe] at eT
    show own_W _ _ _ _ _ _ _ _ [(.int zc)]
    refine own_iload X hx (hb hby at_116) (pc' := 118) rfl rfl ?_
    refine own_icmpN X hx (hb hby at_118) (pc' := 121) rfl (show zc = (1 : Int32) from (hB.elim (fun t => t.1) (fun t => absurd ⟨trivial, trivial⟩ t.2))) ?_
    refine own_iconst X hx (1 : Int32) (hb hby at_121) (pc' := 122) rfl rfl ?_
    refine own_goto X hx (hb hby at_122) (by decide) (pc' := 126) rfl ?_
    refine own_retIS X hx hlk hZ eT hh hS hk hEL H CR (t := .boolean) (w' := (.int (1 : Int32))) Bd.returns (hb hby at_126) rfl rfl (by simp) (by decide) (by decide) ?_
    rw [eT]
    exact ⟨rfl, N⟩
  · rw [q]
    show own_W _ _ _ _ _ _ _ _ []
    refine own_iload X hx (hb hby at_33) (pc' := 35) rfl rfl ?_
    refine own_iload X hx (hb hby at_35) (pc' := 37) rfl rfl ?_
    refine own_iload X hx (hb hby at_37) (pc' := 39) rfl rfl ?_
    refine own_iload X hx (hb hby at_39) (pc' := 41) rfl rfl ?_
    refine own_iload X hx (hb hby at_41) (pc' := 43) rfl rfl ?_
    refine own_callSS X hx hZ [(.int (1 : Int32)), (.int d0), (.int d1), (.int d2), (.int d3)] hown (own_w hw 5 rfl) (own_w hw 6 rfl) (own_w hw 3 rfl) (own_w hw 7 rfl) (by decide) (rm_tx1 l Z a0 hw hEL [] cs d0 d1 d2 d3 h0 n0 Z0 S_C hcs S_A S_H S_L bd0 bd1 bd2 bd3) eT hS hk hEL H (W := 0) (by decide) (by decide) (cells' := 4) (slots' := 8) rfl rfl (by decide) (by decide) (by rw [hml]; rfl) (lenOf own_pd_28ICCCC29Ljava2flang2fString3b rfl) rfl (S := []) rfl (Nat.le_of_eq rfl) (hb hby at_43) (pc' := 46) rfl ?_
    intro v T h7 L lc vm0 k1 X eT hS hk hZ hown CQ hq fN
    obtain ⟨sa, sb, kb, rfl, Nq, Kq, E_s, V_s, hv⟩ := hq
    have N := fN _ N Nq
    have CR := CR.trans CQ
    have H := CQ.1
    have S_C := own_sta_keep S_C Kq ns0
    have S_A := own_sta_keep S_A Kq ns0
    have S_H := own_sta_keep S_H Kq ns0
    have S_L := own_sta_keep S_L Kq ns0
    have S_F := own_sta_keep S_F Kq ns0
    have Z0 := Nat.le_trans Z0 Kq.1
    rcases hv with ⟨C_s, hall, A_s⟩ | ⟨C_s, A_s⟩
    · show own_W _ _ _ _ _ _ _ _ [(.ref sa)]
      refine own_astore X hx (hb hby at_46) (pc' := 48) rfl rfl (Ls' := #[.val (.int p0), .val (.int p1), .val (.int p2), .val (.int p3), .val (.int p4), .val (.int (1 : Int32)), .val (.int d0), .val (.int d1), .val (.int d2), .val (.int d3), .val (.ref sa), .unset]) rfl ?_
      refine own_iload X hx (hb hby at_48) (pc' := 50) rfl rfl ?_
      refine own_iconst X hx (1 : Int32) (hb hby at_50) (pc' := 51) rfl rfl ?_
      refine own_icmpN X hx (hb hby at_51) (pc' := 54) rfl (show ¬ ((1 : Int32) < (1 : Int32)) from (by decide)) ?_
      refine own_iload X hx (hb hby at_54) (pc' := 56) rfl rfl ?_
      refine own_callS X hx hZ [(.int d0)] hown (own_w hw 84 rfl) (own_w hw 85 rfl) (own_w hw 3 rfl) (own_w hw 86 rfl) (by decide) (rm_fits l Z a0 hw [] d0 h7 n0 Z0) eT (W := 0) (by decide) (by decide) (cells' := 4) (slots' := 8) rfl rfl (by decide) (by decide) (by rw [hml]; rfl) (lenOf own_pd_28C29Z rfl) rfl (S := []) rfl (Nat.le_of_eq rfl) (hb hby at_56) (pc' := 59) rfl ?_
      intro v T h8 L lc X eT hq fN
      obtain ⟨rfl, Nq, hqe⟩ := hq
      have N := fN _ N Nq
      rw [hqe] at eT
      show own_W _ _ _ _ _ _ _ _ [(.int (own_fit d0))]
      refine own_if X hx (hb hby at_59) (by decide) (pcY := 108) (pcN := 62) rfl rfl (fun (hc59 : (own_fit d0) = (0 : Int32)) => ?_) (fun (hc59 : ¬ ((own_fit d0) = (0 : Int32))) => ?_)
      · refine own_iconst X hx (0 : Int32) (hb hby at_108) (pc' := 109) rfl rfl ?_
        refine own_istore X hx (hb hby at_109) (pc' := 111) rfl (Ls' := #[.val (.int p0), .val (.int p1), .val (.int p2), .val (.int p3), .val (.int p4), .val (.int (1 : Int32)), .val (.int d0), .val (.int d1), .val (.int d2), .val (.int d3), .val (.ref sa), .val (.int (0 : Int32))]) rfl ?_
        refine own_aload X hx (hb hby at_111) (pc' := 113) rfl rfl rfl ?_
        refine own_callS X hx hZ [(.ref sa)] hown (own_w hw 30 rfl) (own_w hw 31 rfl) (own_w hw 32 rfl) (own_w hw 33 rfl) (by decide) (rm_chL1 l Z a0 hw [] sa sb cs d0 h7 n0 Z0 S_C hcs E_s C_s V_s _ A_s bd0 hall) eT (W := 0) (by decide) (by decide) (cells' := 4) (slots' := 8) rfl rfl (by decide) (by decide) (by rw [hml]; rfl) (lenOf own_pd_28Ljava2flang2fString3b29Z rfl) rfl (S := []) rfl (Nat.le_of_eq rfl) (hb hby at_113) (pc' := 116) rfl ?_
        intro v T h9 L lc X eT hq fN
        obtain ⟨zc, rfl, Nq, hqe, hB⟩ := hq
        have N := fN _ N Nq
        rw [hqe] at eT
        show own_W _ _ _ _ _ _ _ _ [(.int zc)]
        refine own_iload X hx (hb hby at_116) (pc' := 118) rfl rfl ?_
        refine own_icmpN X hx (hb hby at_118) (pc' := 121) rfl (show zc = (0 : Int32) from (hB.elim (fun t => (own_f0 hc59).elim (fun e => absurd e t.2.1.1) (fun e => absurd e t.2.2.1)) (fun t => t.1))) ?_
        refine own_iconst X hx (1 : Int32) (hb hby at_121) (pc' := 122) rfl rfl ?_
        refine own_goto X hx (hb hby at_122) (by decide) (pc' := 126) rfl ?_
        refine own_retIS X hx hlk hZ eT hh hS hk hEL H CR (t := .boolean) (w' := (.int (1 : Int32))) Bd.returns (hb hby at_126) rfl rfl (by simp) (by decide) (by decide) ?_
        rw [eT]
        exact ⟨rfl, N⟩
      · refine own_iload X hx (hb hby at_62) (pc' := 64) rfl rfl ?_
        refine own_iconst X hx (2 : Int32) (hb hby at_64) (pc' := 65) rfl rfl ?_
        refine own_icmpY X hx (hb hby at_65) (by decide) (pc' := 76) rfl (show (1 : Int32) < (2 : Int32) from (by decide)) ?_
        refine own_iload X hx (hb hby at_76) (pc' := 78) rfl rfl ?_
        refine own_iconst X hx (3 : Int32) (hb hby at_78) (pc' := 79) rfl rfl ?_
        refine own_icmpY X hx (hb hby at_79) (by decide) (pc' := 90) rfl (show (1 : Int32) < (3 : Int32) from (by decide)) ?_
        refine own_iload X hx (hb hby at_90) (pc' := 92) rfl rfl ?_
        refine own_iconst X hx (4 : Int32) (hb hby at_92) (pc' := 93) rfl rfl ?_
        refine own_icmpY X hx (hb hby at_93) (by decide) (pc' := 104) rfl (show (1 : Int32) < (4 : Int32) from (by decide)) ?_
        refine own_iconst X hx (1 : Int32) (hb hby at_104) (pc' := 105) rfl rfl ?_
        refine own_goto X hx (hb hby at_105) (by decide) (pc' := 109) rfl ?_
        refine own_istore X hx (hb hby at_109) (pc' := 111) rfl (Ls' := #[.val (.int p0), .val (.int p1), .val (.int p2), .val (.int p3), .val (.int p4), .val (.int (1 : Int32)), .val (.int d0), .val (.int d1), .val (.int d2), .val (.int d3), .val (.ref sa), .val (.int (1 : Int32))]) rfl ?_
        refine own_aload X hx (hb hby at_111) (pc' := 113) rfl rfl rfl ?_
        refine own_callS X hx hZ [(.ref sa)] hown (own_w hw 30 rfl) (own_w hw 31 rfl) (own_w hw 32 rfl) (own_w hw 33 rfl) (by decide) (rm_chL1 l Z a0 hw [] sa sb cs d0 h7 n0 Z0 S_C hcs E_s C_s V_s _ A_s bd0 hall) eT (W := 0) (by decide) (by decide) (cells' := 4) (slots' := 8) rfl rfl (by decide) (by decide) (by rw [hml]; rfl) (lenOf own_pd_28Ljava2flang2fString3b29Z rfl) rfl (S := []) rfl (Nat.le_of_eq rfl) (hb hby at_113) (pc' := 116) rfl ?_
        intro v T h10 L lc X eT hq fN
        obtain ⟨zc, rfl, Nq, hqe, hB⟩ := hq
        have N := fN _ N Nq
        rw [hqe] at eT
        show own_W _ _ _ _ _ _ _ _ [(.int zc)]
        refine own_iload X hx (hb hby at_116) (pc' := 118) rfl rfl ?_
        refine own_icmpN X hx (hb hby at_118) (pc' := 121) rfl (show zc = (1 : Int32) from (hB.elim (fun t => t.1) (fun t => absurd ⟨⟨own_f9 hc59, trivial⟩, ⟨own_f10 hc59, trivial⟩⟩ t.2))) ?_
        refine own_iconst X hx (1 : Int32) (hb hby at_121) (pc' := 122) rfl rfl ?_
        refine own_goto X hx (hb hby at_122) (by decide) (pc' := 126) rfl ?_
        refine own_retIS X hx hlk hZ eT hh hS hk hEL H CR (t := .boolean) (w' := (.int (1 : Int32))) Bd.returns (hb hby at_126) rfl rfl (by simp) (by decide) (by decide) ?_
        rw [eT]
        exact ⟨rfl, N⟩
    · show own_W _ _ _ _ _ _ _ _ [(.ref sa)]
      refine own_astore X hx (hb hby at_46) (pc' := 48) rfl rfl (Ls' := #[.val (.int p0), .val (.int p1), .val (.int p2), .val (.int p3), .val (.int p4), .val (.int (1 : Int32)), .val (.int d0), .val (.int d1), .val (.int d2), .val (.int d3), .val (.ref sa), .unset]) rfl ?_
      refine own_iload X hx (hb hby at_48) (pc' := 50) rfl rfl ?_
      refine own_iconst X hx (1 : Int32) (hb hby at_50) (pc' := 51) rfl rfl ?_
      refine own_icmpN X hx (hb hby at_51) (pc' := 54) rfl (show ¬ ((1 : Int32) < (1 : Int32)) from (by decide)) ?_
      refine own_iload X hx (hb hby at_54) (pc' := 56) rfl rfl ?_
      refine own_callS X hx hZ [(.int d0)] hown (own_w hw 84 rfl) (own_w hw 85 rfl) (own_w hw 3 rfl) (own_w hw 86 rfl) (by decide) (rm_fits l Z a0 hw [] d0 h7 n0 Z0) eT (W := 0) (by decide) (by decide) (cells' := 4) (slots' := 8) rfl rfl (by decide) (by decide) (by rw [hml]; rfl) (lenOf own_pd_28C29Z rfl) rfl (S := []) rfl (Nat.le_of_eq rfl) (hb hby at_56) (pc' := 59) rfl ?_
      intro v T h11 L lc X eT hq fN
      obtain ⟨rfl, Nq, hqe⟩ := hq
      have N := fN _ N Nq
      rw [hqe] at eT
      show own_W _ _ _ _ _ _ _ _ [(.int (own_fit d0))]
      refine own_if X hx (hb hby at_59) (by decide) (pcY := 108) (pcN := 62) rfl rfl (fun (hc59 : (own_fit d0) = (0 : Int32)) => ?_) (fun (hc59 : ¬ ((own_fit d0) = (0 : Int32))) => ?_)
      · refine own_iconst X hx (0 : Int32) (hb hby at_108) (pc' := 109) rfl rfl ?_
        refine own_istore X hx (hb hby at_109) (pc' := 111) rfl (Ls' := #[.val (.int p0), .val (.int p1), .val (.int p2), .val (.int p3), .val (.int p4), .val (.int (1 : Int32)), .val (.int d0), .val (.int d1), .val (.int d2), .val (.int d3), .val (.ref sa), .val (.int (0 : Int32))]) rfl ?_
        refine own_aload X hx (hb hby at_111) (pc' := 113) rfl rfl rfl ?_
        refine own_callS X hx hZ [(.ref sa)] hown (own_w hw 30 rfl) (own_w hw 31 rfl) (own_w hw 32 rfl) (own_w hw 33 rfl) (by decide) (rm_chU1 l Z a0 hw [] sa sb cs fm d0 h7 n0 Z0 S_C hcs E_s C_s V_s S_A S_H S_L S_F hfm _ A_s bd0) eT (W := 0) (by decide) (by decide) (cells' := 4) (slots' := 8) rfl rfl (by decide) (by decide) (by rw [hml]; rfl) (lenOf own_pd_28Ljava2flang2fString3b29Z rfl) rfl (S := []) rfl (Nat.le_of_eq rfl) (hb hby at_113) (pc' := 116) rfl ?_
        intro v T h12 L lc X eT hq fN
        obtain ⟨zc, rfl, Nq, hqe, hB⟩ := hq
        have N := fN _ N Nq
        rw [hqe] at eT
        show own_W _ _ _ _ _ _ _ _ [(.int zc)]
        refine own_iload X hx (hb hby at_116) (pc' := 118) rfl rfl ?_
        refine own_icmpN X hx (hb hby at_118) (pc' := 121) rfl (show zc = (0 : Int32) from (hB.elim (fun t => (own_f0 hc59).elim (fun e => absurd e t.2.1.1) (fun e => absurd e t.2.2.1)) (fun t => t.1))) ?_
        refine own_iconst X hx (1 : Int32) (hb hby at_121) (pc' := 122) rfl rfl ?_
        refine own_goto X hx (hb hby at_122) (by decide) (pc' := 126) rfl ?_
        refine own_retIS X hx hlk hZ eT hh hS hk hEL H CR (t := .boolean) (w' := (.int (1 : Int32))) Bd.returns (hb hby at_126) rfl rfl (by simp) (by decide) (by decide) ?_
        rw [eT]
        exact ⟨rfl, N⟩
      · refine own_iload X hx (hb hby at_62) (pc' := 64) rfl rfl ?_
        refine own_iconst X hx (2 : Int32) (hb hby at_64) (pc' := 65) rfl rfl ?_
        refine own_icmpY X hx (hb hby at_65) (by decide) (pc' := 76) rfl (show (1 : Int32) < (2 : Int32) from (by decide)) ?_
        refine own_iload X hx (hb hby at_76) (pc' := 78) rfl rfl ?_
        refine own_iconst X hx (3 : Int32) (hb hby at_78) (pc' := 79) rfl rfl ?_
        refine own_icmpY X hx (hb hby at_79) (by decide) (pc' := 90) rfl (show (1 : Int32) < (3 : Int32) from (by decide)) ?_
        refine own_iload X hx (hb hby at_90) (pc' := 92) rfl rfl ?_
        refine own_iconst X hx (4 : Int32) (hb hby at_92) (pc' := 93) rfl rfl ?_
        refine own_icmpY X hx (hb hby at_93) (by decide) (pc' := 104) rfl (show (1 : Int32) < (4 : Int32) from (by decide)) ?_
        refine own_iconst X hx (1 : Int32) (hb hby at_104) (pc' := 105) rfl rfl ?_
        refine own_goto X hx (hb hby at_105) (by decide) (pc' := 109) rfl ?_
        refine own_istore X hx (hb hby at_109) (pc' := 111) rfl (Ls' := #[.val (.int p0), .val (.int p1), .val (.int p2), .val (.int p3), .val (.int p4), .val (.int (1 : Int32)), .val (.int d0), .val (.int d1), .val (.int d2), .val (.int d3), .val (.ref sa), .val (.int (1 : Int32))]) rfl ?_
        refine own_aload X hx (hb hby at_111) (pc' := 113) rfl rfl rfl ?_
        refine own_callS X hx hZ [(.ref sa)] hown (own_w hw 30 rfl) (own_w hw 31 rfl) (own_w hw 32 rfl) (own_w hw 33 rfl) (by decide) (rm_chU1 l Z a0 hw [] sa sb cs fm d0 h7 n0 Z0 S_C hcs E_s C_s V_s S_A S_H S_L S_F hfm _ A_s bd0) eT (W := 0) (by decide) (by decide) (cells' := 4) (slots' := 8) rfl rfl (by decide) (by decide) (by rw [hml]; rfl) (lenOf own_pd_28Ljava2flang2fString3b29Z rfl) rfl (S := []) rfl (Nat.le_of_eq rfl) (hb hby at_113) (pc' := 116) rfl ?_
        intro v T h13 L lc X eT hq fN
        obtain ⟨zc, rfl, Nq, hqe, hB⟩ := hq
        have N := fN _ N Nq
        rw [hqe] at eT
        show own_W _ _ _ _ _ _ _ _ [(.int zc)]
        refine own_iload X hx (hb hby at_116) (pc' := 118) rfl rfl ?_
        refine own_icmpN X hx (hb hby at_118) (pc' := 121) rfl (show zc = (1 : Int32) from (hB.elim (fun t => t.1) (fun t => absurd ⟨⟨own_f9 hc59, trivial⟩, ⟨own_f10 hc59, trivial⟩⟩ t.2))) ?_
        refine own_iconst X hx (1 : Int32) (hb hby at_121) (pc' := 122) rfl rfl ?_
        refine own_goto X hx (hb hby at_122) (by decide) (pc' := 126) rfl ?_
        refine own_retIS X hx hlk hZ eT hh hS hk hEL H CR (t := .boolean) (w' := (.int (1 : Int32))) Bd.returns (hb hby at_126) rfl rfl (by simp) (by decide) (by decide) ?_
        rw [eT]
        exact ⟨rfl, N⟩
  · rw [q]
    show own_W _ _ _ _ _ _ _ _ []
    refine own_iload X hx (hb hby at_33) (pc' := 35) rfl rfl ?_
    refine own_iload X hx (hb hby at_35) (pc' := 37) rfl rfl ?_
    refine own_iload X hx (hb hby at_37) (pc' := 39) rfl rfl ?_
    refine own_iload X hx (hb hby at_39) (pc' := 41) rfl rfl ?_
    refine own_iload X hx (hb hby at_41) (pc' := 43) rfl rfl ?_
    refine own_callSS X hx hZ [(.int (2 : Int32)), (.int d0), (.int d1), (.int d2), (.int d3)] hown (own_w hw 5 rfl) (own_w hw 6 rfl) (own_w hw 3 rfl) (own_w hw 7 rfl) (by decide) (rm_tx2 l Z a0 hw hEL [] cs d0 d1 d2 d3 h0 n0 Z0 S_C hcs S_A S_H S_L bd0 bd1 bd2 bd3) eT hS hk hEL H (W := 0) (by decide) (by decide) (cells' := 4) (slots' := 12) rfl rfl (by decide) (by decide) (by rw [hml]; rfl) (lenOf own_pd_28ICCCC29Ljava2flang2fString3b rfl) rfl (S := []) rfl (Nat.le_of_eq rfl) (hb hby at_43) (pc' := 46) rfl ?_
    intro v T h14 L lc vm0 k1 X eT hS hk hZ hown CQ hq fN
    obtain ⟨sa, sb, kb, rfl, Nq, Kq, E_s, V_s, hv⟩ := hq
    have N := fN _ N Nq
    have CR := CR.trans CQ
    have H := CQ.1
    have S_C := own_sta_keep S_C Kq ns0
    have S_A := own_sta_keep S_A Kq ns0
    have S_H := own_sta_keep S_H Kq ns0
    have S_L := own_sta_keep S_L Kq ns0
    have S_F := own_sta_keep S_F Kq ns0
    have Z0 := Nat.le_trans Z0 Kq.1
    rcases hv with ⟨C_s, hall, A_s⟩ | ⟨C_s, A_s⟩
    · show own_W _ _ _ _ _ _ _ _ [(.ref sa)]
      refine own_astore X hx (hb hby at_46) (pc' := 48) rfl rfl (Ls' := #[.val (.int p0), .val (.int p1), .val (.int p2), .val (.int p3), .val (.int p4), .val (.int (2 : Int32)), .val (.int d0), .val (.int d1), .val (.int d2), .val (.int d3), .val (.ref sa), .unset]) rfl ?_
      refine own_iload X hx (hb hby at_48) (pc' := 50) rfl rfl ?_
      refine own_iconst X hx (1 : Int32) (hb hby at_50) (pc' := 51) rfl rfl ?_
      refine own_icmpN X hx (hb hby at_51) (pc' := 54) rfl (show ¬ ((2 : Int32) < (1 : Int32)) from (by decide)) ?_
      refine own_iload X hx (hb hby at_54) (pc' := 56) rfl rfl ?_
      refine own_callS X hx hZ [(.int d0)] hown (own_w hw 84 rfl) (own_w hw 85 rfl) (own_w hw 3 rfl) (own_w hw 86 rfl) (by decide) (rm_fits l Z a0 hw [] d0 h14 n0 Z0) eT (W := 0) (by decide) (by decide) (cells' := 4) (slots' := 12) rfl rfl (by decide) (by decide) (by rw [hml]; rfl) (lenOf own_pd_28C29Z rfl) rfl (S := []) rfl (Nat.le_of_eq rfl) (hb hby at_56) (pc' := 59) rfl ?_
      intro v T h15 L lc X eT hq fN
      obtain ⟨rfl, Nq, hqe⟩ := hq
      have N := fN _ N Nq
      rw [hqe] at eT
      show own_W _ _ _ _ _ _ _ _ [(.int (own_fit d0))]
      refine own_if X hx (hb hby at_59) (by decide) (pcY := 108) (pcN := 62) rfl rfl (fun (hc59 : (own_fit d0) = (0 : Int32)) => ?_) (fun (hc59 : ¬ ((own_fit d0) = (0 : Int32))) => ?_)
      · refine own_iconst X hx (0 : Int32) (hb hby at_108) (pc' := 109) rfl rfl ?_
        refine own_istore X hx (hb hby at_109) (pc' := 111) rfl (Ls' := #[.val (.int p0), .val (.int p1), .val (.int p2), .val (.int p3), .val (.int p4), .val (.int (2 : Int32)), .val (.int d0), .val (.int d1), .val (.int d2), .val (.int d3), .val (.ref sa), .val (.int (0 : Int32))]) rfl ?_
        refine own_aload X hx (hb hby at_111) (pc' := 113) rfl rfl rfl ?_
        refine own_callS X hx hZ [(.ref sa)] hown (own_w hw 30 rfl) (own_w hw 31 rfl) (own_w hw 32 rfl) (own_w hw 33 rfl) (by decide) (rm_chL2 l Z a0 hw [] sa sb cs d0 d1 h14 n0 Z0 S_C hcs E_s C_s V_s _ A_s bd0 bd1 hall) eT (W := 0) (by decide) (by decide) (cells' := 4) (slots' := 12) rfl rfl (by decide) (by decide) (by rw [hml]; rfl) (lenOf own_pd_28Ljava2flang2fString3b29Z rfl) rfl (S := []) rfl (Nat.le_of_eq rfl) (hb hby at_113) (pc' := 116) rfl ?_
        intro v T h16 L lc X eT hq fN
        obtain ⟨zc, rfl, Nq, hqe, hB⟩ := hq
        have N := fN _ N Nq
        rw [hqe] at eT
        show own_W _ _ _ _ _ _ _ _ [(.int zc)]
        refine own_iload X hx (hb hby at_116) (pc' := 118) rfl rfl ?_
        refine own_icmpN X hx (hb hby at_118) (pc' := 121) rfl (show zc = (0 : Int32) from (hB.elim (fun t => (own_f0 hc59).elim (fun e => absurd e t.2.1.1) (fun e => absurd e t.2.2.1)) (fun t => t.1))) ?_
        refine own_iconst X hx (1 : Int32) (hb hby at_121) (pc' := 122) rfl rfl ?_
        refine own_goto X hx (hb hby at_122) (by decide) (pc' := 126) rfl ?_
        refine own_retIS X hx hlk hZ eT hh hS hk hEL H CR (t := .boolean) (w' := (.int (1 : Int32))) Bd.returns (hb hby at_126) rfl rfl (by simp) (by decide) (by decide) ?_
        rw [eT]
        exact ⟨rfl, N⟩
      · refine own_iload X hx (hb hby at_62) (pc' := 64) rfl rfl ?_
        refine own_iconst X hx (2 : Int32) (hb hby at_64) (pc' := 65) rfl rfl ?_
        refine own_icmpN X hx (hb hby at_65) (pc' := 68) rfl (show ¬ ((2 : Int32) < (2 : Int32)) from (by decide)) ?_
        refine own_iload X hx (hb hby at_68) (pc' := 70) rfl rfl ?_
        refine own_callS X hx hZ [(.int d1)] hown (own_w hw 84 rfl) (own_w hw 85 rfl) (own_w hw 3 rfl) (own_w hw 86 rfl) (by decide) (rm_fits l Z a0 hw [] d1 h14 n0 Z0) eT (W := 0) (by decide) (by decide) (cells' := 4) (slots' := 12) rfl rfl (by decide) (by decide) (by rw [hml]; rfl) (lenOf own_pd_28C29Z rfl) rfl (S := []) rfl (Nat.le_of_eq rfl) (hb hby at_70) (pc' := 73) rfl ?_
        intro v T h17 L lc X eT hq fN
        obtain ⟨rfl, Nq, hqe⟩ := hq
        have N := fN _ N Nq
        rw [hqe] at eT
        show own_W _ _ _ _ _ _ _ _ [(.int (own_fit d1))]
        refine own_if X hx (hb hby at_73) (by decide) (pcY := 108) (pcN := 76) rfl rfl (fun (hc73 : (own_fit d1) = (0 : Int32)) => ?_) (fun (hc73 : ¬ ((own_fit d1) = (0 : Int32))) => ?_)
        · refine own_iconst X hx (0 : Int32) (hb hby at_108) (pc' := 109) rfl rfl ?_
          refine own_istore X hx (hb hby at_109) (pc' := 111) rfl (Ls' := #[.val (.int p0), .val (.int p1), .val (.int p2), .val (.int p3), .val (.int p4), .val (.int (2 : Int32)), .val (.int d0), .val (.int d1), .val (.int d2), .val (.int d3), .val (.ref sa), .val (.int (0 : Int32))]) rfl ?_
          refine own_aload X hx (hb hby at_111) (pc' := 113) rfl rfl rfl ?_
          refine own_callS X hx hZ [(.ref sa)] hown (own_w hw 30 rfl) (own_w hw 31 rfl) (own_w hw 32 rfl) (own_w hw 33 rfl) (by decide) (rm_chL2 l Z a0 hw [] sa sb cs d0 d1 h14 n0 Z0 S_C hcs E_s C_s V_s _ A_s bd0 bd1 hall) eT (W := 0) (by decide) (by decide) (cells' := 4) (slots' := 12) rfl rfl (by decide) (by decide) (by rw [hml]; rfl) (lenOf own_pd_28Ljava2flang2fString3b29Z rfl) rfl (S := []) rfl (Nat.le_of_eq rfl) (hb hby at_113) (pc' := 116) rfl ?_
          intro v T h18 L lc X eT hq fN
          obtain ⟨zc, rfl, Nq, hqe, hB⟩ := hq
          have N := fN _ N Nq
          rw [hqe] at eT
          show own_W _ _ _ _ _ _ _ _ [(.int zc)]
          refine own_iload X hx (hb hby at_116) (pc' := 118) rfl rfl ?_
          refine own_icmpN X hx (hb hby at_118) (pc' := 121) rfl (show zc = (0 : Int32) from (hB.elim (fun t => (own_f0 hc73).elim (fun e => absurd e t.2.1.2.1) (fun e => absurd e t.2.2.2.1)) (fun t => t.1))) ?_
          refine own_iconst X hx (1 : Int32) (hb hby at_121) (pc' := 122) rfl rfl ?_
          refine own_goto X hx (hb hby at_122) (by decide) (pc' := 126) rfl ?_
          refine own_retIS X hx hlk hZ eT hh hS hk hEL H CR (t := .boolean) (w' := (.int (1 : Int32))) Bd.returns (hb hby at_126) rfl rfl (by simp) (by decide) (by decide) ?_
          rw [eT]
          exact ⟨rfl, N⟩
        · refine own_iload X hx (hb hby at_76) (pc' := 78) rfl rfl ?_
          refine own_iconst X hx (3 : Int32) (hb hby at_78) (pc' := 79) rfl rfl ?_
          refine own_icmpY X hx (hb hby at_79) (by decide) (pc' := 90) rfl (show (2 : Int32) < (3 : Int32) from (by decide)) ?_
          refine own_iload X hx (hb hby at_90) (pc' := 92) rfl rfl ?_
          refine own_iconst X hx (4 : Int32) (hb hby at_92) (pc' := 93) rfl rfl ?_
          refine own_icmpY X hx (hb hby at_93) (by decide) (pc' := 104) rfl (show (2 : Int32) < (4 : Int32) from (by decide)) ?_
          refine own_iconst X hx (1 : Int32) (hb hby at_104) (pc' := 105) rfl rfl ?_
          refine own_goto X hx (hb hby at_105) (by decide) (pc' := 109) rfl ?_
          refine own_istore X hx (hb hby at_109) (pc' := 111) rfl (Ls' := #[.val (.int p0), .val (.int p1), .val (.int p2), .val (.int p3), .val (.int p4), .val (.int (2 : Int32)), .val (.int d0), .val (.int d1), .val (.int d2), .val (.int d3), .val (.ref sa), .val (.int (1 : Int32))]) rfl ?_
          refine own_aload X hx (hb hby at_111) (pc' := 113) rfl rfl rfl ?_
          refine own_callS X hx hZ [(.ref sa)] hown (own_w hw 30 rfl) (own_w hw 31 rfl) (own_w hw 32 rfl) (own_w hw 33 rfl) (by decide) (rm_chL2 l Z a0 hw [] sa sb cs d0 d1 h14 n0 Z0 S_C hcs E_s C_s V_s _ A_s bd0 bd1 hall) eT (W := 0) (by decide) (by decide) (cells' := 4) (slots' := 12) rfl rfl (by decide) (by decide) (by rw [hml]; rfl) (lenOf own_pd_28Ljava2flang2fString3b29Z rfl) rfl (S := []) rfl (Nat.le_of_eq rfl) (hb hby at_113) (pc' := 116) rfl ?_
          intro v T h19 L lc X eT hq fN
          obtain ⟨zc, rfl, Nq, hqe, hB⟩ := hq
          have N := fN _ N Nq
          rw [hqe] at eT
          show own_W _ _ _ _ _ _ _ _ [(.int zc)]
          refine own_iload X hx (hb hby at_116) (pc' := 118) rfl rfl ?_
          refine own_icmpN X hx (hb hby at_118) (pc' := 121) rfl (show zc = (1 : Int32) from (hB.elim (fun t => t.1) (fun t => absurd ⟨⟨own_f9 hc59, own_f9 hc73, trivial⟩, ⟨own_f10 hc59, own_f10 hc73, trivial⟩⟩ t.2))) ?_
          refine own_iconst X hx (1 : Int32) (hb hby at_121) (pc' := 122) rfl rfl ?_
          refine own_goto X hx (hb hby at_122) (by decide) (pc' := 126) rfl ?_
          refine own_retIS X hx hlk hZ eT hh hS hk hEL H CR (t := .boolean) (w' := (.int (1 : Int32))) Bd.returns (hb hby at_126) rfl rfl (by simp) (by decide) (by decide) ?_
          rw [eT]
          exact ⟨rfl, N⟩
    · show own_W _ _ _ _ _ _ _ _ [(.ref sa)]
      refine own_astore X hx (hb hby at_46) (pc' := 48) rfl rfl (Ls' := #[.val (.int p0), .val (.int p1), .val (.int p2), .val (.int p3), .val (.int p4), .val (.int (2 : Int32)), .val (.int d0), .val (.int d1), .val (.int d2), .val (.int d3), .val (.ref sa), .unset]) rfl ?_
      refine own_iload X hx (hb hby at_48) (pc' := 50) rfl rfl ?_
      refine own_iconst X hx (1 : Int32) (hb hby at_50) (pc' := 51) rfl rfl ?_
      refine own_icmpN X hx (hb hby at_51) (pc' := 54) rfl (show ¬ ((2 : Int32) < (1 : Int32)) from (by decide)) ?_
      refine own_iload X hx (hb hby at_54) (pc' := 56) rfl rfl ?_
      refine own_callS X hx hZ [(.int d0)] hown (own_w hw 84 rfl) (own_w hw 85 rfl) (own_w hw 3 rfl) (own_w hw 86 rfl) (by decide) (rm_fits l Z a0 hw [] d0 h14 n0 Z0) eT (W := 0) (by decide) (by decide) (cells' := 4) (slots' := 12) rfl rfl (by decide) (by decide) (by rw [hml]; rfl) (lenOf own_pd_28C29Z rfl) rfl (S := []) rfl (Nat.le_of_eq rfl) (hb hby at_56) (pc' := 59) rfl ?_
      intro v T h20 L lc X eT hq fN
      obtain ⟨rfl, Nq, hqe⟩ := hq
      have N := fN _ N Nq
      rw [hqe] at eT
      show own_W _ _ _ _ _ _ _ _ [(.int (own_fit d0))]
      refine own_if X hx (hb hby at_59) (by decide) (pcY := 108) (pcN := 62) rfl rfl (fun (hc59 : (own_fit d0) = (0 : Int32)) => ?_) (fun (hc59 : ¬ ((own_fit d0) = (0 : Int32))) => ?_)
      · refine own_iconst X hx (0 : Int32) (hb hby at_108) (pc' := 109) rfl rfl ?_
        refine own_istore X hx (hb hby at_109) (pc' := 111) rfl (Ls' := #[.val (.int p0), .val (.int p1), .val (.int p2), .val (.int p3), .val (.int p4), .val (.int (2 : Int32)), .val (.int d0), .val (.int d1), .val (.int d2), .val (.int d3), .val (.ref sa), .val (.int (0 : Int32))]) rfl ?_
        refine own_aload X hx (hb hby at_111) (pc' := 113) rfl rfl rfl ?_
        refine own_callS X hx hZ [(.ref sa)] hown (own_w hw 30 rfl) (own_w hw 31 rfl) (own_w hw 32 rfl) (own_w hw 33 rfl) (by decide) (rm_chU2 l Z a0 hw [] sa sb cs fm d0 d1 h14 n0 Z0 S_C hcs E_s C_s V_s S_A S_H S_L S_F hfm _ A_s bd0 bd1) eT (W := 0) (by decide) (by decide) (cells' := 4) (slots' := 12) rfl rfl (by decide) (by decide) (by rw [hml]; rfl) (lenOf own_pd_28Ljava2flang2fString3b29Z rfl) rfl (S := []) rfl (Nat.le_of_eq rfl) (hb hby at_113) (pc' := 116) rfl ?_
        intro v T h21 L lc X eT hq fN
        obtain ⟨zc, rfl, Nq, hqe, hB⟩ := hq
        have N := fN _ N Nq
        rw [hqe] at eT
        show own_W _ _ _ _ _ _ _ _ [(.int zc)]
        refine own_iload X hx (hb hby at_116) (pc' := 118) rfl rfl ?_
        refine own_icmpN X hx (hb hby at_118) (pc' := 121) rfl (show zc = (0 : Int32) from (hB.elim (fun t => (own_f0 hc59).elim (fun e => absurd e t.2.1.1) (fun e => absurd e t.2.2.1)) (fun t => t.1))) ?_
        refine own_iconst X hx (1 : Int32) (hb hby at_121) (pc' := 122) rfl rfl ?_
        refine own_goto X hx (hb hby at_122) (by decide) (pc' := 126) rfl ?_
        refine own_retIS X hx hlk hZ eT hh hS hk hEL H CR (t := .boolean) (w' := (.int (1 : Int32))) Bd.returns (hb hby at_126) rfl rfl (by simp) (by decide) (by decide) ?_
        rw [eT]
        exact ⟨rfl, N⟩
      · refine own_iload X hx (hb hby at_62) (pc' := 64) rfl rfl ?_
        refine own_iconst X hx (2 : Int32) (hb hby at_64) (pc' := 65) rfl rfl ?_
        refine own_icmpN X hx (hb hby at_65) (pc' := 68) rfl (show ¬ ((2 : Int32) < (2 : Int32)) from (by decide)) ?_
        refine own_iload X hx (hb hby at_68) (pc' := 70) rfl rfl ?_
        refine own_callS X hx hZ [(.int d1)] hown (own_w hw 84 rfl) (own_w hw 85 rfl) (own_w hw 3 rfl) (own_w hw 86 rfl) (by decide) (rm_fits l Z a0 hw [] d1 h14 n0 Z0) eT (W := 0) (by decide) (by decide) (cells' := 4) (slots' := 12) rfl rfl (by decide) (by decide) (by rw [hml]; rfl) (lenOf own_pd_28C29Z rfl) rfl (S := []) rfl (Nat.le_of_eq rfl) (hb hby at_70) (pc' := 73) rfl ?_
        intro v T h22 L lc X eT hq fN
        obtain ⟨rfl, Nq, hqe⟩ := hq
        have N := fN _ N Nq
        rw [hqe] at eT
        show own_W _ _ _ _ _ _ _ _ [(.int (own_fit d1))]
        refine own_if X hx (hb hby at_73) (by decide) (pcY := 108) (pcN := 76) rfl rfl (fun (hc73 : (own_fit d1) = (0 : Int32)) => ?_) (fun (hc73 : ¬ ((own_fit d1) = (0 : Int32))) => ?_)
        · refine own_iconst X hx (0 : Int32) (hb hby at_108) (pc' := 109) rfl rfl ?_
          refine own_istore X hx (hb hby at_109) (pc' := 111) rfl (Ls' := #[.val (.int p0), .val (.int p1), .val (.int p2), .val (.int p3), .val (.int p4), .val (.int (2 : Int32)), .val (.int d0), .val (.int d1), .val (.int d2), .val (.int d3), .val (.ref sa), .val (.int (0 : Int32))]) rfl ?_
          refine own_aload X hx (hb hby at_111) (pc' := 113) rfl rfl rfl ?_
          refine own_callS X hx hZ [(.ref sa)] hown (own_w hw 30 rfl) (own_w hw 31 rfl) (own_w hw 32 rfl) (own_w hw 33 rfl) (by decide) (rm_chU2 l Z a0 hw [] sa sb cs fm d0 d1 h14 n0 Z0 S_C hcs E_s C_s V_s S_A S_H S_L S_F hfm _ A_s bd0 bd1) eT (W := 0) (by decide) (by decide) (cells' := 4) (slots' := 12) rfl rfl (by decide) (by decide) (by rw [hml]; rfl) (lenOf own_pd_28Ljava2flang2fString3b29Z rfl) rfl (S := []) rfl (Nat.le_of_eq rfl) (hb hby at_113) (pc' := 116) rfl ?_
          intro v T h23 L lc X eT hq fN
          obtain ⟨zc, rfl, Nq, hqe, hB⟩ := hq
          have N := fN _ N Nq
          rw [hqe] at eT
          show own_W _ _ _ _ _ _ _ _ [(.int zc)]
          refine own_iload X hx (hb hby at_116) (pc' := 118) rfl rfl ?_
          refine own_icmpN X hx (hb hby at_118) (pc' := 121) rfl (show zc = (0 : Int32) from (hB.elim (fun t => (own_f0 hc73).elim (fun e => absurd e t.2.1.2.1) (fun e => absurd e t.2.2.2.1)) (fun t => t.1))) ?_
          refine own_iconst X hx (1 : Int32) (hb hby at_121) (pc' := 122) rfl rfl ?_
          refine own_goto X hx (hb hby at_122) (by decide) (pc' := 126) rfl ?_
          refine own_retIS X hx hlk hZ eT hh hS hk hEL H CR (t := .boolean) (w' := (.int (1 : Int32))) Bd.returns (hb hby at_126) rfl rfl (by simp) (by decide) (by decide) ?_
          rw [eT]
          exact ⟨rfl, N⟩
        · refine own_iload X hx (hb hby at_76) (pc' := 78) rfl rfl ?_
          refine own_iconst X hx (3 : Int32) (hb hby at_78) (pc' := 79) rfl rfl ?_
          refine own_icmpY X hx (hb hby at_79) (by decide) (pc' := 90) rfl (show (2 : Int32) < (3 : Int32) from (by decide)) ?_
          refine own_iload X hx (hb hby at_90) (pc' := 92) rfl rfl ?_
          refine own_iconst X hx (4 : Int32) (hb hby at_92) (pc' := 93) rfl rfl ?_
          refine own_icmpY X hx (hb hby at_93) (by decide) (pc' := 104) rfl (show (2 : Int32) < (4 : Int32) from (by decide)) ?_
          refine own_iconst X hx (1 : Int32) (hb hby at_104) (pc' := 105) rfl rfl ?_
          refine own_goto X hx (hb hby at_105) (by decide) (pc' := 109) rfl ?_
          refine own_istore X hx (hb hby at_109) (pc' := 111) rfl (Ls' := #[.val (.int p0), .val (.int p1), .val (.int p2), .val (.int p3), .val (.int p4), .val (.int (2 : Int32)), .val (.int d0), .val (.int d1), .val (.int d2), .val (.int d3), .val (.ref sa), .val (.int (1 : Int32))]) rfl ?_
          refine own_aload X hx (hb hby at_111) (pc' := 113) rfl rfl rfl ?_
          refine own_callS X hx hZ [(.ref sa)] hown (own_w hw 30 rfl) (own_w hw 31 rfl) (own_w hw 32 rfl) (own_w hw 33 rfl) (by decide) (rm_chU2 l Z a0 hw [] sa sb cs fm d0 d1 h14 n0 Z0 S_C hcs E_s C_s V_s S_A S_H S_L S_F hfm _ A_s bd0 bd1) eT (W := 0) (by decide) (by decide) (cells' := 4) (slots' := 12) rfl rfl (by decide) (by decide) (by rw [hml]; rfl) (lenOf own_pd_28Ljava2flang2fString3b29Z rfl) rfl (S := []) rfl (Nat.le_of_eq rfl) (hb hby at_113) (pc' := 116) rfl ?_
          intro v T h24 L lc X eT hq fN
          obtain ⟨zc, rfl, Nq, hqe, hB⟩ := hq
          have N := fN _ N Nq
          rw [hqe] at eT
          show own_W _ _ _ _ _ _ _ _ [(.int zc)]
          refine own_iload X hx (hb hby at_116) (pc' := 118) rfl rfl ?_
          refine own_icmpN X hx (hb hby at_118) (pc' := 121) rfl (show zc = (1 : Int32) from (hB.elim (fun t => t.1) (fun t => absurd ⟨⟨own_f9 hc59, own_f9 hc73, trivial⟩, ⟨own_f10 hc59, own_f10 hc73, trivial⟩⟩ t.2))) ?_
          refine own_iconst X hx (1 : Int32) (hb hby at_121) (pc' := 122) rfl rfl ?_
          refine own_goto X hx (hb hby at_122) (by decide) (pc' := 126) rfl ?_
          refine own_retIS X hx hlk hZ eT hh hS hk hEL H CR (t := .boolean) (w' := (.int (1 : Int32))) Bd.returns (hb hby at_126) rfl rfl (by simp) (by decide) (by decide) ?_
          rw [eT]
          exact ⟨rfl, N⟩
  · rw [q]
    show own_W _ _ _ _ _ _ _ _ []
    refine own_iload X hx (hb hby at_33) (pc' := 35) rfl rfl ?_
    refine own_iload X hx (hb hby at_35) (pc' := 37) rfl rfl ?_
    refine own_iload X hx (hb hby at_37) (pc' := 39) rfl rfl ?_
    refine own_iload X hx (hb hby at_39) (pc' := 41) rfl rfl ?_
    refine own_iload X hx (hb hby at_41) (pc' := 43) rfl rfl ?_
    refine own_callSS X hx hZ [(.int (3 : Int32)), (.int d0), (.int d1), (.int d2), (.int d3)] hown (own_w hw 5 rfl) (own_w hw 6 rfl) (own_w hw 3 rfl) (own_w hw 7 rfl) (by decide) (rm_tx3 l Z a0 hw hEL [] cs d0 d1 d2 d3 h0 n0 Z0 S_C hcs S_A S_H S_L bd0 bd1 bd2 bd3) eT hS hk hEL H (W := 0) (by decide) (by decide) (cells' := 4) (slots' := 16) rfl rfl (by decide) (by decide) (by rw [hml]; rfl) (lenOf own_pd_28ICCCC29Ljava2flang2fString3b rfl) rfl (S := []) rfl (Nat.le_of_eq rfl) (hb hby at_43) (pc' := 46) rfl ?_
    intro v T h25 L lc vm0 k1 X eT hS hk hZ hown CQ hq fN
    obtain ⟨sa, sb, kb, rfl, Nq, Kq, E_s, V_s, hv⟩ := hq
    have N := fN _ N Nq
    have CR := CR.trans CQ
    have H := CQ.1
    have S_C := own_sta_keep S_C Kq ns0
    have S_A := own_sta_keep S_A Kq ns0
    have S_H := own_sta_keep S_H Kq ns0
    have S_L := own_sta_keep S_L Kq ns0
    have S_F := own_sta_keep S_F Kq ns0
    have Z0 := Nat.le_trans Z0 Kq.1
    rcases hv with ⟨C_s, hall, A_s⟩ | ⟨C_s, A_s⟩
    · show own_W _ _ _ _ _ _ _ _ [(.ref sa)]
      refine own_astore X hx (hb hby at_46) (pc' := 48) rfl rfl (Ls' := #[.val (.int p0), .val (.int p1), .val (.int p2), .val (.int p3), .val (.int p4), .val (.int (3 : Int32)), .val (.int d0), .val (.int d1), .val (.int d2), .val (.int d3), .val (.ref sa), .unset]) rfl ?_
      refine own_iload X hx (hb hby at_48) (pc' := 50) rfl rfl ?_
      refine own_iconst X hx (1 : Int32) (hb hby at_50) (pc' := 51) rfl rfl ?_
      refine own_icmpN X hx (hb hby at_51) (pc' := 54) rfl (show ¬ ((3 : Int32) < (1 : Int32)) from (by decide)) ?_
      refine own_iload X hx (hb hby at_54) (pc' := 56) rfl rfl ?_
      refine own_callS X hx hZ [(.int d0)] hown (own_w hw 84 rfl) (own_w hw 85 rfl) (own_w hw 3 rfl) (own_w hw 86 rfl) (by decide) (rm_fits l Z a0 hw [] d0 h25 n0 Z0) eT (W := 0) (by decide) (by decide) (cells' := 4) (slots' := 16) rfl rfl (by decide) (by decide) (by rw [hml]; rfl) (lenOf own_pd_28C29Z rfl) rfl (S := []) rfl (Nat.le_of_eq rfl) (hb hby at_56) (pc' := 59) rfl ?_
      intro v T h26 L lc X eT hq fN
      obtain ⟨rfl, Nq, hqe⟩ := hq
      have N := fN _ N Nq
      rw [hqe] at eT
      show own_W _ _ _ _ _ _ _ _ [(.int (own_fit d0))]
      refine own_if X hx (hb hby at_59) (by decide) (pcY := 108) (pcN := 62) rfl rfl (fun (hc59 : (own_fit d0) = (0 : Int32)) => ?_) (fun (hc59 : ¬ ((own_fit d0) = (0 : Int32))) => ?_)
      · refine own_iconst X hx (0 : Int32) (hb hby at_108) (pc' := 109) rfl rfl ?_
        refine own_istore X hx (hb hby at_109) (pc' := 111) rfl (Ls' := #[.val (.int p0), .val (.int p1), .val (.int p2), .val (.int p3), .val (.int p4), .val (.int (3 : Int32)), .val (.int d0), .val (.int d1), .val (.int d2), .val (.int d3), .val (.ref sa), .val (.int (0 : Int32))]) rfl ?_
        refine own_aload X hx (hb hby at_111) (pc' := 113) rfl rfl rfl ?_
        refine own_callS X hx hZ [(.ref sa)] hown (own_w hw 30 rfl) (own_w hw 31 rfl) (own_w hw 32 rfl) (own_w hw 33 rfl) (by decide) (rm_chL3 l Z a0 hw [] sa sb cs d0 d1 d2 h25 n0 Z0 S_C hcs E_s C_s V_s _ A_s bd0 bd1 bd2 hall) eT (W := 0) (by decide) (by decide) (cells' := 4) (slots' := 16) rfl rfl (by decide) (by decide) (by rw [hml]; rfl) (lenOf own_pd_28Ljava2flang2fString3b29Z rfl) rfl (S := []) rfl (Nat.le_of_eq rfl) (hb hby at_113) (pc' := 116) rfl ?_
        intro v T h27 L lc X eT hq fN
        obtain ⟨zc, rfl, Nq, hqe, hB⟩ := hq
        have N := fN _ N Nq
        rw [hqe] at eT
        show own_W _ _ _ _ _ _ _ _ [(.int zc)]
        refine own_iload X hx (hb hby at_116) (pc' := 118) rfl rfl ?_
        refine own_icmpN X hx (hb hby at_118) (pc' := 121) rfl (show zc = (0 : Int32) from (hB.elim (fun t => (own_f0 hc59).elim (fun e => absurd e t.2.1.1) (fun e => absurd e t.2.2.1)) (fun t => t.1))) ?_
        refine own_iconst X hx (1 : Int32) (hb hby at_121) (pc' := 122) rfl rfl ?_
        refine own_goto X hx (hb hby at_122) (by decide) (pc' := 126) rfl ?_
        refine own_retIS X hx hlk hZ eT hh hS hk hEL H CR (t := .boolean) (w' := (.int (1 : Int32))) Bd.returns (hb hby at_126) rfl rfl (by simp) (by decide) (by decide) ?_
        rw [eT]
        exact ⟨rfl, N⟩
      · refine own_iload X hx (hb hby at_62) (pc' := 64) rfl rfl ?_
        refine own_iconst X hx (2 : Int32) (hb hby at_64) (pc' := 65) rfl rfl ?_
        refine own_icmpN X hx (hb hby at_65) (pc' := 68) rfl (show ¬ ((3 : Int32) < (2 : Int32)) from (by decide)) ?_
        refine own_iload X hx (hb hby at_68) (pc' := 70) rfl rfl ?_
        refine own_callS X hx hZ [(.int d1)] hown (own_w hw 84 rfl) (own_w hw 85 rfl) (own_w hw 3 rfl) (own_w hw 86 rfl) (by decide) (rm_fits l Z a0 hw [] d1 h25 n0 Z0) eT (W := 0) (by decide) (by decide) (cells' := 4) (slots' := 16) rfl rfl (by decide) (by decide) (by rw [hml]; rfl) (lenOf own_pd_28C29Z rfl) rfl (S := []) rfl (Nat.le_of_eq rfl) (hb hby at_70) (pc' := 73) rfl ?_
        intro v T h28 L lc X eT hq fN
        obtain ⟨rfl, Nq, hqe⟩ := hq
        have N := fN _ N Nq
        rw [hqe] at eT
        show own_W _ _ _ _ _ _ _ _ [(.int (own_fit d1))]
        refine own_if X hx (hb hby at_73) (by decide) (pcY := 108) (pcN := 76) rfl rfl (fun (hc73 : (own_fit d1) = (0 : Int32)) => ?_) (fun (hc73 : ¬ ((own_fit d1) = (0 : Int32))) => ?_)
        · refine own_iconst X hx (0 : Int32) (hb hby at_108) (pc' := 109) rfl rfl ?_
          refine own_istore X hx (hb hby at_109) (pc' := 111) rfl (Ls' := #[.val (.int p0), .val (.int p1), .val (.int p2), .val (.int p3), .val (.int p4), .val (.int (3 : Int32)), .val (.int d0), .val (.int d1), .val (.int d2), .val (.int d3), .val (.ref sa), .val (.int (0 : Int32))]) rfl ?_
          refine own_aload X hx (hb hby at_111) (pc' := 113) rfl rfl rfl ?_
          refine own_callS X hx hZ [(.ref sa)] hown (own_w hw 30 rfl) (own_w hw 31 rfl) (own_w hw 32 rfl) (own_w hw 33 rfl) (by decide) (rm_chL3 l Z a0 hw [] sa sb cs d0 d1 d2 h25 n0 Z0 S_C hcs E_s C_s V_s _ A_s bd0 bd1 bd2 hall) eT (W := 0) (by decide) (by decide) (cells' := 4) (slots' := 16) rfl rfl (by decide) (by decide) (by rw [hml]; rfl) (lenOf own_pd_28Ljava2flang2fString3b29Z rfl) rfl (S := []) rfl (Nat.le_of_eq rfl) (hb hby at_113) (pc' := 116) rfl ?_
          intro v T h29 L lc X eT hq fN
          obtain ⟨zc, rfl, Nq, hqe, hB⟩ := hq
          have N := fN _ N Nq
          rw [hqe] at eT
          show own_W _ _ _ _ _ _ _ _ [(.int zc)]
          refine own_iload X hx (hb hby at_116) (pc' := 118) rfl rfl ?_
          refine own_icmpN X hx (hb hby at_118) (pc' := 121) rfl (show zc = (0 : Int32) from (hB.elim (fun t => (own_f0 hc73).elim (fun e => absurd e t.2.1.2.1) (fun e => absurd e t.2.2.2.1)) (fun t => t.1))) ?_
          refine own_iconst X hx (1 : Int32) (hb hby at_121) (pc' := 122) rfl rfl ?_
          refine own_goto X hx (hb hby at_122) (by decide) (pc' := 126) rfl ?_
          refine own_retIS X hx hlk hZ eT hh hS hk hEL H CR (t := .boolean) (w' := (.int (1 : Int32))) Bd.returns (hb hby at_126) rfl rfl (by simp) (by decide) (by decide) ?_
          rw [eT]
          exact ⟨rfl, N⟩
        · refine own_iload X hx (hb hby at_76) (pc' := 78) rfl rfl ?_
          refine own_iconst X hx (3 : Int32) (hb hby at_78) (pc' := 79) rfl rfl ?_
          refine own_icmpN X hx (hb hby at_79) (pc' := 82) rfl (show ¬ ((3 : Int32) < (3 : Int32)) from (by decide)) ?_
          refine own_iload X hx (hb hby at_82) (pc' := 84) rfl rfl ?_
          refine own_callS X hx hZ [(.int d2)] hown (own_w hw 84 rfl) (own_w hw 85 rfl) (own_w hw 3 rfl) (own_w hw 86 rfl) (by decide) (rm_fits l Z a0 hw [] d2 h25 n0 Z0) eT (W := 0) (by decide) (by decide) (cells' := 4) (slots' := 16) rfl rfl (by decide) (by decide) (by rw [hml]; rfl) (lenOf own_pd_28C29Z rfl) rfl (S := []) rfl (Nat.le_of_eq rfl) (hb hby at_84) (pc' := 87) rfl ?_
          intro v T h30 L lc X eT hq fN
          obtain ⟨rfl, Nq, hqe⟩ := hq
          have N := fN _ N Nq
          rw [hqe] at eT
          show own_W _ _ _ _ _ _ _ _ [(.int (own_fit d2))]
          refine own_if X hx (hb hby at_87) (by decide) (pcY := 108) (pcN := 90) rfl rfl (fun (hc87 : (own_fit d2) = (0 : Int32)) => ?_) (fun (hc87 : ¬ ((own_fit d2) = (0 : Int32))) => ?_)
          · refine own_iconst X hx (0 : Int32) (hb hby at_108) (pc' := 109) rfl rfl ?_
            refine own_istore X hx (hb hby at_109) (pc' := 111) rfl (Ls' := #[.val (.int p0), .val (.int p1), .val (.int p2), .val (.int p3), .val (.int p4), .val (.int (3 : Int32)), .val (.int d0), .val (.int d1), .val (.int d2), .val (.int d3), .val (.ref sa), .val (.int (0 : Int32))]) rfl ?_
            refine own_aload X hx (hb hby at_111) (pc' := 113) rfl rfl rfl ?_
            refine own_callS X hx hZ [(.ref sa)] hown (own_w hw 30 rfl) (own_w hw 31 rfl) (own_w hw 32 rfl) (own_w hw 33 rfl) (by decide) (rm_chL3 l Z a0 hw [] sa sb cs d0 d1 d2 h25 n0 Z0 S_C hcs E_s C_s V_s _ A_s bd0 bd1 bd2 hall) eT (W := 0) (by decide) (by decide) (cells' := 4) (slots' := 16) rfl rfl (by decide) (by decide) (by rw [hml]; rfl) (lenOf own_pd_28Ljava2flang2fString3b29Z rfl) rfl (S := []) rfl (Nat.le_of_eq rfl) (hb hby at_113) (pc' := 116) rfl ?_
            intro v T h31 L lc X eT hq fN
            obtain ⟨zc, rfl, Nq, hqe, hB⟩ := hq
            have N := fN _ N Nq
            rw [hqe] at eT
            show own_W _ _ _ _ _ _ _ _ [(.int zc)]
            refine own_iload X hx (hb hby at_116) (pc' := 118) rfl rfl ?_
            refine own_icmpN X hx (hb hby at_118) (pc' := 121) rfl (show zc = (0 : Int32) from (hB.elim (fun t => (own_f0 hc87).elim (fun e => absurd e t.2.1.2.2.1) (fun e => absurd e t.2.2.2.2.1)) (fun t => t.1))) ?_
            refine own_iconst X hx (1 : Int32) (hb hby at_121) (pc' := 122) rfl rfl ?_
            refine own_goto X hx (hb hby at_122) (by decide) (pc' := 126) rfl ?_
            refine own_retIS X hx hlk hZ eT hh hS hk hEL H CR (t := .boolean) (w' := (.int (1 : Int32))) Bd.returns (hb hby at_126) rfl rfl (by simp) (by decide) (by decide) ?_
            rw [eT]
            exact ⟨rfl, N⟩
          · refine own_iload X hx (hb hby at_90) (pc' := 92) rfl rfl ?_
            refine own_iconst X hx (4 : Int32) (hb hby at_92) (pc' := 93) rfl rfl ?_
            refine own_icmpY X hx (hb hby at_93) (by decide) (pc' := 104) rfl (show (3 : Int32) < (4 : Int32) from (by decide)) ?_
            refine own_iconst X hx (1 : Int32) (hb hby at_104) (pc' := 105) rfl rfl ?_
            refine own_goto X hx (hb hby at_105) (by decide) (pc' := 109) rfl ?_
            refine own_istore X hx (hb hby at_109) (pc' := 111) rfl (Ls' := #[.val (.int p0), .val (.int p1), .val (.int p2), .val (.int p3), .val (.int p4), .val (.int (3 : Int32)), .val (.int d0), .val (.int d1), .val (.int d2), .val (.int d3), .val (.ref sa), .val (.int (1 : Int32))]) rfl ?_
            refine own_aload X hx (hb hby at_111) (pc' := 113) rfl rfl rfl ?_
            refine own_callS X hx hZ [(.ref sa)] hown (own_w hw 30 rfl) (own_w hw 31 rfl) (own_w hw 32 rfl) (own_w hw 33 rfl) (by decide) (rm_chL3 l Z a0 hw [] sa sb cs d0 d1 d2 h25 n0 Z0 S_C hcs E_s C_s V_s _ A_s bd0 bd1 bd2 hall) eT (W := 0) (by decide) (by decide) (cells' := 4) (slots' := 16) rfl rfl (by decide) (by decide) (by rw [hml]; rfl) (lenOf own_pd_28Ljava2flang2fString3b29Z rfl) rfl (S := []) rfl (Nat.le_of_eq rfl) (hb hby at_113) (pc' := 116) rfl ?_
            intro v T h32 L lc X eT hq fN
            obtain ⟨zc, rfl, Nq, hqe, hB⟩ := hq
            have N := fN _ N Nq
            rw [hqe] at eT
            show own_W _ _ _ _ _ _ _ _ [(.int zc)]
            refine own_iload X hx (hb hby at_116) (pc' := 118) rfl rfl ?_
            refine own_icmpN X hx (hb hby at_118) (pc' := 121) rfl (show zc = (1 : Int32) from (hB.elim (fun t => t.1) (fun t => absurd ⟨⟨own_f9 hc59, own_f9 hc73, own_f9 hc87, trivial⟩, ⟨own_f10 hc59, own_f10 hc73, own_f10 hc87, trivial⟩⟩ t.2))) ?_
            refine own_iconst X hx (1 : Int32) (hb hby at_121) (pc' := 122) rfl rfl ?_
            refine own_goto X hx (hb hby at_122) (by decide) (pc' := 126) rfl ?_
            refine own_retIS X hx hlk hZ eT hh hS hk hEL H CR (t := .boolean) (w' := (.int (1 : Int32))) Bd.returns (hb hby at_126) rfl rfl (by simp) (by decide) (by decide) ?_
            rw [eT]
            exact ⟨rfl, N⟩
    · show own_W _ _ _ _ _ _ _ _ [(.ref sa)]
      refine own_astore X hx (hb hby at_46) (pc' := 48) rfl rfl (Ls' := #[.val (.int p0), .val (.int p1), .val (.int p2), .val (.int p3), .val (.int p4), .val (.int (3 : Int32)), .val (.int d0), .val (.int d1), .val (.int d2), .val (.int d3), .val (.ref sa), .unset]) rfl ?_
      refine own_iload X hx (hb hby at_48) (pc' := 50) rfl rfl ?_
      refine own_iconst X hx (1 : Int32) (hb hby at_50) (pc' := 51) rfl rfl ?_
      refine own_icmpN X hx (hb hby at_51) (pc' := 54) rfl (show ¬ ((3 : Int32) < (1 : Int32)) from (by decide)) ?_
      refine own_iload X hx (hb hby at_54) (pc' := 56) rfl rfl ?_
      refine own_callS X hx hZ [(.int d0)] hown (own_w hw 84 rfl) (own_w hw 85 rfl) (own_w hw 3 rfl) (own_w hw 86 rfl) (by decide) (rm_fits l Z a0 hw [] d0 h25 n0 Z0) eT (W := 0) (by decide) (by decide) (cells' := 4) (slots' := 16) rfl rfl (by decide) (by decide) (by rw [hml]; rfl) (lenOf own_pd_28C29Z rfl) rfl (S := []) rfl (Nat.le_of_eq rfl) (hb hby at_56) (pc' := 59) rfl ?_
      intro v T h33 L lc X eT hq fN
      obtain ⟨rfl, Nq, hqe⟩ := hq
      have N := fN _ N Nq
      rw [hqe] at eT
      show own_W _ _ _ _ _ _ _ _ [(.int (own_fit d0))]
      refine own_if X hx (hb hby at_59) (by decide) (pcY := 108) (pcN := 62) rfl rfl (fun (hc59 : (own_fit d0) = (0 : Int32)) => ?_) (fun (hc59 : ¬ ((own_fit d0) = (0 : Int32))) => ?_)
      · refine own_iconst X hx (0 : Int32) (hb hby at_108) (pc' := 109) rfl rfl ?_
        refine own_istore X hx (hb hby at_109) (pc' := 111) rfl (Ls' := #[.val (.int p0), .val (.int p1), .val (.int p2), .val (.int p3), .val (.int p4), .val (.int (3 : Int32)), .val (.int d0), .val (.int d1), .val (.int d2), .val (.int d3), .val (.ref sa), .val (.int (0 : Int32))]) rfl ?_
        refine own_aload X hx (hb hby at_111) (pc' := 113) rfl rfl rfl ?_
        refine own_callS X hx hZ [(.ref sa)] hown (own_w hw 30 rfl) (own_w hw 31 rfl) (own_w hw 32 rfl) (own_w hw 33 rfl) (by decide) (rm_chU3 l Z a0 hw [] sa sb cs fm d0 d1 d2 h25 n0 Z0 S_C hcs E_s C_s V_s S_A S_H S_L S_F hfm _ A_s bd0 bd1 bd2) eT (W := 0) (by decide) (by decide) (cells' := 4) (slots' := 16) rfl rfl (by decide) (by decide) (by rw [hml]; rfl) (lenOf own_pd_28Ljava2flang2fString3b29Z rfl) rfl (S := []) rfl (Nat.le_of_eq rfl) (hb hby at_113) (pc' := 116) rfl ?_
        intro v T h34 L lc X eT hq fN
        obtain ⟨zc, rfl, Nq, hqe, hB⟩ := hq
        have N := fN _ N Nq
        rw [hqe] at eT
        show own_W _ _ _ _ _ _ _ _ [(.int zc)]
        refine own_iload X hx (hb hby at_116) (pc' := 118) rfl rfl ?_
        refine own_icmpN X hx (hb hby at_118) (pc' := 121) rfl (show zc = (0 : Int32) from (hB.elim (fun t => (own_f0 hc59).elim (fun e => absurd e t.2.1.1) (fun e => absurd e t.2.2.1)) (fun t => t.1))) ?_
        refine own_iconst X hx (1 : Int32) (hb hby at_121) (pc' := 122) rfl rfl ?_
        refine own_goto X hx (hb hby at_122) (by decide) (pc' := 126) rfl ?_
        refine own_retIS X hx hlk hZ eT hh hS hk hEL H CR (t := .boolean) (w' := (.int (1 : Int32))) Bd.returns (hb hby at_126) rfl rfl (by simp) (by decide) (by decide) ?_
        rw [eT]
        exact ⟨rfl, N⟩
      · refine own_iload X hx (hb hby at_62) (pc' := 64) rfl rfl ?_
        refine own_iconst X hx (2 : Int32) (hb hby at_64) (pc' := 65) rfl rfl ?_
        refine own_icmpN X hx (hb hby at_65) (pc' := 68) rfl (show ¬ ((3 : Int32) < (2 : Int32)) from (by decide)) ?_
        refine own_iload X hx (hb hby at_68) (pc' := 70) rfl rfl ?_
        refine own_callS X hx hZ [(.int d1)] hown (own_w hw 84 rfl) (own_w hw 85 rfl) (own_w hw 3 rfl) (own_w hw 86 rfl) (by decide) (rm_fits l Z a0 hw [] d1 h25 n0 Z0) eT (W := 0) (by decide) (by decide) (cells' := 4) (slots' := 16) rfl rfl (by decide) (by decide) (by rw [hml]; rfl) (lenOf own_pd_28C29Z rfl) rfl (S := []) rfl (Nat.le_of_eq rfl) (hb hby at_70) (pc' := 73) rfl ?_
        intro v T h35 L lc X eT hq fN
        obtain ⟨rfl, Nq, hqe⟩ := hq
        have N := fN _ N Nq
        rw [hqe] at eT
        show own_W _ _ _ _ _ _ _ _ [(.int (own_fit d1))]
        refine own_if X hx (hb hby at_73) (by decide) (pcY := 108) (pcN := 76) rfl rfl (fun (hc73 : (own_fit d1) = (0 : Int32)) => ?_) (fun (hc73 : ¬ ((own_fit d1) = (0 : Int32))) => ?_)
        · refine own_iconst X hx (0 : Int32) (hb hby at_108) (pc' := 109) rfl rfl ?_
          refine own_istore X hx (hb hby at_109) (pc' := 111) rfl (Ls' := #[.val (.int p0), .val (.int p1), .val (.int p2), .val (.int p3), .val (.int p4), .val (.int (3 : Int32)), .val (.int d0), .val (.int d1), .val (.int d2), .val (.int d3), .val (.ref sa), .val (.int (0 : Int32))]) rfl ?_
          refine own_aload X hx (hb hby at_111) (pc' := 113) rfl rfl rfl ?_
          refine own_callS X hx hZ [(.ref sa)] hown (own_w hw 30 rfl) (own_w hw 31 rfl) (own_w hw 32 rfl) (own_w hw 33 rfl) (by decide) (rm_chU3 l Z a0 hw [] sa sb cs fm d0 d1 d2 h25 n0 Z0 S_C hcs E_s C_s V_s S_A S_H S_L S_F hfm _ A_s bd0 bd1 bd2) eT (W := 0) (by decide) (by decide) (cells' := 4) (slots' := 16) rfl rfl (by decide) (by decide) (by rw [hml]; rfl) (lenOf own_pd_28Ljava2flang2fString3b29Z rfl) rfl (S := []) rfl (Nat.le_of_eq rfl) (hb hby at_113) (pc' := 116) rfl ?_
          intro v T h36 L lc X eT hq fN
          obtain ⟨zc, rfl, Nq, hqe, hB⟩ := hq
          have N := fN _ N Nq
          rw [hqe] at eT
          show own_W _ _ _ _ _ _ _ _ [(.int zc)]
          refine own_iload X hx (hb hby at_116) (pc' := 118) rfl rfl ?_
          refine own_icmpN X hx (hb hby at_118) (pc' := 121) rfl (show zc = (0 : Int32) from (hB.elim (fun t => (own_f0 hc73).elim (fun e => absurd e t.2.1.2.1) (fun e => absurd e t.2.2.2.1)) (fun t => t.1))) ?_
          refine own_iconst X hx (1 : Int32) (hb hby at_121) (pc' := 122) rfl rfl ?_
          refine own_goto X hx (hb hby at_122) (by decide) (pc' := 126) rfl ?_
          refine own_retIS X hx hlk hZ eT hh hS hk hEL H CR (t := .boolean) (w' := (.int (1 : Int32))) Bd.returns (hb hby at_126) rfl rfl (by simp) (by decide) (by decide) ?_
          rw [eT]
          exact ⟨rfl, N⟩
        · refine own_iload X hx (hb hby at_76) (pc' := 78) rfl rfl ?_
          refine own_iconst X hx (3 : Int32) (hb hby at_78) (pc' := 79) rfl rfl ?_
          refine own_icmpN X hx (hb hby at_79) (pc' := 82) rfl (show ¬ ((3 : Int32) < (3 : Int32)) from (by decide)) ?_
          refine own_iload X hx (hb hby at_82) (pc' := 84) rfl rfl ?_
          refine own_callS X hx hZ [(.int d2)] hown (own_w hw 84 rfl) (own_w hw 85 rfl) (own_w hw 3 rfl) (own_w hw 86 rfl) (by decide) (rm_fits l Z a0 hw [] d2 h25 n0 Z0) eT (W := 0) (by decide) (by decide) (cells' := 4) (slots' := 16) rfl rfl (by decide) (by decide) (by rw [hml]; rfl) (lenOf own_pd_28C29Z rfl) rfl (S := []) rfl (Nat.le_of_eq rfl) (hb hby at_84) (pc' := 87) rfl ?_
          intro v T h37 L lc X eT hq fN
          obtain ⟨rfl, Nq, hqe⟩ := hq
          have N := fN _ N Nq
          rw [hqe] at eT
          show own_W _ _ _ _ _ _ _ _ [(.int (own_fit d2))]
          refine own_if X hx (hb hby at_87) (by decide) (pcY := 108) (pcN := 90) rfl rfl (fun (hc87 : (own_fit d2) = (0 : Int32)) => ?_) (fun (hc87 : ¬ ((own_fit d2) = (0 : Int32))) => ?_)
          · refine own_iconst X hx (0 : Int32) (hb hby at_108) (pc' := 109) rfl rfl ?_
            refine own_istore X hx (hb hby at_109) (pc' := 111) rfl (Ls' := #[.val (.int p0), .val (.int p1), .val (.int p2), .val (.int p3), .val (.int p4), .val (.int (3 : Int32)), .val (.int d0), .val (.int d1), .val (.int d2), .val (.int d3), .val (.ref sa), .val (.int (0 : Int32))]) rfl ?_
            refine own_aload X hx (hb hby at_111) (pc' := 113) rfl rfl rfl ?_
            refine own_callS X hx hZ [(.ref sa)] hown (own_w hw 30 rfl) (own_w hw 31 rfl) (own_w hw 32 rfl) (own_w hw 33 rfl) (by decide) (rm_chU3 l Z a0 hw [] sa sb cs fm d0 d1 d2 h25 n0 Z0 S_C hcs E_s C_s V_s S_A S_H S_L S_F hfm _ A_s bd0 bd1 bd2) eT (W := 0) (by decide) (by decide) (cells' := 4) (slots' := 16) rfl rfl (by decide) (by decide) (by rw [hml]; rfl) (lenOf own_pd_28Ljava2flang2fString3b29Z rfl) rfl (S := []) rfl (Nat.le_of_eq rfl) (hb hby at_113) (pc' := 116) rfl ?_
            intro v T h38 L lc X eT hq fN
            obtain ⟨zc, rfl, Nq, hqe, hB⟩ := hq
            have N := fN _ N Nq
            rw [hqe] at eT
            show own_W _ _ _ _ _ _ _ _ [(.int zc)]
            refine own_iload X hx (hb hby at_116) (pc' := 118) rfl rfl ?_
            refine own_icmpN X hx (hb hby at_118) (pc' := 121) rfl (show zc = (0 : Int32) from (hB.elim (fun t => (own_f0 hc87).elim (fun e => absurd e t.2.1.2.2.1) (fun e => absurd e t.2.2.2.2.1)) (fun t => t.1))) ?_
            refine own_iconst X hx (1 : Int32) (hb hby at_121) (pc' := 122) rfl rfl ?_
            refine own_goto X hx (hb hby at_122) (by decide) (pc' := 126) rfl ?_
            refine own_retIS X hx hlk hZ eT hh hS hk hEL H CR (t := .boolean) (w' := (.int (1 : Int32))) Bd.returns (hb hby at_126) rfl rfl (by simp) (by decide) (by decide) ?_
            rw [eT]
            exact ⟨rfl, N⟩
          · refine own_iload X hx (hb hby at_90) (pc' := 92) rfl rfl ?_
            refine own_iconst X hx (4 : Int32) (hb hby at_92) (pc' := 93) rfl rfl ?_
            refine own_icmpY X hx (hb hby at_93) (by decide) (pc' := 104) rfl (show (3 : Int32) < (4 : Int32) from (by decide)) ?_
            refine own_iconst X hx (1 : Int32) (hb hby at_104) (pc' := 105) rfl rfl ?_
            refine own_goto X hx (hb hby at_105) (by decide) (pc' := 109) rfl ?_
            refine own_istore X hx (hb hby at_109) (pc' := 111) rfl (Ls' := #[.val (.int p0), .val (.int p1), .val (.int p2), .val (.int p3), .val (.int p4), .val (.int (3 : Int32)), .val (.int d0), .val (.int d1), .val (.int d2), .val (.int d3), .val (.ref sa), .val (.int (1 : Int32))]) rfl ?_
            refine own_aload X hx (hb hby at_111) (pc' := 113) rfl rfl rfl ?_
            refine own_callS X hx hZ [(.ref sa)] hown (own_w hw 30 rfl) (own_w hw 31 rfl) (own_w hw 32 rfl) (own_w hw 33 rfl) (by decide) (rm_chU3 l Z a0 hw [] sa sb cs fm d0 d1 d2 h25 n0 Z0 S_C hcs E_s C_s V_s S_A S_H S_L S_F hfm _ A_s bd0 bd1 bd2) eT (W := 0) (by decide) (by decide) (cells' := 4) (slots' := 16) rfl rfl (by decide) (by decide) (by rw [hml]; rfl) (lenOf own_pd_28Ljava2flang2fString3b29Z rfl) rfl (S := []) rfl (Nat.le_of_eq rfl) (hb hby at_113) (pc' := 116) rfl ?_
            intro v T h39 L lc X eT hq fN
            obtain ⟨zc, rfl, Nq, hqe, hB⟩ := hq
            have N := fN _ N Nq
            rw [hqe] at eT
            show own_W _ _ _ _ _ _ _ _ [(.int zc)]
            refine own_iload X hx (hb hby at_116) (pc' := 118) rfl rfl ?_
            refine own_icmpN X hx (hb hby at_118) (pc' := 121) rfl (show zc = (1 : Int32) from (hB.elim (fun t => t.1) (fun t => absurd ⟨⟨own_f9 hc59, own_f9 hc73, own_f9 hc87, trivial⟩, ⟨own_f10 hc59, own_f10 hc73, own_f10 hc87, trivial⟩⟩ t.2))) ?_
            refine own_iconst X hx (1 : Int32) (hb hby at_121) (pc' := 122) rfl rfl ?_
            refine own_goto X hx (hb hby at_122) (by decide) (pc' := 126) rfl ?_
            refine own_retIS X hx hlk hZ eT hh hS hk hEL H CR (t := .boolean) (w' := (.int (1 : Int32))) Bd.returns (hb hby at_126) rfl rfl (by simp) (by decide) (by decide) ?_
            rw [eT]
            exact ⟨rfl, N⟩
  · rw [q]
    show own_W _ _ _ _ _ _ _ _ []
    refine own_iload X hx (hb hby at_33) (pc' := 35) rfl rfl ?_
    refine own_iload X hx (hb hby at_35) (pc' := 37) rfl rfl ?_
    refine own_iload X hx (hb hby at_37) (pc' := 39) rfl rfl ?_
    refine own_iload X hx (hb hby at_39) (pc' := 41) rfl rfl ?_
    refine own_iload X hx (hb hby at_41) (pc' := 43) rfl rfl ?_
    refine own_callSS X hx hZ [(.int (4 : Int32)), (.int d0), (.int d1), (.int d2), (.int d3)] hown (own_w hw 5 rfl) (own_w hw 6 rfl) (own_w hw 3 rfl) (own_w hw 7 rfl) (by decide) (rm_tx4 l Z a0 hw hEL [] cs d0 d1 d2 d3 h0 n0 Z0 S_C hcs S_A S_H S_L bd0 bd1 bd2 bd3) eT hS hk hEL H (W := 0) (by decide) (by decide) (cells' := 4) (slots' := 20) rfl rfl (by decide) (by decide) (by rw [hml]; rfl) (lenOf own_pd_28ICCCC29Ljava2flang2fString3b rfl) rfl (S := []) rfl (Nat.le_of_eq rfl) (hb hby at_43) (pc' := 46) rfl ?_
    intro v T h40 L lc vm0 k1 X eT hS hk hZ hown CQ hq fN
    obtain ⟨sa, sb, kb, rfl, Nq, Kq, E_s, V_s, hv⟩ := hq
    have N := fN _ N Nq
    have CR := CR.trans CQ
    have H := CQ.1
    have S_C := own_sta_keep S_C Kq ns0
    have S_A := own_sta_keep S_A Kq ns0
    have S_H := own_sta_keep S_H Kq ns0
    have S_L := own_sta_keep S_L Kq ns0
    have S_F := own_sta_keep S_F Kq ns0
    have Z0 := Nat.le_trans Z0 Kq.1
    rcases hv with ⟨C_s, hall, A_s⟩ | ⟨C_s, A_s⟩
    · show own_W _ _ _ _ _ _ _ _ [(.ref sa)]
      refine own_astore X hx (hb hby at_46) (pc' := 48) rfl rfl (Ls' := #[.val (.int p0), .val (.int p1), .val (.int p2), .val (.int p3), .val (.int p4), .val (.int (4 : Int32)), .val (.int d0), .val (.int d1), .val (.int d2), .val (.int d3), .val (.ref sa), .unset]) rfl ?_
      refine own_iload X hx (hb hby at_48) (pc' := 50) rfl rfl ?_
      refine own_iconst X hx (1 : Int32) (hb hby at_50) (pc' := 51) rfl rfl ?_
      refine own_icmpN X hx (hb hby at_51) (pc' := 54) rfl (show ¬ ((4 : Int32) < (1 : Int32)) from (by decide)) ?_
      refine own_iload X hx (hb hby at_54) (pc' := 56) rfl rfl ?_
      refine own_callS X hx hZ [(.int d0)] hown (own_w hw 84 rfl) (own_w hw 85 rfl) (own_w hw 3 rfl) (own_w hw 86 rfl) (by decide) (rm_fits l Z a0 hw [] d0 h40 n0 Z0) eT (W := 0) (by decide) (by decide) (cells' := 4) (slots' := 20) rfl rfl (by decide) (by decide) (by rw [hml]; rfl) (lenOf own_pd_28C29Z rfl) rfl (S := []) rfl (Nat.le_of_eq rfl) (hb hby at_56) (pc' := 59) rfl ?_
      intro v T h41 L lc X eT hq fN
      obtain ⟨rfl, Nq, hqe⟩ := hq
      have N := fN _ N Nq
      rw [hqe] at eT
      show own_W _ _ _ _ _ _ _ _ [(.int (own_fit d0))]
      refine own_if X hx (hb hby at_59) (by decide) (pcY := 108) (pcN := 62) rfl rfl (fun (hc59 : (own_fit d0) = (0 : Int32)) => ?_) (fun (hc59 : ¬ ((own_fit d0) = (0 : Int32))) => ?_)
      · refine own_iconst X hx (0 : Int32) (hb hby at_108) (pc' := 109) rfl rfl ?_
        refine own_istore X hx (hb hby at_109) (pc' := 111) rfl (Ls' := #[.val (.int p0), .val (.int p1), .val (.int p2), .val (.int p3), .val (.int p4), .val (.int (4 : Int32)), .val (.int d0), .val (.int d1), .val (.int d2), .val (.int d3), .val (.ref sa), .val (.int (0 : Int32))]) rfl ?_
        refine own_aload X hx (hb hby at_111) (pc' := 113) rfl rfl rfl ?_
        refine own_callS X hx hZ [(.ref sa)] hown (own_w hw 30 rfl) (own_w hw 31 rfl) (own_w hw 32 rfl) (own_w hw 33 rfl) (by decide) (rm_chL4 l Z a0 hw [] sa sb cs d0 d1 d2 d3 h40 n0 Z0 S_C hcs E_s C_s V_s _ A_s bd0 bd1 bd2 bd3 hall) eT (W := 0) (by decide) (by decide) (cells' := 4) (slots' := 20) rfl rfl (by decide) (by decide) (by rw [hml]; rfl) (lenOf own_pd_28Ljava2flang2fString3b29Z rfl) rfl (S := []) rfl (Nat.le_of_eq rfl) (hb hby at_113) (pc' := 116) rfl ?_
        intro v T h42 L lc X eT hq fN
        obtain ⟨zc, rfl, Nq, hqe, hB⟩ := hq
        have N := fN _ N Nq
        rw [hqe] at eT
        show own_W _ _ _ _ _ _ _ _ [(.int zc)]
        refine own_iload X hx (hb hby at_116) (pc' := 118) rfl rfl ?_
        refine own_icmpN X hx (hb hby at_118) (pc' := 121) rfl (show zc = (0 : Int32) from (hB.elim (fun t => (own_f0 hc59).elim (fun e => absurd e t.2.1.1) (fun e => absurd e t.2.2.1)) (fun t => t.1))) ?_
        refine own_iconst X hx (1 : Int32) (hb hby at_121) (pc' := 122) rfl rfl ?_
        refine own_goto X hx (hb hby at_122) (by decide) (pc' := 126) rfl ?_
        refine own_retIS X hx hlk hZ eT hh hS hk hEL H CR (t := .boolean) (w' := (.int (1 : Int32))) Bd.returns (hb hby at_126) rfl rfl (by simp) (by decide) (by decide) ?_
        rw [eT]
        exact ⟨rfl, N⟩
      · refine own_iload X hx (hb hby at_62) (pc' := 64) rfl rfl ?_
        refine own_iconst X hx (2 : Int32) (hb hby at_64) (pc' := 65) rfl rfl ?_
        refine own_icmpN X hx (hb hby at_65) (pc' := 68) rfl (show ¬ ((4 : Int32) < (2 : Int32)) from (by decide)) ?_
        refine own_iload X hx (hb hby at_68) (pc' := 70) rfl rfl ?_
        refine own_callS X hx hZ [(.int d1)] hown (own_w hw 84 rfl) (own_w hw 85 rfl) (own_w hw 3 rfl) (own_w hw 86 rfl) (by decide) (rm_fits l Z a0 hw [] d1 h40 n0 Z0) eT (W := 0) (by decide) (by decide) (cells' := 4) (slots' := 20) rfl rfl (by decide) (by decide) (by rw [hml]; rfl) (lenOf own_pd_28C29Z rfl) rfl (S := []) rfl (Nat.le_of_eq rfl) (hb hby at_70) (pc' := 73) rfl ?_
        intro v T h43 L lc X eT hq fN
        obtain ⟨rfl, Nq, hqe⟩ := hq
        have N := fN _ N Nq
        rw [hqe] at eT
        show own_W _ _ _ _ _ _ _ _ [(.int (own_fit d1))]
        refine own_if X hx (hb hby at_73) (by decide) (pcY := 108) (pcN := 76) rfl rfl (fun (hc73 : (own_fit d1) = (0 : Int32)) => ?_) (fun (hc73 : ¬ ((own_fit d1) = (0 : Int32))) => ?_)
        · refine own_iconst X hx (0 : Int32) (hb hby at_108) (pc' := 109) rfl rfl ?_
          refine own_istore X hx (hb hby at_109) (pc' := 111) rfl (Ls' := #[.val (.int p0), .val (.int p1), .val (.int p2), .val (.int p3), .val (.int p4), .val (.int (4 : Int32)), .val (.int d0), .val (.int d1), .val (.int d2), .val (.int d3), .val (.ref sa), .val (.int (0 : Int32))]) rfl ?_
          refine own_aload X hx (hb hby at_111) (pc' := 113) rfl rfl rfl ?_
          refine own_callS X hx hZ [(.ref sa)] hown (own_w hw 30 rfl) (own_w hw 31 rfl) (own_w hw 32 rfl) (own_w hw 33 rfl) (by decide) (rm_chL4 l Z a0 hw [] sa sb cs d0 d1 d2 d3 h40 n0 Z0 S_C hcs E_s C_s V_s _ A_s bd0 bd1 bd2 bd3 hall) eT (W := 0) (by decide) (by decide) (cells' := 4) (slots' := 20) rfl rfl (by decide) (by decide) (by rw [hml]; rfl) (lenOf own_pd_28Ljava2flang2fString3b29Z rfl) rfl (S := []) rfl (Nat.le_of_eq rfl) (hb hby at_113) (pc' := 116) rfl ?_
          intro v T h44 L lc X eT hq fN
          obtain ⟨zc, rfl, Nq, hqe, hB⟩ := hq
          have N := fN _ N Nq
          rw [hqe] at eT
          show own_W _ _ _ _ _ _ _ _ [(.int zc)]
          refine own_iload X hx (hb hby at_116) (pc' := 118) rfl rfl ?_
          refine own_icmpN X hx (hb hby at_118) (pc' := 121) rfl (show zc = (0 : Int32) from (hB.elim (fun t => (own_f0 hc73).elim (fun e => absurd e t.2.1.2.1) (fun e => absurd e t.2.2.2.1)) (fun t => t.1))) ?_
          refine own_iconst X hx (1 : Int32) (hb hby at_121) (pc' := 122) rfl rfl ?_
          refine own_goto X hx (hb hby at_122) (by decide) (pc' := 126) rfl ?_
          refine own_retIS X hx hlk hZ eT hh hS hk hEL H CR (t := .boolean) (w' := (.int (1 : Int32))) Bd.returns (hb hby at_126) rfl rfl (by simp) (by decide) (by decide) ?_
          rw [eT]
          exact ⟨rfl, N⟩
        · refine own_iload X hx (hb hby at_76) (pc' := 78) rfl rfl ?_
          refine own_iconst X hx (3 : Int32) (hb hby at_78) (pc' := 79) rfl rfl ?_
          refine own_icmpN X hx (hb hby at_79) (pc' := 82) rfl (show ¬ ((4 : Int32) < (3 : Int32)) from (by decide)) ?_
          refine own_iload X hx (hb hby at_82) (pc' := 84) rfl rfl ?_
          refine own_callS X hx hZ [(.int d2)] hown (own_w hw 84 rfl) (own_w hw 85 rfl) (own_w hw 3 rfl) (own_w hw 86 rfl) (by decide) (rm_fits l Z a0 hw [] d2 h40 n0 Z0) eT (W := 0) (by decide) (by decide) (cells' := 4) (slots' := 20) rfl rfl (by decide) (by decide) (by rw [hml]; rfl) (lenOf own_pd_28C29Z rfl) rfl (S := []) rfl (Nat.le_of_eq rfl) (hb hby at_84) (pc' := 87) rfl ?_
          intro v T h45 L lc X eT hq fN
          obtain ⟨rfl, Nq, hqe⟩ := hq
          have N := fN _ N Nq
          rw [hqe] at eT
          show own_W _ _ _ _ _ _ _ _ [(.int (own_fit d2))]
          refine own_if X hx (hb hby at_87) (by decide) (pcY := 108) (pcN := 90) rfl rfl (fun (hc87 : (own_fit d2) = (0 : Int32)) => ?_) (fun (hc87 : ¬ ((own_fit d2) = (0 : Int32))) => ?_)
          · refine own_iconst X hx (0 : Int32) (hb hby at_108) (pc' := 109) rfl rfl ?_
            refine own_istore X hx (hb hby at_109) (pc' := 111) rfl (Ls' := #[.val (.int p0), .val (.int p1), .val (.int p2), .val (.int p3), .val (.int p4), .val (.int (4 : Int32)), .val (.int d0), .val (.int d1), .val (.int d2), .val (.int d3), .val (.ref sa), .val (.int (0 : Int32))]) rfl ?_
            refine own_aload X hx (hb hby at_111) (pc' := 113) rfl rfl rfl ?_
            refine own_callS X hx hZ [(.ref sa)] hown (own_w hw 30 rfl) (own_w hw 31 rfl) (own_w hw 32 rfl) (own_w hw 33 rfl) (by decide) (rm_chL4 l Z a0 hw [] sa sb cs d0 d1 d2 d3 h40 n0 Z0 S_C hcs E_s C_s V_s _ A_s bd0 bd1 bd2 bd3 hall) eT (W := 0) (by decide) (by decide) (cells' := 4) (slots' := 20) rfl rfl (by decide) (by decide) (by rw [hml]; rfl) (lenOf own_pd_28Ljava2flang2fString3b29Z rfl) rfl (S := []) rfl (Nat.le_of_eq rfl) (hb hby at_113) (pc' := 116) rfl ?_
            intro v T h46 L lc X eT hq fN
            obtain ⟨zc, rfl, Nq, hqe, hB⟩ := hq
            have N := fN _ N Nq
            rw [hqe] at eT
            show own_W _ _ _ _ _ _ _ _ [(.int zc)]
            refine own_iload X hx (hb hby at_116) (pc' := 118) rfl rfl ?_
            refine own_icmpN X hx (hb hby at_118) (pc' := 121) rfl (show zc = (0 : Int32) from (hB.elim (fun t => (own_f0 hc87).elim (fun e => absurd e t.2.1.2.2.1) (fun e => absurd e t.2.2.2.2.1)) (fun t => t.1))) ?_
            refine own_iconst X hx (1 : Int32) (hb hby at_121) (pc' := 122) rfl rfl ?_
            refine own_goto X hx (hb hby at_122) (by decide) (pc' := 126) rfl ?_
            refine own_retIS X hx hlk hZ eT hh hS hk hEL H CR (t := .boolean) (w' := (.int (1 : Int32))) Bd.returns (hb hby at_126) rfl rfl (by simp) (by decide) (by decide) ?_
            rw [eT]
            exact ⟨rfl, N⟩
          · refine own_iload X hx (hb hby at_90) (pc' := 92) rfl rfl ?_
            refine own_iconst X hx (4 : Int32) (hb hby at_92) (pc' := 93) rfl rfl ?_
            refine own_icmpN X hx (hb hby at_93) (pc' := 96) rfl (show ¬ ((4 : Int32) < (4 : Int32)) from (by decide)) ?_
            refine own_iload X hx (hb hby at_96) (pc' := 98) rfl rfl ?_
            refine own_callS X hx hZ [(.int d3)] hown (own_w hw 84 rfl) (own_w hw 85 rfl) (own_w hw 3 rfl) (own_w hw 86 rfl) (by decide) (rm_fits l Z a0 hw [] d3 h40 n0 Z0) eT (W := 0) (by decide) (by decide) (cells' := 4) (slots' := 20) rfl rfl (by decide) (by decide) (by rw [hml]; rfl) (lenOf own_pd_28C29Z rfl) rfl (S := []) rfl (Nat.le_of_eq rfl) (hb hby at_98) (pc' := 101) rfl ?_
            intro v T h47 L lc X eT hq fN
            obtain ⟨rfl, Nq, hqe⟩ := hq
            have N := fN _ N Nq
            rw [hqe] at eT
            show own_W _ _ _ _ _ _ _ _ [(.int (own_fit d3))]
            refine own_if X hx (hb hby at_101) (by decide) (pcY := 108) (pcN := 104) rfl rfl (fun (hc101 : (own_fit d3) = (0 : Int32)) => ?_) (fun (hc101 : ¬ ((own_fit d3) = (0 : Int32))) => ?_)
            · refine own_iconst X hx (0 : Int32) (hb hby at_108) (pc' := 109) rfl rfl ?_
              refine own_istore X hx (hb hby at_109) (pc' := 111) rfl (Ls' := #[.val (.int p0), .val (.int p1), .val (.int p2), .val (.int p3), .val (.int p4), .val (.int (4 : Int32)), .val (.int d0), .val (.int d1), .val (.int d2), .val (.int d3), .val (.ref sa), .val (.int (0 : Int32))]) rfl ?_
              refine own_aload X hx (hb hby at_111) (pc' := 113) rfl rfl rfl ?_
              refine own_callS X hx hZ [(.ref sa)] hown (own_w hw 30 rfl) (own_w hw 31 rfl) (own_w hw 32 rfl) (own_w hw 33 rfl) (by decide) (rm_chL4 l Z a0 hw [] sa sb cs d0 d1 d2 d3 h40 n0 Z0 S_C hcs E_s C_s V_s _ A_s bd0 bd1 bd2 bd3 hall) eT (W := 0) (by decide) (by decide) (cells' := 4) (slots' := 20) rfl rfl (by decide) (by decide) (by rw [hml]; rfl) (lenOf own_pd_28Ljava2flang2fString3b29Z rfl) rfl (S := []) rfl (Nat.le_of_eq rfl) (hb hby at_113) (pc' := 116) rfl ?_
              intro v T h48 L lc X eT hq fN
              obtain ⟨zc, rfl, Nq, hqe, hB⟩ := hq
              have N := fN _ N Nq
              rw [hqe] at eT
              show own_W _ _ _ _ _ _ _ _ [(.int zc)]
              refine own_iload X hx (hb hby at_116) (pc' := 118) rfl rfl ?_
              refine own_icmpN X hx (hb hby at_118) (pc' := 121) rfl (show zc = (0 : Int32) from (hB.elim (fun t => (own_f0 hc101).elim (fun e => absurd e t.2.1.2.2.2.1) (fun e => absurd e t.2.2.2.2.2.1)) (fun t => t.1))) ?_
              refine own_iconst X hx (1 : Int32) (hb hby at_121) (pc' := 122) rfl rfl ?_
              refine own_goto X hx (hb hby at_122) (by decide) (pc' := 126) rfl ?_
              refine own_retIS X hx hlk hZ eT hh hS hk hEL H CR (t := .boolean) (w' := (.int (1 : Int32))) Bd.returns (hb hby at_126) rfl rfl (by simp) (by decide) (by decide) ?_
              rw [eT]
              exact ⟨rfl, N⟩
            · refine own_iconst X hx (1 : Int32) (hb hby at_104) (pc' := 105) rfl rfl ?_
              refine own_goto X hx (hb hby at_105) (by decide) (pc' := 109) rfl ?_
              refine own_istore X hx (hb hby at_109) (pc' := 111) rfl (Ls' := #[.val (.int p0), .val (.int p1), .val (.int p2), .val (.int p3), .val (.int p4), .val (.int (4 : Int32)), .val (.int d0), .val (.int d1), .val (.int d2), .val (.int d3), .val (.ref sa), .val (.int (1 : Int32))]) rfl ?_
              refine own_aload X hx (hb hby at_111) (pc' := 113) rfl rfl rfl ?_
              refine own_callS X hx hZ [(.ref sa)] hown (own_w hw 30 rfl) (own_w hw 31 rfl) (own_w hw 32 rfl) (own_w hw 33 rfl) (by decide) (rm_chL4 l Z a0 hw [] sa sb cs d0 d1 d2 d3 h40 n0 Z0 S_C hcs E_s C_s V_s _ A_s bd0 bd1 bd2 bd3 hall) eT (W := 0) (by decide) (by decide) (cells' := 4) (slots' := 20) rfl rfl (by decide) (by decide) (by rw [hml]; rfl) (lenOf own_pd_28Ljava2flang2fString3b29Z rfl) rfl (S := []) rfl (Nat.le_of_eq rfl) (hb hby at_113) (pc' := 116) rfl ?_
              intro v T h49 L lc X eT hq fN
              obtain ⟨zc, rfl, Nq, hqe, hB⟩ := hq
              have N := fN _ N Nq
              rw [hqe] at eT
              show own_W _ _ _ _ _ _ _ _ [(.int zc)]
              refine own_iload X hx (hb hby at_116) (pc' := 118) rfl rfl ?_
              refine own_icmpN X hx (hb hby at_118) (pc' := 121) rfl (show zc = (1 : Int32) from (hB.elim (fun t => t.1) (fun t => absurd ⟨⟨own_f9 hc59, own_f9 hc73, own_f9 hc87, own_f9 hc101, trivial⟩, ⟨own_f10 hc59, own_f10 hc73, own_f10 hc87, own_f10 hc101, trivial⟩⟩ t.2))) ?_
              refine own_iconst X hx (1 : Int32) (hb hby at_121) (pc' := 122) rfl rfl ?_
              refine own_goto X hx (hb hby at_122) (by decide) (pc' := 126) rfl ?_
              refine own_retIS X hx hlk hZ eT hh hS hk hEL H CR (t := .boolean) (w' := (.int (1 : Int32))) Bd.returns (hb hby at_126) rfl rfl (by simp) (by decide) (by decide) ?_
              rw [eT]
              exact ⟨rfl, N⟩
    · show own_W _ _ _ _ _ _ _ _ [(.ref sa)]
      refine own_astore X hx (hb hby at_46) (pc' := 48) rfl rfl (Ls' := #[.val (.int p0), .val (.int p1), .val (.int p2), .val (.int p3), .val (.int p4), .val (.int (4 : Int32)), .val (.int d0), .val (.int d1), .val (.int d2), .val (.int d3), .val (.ref sa), .unset]) rfl ?_
      refine own_iload X hx (hb hby at_48) (pc' := 50) rfl rfl ?_
      refine own_iconst X hx (1 : Int32) (hb hby at_50) (pc' := 51) rfl rfl ?_
      refine own_icmpN X hx (hb hby at_51) (pc' := 54) rfl (show ¬ ((4 : Int32) < (1 : Int32)) from (by decide)) ?_
      refine own_iload X hx (hb hby at_54) (pc' := 56) rfl rfl ?_
      refine own_callS X hx hZ [(.int d0)] hown (own_w hw 84 rfl) (own_w hw 85 rfl) (own_w hw 3 rfl) (own_w hw 86 rfl) (by decide) (rm_fits l Z a0 hw [] d0 h40 n0 Z0) eT (W := 0) (by decide) (by decide) (cells' := 4) (slots' := 20) rfl rfl (by decide) (by decide) (by rw [hml]; rfl) (lenOf own_pd_28C29Z rfl) rfl (S := []) rfl (Nat.le_of_eq rfl) (hb hby at_56) (pc' := 59) rfl ?_
      intro v T h50 L lc X eT hq fN
      obtain ⟨rfl, Nq, hqe⟩ := hq
      have N := fN _ N Nq
      rw [hqe] at eT
      show own_W _ _ _ _ _ _ _ _ [(.int (own_fit d0))]
      refine own_if X hx (hb hby at_59) (by decide) (pcY := 108) (pcN := 62) rfl rfl (fun (hc59 : (own_fit d0) = (0 : Int32)) => ?_) (fun (hc59 : ¬ ((own_fit d0) = (0 : Int32))) => ?_)
      · refine own_iconst X hx (0 : Int32) (hb hby at_108) (pc' := 109) rfl rfl ?_
        refine own_istore X hx (hb hby at_109) (pc' := 111) rfl (Ls' := #[.val (.int p0), .val (.int p1), .val (.int p2), .val (.int p3), .val (.int p4), .val (.int (4 : Int32)), .val (.int d0), .val (.int d1), .val (.int d2), .val (.int d3), .val (.ref sa), .val (.int (0 : Int32))]) rfl ?_
        refine own_aload X hx (hb hby at_111) (pc' := 113) rfl rfl rfl ?_
        refine own_callS X hx hZ [(.ref sa)] hown (own_w hw 30 rfl) (own_w hw 31 rfl) (own_w hw 32 rfl) (own_w hw 33 rfl) (by decide) (rm_chU4 l Z a0 hw [] sa sb cs fm d0 d1 d2 d3 h40 n0 Z0 S_C hcs E_s C_s V_s S_A S_H S_L S_F hfm _ A_s bd0 bd1 bd2 bd3) eT (W := 0) (by decide) (by decide) (cells' := 4) (slots' := 20) rfl rfl (by decide) (by decide) (by rw [hml]; rfl) (lenOf own_pd_28Ljava2flang2fString3b29Z rfl) rfl (S := []) rfl (Nat.le_of_eq rfl) (hb hby at_113) (pc' := 116) rfl ?_
        intro v T h51 L lc X eT hq fN
        obtain ⟨zc, rfl, Nq, hqe, hB⟩ := hq
        have N := fN _ N Nq
        rw [hqe] at eT
        show own_W _ _ _ _ _ _ _ _ [(.int zc)]
        refine own_iload X hx (hb hby at_116) (pc' := 118) rfl rfl ?_
        refine own_icmpN X hx (hb hby at_118) (pc' := 121) rfl (show zc = (0 : Int32) from (hB.elim (fun t => (own_f0 hc59).elim (fun e => absurd e t.2.1.1) (fun e => absurd e t.2.2.1)) (fun t => t.1))) ?_
        refine own_iconst X hx (1 : Int32) (hb hby at_121) (pc' := 122) rfl rfl ?_
        refine own_goto X hx (hb hby at_122) (by decide) (pc' := 126) rfl ?_
        refine own_retIS X hx hlk hZ eT hh hS hk hEL H CR (t := .boolean) (w' := (.int (1 : Int32))) Bd.returns (hb hby at_126) rfl rfl (by simp) (by decide) (by decide) ?_
        rw [eT]
        exact ⟨rfl, N⟩
      · refine own_iload X hx (hb hby at_62) (pc' := 64) rfl rfl ?_
        refine own_iconst X hx (2 : Int32) (hb hby at_64) (pc' := 65) rfl rfl ?_
        refine own_icmpN X hx (hb hby at_65) (pc' := 68) rfl (show ¬ ((4 : Int32) < (2 : Int32)) from (by decide)) ?_
        refine own_iload X hx (hb hby at_68) (pc' := 70) rfl rfl ?_
        refine own_callS X hx hZ [(.int d1)] hown (own_w hw 84 rfl) (own_w hw 85 rfl) (own_w hw 3 rfl) (own_w hw 86 rfl) (by decide) (rm_fits l Z a0 hw [] d1 h40 n0 Z0) eT (W := 0) (by decide) (by decide) (cells' := 4) (slots' := 20) rfl rfl (by decide) (by decide) (by rw [hml]; rfl) (lenOf own_pd_28C29Z rfl) rfl (S := []) rfl (Nat.le_of_eq rfl) (hb hby at_70) (pc' := 73) rfl ?_
        intro v T h52 L lc X eT hq fN
        obtain ⟨rfl, Nq, hqe⟩ := hq
        have N := fN _ N Nq
        rw [hqe] at eT
        show own_W _ _ _ _ _ _ _ _ [(.int (own_fit d1))]
        refine own_if X hx (hb hby at_73) (by decide) (pcY := 108) (pcN := 76) rfl rfl (fun (hc73 : (own_fit d1) = (0 : Int32)) => ?_) (fun (hc73 : ¬ ((own_fit d1) = (0 : Int32))) => ?_)
        · refine own_iconst X hx (0 : Int32) (hb hby at_108) (pc' := 109) rfl rfl ?_
          refine own_istore X hx (hb hby at_109) (pc' := 111) rfl (Ls' := #[.val (.int p0), .val (.int p1), .val (.int p2), .val (.int p3), .val (.int p4), .val (.int (4 : Int32)), .val (.int d0), .val (.int d1), .val (.int d2), .val (.int d3), .val (.ref sa), .val (.int (0 : Int32))]) rfl ?_
          refine own_aload X hx (hb hby at_111) (pc' := 113) rfl rfl rfl ?_
          refine own_callS X hx hZ [(.ref sa)] hown (own_w hw 30 rfl) (own_w hw 31 rfl) (own_w hw 32 rfl) (own_w hw 33 rfl) (by decide) (rm_chU4 l Z a0 hw [] sa sb cs fm d0 d1 d2 d3 h40 n0 Z0 S_C hcs E_s C_s V_s S_A S_H S_L S_F hfm _ A_s bd0 bd1 bd2 bd3) eT (W := 0) (by decide) (by decide) (cells' := 4) (slots' := 20) rfl rfl (by decide) (by decide) (by rw [hml]; rfl) (lenOf own_pd_28Ljava2flang2fString3b29Z rfl) rfl (S := []) rfl (Nat.le_of_eq rfl) (hb hby at_113) (pc' := 116) rfl ?_
          intro v T h53 L lc X eT hq fN
          obtain ⟨zc, rfl, Nq, hqe, hB⟩ := hq
          have N := fN _ N Nq
          rw [hqe] at eT
          show own_W _ _ _ _ _ _ _ _ [(.int zc)]
          refine own_iload X hx (hb hby at_116) (pc' := 118) rfl rfl ?_
          refine own_icmpN X hx (hb hby at_118) (pc' := 121) rfl (show zc = (0 : Int32) from (hB.elim (fun t => (own_f0 hc73).elim (fun e => absurd e t.2.1.2.1) (fun e => absurd e t.2.2.2.1)) (fun t => t.1))) ?_
          refine own_iconst X hx (1 : Int32) (hb hby at_121) (pc' := 122) rfl rfl ?_
          refine own_goto X hx (hb hby at_122) (by decide) (pc' := 126) rfl ?_
          refine own_retIS X hx hlk hZ eT hh hS hk hEL H CR (t := .boolean) (w' := (.int (1 : Int32))) Bd.returns (hb hby at_126) rfl rfl (by simp) (by decide) (by decide) ?_
          rw [eT]
          exact ⟨rfl, N⟩
        · refine own_iload X hx (hb hby at_76) (pc' := 78) rfl rfl ?_
          refine own_iconst X hx (3 : Int32) (hb hby at_78) (pc' := 79) rfl rfl ?_
          refine own_icmpN X hx (hb hby at_79) (pc' := 82) rfl (show ¬ ((4 : Int32) < (3 : Int32)) from (by decide)) ?_
          refine own_iload X hx (hb hby at_82) (pc' := 84) rfl rfl ?_
          refine own_callS X hx hZ [(.int d2)] hown (own_w hw 84 rfl) (own_w hw 85 rfl) (own_w hw 3 rfl) (own_w hw 86 rfl) (by decide) (rm_fits l Z a0 hw [] d2 h40 n0 Z0) eT (W := 0) (by decide) (by decide) (cells' := 4) (slots' := 20) rfl rfl (by decide) (by decide) (by rw [hml]; rfl) (lenOf own_pd_28C29Z rfl) rfl (S := []) rfl (Nat.le_of_eq rfl) (hb hby at_84) (pc' := 87) rfl ?_
          intro v T h54 L lc X eT hq fN
          obtain ⟨rfl, Nq, hqe⟩ := hq
          have N := fN _ N Nq
          rw [hqe] at eT
          show own_W _ _ _ _ _ _ _ _ [(.int (own_fit d2))]
          refine own_if X hx (hb hby at_87) (by decide) (pcY := 108) (pcN := 90) rfl rfl (fun (hc87 : (own_fit d2) = (0 : Int32)) => ?_) (fun (hc87 : ¬ ((own_fit d2) = (0 : Int32))) => ?_)
          · refine own_iconst X hx (0 : Int32) (hb hby at_108) (pc' := 109) rfl rfl ?_
            refine own_istore X hx (hb hby at_109) (pc' := 111) rfl (Ls' := #[.val (.int p0), .val (.int p1), .val (.int p2), .val (.int p3), .val (.int p4), .val (.int (4 : Int32)), .val (.int d0), .val (.int d1), .val (.int d2), .val (.int d3), .val (.ref sa), .val (.int (0 : Int32))]) rfl ?_
            refine own_aload X hx (hb hby at_111) (pc' := 113) rfl rfl rfl ?_
            refine own_callS X hx hZ [(.ref sa)] hown (own_w hw 30 rfl) (own_w hw 31 rfl) (own_w hw 32 rfl) (own_w hw 33 rfl) (by decide) (rm_chU4 l Z a0 hw [] sa sb cs fm d0 d1 d2 d3 h40 n0 Z0 S_C hcs E_s C_s V_s S_A S_H S_L S_F hfm _ A_s bd0 bd1 bd2 bd3) eT (W := 0) (by decide) (by decide) (cells' := 4) (slots' := 20) rfl rfl (by decide) (by decide) (by rw [hml]; rfl) (lenOf own_pd_28Ljava2flang2fString3b29Z rfl) rfl (S := []) rfl (Nat.le_of_eq rfl) (hb hby at_113) (pc' := 116) rfl ?_
            intro v T h55 L lc X eT hq fN
            obtain ⟨zc, rfl, Nq, hqe, hB⟩ := hq
            have N := fN _ N Nq
            rw [hqe] at eT
            show own_W _ _ _ _ _ _ _ _ [(.int zc)]
            refine own_iload X hx (hb hby at_116) (pc' := 118) rfl rfl ?_
            refine own_icmpN X hx (hb hby at_118) (pc' := 121) rfl (show zc = (0 : Int32) from (hB.elim (fun t => (own_f0 hc87).elim (fun e => absurd e t.2.1.2.2.1) (fun e => absurd e t.2.2.2.2.1)) (fun t => t.1))) ?_
            refine own_iconst X hx (1 : Int32) (hb hby at_121) (pc' := 122) rfl rfl ?_
            refine own_goto X hx (hb hby at_122) (by decide) (pc' := 126) rfl ?_
            refine own_retIS X hx hlk hZ eT hh hS hk hEL H CR (t := .boolean) (w' := (.int (1 : Int32))) Bd.returns (hb hby at_126) rfl rfl (by simp) (by decide) (by decide) ?_
            rw [eT]
            exact ⟨rfl, N⟩
          · refine own_iload X hx (hb hby at_90) (pc' := 92) rfl rfl ?_
            refine own_iconst X hx (4 : Int32) (hb hby at_92) (pc' := 93) rfl rfl ?_
            refine own_icmpN X hx (hb hby at_93) (pc' := 96) rfl (show ¬ ((4 : Int32) < (4 : Int32)) from (by decide)) ?_
            refine own_iload X hx (hb hby at_96) (pc' := 98) rfl rfl ?_
            refine own_callS X hx hZ [(.int d3)] hown (own_w hw 84 rfl) (own_w hw 85 rfl) (own_w hw 3 rfl) (own_w hw 86 rfl) (by decide) (rm_fits l Z a0 hw [] d3 h40 n0 Z0) eT (W := 0) (by decide) (by decide) (cells' := 4) (slots' := 20) rfl rfl (by decide) (by decide) (by rw [hml]; rfl) (lenOf own_pd_28C29Z rfl) rfl (S := []) rfl (Nat.le_of_eq rfl) (hb hby at_98) (pc' := 101) rfl ?_
            intro v T h56 L lc X eT hq fN
            obtain ⟨rfl, Nq, hqe⟩ := hq
            have N := fN _ N Nq
            rw [hqe] at eT
            show own_W _ _ _ _ _ _ _ _ [(.int (own_fit d3))]
            refine own_if X hx (hb hby at_101) (by decide) (pcY := 108) (pcN := 104) rfl rfl (fun (hc101 : (own_fit d3) = (0 : Int32)) => ?_) (fun (hc101 : ¬ ((own_fit d3) = (0 : Int32))) => ?_)
            · refine own_iconst X hx (0 : Int32) (hb hby at_108) (pc' := 109) rfl rfl ?_
              refine own_istore X hx (hb hby at_109) (pc' := 111) rfl (Ls' := #[.val (.int p0), .val (.int p1), .val (.int p2), .val (.int p3), .val (.int p4), .val (.int (4 : Int32)), .val (.int d0), .val (.int d1), .val (.int d2), .val (.int d3), .val (.ref sa), .val (.int (0 : Int32))]) rfl ?_
              refine own_aload X hx (hb hby at_111) (pc' := 113) rfl rfl rfl ?_
              refine own_callS X hx hZ [(.ref sa)] hown (own_w hw 30 rfl) (own_w hw 31 rfl) (own_w hw 32 rfl) (own_w hw 33 rfl) (by decide) (rm_chU4 l Z a0 hw [] sa sb cs fm d0 d1 d2 d3 h40 n0 Z0 S_C hcs E_s C_s V_s S_A S_H S_L S_F hfm _ A_s bd0 bd1 bd2 bd3) eT (W := 0) (by decide) (by decide) (cells' := 4) (slots' := 20) rfl rfl (by decide) (by decide) (by rw [hml]; rfl) (lenOf own_pd_28Ljava2flang2fString3b29Z rfl) rfl (S := []) rfl (Nat.le_of_eq rfl) (hb hby at_113) (pc' := 116) rfl ?_
              intro v T h57 L lc X eT hq fN
              obtain ⟨zc, rfl, Nq, hqe, hB⟩ := hq
              have N := fN _ N Nq
              rw [hqe] at eT
              show own_W _ _ _ _ _ _ _ _ [(.int zc)]
              refine own_iload X hx (hb hby at_116) (pc' := 118) rfl rfl ?_
              refine own_icmpN X hx (hb hby at_118) (pc' := 121) rfl (show zc = (0 : Int32) from (hB.elim (fun t => (own_f0 hc101).elim (fun e => absurd e t.2.1.2.2.2.1) (fun e => absurd e t.2.2.2.2.2.1)) (fun t => t.1))) ?_
              refine own_iconst X hx (1 : Int32) (hb hby at_121) (pc' := 122) rfl rfl ?_
              refine own_goto X hx (hb hby at_122) (by decide) (pc' := 126) rfl ?_
              refine own_retIS X hx hlk hZ eT hh hS hk hEL H CR (t := .boolean) (w' := (.int (1 : Int32))) Bd.returns (hb hby at_126) rfl rfl (by simp) (by decide) (by decide) ?_
              rw [eT]
              exact ⟨rfl, N⟩
            · refine own_iconst X hx (1 : Int32) (hb hby at_104) (pc' := 105) rfl rfl ?_
              refine own_goto X hx (hb hby at_105) (by decide) (pc' := 109) rfl ?_
              refine own_istore X hx (hb hby at_109) (pc' := 111) rfl (Ls' := #[.val (.int p0), .val (.int p1), .val (.int p2), .val (.int p3), .val (.int p4), .val (.int (4 : Int32)), .val (.int d0), .val (.int d1), .val (.int d2), .val (.int d3), .val (.ref sa), .val (.int (1 : Int32))]) rfl ?_
              refine own_aload X hx (hb hby at_111) (pc' := 113) rfl rfl rfl ?_
              refine own_callS X hx hZ [(.ref sa)] hown (own_w hw 30 rfl) (own_w hw 31 rfl) (own_w hw 32 rfl) (own_w hw 33 rfl) (by decide) (rm_chU4 l Z a0 hw [] sa sb cs fm d0 d1 d2 d3 h40 n0 Z0 S_C hcs E_s C_s V_s S_A S_H S_L S_F hfm _ A_s bd0 bd1 bd2 bd3) eT (W := 0) (by decide) (by decide) (cells' := 4) (slots' := 20) rfl rfl (by decide) (by decide) (by rw [hml]; rfl) (lenOf own_pd_28Ljava2flang2fString3b29Z rfl) rfl (S := []) rfl (Nat.le_of_eq rfl) (hb hby at_113) (pc' := 116) rfl ?_
              intro v T h58 L lc X eT hq fN
              obtain ⟨zc, rfl, Nq, hqe, hB⟩ := hq
              have N := fN _ N Nq
              rw [hqe] at eT
              show own_W _ _ _ _ _ _ _ _ [(.int zc)]
              refine own_iload X hx (hb hby at_116) (pc' := 118) rfl rfl ?_
              refine own_icmpN X hx (hb hby at_118) (pc' := 121) rfl (show zc = (1 : Int32) from (hB.elim (fun t => t.1) (fun t => absurd ⟨⟨own_f9 hc59, own_f9 hc73, own_f9 hc87, own_f9 hc101, trivial⟩, ⟨own_f10 hc59, own_f10 hc73, own_f10 hc87, own_f10 hc101, trivial⟩⟩ t.2))) ?_
              refine own_iconst X hx (1 : Int32) (hb hby at_121) (pc' := 122) rfl rfl ?_
              refine own_goto X hx (hb hby at_122) (by decide) (pc' := 126) rfl ?_
              refine own_retIS X hx hlk hZ eT hh hS hk hEL H CR (t := .boolean) (w' := (.int (1 : Int32))) Bd.returns (hb hby at_126) rfl rfl (by simp) (by decide) (by decide) ?_
              rw [eT]
              exact ⟨rfl, N⟩
theorem own_steq {args : Array Value} {s : State} {t : Term} {k : Int32} (h : (Jvm.Cond.eq t (Term.int k)).value args s none s [] = some true) : t.eval args s none [] s = some (.int k) := by
  simp only [Cond.value, Term.int_eval] at h
  cases ht : t.eval args s none [] s with
  | none => simp [ht] at h
  | some x => cases x <;> simp [ht] at h ⊢ <;> exact h
set_option maxRecDepth 65536 in
set_option maxHeartbeats 40000000 in
theorem comes_1 {Post : Tables → Env → Array Value → State → Outcome → State → Prop} (hpost : ∀ tb e args s v u, (limb_1_1.after args s (.returned v) u = true ∧ limb_1_2.after args s (.returned v) u = true ∧ True) → ReturnedEndW s (.returned v) u (Jvm.fieldLocs frame_1_writes args s ++ Jvm.arrayLocs frame_1_arrays args s ++ Jvm.staticLocs frame_1_statics s) 24 1152 → Post tb e args s (.returned v) u) :
    ArmFor flags0 classFile x code maxLocals ret World_1 tables_1 room_1 Calls_1 rest_1 Pre_1 Post := by
  intro l hfl _ _ p e ha hc hk s m args below hf hA hF happ hP
  obtain ⟨hcalls, hrest, hpre⟩ := hP
  obtain ⟨-, -, -, hnamed, -, -, -, hat⟩ := (Spec.applies_iff hf).mp happ
  obtain ⟨hg, hn⟩ := and_e (Cond.before_iff.mp (show (Jvm.Cond.and given_1 narrow_1).before args s = true from hpre))
  obtain ⟨gc, gr0⟩ := and_e hg
  obtain ⟨ga0, gr1⟩ := and_e gr0
  obtain ⟨ga1, gr2⟩ := and_e gr1
  obtain ⟨ga2, gr3⟩ := and_e gr2
  obtain ⟨ga3, gr4⟩ := and_e gr3
  obtain ⟨w0, w1, w2, w3, w4, rfl⟩ : ∃ w0 w1 w2 w3 w4 : Value, args = #[w0, w1, w2, w3, w4] := by
    have hs : args.size = 5 := by simpa [Cond.value, given_1] using gc
    obtain ⟨L⟩ := args
    match L, hs with
    | [w0, w1, w2, w3, w4], _ => exact ⟨w0, w1, w2, w3, w4, rfl⟩
  have hw := fun d (hd : d ∈ tables_1) => atoms_spec (ws := Jvm.Cond.code x code maxLocals ret :: tables_1) hat d (List.mem_cons_of_mem _ hd)
  obtain ⟨i0, ei0⟩ := is_v ga0
  obtain rfl : w0 = (.int i0) := Option.some.inj ei0
  obtain ⟨i1, ei1⟩ := is_v ga1
  obtain rfl : w1 = (.int i1) := Option.some.inj ei1
  obtain ⟨i2, ei2⟩ := is_v ga2
  obtain rfl : w2 = (.int i2) := Option.some.inj ei2
  obtain ⟨i3, ei3⟩ := is_v ga3
  obtain rfl : w3 = (.int i3) := Option.some.inj ei3
  obtain ⟨i4, ei4⟩ := is_v gr4
  obtain rfl : w4 = (.int i4) := Option.some.inj ei4
  obtain ⟨hsets, hown0⟩ := atoms_of _ (rest_1_c_eq ▸ (show rest_1_c.before _ s = true from hrest))
  obtain ⟨cs, ecs⟩ := is_v (Cond.before_iff.mp (hsets _ (List.mem_of_getElem? (i := 1) rfl)))
  have SC := Sta.start ecs (Or.inl (hsets _ (List.mem_of_getElem? (i := 0) rfl)))
  have hcs : ¬ cs = 0 := fun q => by
      have z := not_v (Cond.before_iff.mp (hsets _ (List.mem_of_getElem? (i := 2) rfl)))
      rw [q] at ecs
      have u := eq_i ecs (Term.int_eval (0)) rfl
      rw [u] at z; cases z
  obtain ⟨fm, efm, hfm⟩ := isR_v (Cond.before_iff.mp (hsets _ (List.mem_of_getElem? (i := 8) rfl)))
  have SM := Sta.start efm (Or.inl (hsets _ (List.mem_of_getElem? (i := 7) rfl)))
  have hEL : EW s _ own_EL := (EW.cons (own_w hw 22 rfl) own_txt_22.1 EW.nil)
  have H0 : CHv s own_EL s.vm s.heap := CHv.start hEL (fun p hp => hcalls.1 p hp) (hsets _ (List.mem_of_getElem? (i := 2) rfl)) (own_w hw 23 rfl) (own_w hw 9 rfl)
  have SA := Sta.start (own_steq (Cond.before_iff.mp (hsets _ (List.mem_of_getElem? (i := 12) rfl)))) (Or.inl (hsets _ (List.mem_of_getElem? (i := 11) rfl)))
  have SH := Sta.start (own_steq (Cond.before_iff.mp (hsets _ (List.mem_of_getElem? (i := 15) rfl)))) (Or.inl (hsets _ (List.mem_of_getElem? (i := 14) rfl)))
  have SL := Sta.start (own_steq (Cond.before_iff.mp (hsets _ (List.mem_of_getElem? (i := 18) rfl)))) (Or.inl (hsets _ (List.mem_of_getElem? (i := 17) rfl)))
  obtain ⟨n, o, h1, h2, h3, _, L, rfl, ⟨rfl, N⟩, -, hq⟩ := rm_law l s _ hw hEL tables_1 i0 i1 i2 i3 i4 cs fm s.heap s.heap.size (Nat.le_refl _) SC hcs SA SH SL SM hfm p e ha hc hk s m _ below hf ((Spec.applies_iff_loose hf).mp happ).1 ⟨rfl, State.Warmed39.refl s, rfl, H0⟩ trivial
  refine ⟨n, _, h1, h2, h3, hpost _ _ _ _ _ _ ⟨Cond.after_iff.mpr rfl, Cond.after_iff.mpr (eq_i res_at (Term.int_eval (1)) rfl), trivial⟩ ⟨hq.1, hq.2.1, hq.2.2.1, (hq.2.2.2.sift fun y hy => Or.inr (N y hy)).mono (by decide) (by decide)⟩⟩
theorem main_1_1 : Claimed_1_1 := comes_1 fun _ _ _ _ _ _ h hF => ⟨h.1, hF⟩
theorem main_1_2 : Claimed_1_2 := comes_1 fun _ _ _ _ _ _ h hF => ⟨h.2.1, hF⟩
end Jvm.Pilot.@@N@@
namespace Jvm.Pilot.@@N@@
open Jvm Jvm.ClassFile Sem Op Lib Jvm.Free Jvm.Stand Jvm.Pilot.@@N@@.Jvm.D
/-! MADE BY PROGRAM (witnessworld.py) out of the Statement's table words and the real class files: 21 classes; the members and pool entries that the words name. The judged class is class 1, her method 1. -/
namespace start1
open Jvm.ClassFile
def u (s : String) : CpInfo := .utf8 (stringToUtf16 s)
/-- a pool by its gaps: so many unusable entries, then the entry; so many at the end -/
def gap : Nat → List CpInfo → List CpInfo
  | 0, r => r
  | n + 1, r => .unusable :: gap n r
def poolList (es : List (Nat × CpInfo)) (last : Nat) : List CpInfo := es.foldr (fun e r => gap e.1 (e.2 :: r)) (gap last [])
def pool (es : List (Nat × CpInfo)) (last : Nat) : Array CpInfo := ⟨poolList es last⟩
def fileOf (pool : Array CpInfo) (this : Nat) (attrs : Array Attribute := #[]) (ms : Array MethodInfo := #[]) (fl : Nat := 33) (sup : Nat := 0) (ifs : Array Nat := #[]) (fds : Array FieldInfo := #[]) : ClassFile where
  minorVersion := 0
  majorVersion := 65
  constantPool := pool
  accessFlags := fl
  thisClass := this
  superClass := sup
  interfaces := ifs
  fields := fds
  methods := ms
  attributes := attrs
def plain (name : String) (sup : Option ClassId) : Class where
  name := name
  kind := .ordinary
  loader := none
  accessFlags := 33
  super := sup
  interfaces := #[]
  cf := none
  fields := #[]
  methods := #[]
  instanceTypes := #[]
  staticTypes := #[]
  resolved := #[]
  callSites := []
  init := .initialized
  statics := none
  mirror := none

def pool0 : Array CpInfo := pool [(5, u "<init>"), (0, u "()V"), (1, .class_ 10), (1, u "java/lang/Object")] 113

def k0c0 : Code := { maxStack := 0, maxLocals := 1, code := object_method_1_code, exceptionTable := #[], attributes := #[] }
def k0m0 : Method := { name := "<init>", desc := "()V", sig := { parameters := [], returnType := none }, accessFlags := 1, code := some k0c0 }
/-- java/lang/Object -/
def k0 : Class := { plain "java/lang/Object" none with
  accessFlags := 33
  interfaces := #[]
  cf := some (fileOf pool0 8 #[] #[{ accessFlags := 1, nameIndex := 5, descriptorIndex := 6, attributes := #[] }] 33 0 #[] #[])
  fields := #[]
  methods := #[k0m0]
  instanceTypes := #[]
  staticTypes := #[]
  resolved := Array.replicate 124 none
  statics := none }

def pool1 : Array CpInfo := pool [(2, .class_ 4), (1, u "java/lang/Object"), (0, u "<init>"), (0, u "()V"), (0, .integer 2147483647), (0, .methodref 9 10), (0, .class_ 11), (0, .nameAndType 12 13), (0, u "com/example/bleeper/bleeper/cli/FieldsCanHoldPinLaw"), (0, u "draw"), (0, u "(I)C"), (0, .methodref 9 15), (0, .nameAndType 16 17), (0, u "text"), (0, u "(ICCCC)Ljava/lang/String;"), (0, .methodref 9 19), (0, .nameAndType 20 21), (0, u "fits"), (0, u "(C)Z"), (0, .methodref 23 24), (0, .class_ 25), (0, .nameAndType 26 27), (0, u "com/example/bleeper/bleeper/cli/Fields"), (0, u "canHold"), (0, u "(Ljava/lang/String;)Z"), (0, .class_ 29), (0, u "java/lang/String"), (0, .methodref 28 31), (0, .nameAndType 5 32), (0, u "([C)V"), (2, u "law"), (0, u "(IIIII)Z")] 3

def k1m0 : Method := { name := "<init>", desc := "()V", sig := { parameters := [], returnType := none }, accessFlags := 1, code := none }
def k1c1 : Code := { maxStack := 5, maxLocals := 12, code := code, exceptionTable := #[], attributes := #[] }
def k1m1 : Method := { name := "law", desc := "(IIIII)Z", sig := { parameters := [.int, .int, .int, .int, .int], returnType := some .boolean }, accessFlags := 9, code := some k1c1 }
def k1c2 : Code := { maxStack := 2, maxLocals := 2, code := method_3_code, exceptionTable := #[], attributes := #[] }
def k1m2 : Method := { name := "draw", desc := "(I)C", sig := { parameters := [.int], returnType := some .char }, accessFlags := 10, code := some k1c2 }
def k1c3 : Code := { maxStack := 2, maxLocals := 1, code := method_4_code, exceptionTable := #[], attributes := #[] }
def k1m3 : Method := { name := "fits", desc := "(C)Z", sig := { parameters := [.char], returnType := some .boolean }, accessFlags := 10, code := some k1c3 }
def k1c4 : Code := { maxStack := 6, maxLocals := 5, code := method_5_code, exceptionTable := #[], attributes := #[] }
def k1m4 : Method := { name := "text", desc := "(ICCCC)Ljava/lang/String;", sig := { parameters := [.int, .char, .char, .char, .char], returnType := some (.object "java/lang/String") }, accessFlags := 10, code := some k1c4 }
/-- com/example/bleeper/bleeper/cli/FieldsCanHoldPinLaw -/
def k1 : Class := { plain "com/example/bleeper/bleeper/cli/FieldsCanHoldPinLaw" (some 0) with
  accessFlags := 49
  interfaces := #[]
  cf := some (fileOf pool1 9 #[] #[{ accessFlags := 1, nameIndex := 5, descriptorIndex := 6, attributes := #[] }, { accessFlags := 9, nameIndex := 35, descriptorIndex := 36, attributes := #[] }, { accessFlags := 10, nameIndex := 12, descriptorIndex := 13, attributes := #[] }, { accessFlags := 10, nameIndex := 20, descriptorIndex := 21, attributes := #[] }, { accessFlags := 10, nameIndex := 16, descriptorIndex := 17, attributes := #[] }] 49 2 #[] #[])
  fields := #[]
  methods := #[k1m0, k1m1, k1m2, k1m3, k1m4]
  instanceTypes := #[]
  staticTypes := #[]
  resolved := Array.replicate 40 none
  statics := none }

def pool2 : Array CpInfo := pool [(1, .class_ 2), (0, u "java/io/Serializable"), (0, .class_ 4), (0, u "java/lang/Object")] 2

/-- java/io/Serializable -/
def k2 : Class := { plain "java/io/Serializable" (some 0) with
  accessFlags := 1537
  interfaces := #[]
  cf := some (fileOf pool2 1 #[] #[] 1537 3 #[] #[])
  fields := #[]
  methods := #[]
  instanceTypes := #[]
  staticTypes := #[]
  resolved := Array.replicate 7 none
  statics := none }

def pool3 : Array CpInfo := pool [(1, .class_ 2), (0, u "java/lang/Comparable"), (0, .class_ 4), (0, u "java/lang/Object")] 7

/-- java/lang/Comparable -/
def k3 : Class := { plain "java/lang/Comparable" (some 0) with
  accessFlags := 1537
  interfaces := #[]
  cf := some (fileOf pool3 1 #[] #[] 1537 3 #[] #[])
  fields := #[]
  methods := #[]
  instanceTypes := #[]
  staticTypes := #[]
  resolved := Array.replicate 12 none
  statics := none }

def pool4 : Array CpInfo := pool [(2, .class_ 4), (1, u "java/lang/CharSequence"), (42, .class_ 48), (0, u "java/lang/CharSequence$1CodePointIterator"), (10, .class_ 60), (0, u "java/lang/CharSequence$1CharIterator"), (5, .class_ 67), (0, u "java/lang/Object")] 63

/-- java/lang/CharSequence -/
def k4 : Class := { plain "java/lang/CharSequence" (some 0) with
  accessFlags := 1537
  interfaces := #[]
  cf := some (fileOf pool4 2 #[.nestMembers #[47, 59]] #[] 1537 66 #[] #[])
  fields := #[]
  methods := #[]
  instanceTypes := #[]
  staticTypes := #[]
  resolved := Array.replicate 131 none
  statics := none }

def pool5 : Array CpInfo := pool [(1, .class_ 2), (0, u "java/lang/constant/Constable"), (0, .class_ 4), (0, u "java/lang/Object")] 6

/-- java/lang/constant/Constable -/
def k5 : Class := { plain "java/lang/constant/Constable" (some 0) with
  accessFlags := 1537
  interfaces := #[]
  cf := some (fileOf pool5 1 #[] #[] 1537 3 #[] #[])
  fields := #[]
  methods := #[]
  instanceTypes := #[]
  staticTypes := #[]
  resolved := Array.replicate 11 none
  statics := none }

def pool6 : Array CpInfo := pool [(1, .class_ 2), (0, u "java/lang/constant/ConstantDesc"), (0, .class_ 4), (0, u "java/lang/Object")] 32

/-- java/lang/constant/ConstantDesc -/
def k6 : Class := { plain "java/lang/constant/ConstantDesc" (some 0) with
  accessFlags := 1537
  interfaces := #[]
  cf := some (fileOf pool6 1 #[] #[] 1537 3 #[] #[])
  fields := #[]
  methods := #[]
  instanceTypes := #[]
  staticTypes := #[]
  resolved := Array.replicate 37 none
  statics := none }

def pool7 : Array CpInfo := pool [(1, .methodref 2 3), (0, .class_ 4), (0, .nameAndType 5 6), (0, u "java/lang/Object"), (0, u "<init>"), (0, u "()V"), (0, .string 8), (0, u ""), (0, .fieldref 10 11), (0, .class_ 12), (0, .nameAndType 13 14), (0, u "java/lang/String"), (0, u "value"), (0, u "[B"), (0, .fieldref 10 16), (0, .nameAndType 17 18), (0, u "coder"), (0, u "B"), (2, u "hash"), (0, u "I"), (2, u "hashIsZero"), (0, u "Z"), (0, .methodref 10 28), (0, .nameAndType 5 29), (0, u "([CIILjava/lang/Void;)V"), (8, .fieldref 10 39), (0, .nameAndType 40 26), (0, u "COMPACT_STRINGS"), (1, .class_ 44), (1, u "java/lang/StringUTF16"), (0, u "compress"), (1, .methodref 42 48), (0, .nameAndType 49 50), (0, u "coderFromArrayLen"), (0, u "([BI)B"), (56, .class_ 109), (1, u "java/lang/StringLatin1"), (32, u "()Z"), (34, .methodref 42 178), (0, .nameAndType 45 179), (0, u "([CII)[B"), (154, u "()I"), (0, .methodref 10 336), (0, .nameAndType 17 337), (0, u "()B"), (154, .methodref 10 493), (0, .nameAndType 494 142), (0, u "isLatin1"), (10, .methodref 10 506), (0, .nameAndType 507 334), (0, u "length"), (5, u "checkFromToIndex"), (9, u "checkBoundsBeginEnd"), (0, u "(III)V"), (50, .class_ 576), (0, u "java/lang/CharSequence"), (22, u "CASE_INSENSITIVE_ORDER"), (0, u "Ljava/util/Comparator;"), (32, .methodref 10 634), (0, .nameAndType 635 636), (0, u "indexOf"), (0, u "(II)I"), (0, .methodref 107 638), (0, .nameAndType 635 639), (0, u "([BIII)I"), (0, .methodref 42 638), (124, u "(I)I"), (244, u "([C)V"), (42, .fieldref 1054 1055), (0, .class_ 1056), (0, .nameAndType 1057 1058), (0, u "jdk/internal/util/Preconditions"), (0, u "SIOOBE_FORMATTER"), (0, u "Ljava/util/function/BiFunction;"), (3, .methodref 1054 1063), (0, .nameAndType 513 1064), (0, u "(IIILjava/util/function/BiFunction;)I"), (36, u "serialPersistentFields"), (0, u "[Ljava/io/ObjectStreamField;"), (0, .class_ 1104), (0, u "java/lang/String$CaseInsensitiveComparator"), (1, .class_ 1107), (0, u "java/io/Serializable"), (0, .class_ 1109), (0, u "java/lang/Comparable"), (0, .class_ 1111), (0, u "java/lang/constant/Constable"), (0, .class_ 1113), (0, u "java/lang/constant/ConstantDesc"), (2, u "serialVersionUID"), (0, u "J"), (3, u "REPL"), (0, u "C"), (2, u "LATIN1"), (1, u "UTF16")] 323

def k7m0 : Method := { name := "<init>", desc := "()V", sig := { parameters := [], returnType := none }, accessFlags := 1, code := none }
def k7c1 : Code := { maxStack := 5, maxLocals := 2, code := jdk_42_method_3_code, exceptionTable := #[], attributes := #[] }
def k7m1 : Method := { name := "<init>", desc := "([C)V", sig := { parameters := [(.array .char)], returnType := none }, accessFlags := 1, code := some k7c1 }
def k7c2 : Code := { maxStack := 2, maxLocals := 1, code := jdk_42_method_54_code, exceptionTable := #[], attributes := #[] }
def k7m2 : Method := { name := "length", desc := "()I", sig := { parameters := [], returnType := some .int }, accessFlags := 1, code := some k7c2 }
def k7c3 : Code := { maxStack := 3, maxLocals := 2, code := jdk_42_method_79_code, exceptionTable := #[], attributes := #[] }
def k7m3 : Method := { name := "indexOf", desc := "(I)I", sig := { parameters := [.int], returnType := some .int }, accessFlags := 1, code := some k7c3 }
def k7c4 : Code := { maxStack := 4, maxLocals := 3, code := jdk_42_method_80_code, exceptionTable := #[], attributes := #[] }
def k7m4 : Method := { name := "indexOf", desc := "(II)I", sig := { parameters := [.int, .int], returnType := some .int }, accessFlags := 1, code := some k7c4 }
def k7c5 : Code := { maxStack := 4, maxLocals := 6, code := jdk_42_method_149_code, exceptionTable := #[], attributes := #[] }
def k7m5 : Method := { name := "<init>", desc := "([CIILjava/lang/Void;)V", sig := { parameters := [(.array .char), .int, .int, (.object "java/lang/Void")], returnType := none }, accessFlags := 2, code := some k7c5 }
def k7c6 : Code := { maxStack := 1, maxLocals := 1, code := jdk_42_method_152_code, exceptionTable := #[], attributes := #[] }
def k7m6 : Method := { name := "coder", desc := "()B", sig := { parameters := [], returnType := some .byte }, accessFlags := 0, code := some k7c6 }
def k7c7 : Code := { maxStack := 1, maxLocals := 1, code := jdk_42_method_154_code, exceptionTable := #[], attributes := #[] }
def k7m7 : Method := { name := "isLatin1", desc := "()Z", sig := { parameters := [], returnType := some .boolean }, accessFlags := 0, code := some k7c7 }
def k7c8 : Code := { maxStack := 4, maxLocals := 3, code := jdk_42_method_158_code, exceptionTable := #[], attributes := #[] }
def k7m8 : Method := { name := "checkBoundsBeginEnd", desc := "(III)V", sig := { parameters := [.int, .int, .int], returnType := none }, accessFlags := 8, code := some k7c8 }
/-- java/lang/String -/
def k7 : Class := { plain "java/lang/String" (some 0) with
  accessFlags := 49
  interfaces := #[2, 3, 4, 5, 6]
  cf := some (fileOf pool7 10 #[.nestMembers #[1103]] #[{ accessFlags := 1, nameIndex := 5, descriptorIndex := 6, attributes := #[] }, { accessFlags := 1, nameIndex := 5, descriptorIndex := 1010, attributes := #[] }, { accessFlags := 1, nameIndex := 507, descriptorIndex := 334, attributes := #[] }, { accessFlags := 1, nameIndex := 635, descriptorIndex := 765, attributes := #[] }, { accessFlags := 1, nameIndex := 635, descriptorIndex := 636, attributes := #[] }, { accessFlags := 2, nameIndex := 5, descriptorIndex := 29, attributes := #[] }, { accessFlags := 0, nameIndex := 17, descriptorIndex := 337, attributes := #[] }, { accessFlags := 0, nameIndex := 494, descriptorIndex := 142, attributes := #[] }, { accessFlags := 8, nameIndex := 523, descriptorIndex := 524, attributes := #[] }] 49 2 #[1106, 1108, 575, 1110, 1112] #[{ accessFlags := 18, nameIndex := 13, descriptorIndex := 14, attributes := #[] }, { accessFlags := 18, nameIndex := 17, descriptorIndex := 18, attributes := #[] }, { accessFlags := 2, nameIndex := 21, descriptorIndex := 22, attributes := #[] }, { accessFlags := 2, nameIndex := 25, descriptorIndex := 26, attributes := #[] }, { accessFlags := 26, nameIndex := 1116, descriptorIndex := 1117, attributes := #[] }, { accessFlags := 24, nameIndex := 40, descriptorIndex := 26, attributes := #[] }, { accessFlags := 26, nameIndex := 1101, descriptorIndex := 1102, attributes := #[] }, { accessFlags := 26, nameIndex := 1121, descriptorIndex := 1122, attributes := #[] }, { accessFlags := 25, nameIndex := 599, descriptorIndex := 600, attributes := #[] }, { accessFlags := 24, nameIndex := 1125, descriptorIndex := 18, attributes := #[] }, { accessFlags := 24, nameIndex := 1127, descriptorIndex := 18, attributes := #[] }])
  fields := #[{ name := "value", type := (.array .byte), accessFlags := 18, slot := 0, constantValue := 0 }, { name := "coder", type := .byte, accessFlags := 18, slot := 1, constantValue := 0 }, { name := "hash", type := .int, accessFlags := 2, slot := 2, constantValue := 0 }, { name := "hashIsZero", type := .boolean, accessFlags := 2, slot := 3, constantValue := 0 }, { name := "serialVersionUID", type := .long, accessFlags := 26, slot := 0, constantValue := 0 }, { name := "COMPACT_STRINGS", type := .boolean, accessFlags := 24, slot := 1, constantValue := 0 }, { name := "serialPersistentFields", type := (.array (.object "java/io/ObjectStreamField")), accessFlags := 26, slot := 2, constantValue := 0 }, { name := "REPL", type := .char, accessFlags := 26, slot := 3, constantValue := 0 }, { name := "CASE_INSENSITIVE_ORDER", type := (.object "java/util/Comparator"), accessFlags := 25, slot := 4, constantValue := 0 }, { name := "LATIN1", type := .byte, accessFlags := 24, slot := 5, constantValue := 0 }, { name := "UTF16", type := .byte, accessFlags := 24, slot := 6, constantValue := 0 }]
  methods := #[k7m0, k7m1, k7m2, k7m3, k7m4, k7m5, k7m6, k7m7, k7m8]
  instanceTypes := #[(.array .byte), .byte, .int, .boolean]
  staticTypes := #[.long, .boolean, (.array (.object "java/io/ObjectStreamField")), .char, (.object "java/util/Comparator"), .byte, .byte]
  resolved := Array.replicate 1451 none
  statics := some 0 }

def pool8 : Array CpInfo := pool [(2, .class_ 4), (1, u "java/lang/Object"), (6, .class_ 13), (1, u "com/example/bleeper/bleeper/cli/Fields"), (0, u "line"), (0, u "Ljava/lang/StringBuilder;"), (2, u "output"), (0, u "Ljava/io/Writer;"), (0, .methodref 21 22), (0, .class_ 23), (0, .nameAndType 24 25), (0, u "java/lang/String"), (0, u "indexOf"), (0, u "(I)I"), (28, u "canHold"), (0, u "(Ljava/lang/String;)Z"), (48, u "started"), (0, u "Z"), (0, u "BREAKS_FIELDS"), (0, u "Ljava/lang/String;")] 38

def k8c0 : Code := { maxStack := 2, maxLocals := 1, code := prog_47_method_2_code, exceptionTable := #[], attributes := #[] }
def k8m0 : Method := { name := "canHold", desc := "(Ljava/lang/String;)Z", sig := { parameters := [(.object "java/lang/String")], returnType := some .boolean }, accessFlags := 8, code := some k8c0 }
/-- com/example/bleeper/bleeper/cli/Fields -/
def k8 : Class := { plain "com/example/bleeper/bleeper/cli/Fields" (some 0) with
  accessFlags := 32
  interfaces := #[]
  cf := some (fileOf pool8 11 #[] #[{ accessFlags := 8, nameIndex := 54, descriptorIndex := 55, attributes := #[] }] 32 2 #[] #[{ accessFlags := 24, nameIndex := 106, descriptorIndex := 107, attributes := #[] }, { accessFlags := 18, nameIndex := 18, descriptorIndex := 19, attributes := #[] }, { accessFlags := 18, nameIndex := 14, descriptorIndex := 15, attributes := #[] }, { accessFlags := 2, nameIndex := 104, descriptorIndex := 105, attributes := #[] }])
  fields := #[{ name := "BREAKS_FIELDS", type := (.object "java/lang/String"), accessFlags := 24, slot := 0, constantValue := 0 }, { name := "output", type := (.object "java/io/Writer"), accessFlags := 18, slot := 0, constantValue := 0 }, { name := "line", type := (.object "java/lang/StringBuilder"), accessFlags := 18, slot := 1, constantValue := 0 }, { name := "started", type := .boolean, accessFlags := 2, slot := 2, constantValue := 0 }]
  methods := #[k8m0]
  instanceTypes := #[(.object "java/io/Writer"), (.object "java/lang/StringBuilder"), .boolean]
  staticTypes := #[(.object "java/lang/String")]
  resolved := Array.replicate 146 none
  statics := none }

def pool9 : Array CpInfo := pool [(4, .class_ 6), (1, u "java/lang/Object"), (0, u "<init>"), (0, u "()V"), (5, .class_ 16), (1, u "java/lang/StringLatin1"), (21, .methodref 39 40), (0, .class_ 41), (0, .nameAndType 42 43), (0, u "java/lang/Math"), (0, u "min"), (0, u "(II)I"), (44, .methodref 14 89), (0, .nameAndType 90 91), (0, u "canEncode"), (0, u "(I)Z"), (0, .methodref 39 93), (0, .nameAndType 94 43), (0, u "max"), (0, .methodref 14 96), (0, .nameAndType 97 98), (0, u "indexOfChar"), (0, u "([BIII)I"), (2, u "indexOf"), (19, u "$assertionsDisabled"), (0, u "Z"), (98, .class_ 223), (1, u "java/lang/StringLatin1$LinesSpliterator"), (166, .class_ 391), (0, u "java/lang/StringLatin1$CharsSpliterator")] 3

def k9m0 : Method := { name := "<init>", desc := "()V", sig := { parameters := [], returnType := none }, accessFlags := 0, code := none }
def k9c1 : Code := { maxStack := 2, maxLocals := 1, code := jdk_43_method_4_code, exceptionTable := #[], attributes := #[] }
def k9m1 : Method := { name := "canEncode", desc := "(I)Z", sig := { parameters := [.int], returnType := some .boolean }, accessFlags := 9, code := some k9c1 }
def k9c2 : Code := { maxStack := 4, maxLocals := 4, code := jdk_43_method_22_code, exceptionTable := #[], attributes := #[] }
def k9m2 : Method := { name := "indexOf", desc := "([BIII)I", sig := { parameters := [(.array .byte), .int, .int, .int], returnType := some .int }, accessFlags := 9, code := some k9c2 }
def k9c3 : Code := { maxStack := 2, maxLocals := 6, code := jdk_43_method_23_code, exceptionTable := #[], attributes := #[] }
def k9m3 : Method := { name := "indexOfChar", desc := "([BIII)I", sig := { parameters := [(.array .byte), .int, .int, .int], returnType := some .int }, accessFlags := 10, code := some k9c3 }
/-- java/lang/StringLatin1 -/
def k9 : Class := { plain "java/lang/StringLatin1" (some 0) with
  accessFlags := 48
  interfaces := #[]
  cf := some (fileOf pool9 14 #[.nestMembers #[390, 221]] #[{ accessFlags := 0, nameIndex := 7, descriptorIndex := 8, attributes := #[] }, { accessFlags := 9, nameIndex := 90, descriptorIndex := 91, attributes := #[] }, { accessFlags := 9, nameIndex := 101, descriptorIndex := 98, attributes := #[] }, { accessFlags := 10, nameIndex := 97, descriptorIndex := 98, attributes := #[] }] 48 4 #[] #[{ accessFlags := 4120, nameIndex := 121, descriptorIndex := 122, attributes := #[] }])
  fields := #[{ name := "$assertionsDisabled", type := .boolean, accessFlags := 4120, slot := 0, constantValue := 0 }]
  methods := #[k9m0, k9m1, k9m2, k9m3]
  instanceTypes := #[]
  staticTypes := #[.boolean]
  resolved := Array.replicate 395 none
  statics := none }

def pool10 : Array CpInfo := pool [(1, .class_ 2), (0, u "java/lang/Math"), (1, .class_ 6), (1, u "java/lang/Object"), (0, u "<init>"), (0, u "()V"), (89, .class_ 100), (1, u "java/lang/Math$RandomNumberGeneratorHolder"), (71, u "negativeZeroFloatBits"), (0, u "J"), (2, u "negativeZeroDoubleBits"), (21, u "max"), (2, u "min"), (43, u "$assertionsDisabled"), (0, u "Z"), (88, u "(II)I"), (2, u "twoToTheDoubleScaleDown"), (0, u "D"), (4, u "twoToTheDoubleScaleUp"), (9, u "E"), (3, u "PI"), (2, u "TAU"), (2, u "DEGREES_TO_RADIANS"), (0, u "RADIANS_TO_DEGREES")] 94

def k10m0 : Method := { name := "<init>", desc := "()V", sig := { parameters := [], returnType := none }, accessFlags := 2, code := none }
def k10c1 : Code := { maxStack := 2, maxLocals := 2, code := jdk_29_method_65_code, exceptionTable := #[], attributes := #[] }
def k10m1 : Method := { name := "max", desc := "(II)I", sig := { parameters := [.int, .int], returnType := some .int }, accessFlags := 9, code := some k10c1 }
def k10c2 : Code := { maxStack := 2, maxLocals := 2, code := jdk_29_method_69_code, exceptionTable := #[], attributes := #[] }
def k10m2 : Method := { name := "min", desc := "(II)I", sig := { parameters := [.int, .int], returnType := some .int }, accessFlags := 9, code := some k10c2 }
/-- java/lang/Math -/
def k10 : Class := { plain "java/lang/Math" (some 0) with
  accessFlags := 49
  interfaces := #[]
  cf := some (fileOf pool10 1 #[.nestMembers #[98]] #[{ accessFlags := 2, nameIndex := 7, descriptorIndex := 8, attributes := #[] }, { accessFlags := 9, nameIndex := 198, descriptorIndex := 335, attributes := #[] }, { accessFlags := 9, nameIndex := 201, descriptorIndex := 335, attributes := #[] }] 49 4 #[] #[{ accessFlags := 25, nameIndex := 354, descriptorIndex := 339, attributes := #[] }, { accessFlags := 25, nameIndex := 358, descriptorIndex := 339, attributes := #[] }, { accessFlags := 25, nameIndex := 361, descriptorIndex := 339, attributes := #[] }, { accessFlags := 26, nameIndex := 364, descriptorIndex := 339, attributes := #[] }, { accessFlags := 26, nameIndex := 365, descriptorIndex := 339, attributes := #[] }, { accessFlags := 26, nameIndex := 172, descriptorIndex := 173, attributes := #[] }, { accessFlags := 26, nameIndex := 176, descriptorIndex := 173, attributes := #[] }, { accessFlags := 8, nameIndex := 344, descriptorIndex := 339, attributes := #[] }, { accessFlags := 8, nameIndex := 338, descriptorIndex := 339, attributes := #[] }, { accessFlags := 4120, nameIndex := 245, descriptorIndex := 246, attributes := #[] }])
  fields := #[{ name := "E", type := .double, accessFlags := 25, slot := 0, constantValue := 0 }, { name := "PI", type := .double, accessFlags := 25, slot := 1, constantValue := 0 }, { name := "TAU", type := .double, accessFlags := 25, slot := 2, constantValue := 0 }, { name := "DEGREES_TO_RADIANS", type := .double, accessFlags := 26, slot := 3, constantValue := 0 }, { name := "RADIANS_TO_DEGREES", type := .double, accessFlags := 26, slot := 4, constantValue := 0 }, { name := "negativeZeroFloatBits", type := .long, accessFlags := 26, slot := 5, constantValue := 0 }, { name := "negativeZeroDoubleBits", type := .long, accessFlags := 26, slot := 6, constantValue := 0 }, { name := "twoToTheDoubleScaleUp", type := .double, accessFlags := 8, slot := 7, constantValue := 0 }, { name := "twoToTheDoubleScaleDown", type := .double, accessFlags := 8, slot := 8, constantValue := 0 }, { name := "$assertionsDisabled", type := .boolean, accessFlags := 4120, slot := 9, constantValue := 0 }]
  methods := #[k10m0, k10m1, k10m2]
  instanceTypes := #[]
  staticTypes := #[.double, .double, .double, .double, .double, .long, .long, .double, .double, .boolean]
  resolved := Array.replicate 460 none
  statics := none }

def pool11 : Array CpInfo := pool [(3, .class_ 4), (0, u "java/lang/String"), (1, .class_ 8), (1, u "java/lang/Object"), (0, u "<init>"), (0, u "()V"), (0, .methodref 12 13), (0, .class_ 14), (0, .nameAndType 15 16), (0, u "java/lang/StringUTF16"), (0, u "newBytesLength"), (0, u "(I)I"), (3, .integer 1073741823), (23, .fieldref 12 45), (0, .nameAndType 46 47), (0, u "$assertionsDisabled"), (0, u "Z"), (0, .methodref 12 49), (0, .nameAndType 50 51), (0, u "length"), (0, u "([B)I"), (7, .fieldref 12 60), (0, .nameAndType 61 62), (0, u "HI_BYTE_SHIFT"), (0, u "I"), (0, .fieldref 12 64), (0, .nameAndType 65 62), (0, u "LO_BYTE_SHIFT"), (5, .methodref 12 72), (0, .nameAndType 73 74), (0, u "getChar"), (0, u "([BI)C"), (21, .methodref 12 97), (0, .nameAndType 98 99), (0, u "checkBoundsBeginEnd"), (0, u "(II[B)V"), (7, .methodref 12 108), (0, .nameAndType 109 110), (0, u "newBytesFor"), (0, u "(I)[B"), (0, .methodref 12 112), (0, .nameAndType 113 114), (0, u "putChar"), (0, u "([BII)V"), (0, .methodref 12 116), (0, .nameAndType 117 118), (0, u "compress"), (0, u "([CI[BII)I"), (0, .methodref 12 120), (0, .nameAndType 121 122), (0, u "toBytes"), (0, u "([CII)[B"), (60, .methodref 184 185), (0, .class_ 186), (0, .nameAndType 187 188), (0, u "java/lang/Math"), (0, u "min"), (0, u "(II)I"), (35, .methodref 184 225), (0, .nameAndType 226 188), (0, u "max"), (0, .integer 65536), (0, .methodref 12 229), (0, .nameAndType 230 231), (0, u "indexOfChar"), (0, u "([BIII)I"), (9, .methodref 3 242), (0, .nameAndType 98 243), (0, u "(III)V"), (0, .methodref 12 245), (0, .nameAndType 246 231), (0, u "indexOfCharUnsafe"), (14, u "coderFromArrayLen"), (0, u "([BI)B"), (5, u "indexOf"), (100, .class_ 371), (1, u "java/lang/StringUTF16$LinesSpliterator"), (58, u "MAX_LENGTH"), (196, .class_ 628), (0, u "java/lang/StringUTF16$CodePointsSpliterator"), (0, .class_ 630), (0, u "java/lang/StringUTF16$CharsSpliterator")] 4

def k11m0 : Method := { name := "<init>", desc := "()V", sig := { parameters := [], returnType := none }, accessFlags := 0, code := none }
def k11c1 : Code := { maxStack := 1, maxLocals := 1, code := jdk_52_method_2_code, exceptionTable := #[], attributes := #[] }
def k11m1 : Method := { name := "newBytesFor", desc := "(I)[B", sig := { parameters := [.int], returnType := some (.array .byte) }, accessFlags := 9, code := some k11c1 }
def k11c2 : Code := { maxStack := 4, maxLocals := 1, code := jdk_52_method_3_code, exceptionTable := #[], attributes := #[] }
def k11m2 : Method := { name := "newBytesLength", desc := "(I)I", sig := { parameters := [.int], returnType := some .int }, accessFlags := 9, code := some k11c2 }
def k11c3 : Code := { maxStack := 4, maxLocals := 3, code := jdk_52_method_4_code, exceptionTable := #[], attributes := #[] }
def k11m3 : Method := { name := "putChar", desc := "([BII)V", sig := { parameters := [(.array .byte), .int, .int], returnType := none }, accessFlags := 8, code := some k11c3 }
def k11c4 : Code := { maxStack := 3, maxLocals := 2, code := jdk_52_method_5_code, exceptionTable := #[], attributes := #[] }
def k11m4 : Method := { name := "getChar", desc := "([BI)C", sig := { parameters := [(.array .byte), .int], returnType := some .char }, accessFlags := 8, code := some k11c4 }
def k11c5 : Code := { maxStack := 2, maxLocals := 1, code := jdk_52_method_6_code, exceptionTable := #[], attributes := #[] }
def k11m5 : Method := { name := "length", desc := "([B)I", sig := { parameters := [(.array .byte)], returnType := some .int }, accessFlags := 9, code := some k11c5 }
def k11c6 : Code := { maxStack := 4, maxLocals := 5, code := jdk_52_method_14_code, exceptionTable := #[], attributes := #[] }
def k11m6 : Method := { name := "toBytes", desc := "([CII)[B", sig := { parameters := [(.array .char), .int, .int], returnType := some (.array .byte) }, accessFlags := 9, code := some k11c6 }
def k11c7 : Code := { maxStack := 2, maxLocals := 2, code := jdk_52_method_15_code, exceptionTable := #[], attributes := #[] }
def k11m7 : Method := { name := "coderFromArrayLen", desc := "([BI)B", sig := { parameters := [(.array .byte), .int], returnType := some .byte }, accessFlags := 8, code := some k11c7 }
def k11c8 : Code := { maxStack := 5, maxLocals := 6, code := jdk_52_method_16_code, exceptionTable := #[], attributes := #[] }
def k11m8 : Method := { name := "compress", desc := "([CII)[B", sig := { parameters := [(.array .char), .int, .int], returnType := some (.array .byte) }, accessFlags := 9, code := some k11c8 }
def k11c9 : Code := { maxStack := 3, maxLocals := 7, code := jdk_52_method_21_code, exceptionTable := #[], attributes := #[] }
def k11m9 : Method := { name := "compress", desc := "([CI[BII)I", sig := { parameters := [(.array .char), .int, (.array .byte), .int, .int], returnType := some .int }, accessFlags := 9, code := some k11c9 }
def k11c10 : Code := { maxStack := 4, maxLocals := 4, code := jdk_52_method_40_code, exceptionTable := #[], attributes := #[] }
def k11m10 : Method := { name := "indexOf", desc := "([BIII)I", sig := { parameters := [(.array .byte), .int, .int, .int], returnType := some .int }, accessFlags := 9, code := some k11c10 }
def k11c11 : Code := { maxStack := 4, maxLocals := 4, code := jdk_52_method_47_code, exceptionTable := #[], attributes := #[] }
def k11m11 : Method := { name := "indexOfChar", desc := "([BIII)I", sig := { parameters := [(.array .byte), .int, .int, .int], returnType := some .int }, accessFlags := 10, code := some k11c11 }
def k11c12 : Code := { maxStack := 2, maxLocals := 5, code := jdk_52_method_48_code, exceptionTable := #[], attributes := #[] }
def k11m12 : Method := { name := "indexOfCharUnsafe", desc := "([BIII)I", sig := { parameters := [(.array .byte), .int, .int, .int], returnType := some .int }, accessFlags := 10, code := some k11c12 }
def k11c13 : Code := { maxStack := 3, maxLocals := 3, code := jdk_52_method_93_code, exceptionTable := #[], attributes := #[] }
def k11m13 : Method := { name := "checkBoundsBeginEnd", desc := "(II[B)V", sig := { parameters := [.int, .int, (.array .byte)], returnType := none }, accessFlags := 9, code := some k11c13 }
/-- java/lang/StringUTF16 -/
def k11 : Class := { plain "java/lang/StringUTF16" (some 0) with
  accessFlags := 48
  interfaces := #[]
  cf := some (fileOf pool11 12 #[.nestMembers #[627, 629, 369]] #[{ accessFlags := 0, nameIndex := 9, descriptorIndex := 10, attributes := #[] }, { accessFlags := 9, nameIndex := 109, descriptorIndex := 110, attributes := #[] }, { accessFlags := 9, nameIndex := 15, descriptorIndex := 16, attributes := #[] }, { accessFlags := 8, nameIndex := 113, descriptorIndex := 114, attributes := #[] }, { accessFlags := 8, nameIndex := 73, descriptorIndex := 74, attributes := #[] }, { accessFlags := 9, nameIndex := 50, descriptorIndex := 51, attributes := #[] }, { accessFlags := 9, nameIndex := 121, descriptorIndex := 122, attributes := #[] }, { accessFlags := 8, nameIndex := 261, descriptorIndex := 262, attributes := #[] }, { accessFlags := 9, nameIndex := 117, descriptorIndex := 122, attributes := #[] }, { accessFlags := 9, nameIndex := 117, descriptorIndex := 118, attributes := #[] }, { accessFlags := 9, nameIndex := 268, descriptorIndex := 231, attributes := #[] }, { accessFlags := 10, nameIndex := 230, descriptorIndex := 231, attributes := #[] }, { accessFlags := 10, nameIndex := 246, descriptorIndex := 231, attributes := #[] }, { accessFlags := 9, nameIndex := 98, descriptorIndex := 99, attributes := #[] }] 48 6 #[] #[{ accessFlags := 26, nameIndex := 61, descriptorIndex := 62, attributes := #[] }, { accessFlags := 26, nameIndex := 65, descriptorIndex := 62, attributes := #[] }, { accessFlags := 24, nameIndex := 430, descriptorIndex := 62, attributes := #[] }, { accessFlags := 4120, nameIndex := 46, descriptorIndex := 47, attributes := #[] }])
  fields := #[{ name := "HI_BYTE_SHIFT", type := .int, accessFlags := 26, slot := 0, constantValue := 0 }, { name := "LO_BYTE_SHIFT", type := .int, accessFlags := 26, slot := 1, constantValue := 0 }, { name := "MAX_LENGTH", type := .int, accessFlags := 24, slot := 2, constantValue := 0 }, { name := "$assertionsDisabled", type := .boolean, accessFlags := 4120, slot := 3, constantValue := 0 }]
  methods := #[k11m0, k11m1, k11m2, k11m3, k11m4, k11m5, k11m6, k11m7, k11m8, k11m9, k11m10, k11m11, k11m12, k11m13]
  instanceTypes := #[]
  staticTypes := #[.int, .int, .int, .boolean]
  resolved := Array.replicate 635 none
  statics := some 1 }

def pool12 : Array CpInfo := pool [(2, .class_ 4), (1, u "java/lang/Object"), (0, u "<init>"), (0, u "()V"), (17, .class_ 26), (1, u "jdk/internal/util/Preconditions"), (20, u "checkFromToIndex"), (7, .class_ 56), (0, u "jdk/internal/util/Preconditions$4"), (57, .class_ 115), (0, u "jdk/internal/util/Preconditions$1"), (7, u "SIOOBE_FORMATTER"), (0, u "Ljava/util/function/BiFunction;"), (0, .class_ 126), (0, u "jdk/internal/util/Preconditions$2"), (3, u "AIOOBE_FORMATTER"), (0, .class_ 132), (0, u "jdk/internal/util/Preconditions$3"), (3, u "IOOBE_FORMATTER"), (46, u "(IIILjava/util/function/BiFunction;)I")] 10

def k12m0 : Method := { name := "<init>", desc := "()V", sig := { parameters := [], returnType := none }, accessFlags := 1, code := none }
def k12c1 : Code := { maxStack := 4, maxLocals := 4, code := jdk_41_method_12_code, exceptionTable := #[], attributes := #[] }
def k12m1 : Method := { name := "checkFromToIndex", desc := "(IIILjava/util/function/BiFunction;)I", sig := { parameters := [.int, .int, .int, (.object "java/util/function/BiFunction")], returnType := some .int }, accessFlags := 9, code := some k12c1 }
/-- jdk/internal/util/Preconditions -/
def k12 : Class := { plain "jdk/internal/util/Preconditions" (some 0) with
  accessFlags := 33
  interfaces := #[]
  cf := some (fileOf pool12 24 #[.nestMembers #[55, 131, 125, 114]] #[{ accessFlags := 1, nameIndex := 5, descriptorIndex := 6, attributes := #[] }, { accessFlags := 9, nameIndex := 47, descriptorIndex := 183, attributes := #[] }] 33 2 #[] #[{ accessFlags := 25, nameIndex := 123, descriptorIndex := 124, attributes := #[] }, { accessFlags := 25, nameIndex := 130, descriptorIndex := 124, attributes := #[] }, { accessFlags := 25, nameIndex := 136, descriptorIndex := 124, attributes := #[] }])
  fields := #[{ name := "SIOOBE_FORMATTER", type := (.object "java/util/function/BiFunction"), accessFlags := 25, slot := 0, constantValue := 0 }, { name := "AIOOBE_FORMATTER", type := (.object "java/util/function/BiFunction"), accessFlags := 25, slot := 1, constantValue := 0 }, { name := "IOOBE_FORMATTER", type := (.object "java/util/function/BiFunction"), accessFlags := 25, slot := 2, constantValue := 0 }]
  methods := #[k12m0, k12m1]
  instanceTypes := #[]
  staticTypes := #[(.object "java/util/function/BiFunction"), (.object "java/util/function/BiFunction"), (.object "java/util/function/BiFunction")]
  resolved := Array.replicate 194 none
  statics := some 2 }

def pool13 : Array CpInfo := pool [(9, u "<init>"), (6, .class_ 18), (1, u "java/lang/Object"), (0, u "()V"), (1, .class_ 23), (1, u "jdk/internal/util/ArraysSupport"), (0, u "LOG2_ARRAY_LONG_INDEX_SCALE"), (0, u "I"), (2, u "U"), (0, u "Ljdk/internal/misc/Unsafe;"), (8, u "BIG_ENDIAN"), (0, u "Z"), (8, u "LOG2_BYTE_BIT_SIZE"), (4, u "LOG2_ARRAY_INT_INDEX_SCALE"), (54, u "JLA"), (0, u "Ljdk/internal/access/JavaLangAccess;"), (11, u "LOG2_ARRAY_BOOLEAN_INDEX_SCALE"), (9, u "LOG2_ARRAY_BYTE_INDEX_SCALE"), (5, u "LOG2_ARRAY_CHAR_INDEX_SCALE"), (5, u "LOG2_ARRAY_SHORT_INDEX_SCALE"), (18, u "LOG2_ARRAY_FLOAT_INDEX_SCALE"), (24, u "LOG2_ARRAY_DOUBLE_INDEX_SCALE"), (89, u "T_BOOLEAN"), (2, u "T_CHAR"), (1, u "T_FLOAT"), (1, u "T_DOUBLE"), (1, u "T_BYTE"), (1, u "T_SHORT"), (1, u "T_INT"), (1, u "T_LONG"), (1, u "SOFT_MAX_ARRAY_LENGTH")] 83

def k13m0 : Method := { name := "<init>", desc := "()V", sig := { parameters := [], returnType := none }, accessFlags := 2, code := none }
/-- jdk/internal/util/ArraysSupport -/
def k13 : Class := { plain "jdk/internal/util/ArraysSupport" (some 0) with
  accessFlags := 33
  interfaces := #[]
  cf := some (fileOf pool13 21 #[] #[{ accessFlags := 2, nameIndex := 9, descriptorIndex := 19, attributes := #[] }] 33 16 #[] #[{ accessFlags := 24, nameIndex := 28, descriptorIndex := 29, attributes := #[] }, { accessFlags := 26, nameIndex := 38, descriptorIndex := 39, attributes := #[] }, { accessFlags := 25, nameIndex := 121, descriptorIndex := 25, attributes := #[] }, { accessFlags := 25, nameIndex := 131, descriptorIndex := 25, attributes := #[] }, { accessFlags := 25, nameIndex := 137, descriptorIndex := 25, attributes := #[] }, { accessFlags := 25, nameIndex := 143, descriptorIndex := 25, attributes := #[] }, { accessFlags := 25, nameIndex := 53, descriptorIndex := 25, attributes := #[] }, { accessFlags := 25, nameIndex := 24, descriptorIndex := 25, attributes := #[] }, { accessFlags := 25, nameIndex := 162, descriptorIndex := 25, attributes := #[] }, { accessFlags := 25, nameIndex := 187, descriptorIndex := 25, attributes := #[] }, { accessFlags := 26, nameIndex := 48, descriptorIndex := 25, attributes := #[] }, { accessFlags := 25, nameIndex := 277, descriptorIndex := 25, attributes := #[] }, { accessFlags := 25, nameIndex := 280, descriptorIndex := 25, attributes := #[] }, { accessFlags := 25, nameIndex := 282, descriptorIndex := 25, attributes := #[] }, { accessFlags := 25, nameIndex := 284, descriptorIndex := 25, attributes := #[] }, { accessFlags := 25, nameIndex := 286, descriptorIndex := 25, attributes := #[] }, { accessFlags := 25, nameIndex := 288, descriptorIndex := 25, attributes := #[] }, { accessFlags := 25, nameIndex := 290, descriptorIndex := 25, attributes := #[] }, { accessFlags := 25, nameIndex := 292, descriptorIndex := 25, attributes := #[] }, { accessFlags := 26, nameIndex := 108, descriptorIndex := 109, attributes := #[] }, { accessFlags := 25, nameIndex := 294, descriptorIndex := 25, attributes := #[] }])
  fields := #[{ name := "U", type := (.object "jdk/internal/misc/Unsafe"), accessFlags := 24, slot := 0, constantValue := 0 }, { name := "BIG_ENDIAN", type := .boolean, accessFlags := 26, slot := 1, constantValue := 0 }, { name := "LOG2_ARRAY_BOOLEAN_INDEX_SCALE", type := .int, accessFlags := 25, slot := 2, constantValue := 0 }, { name := "LOG2_ARRAY_BYTE_INDEX_SCALE", type := .int, accessFlags := 25, slot := 3, constantValue := 0 }, { name := "LOG2_ARRAY_CHAR_INDEX_SCALE", type := .int, accessFlags := 25, slot := 4, constantValue := 0 }, { name := "LOG2_ARRAY_SHORT_INDEX_SCALE", type := .int, accessFlags := 25, slot := 5, constantValue := 0 }, { name := "LOG2_ARRAY_INT_INDEX_SCALE", type := .int, accessFlags := 25, slot := 6, constantValue := 0 }, { name := "LOG2_ARRAY_LONG_INDEX_SCALE", type := .int, accessFlags := 25, slot := 7, constantValue := 0 }, { name := "LOG2_ARRAY_FLOAT_INDEX_SCALE", type := .int, accessFlags := 25, slot := 8, constantValue := 0 }, { name := "LOG2_ARRAY_DOUBLE_INDEX_SCALE", type := .int, accessFlags := 25, slot := 9, constantValue := 0 }, { name := "LOG2_BYTE_BIT_SIZE", type := .int, accessFlags := 26, slot := 10, constantValue := 0 }, { name := "T_BOOLEAN", type := .int, accessFlags := 25, slot := 11, constantValue := 0 }, { name := "T_CHAR", type := .int, accessFlags := 25, slot := 12, constantValue := 0 }, { name := "T_FLOAT", type := .int, accessFlags := 25, slot := 13, constantValue := 0 }, { name := "T_DOUBLE", type := .int, accessFlags := 25, slot := 14, constantValue := 0 }, { name := "T_BYTE", type := .int, accessFlags := 25, slot := 15, constantValue := 0 }, { name := "T_SHORT", type := .int, accessFlags := 25, slot := 16, constantValue := 0 }, { name := "T_INT", type := .int, accessFlags := 25, slot := 17, constantValue := 0 }, { name := "T_LONG", type := .int, accessFlags := 25, slot := 18, constantValue := 0 }, { name := "JLA", type := (.object "jdk/internal/access/JavaLangAccess"), accessFlags := 26, slot := 19, constantValue := 0 }, { name := "SOFT_MAX_ARRAY_LENGTH", type := .int, accessFlags := 25, slot := 20, constantValue := 0 }]
  methods := #[k13m0]
  instanceTypes := #[]
  staticTypes := #[(.object "jdk/internal/misc/Unsafe"), .boolean, .int, .int, .int, .int, .int, .int, .int, .int, .int, .int, .int, .int, .int, .int, .int, .int, .int, (.object "jdk/internal/access/JavaLangAccess"), .int]
  resolved := Array.replicate 378 none
  statics := none }

def pool14 : Array CpInfo := pool [(1, u "java/lang/Cloneable"), (0, .class_ 1), (0, u "java/lang/Object"), (0, .class_ 3)] 3

/-- java/lang/Cloneable -/
def k14 : Class := { plain "java/lang/Cloneable" (some 0) with
  accessFlags := 1537
  interfaces := #[]
  cf := some (fileOf pool14 2 #[] #[] 1537 4 #[] #[])
  fields := #[]
  methods := #[]
  instanceTypes := #[]
  staticTypes := #[]
  resolved := Array.replicate 8 none
  statics := none }

/-- the primitive byte -/
def k15 : Class := { plain "byte" none with kind := .primitive 'B', accessFlags := 0x411 }
/-- [B -/
def k16 : Class := { plain "[B" (some 0) with kind := .array 15 .byte, interfaces := #[14, 2], accessFlags := 1041 }

/-- the primitive char -/
def k17 : Class := { plain "char" none with kind := .primitive 'C', accessFlags := 0x411 }
/-- [C -/
def k18 : Class := { plain "[C" (some 0) with kind := .array 17 .char, interfaces := #[14, 2], accessFlags := 1041 }

/-- the primitive int -/
def k19 : Class := { plain "int" none with kind := .primitive 'I', accessFlags := 0x411 }
/-- [I -/
def k20 : Class := { plain "[I" (some 0) with kind := .array 19 .int, interfaces := #[14, 2], accessFlags := 1041 }

def heap : Heap := #[{ cls := 7, slots := #[.long 0, .int 1, .null, .int 0, .null, .int 0, .int 0], vm := .statics 7 },
  { cls := 11, slots := #[.int 0, .int 8, .int 0, .int 1], vm := .statics 11 },
  { cls := 12, slots := #[.null, .null, .null], vm := .statics 12 }]
def classes : Array Class := #[k0, k1, k2, k3, k4, k5, k6, k7, k8, k9, k10, k11, k12, k13, k14, k15, k16, k17, k18, k19, k20]
def interned : List (Array UInt16 × Addr) := []
def slotsUsed : Nat := 14
def theMethod : MethodId := ⟨1, 1⟩
def args0 : Array Value := #[.int 1, .int 1, .int 1, .int 1, .int 1]
def aboutOver (below : List Frame) : State where
  vm := { classes := classes, interned := interned.toArray }
  heap := heap
  slotsUsed := slotsUsed
  threads := #[{ frames := .invoking theMethod args0 :: below }]
def below0 : List Frame := [.native { method := ⟨0, 0⟩, args := #[] }]
def about1 : State := aboutOver below0
def p0 : Program := .bare "" "" ""
def e0 : Env := launch0.env 0 0 0
theorem w_frames : about1.frames = Frame.invoking theMethod args0 :: below0 := rfl
set_option maxRecDepth 65536 in
theorem w_args : argsFit about1.vm theMethod args0 = true := by decide +kernel
set_option maxRecDepth 65536 in
theorem w_heap : heapFits about1 = true := by decide +kernel
set_option maxRecDepth 65536 in
theorem w_runnable : about1.curStatus? = some .runnable := by decide +kernel
set_option maxRecDepth 65536 in
theorem w_alone : about1.alone = true := by decide +kernel
set_option maxRecDepth 65536 in
theorem w_named : about1.methodNamed? x = some theMethod := by decide +kernel
set_option maxRecDepth 65536 in
theorem w_hears : about1.hears theMethod below0 = true := by decide +kernel
set_option maxRecDepth 65536 in
theorem w_ripe : about1.ripe theMethod args0 below0 = true := by decide +kernel
theorem w_running : about1.status = .running := rfl
set_option maxRecDepth 65536 in
theorem w_room : about1.hasRoom e0.platform room_1 = true :=
  launch0.hasRoom_least _ room_1 (by decide +kernel) (by decide +kernel) (by decide +kernel) (by decide +kernel) (by decide +kernel) (by decide +kernel)
theorem allAtoms_all (ts : List Jvm.Cond) (a : Array Jvm.Value) (st : Jvm.State) : (allAtoms ts).before a st = ts.all (fun c => c.before a st) := by
  induction ts with
  | nil => rfl
  | cons c t ih =>
    show (Jvm.Cond.and c (allAtoms t)).before a st = _
    rw [Jvm.Cond.before_and, ih, List.all_cons]
def words1 : List Jvm.Cond := Jvm.Cond.code x code maxLocals ret :: tables_1
/-- a 'code' word, met by the world's own term for the bytes: nothing is compared byte by byte -/
theorem code_word {y : MethodName} {bytes : ByteArray} {mx : Nat} {rt : Option FieldType} {a : Array Value} {s : State} {m : MethodId} {meth : Method} {c : Code} (h1 : s.methodNamed? y = some m) (h2 : s.vm.method? m = some meth) (h3 : meth.code = some c) (h4 : c.code = bytes)
    (h5 : (c.maxLocals == mx && c.exceptionTable.isEmpty && decide (c.maxStack ≤ mostOperands) && decide (meth.sig.returnType = rt) && !meth.locks && decide (parseMethodDescriptor y.desc = some meth.sig)) = true) : (Jvm.Cond.code y bytes mx rt).before a s = true := by
  simp only [Bool.and_eq_true, beq_iff_eq, Bool.not_eq_true', decide_eq_true_eq] at h5
  obtain ⟨⟨⟨⟨⟨g1, g2⟩, g3⟩, g4⟩, g5⟩, g6⟩ := h5
  simp [Cond.before, Cond.holds, Cond.value, h1, h2, h3, h4, g1, g2, g3, g4, g5, g6]
def isCode : Jvm.Cond → Bool
  | .code _ _ _ _ => true
  | _ => false
theorem all_split {L : List Jvm.Cond} {P : Jvm.Cond → Bool} (h1 : L.all (fun c => isCode c || P c) = true) (h2 : ∀ c ∈ L.filter isCode, P c = true) : L.all P = true := by
  refine List.all_eq_true.mpr fun c hc => ?_
  have h := List.all_eq_true.mp h1 c hc
  rcases Bool.eq_false_or_eq_true (isCode c) with hi | hi
  · exact h2 c (List.mem_filter.mpr ⟨hc, hi⟩)
  · simpa [hi] using h
set_option maxRecDepth 65536 in
theorem w_c0 : (Jvm.Cond.code x code maxLocals ret).before args0 about1 = true := code_word (m := ⟨1, 1⟩) (meth := k1m1) (c := k1c1) (by decide +kernel) rfl rfl rfl (by decide +kernel)
set_option maxRecDepth 65536 in
theorem w_c1 : (Jvm.Cond.code ({ cls := "com/example/bleeper/bleeper/cli/FieldsCanHoldPinLaw", name := "draw", desc := "(I)C" } : Jvm.MethodName) method_3_code (2 : Nat) (Option.some Jvm.ClassFile.FieldType.char)).before args0 about1 = true := code_word (m := ⟨1, 2⟩) (meth := k1m2) (c := k1c2) (by decide +kernel) rfl rfl rfl (by decide +kernel)
set_option maxRecDepth 65536 in
theorem w_c2 : (Jvm.Cond.code ({ cls := "com/example/bleeper/bleeper/cli/FieldsCanHoldPinLaw", name := "text", desc := "(ICCCC)Ljava/lang/String;" } : Jvm.MethodName) method_5_code (5 : Nat) (Option.some (Jvm.ClassFile.FieldType.object "java/lang/String"))).before args0 about1 = true := code_word (m := ⟨1, 4⟩) (meth := k1m4) (c := k1c4) (by decide +kernel) rfl rfl rfl (by decide +kernel)
set_option maxRecDepth 65536 in
theorem w_c3 : (Jvm.Cond.code ({ cls := "java/lang/String", name := "<init>", desc := "([C)V" } : Jvm.MethodName) jdk_42_method_3_code (2 : Nat) (Option.none : Option Jvm.ClassFile.FieldType)).before args0 about1 = true := code_word (m := ⟨7, 1⟩) (meth := k7m1) (c := k7c1) (by decide +kernel) rfl rfl rfl (by decide +kernel)
set_option maxRecDepth 65536 in
theorem w_c4 : (Jvm.Cond.code ({ cls := "java/lang/String", name := "<init>", desc := "([CIILjava/lang/Void;)V" } : Jvm.MethodName) jdk_42_method_149_code (6 : Nat) (Option.none : Option Jvm.ClassFile.FieldType)).before args0 about1 = true := code_word (m := ⟨7, 5⟩) (meth := k7m5) (c := k7c5) (by decide +kernel) rfl rfl rfl (by decide +kernel)
set_option maxRecDepth 65536 in
theorem w_c5 : (Jvm.Cond.code ({ cls := "java/lang/Object", name := "<init>", desc := "()V" } : Jvm.MethodName) object_method_1_code (1 : Nat) (Option.none : Option Jvm.ClassFile.FieldType)).before args0 about1 = true := code_word (m := ⟨0, 0⟩) (meth := k0m0) (c := k0c0) (by decide +kernel) rfl rfl rfl (by decide +kernel)
set_option maxRecDepth 65536 in
theorem w_c6 : (Jvm.Cond.code ({ cls := "com/example/bleeper/bleeper/cli/Fields", name := "canHold", desc := "(Ljava/lang/String;)Z" } : Jvm.MethodName) prog_47_method_2_code (1 : Nat) (Option.some Jvm.ClassFile.FieldType.boolean)).before args0 about1 = true := code_word (m := ⟨8, 0⟩) (meth := k8m0) (c := k8c0) (by decide +kernel) rfl rfl rfl (by decide +kernel)
set_option maxRecDepth 65536 in
theorem w_c7 : (Jvm.Cond.code ({ cls := "java/lang/String", name := "indexOf", desc := "(I)I" } : Jvm.MethodName) jdk_42_method_79_code (2 : Nat) (Option.some Jvm.ClassFile.FieldType.int)).before args0 about1 = true := code_word (m := ⟨7, 3⟩) (meth := k7m3) (c := k7c3) (by decide +kernel) rfl rfl rfl (by decide +kernel)
set_option maxRecDepth 65536 in
theorem w_c8 : (Jvm.Cond.code ({ cls := "java/lang/String", name := "indexOf", desc := "(II)I" } : Jvm.MethodName) jdk_42_method_80_code (3 : Nat) (Option.some Jvm.ClassFile.FieldType.int)).before args0 about1 = true := code_word (m := ⟨7, 4⟩) (meth := k7m4) (c := k7c4) (by decide +kernel) rfl rfl rfl (by decide +kernel)
set_option maxRecDepth 65536 in
theorem w_c9 : (Jvm.Cond.code ({ cls := "java/lang/String", name := "isLatin1", desc := "()Z" } : Jvm.MethodName) jdk_42_method_154_code (1 : Nat) (Option.some Jvm.ClassFile.FieldType.boolean)).before args0 about1 = true := code_word (m := ⟨7, 7⟩) (meth := k7m7) (c := k7c7) (by decide +kernel) rfl rfl rfl (by decide +kernel)
set_option maxRecDepth 65536 in
theorem w_c10 : (Jvm.Cond.code ({ cls := "java/lang/String", name := "length", desc := "()I" } : Jvm.MethodName) jdk_42_method_54_code (1 : Nat) (Option.some Jvm.ClassFile.FieldType.int)).before args0 about1 = true := code_word (m := ⟨7, 2⟩) (meth := k7m2) (c := k7c2) (by decide +kernel) rfl rfl rfl (by decide +kernel)
set_option maxRecDepth 65536 in
theorem w_c11 : (Jvm.Cond.code ({ cls := "java/lang/String", name := "coder", desc := "()B" } : Jvm.MethodName) jdk_42_method_152_code (1 : Nat) (Option.some Jvm.ClassFile.FieldType.byte)).before args0 about1 = true := code_word (m := ⟨7, 6⟩) (meth := k7m6) (c := k7c6) (by decide +kernel) rfl rfl rfl (by decide +kernel)
set_option maxRecDepth 65536 in
theorem w_c12 : (Jvm.Cond.code ({ cls := "java/lang/StringLatin1", name := "indexOf", desc := "([BIII)I" } : Jvm.MethodName) jdk_43_method_22_code (4 : Nat) (Option.some Jvm.ClassFile.FieldType.int)).before args0 about1 = true := code_word (m := ⟨9, 2⟩) (meth := k9m2) (c := k9c2) (by decide +kernel) rfl rfl rfl (by decide +kernel)
set_option maxRecDepth 65536 in
theorem w_c13 : (Jvm.Cond.code ({ cls := "java/lang/StringLatin1", name := "canEncode", desc := "(I)Z" } : Jvm.MethodName) jdk_43_method_4_code (1 : Nat) (Option.some Jvm.ClassFile.FieldType.boolean)).before args0 about1 = true := code_word (m := ⟨9, 1⟩) (meth := k9m1) (c := k9c1) (by decide +kernel) rfl rfl rfl (by decide +kernel)
set_option maxRecDepth 65536 in
theorem w_c14 : (Jvm.Cond.code ({ cls := "java/lang/Math", name := "max", desc := "(II)I" } : Jvm.MethodName) jdk_29_method_65_code (2 : Nat) (Option.some Jvm.ClassFile.FieldType.int)).before args0 about1 = true := code_word (m := ⟨10, 1⟩) (meth := k10m1) (c := k10c1) (by decide +kernel) rfl rfl rfl (by decide +kernel)
set_option maxRecDepth 65536 in
theorem w_c15 : (Jvm.Cond.code ({ cls := "java/lang/Math", name := "min", desc := "(II)I" } : Jvm.MethodName) jdk_29_method_69_code (2 : Nat) (Option.some Jvm.ClassFile.FieldType.int)).before args0 about1 = true := code_word (m := ⟨10, 2⟩) (meth := k10m2) (c := k10c2) (by decide +kernel) rfl rfl rfl (by decide +kernel)
set_option maxRecDepth 65536 in
theorem w_c16 : (Jvm.Cond.code ({ cls := "java/lang/StringUTF16", name := "compress", desc := "([CII)[B" } : Jvm.MethodName) jdk_52_method_16_code (6 : Nat) (Option.some (Jvm.ClassFile.FieldType.array Jvm.ClassFile.FieldType.byte))).before args0 about1 = true := code_word (m := ⟨11, 8⟩) (meth := k11m8) (c := k11c8) (by decide +kernel) rfl rfl rfl (by decide +kernel)
set_option maxRecDepth 65536 in
theorem w_c17 : (Jvm.Cond.code ({ cls := "java/lang/StringUTF16", name := "compress", desc := "([CI[BII)I" } : Jvm.MethodName) jdk_52_method_21_code (7 : Nat) (Option.some Jvm.ClassFile.FieldType.int)).before args0 about1 = true := code_word (m := ⟨11, 9⟩) (meth := k11m9) (c := k11c9) (by decide +kernel) rfl rfl rfl (by decide +kernel)
set_option maxRecDepth 65536 in
theorem w_c18 : (Jvm.Cond.code ({ cls := "java/lang/StringUTF16", name := "coderFromArrayLen", desc := "([BI)B" } : Jvm.MethodName) jdk_52_method_15_code (2 : Nat) (Option.some Jvm.ClassFile.FieldType.byte)).before args0 about1 = true := code_word (m := ⟨11, 7⟩) (meth := k11m7) (c := k11c7) (by decide +kernel) rfl rfl rfl (by decide +kernel)
set_option maxRecDepth 65536 in
theorem w_c19 : (Jvm.Cond.code ({ cls := "com/example/bleeper/bleeper/cli/FieldsCanHoldPinLaw", name := "fits", desc := "(C)Z" } : Jvm.MethodName) method_4_code (1 : Nat) (Option.some Jvm.ClassFile.FieldType.boolean)).before args0 about1 = true := code_word (m := ⟨1, 3⟩) (meth := k1m3) (c := k1c3) (by decide +kernel) rfl rfl rfl (by decide +kernel)
set_option maxRecDepth 65536 in
theorem w_c20 : (Jvm.Cond.code ({ cls := "java/lang/StringLatin1", name := "indexOfChar", desc := "([BIII)I" } : Jvm.MethodName) jdk_43_method_23_code (6 : Nat) (Option.some Jvm.ClassFile.FieldType.int)).before args0 about1 = true := code_word (m := ⟨9, 3⟩) (meth := k9m3) (c := k9c3) (by decide +kernel) rfl rfl rfl (by decide +kernel)
set_option maxRecDepth 65536 in
theorem w_c21 : (Jvm.Cond.code ({ cls := "java/lang/StringUTF16", name := "toBytes", desc := "([CII)[B" } : Jvm.MethodName) jdk_52_method_14_code (5 : Nat) (Option.some (Jvm.ClassFile.FieldType.array Jvm.ClassFile.FieldType.byte))).before args0 about1 = true := code_word (m := ⟨11, 6⟩) (meth := k11m6) (c := k11c6) (by decide +kernel) rfl rfl rfl (by decide +kernel)
set_option maxRecDepth 65536 in
theorem w_c22 : (Jvm.Cond.code ({ cls := "java/lang/StringUTF16", name := "newBytesFor", desc := "(I)[B" } : Jvm.MethodName) jdk_52_method_2_code (1 : Nat) (Option.some (Jvm.ClassFile.FieldType.array Jvm.ClassFile.FieldType.byte))).before args0 about1 = true := code_word (m := ⟨11, 1⟩) (meth := k11m1) (c := k11c1) (by decide +kernel) rfl rfl rfl (by decide +kernel)
set_option maxRecDepth 65536 in
theorem w_c23 : (Jvm.Cond.code ({ cls := "java/lang/StringUTF16", name := "newBytesLength", desc := "(I)I" } : Jvm.MethodName) jdk_52_method_3_code (1 : Nat) (Option.some Jvm.ClassFile.FieldType.int)).before args0 about1 = true := code_word (m := ⟨11, 2⟩) (meth := k11m2) (c := k11c2) (by decide +kernel) rfl rfl rfl (by decide +kernel)
set_option maxRecDepth 65536 in
theorem w_c24 : (Jvm.Cond.code ({ cls := "java/lang/StringUTF16", name := "putChar", desc := "([BII)V" } : Jvm.MethodName) jdk_52_method_4_code (3 : Nat) (Option.none : Option Jvm.ClassFile.FieldType)).before args0 about1 = true := code_word (m := ⟨11, 3⟩) (meth := k11m3) (c := k11c3) (by decide +kernel) rfl rfl rfl (by decide +kernel)
set_option maxRecDepth 65536 in
theorem w_c25 : (Jvm.Cond.code ({ cls := "java/lang/StringUTF16", name := "getChar", desc := "([BI)C" } : Jvm.MethodName) jdk_52_method_5_code (2 : Nat) (Option.some Jvm.ClassFile.FieldType.char)).before args0 about1 = true := code_word (m := ⟨11, 4⟩) (meth := k11m4) (c := k11c4) (by decide +kernel) rfl rfl rfl (by decide +kernel)
set_option maxRecDepth 65536 in
theorem w_c26 : (Jvm.Cond.code ({ cls := "java/lang/StringUTF16", name := "indexOf", desc := "([BIII)I" } : Jvm.MethodName) jdk_52_method_40_code (4 : Nat) (Option.some Jvm.ClassFile.FieldType.int)).before args0 about1 = true := code_word (m := ⟨11, 10⟩) (meth := k11m10) (c := k11c10) (by decide +kernel) rfl rfl rfl (by decide +kernel)
set_option maxRecDepth 65536 in
theorem w_c27 : (Jvm.Cond.code ({ cls := "java/lang/StringUTF16", name := "indexOfChar", desc := "([BIII)I" } : Jvm.MethodName) jdk_52_method_47_code (4 : Nat) (Option.some Jvm.ClassFile.FieldType.int)).before args0 about1 = true := code_word (m := ⟨11, 11⟩) (meth := k11m11) (c := k11c11) (by decide +kernel) rfl rfl rfl (by decide +kernel)
set_option maxRecDepth 65536 in
theorem w_c28 : (Jvm.Cond.code ({ cls := "java/lang/StringUTF16", name := "checkBoundsBeginEnd", desc := "(II[B)V" } : Jvm.MethodName) jdk_52_method_93_code (3 : Nat) (Option.none : Option Jvm.ClassFile.FieldType)).before args0 about1 = true := code_word (m := ⟨11, 13⟩) (meth := k11m13) (c := k11c13) (by decide +kernel) rfl rfl rfl (by decide +kernel)
set_option maxRecDepth 65536 in
theorem w_c29 : (Jvm.Cond.code ({ cls := "java/lang/StringUTF16", name := "length", desc := "([B)I" } : Jvm.MethodName) jdk_52_method_6_code (1 : Nat) (Option.some Jvm.ClassFile.FieldType.int)).before args0 about1 = true := code_word (m := ⟨11, 5⟩) (meth := k11m5) (c := k11c5) (by decide +kernel) rfl rfl rfl (by decide +kernel)
set_option maxRecDepth 65536 in
theorem w_c30 : (Jvm.Cond.code ({ cls := "java/lang/String", name := "checkBoundsBeginEnd", desc := "(III)V" } : Jvm.MethodName) jdk_42_method_158_code (3 : Nat) (Option.none : Option Jvm.ClassFile.FieldType)).before args0 about1 = true := code_word (m := ⟨7, 8⟩) (meth := k7m8) (c := k7c8) (by decide +kernel) rfl rfl rfl (by decide +kernel)
set_option maxRecDepth 65536 in
theorem w_c31 : (Jvm.Cond.code ({ cls := "jdk/internal/util/Preconditions", name := "checkFromToIndex", desc := "(IIILjava/util/function/BiFunction;)I" } : Jvm.MethodName) jdk_41_method_12_code (4 : Nat) (Option.some Jvm.ClassFile.FieldType.int)).before args0 about1 = true := code_word (m := ⟨12, 1⟩) (meth := k12m1) (c := k12c1) (by decide +kernel) rfl rfl rfl (by decide +kernel)
set_option maxRecDepth 65536 in
theorem w_c32 : (Jvm.Cond.code ({ cls := "java/lang/StringUTF16", name := "indexOfCharUnsafe", desc := "([BIII)I" } : Jvm.MethodName) jdk_52_method_48_code (5 : Nat) (Option.some Jvm.ClassFile.FieldType.int)).before args0 about1 = true := code_word (m := ⟨11, 12⟩) (meth := k11m12) (c := k11c12) (by decide +kernel) rfl rfl rfl (by decide +kernel)
def codes1 : List Jvm.Cond := [Jvm.Cond.code x code maxLocals ret, Jvm.Cond.code ({ cls := "com/example/bleeper/bleeper/cli/FieldsCanHoldPinLaw", name := "draw", desc := "(I)C" } : Jvm.MethodName) method_3_code (2 : Nat) (Option.some Jvm.ClassFile.FieldType.char), Jvm.Cond.code ({ cls := "com/example/bleeper/bleeper/cli/FieldsCanHoldPinLaw", name := "text", desc := "(ICCCC)Ljava/lang/String;" } : Jvm.MethodName) method_5_code (5 : Nat) (Option.some (Jvm.ClassFile.FieldType.object "java/lang/String")), Jvm.Cond.code ({ cls := "java/lang/String", name := "<init>", desc := "([C)V" } : Jvm.MethodName) jdk_42_method_3_code (2 : Nat) (Option.none : Option Jvm.ClassFile.FieldType), Jvm.Cond.code ({ cls := "java/lang/String", name := "<init>", desc := "([CIILjava/lang/Void;)V" } : Jvm.MethodName) jdk_42_method_149_code (6 : Nat) (Option.none : Option Jvm.ClassFile.FieldType), Jvm.Cond.code ({ cls := "java/lang/Object", name := "<init>", desc := "()V" } : Jvm.MethodName) object_method_1_code (1 : Nat) (Option.none : Option Jvm.ClassFile.FieldType), Jvm.Cond.code ({ cls := "com/example/bleeper/bleeper/cli/Fields", name := "canHold", desc := "(Ljava/lang/String;)Z" } : Jvm.MethodName) prog_47_method_2_code (1 : Nat) (Option.some Jvm.ClassFile.FieldType.boolean), Jvm.Cond.code ({ cls := "java/lang/String", name := "indexOf", desc := "(I)I" } : Jvm.MethodName) jdk_42_method_79_code (2 : Nat) (Option.some Jvm.ClassFile.FieldType.int), Jvm.Cond.code ({ cls := "java/lang/String", name := "indexOf", desc := "(II)I" } : Jvm.MethodName) jdk_42_method_80_code (3 : Nat) (Option.some Jvm.ClassFile.FieldType.int), Jvm.Cond.code ({ cls := "java/lang/String", name := "isLatin1", desc := "()Z" } : Jvm.MethodName) jdk_42_method_154_code (1 : Nat) (Option.some Jvm.ClassFile.FieldType.boolean), Jvm.Cond.code ({ cls := "java/lang/String", name := "length", desc := "()I" } : Jvm.MethodName) jdk_42_method_54_code (1 : Nat) (Option.some Jvm.ClassFile.FieldType.int), Jvm.Cond.code ({ cls := "java/lang/String", name := "coder", desc := "()B" } : Jvm.MethodName) jdk_42_method_152_code (1 : Nat) (Option.some Jvm.ClassFile.FieldType.byte), Jvm.Cond.code ({ cls := "java/lang/StringLatin1", name := "indexOf", desc := "([BIII)I" } : Jvm.MethodName) jdk_43_method_22_code (4 : Nat) (Option.some Jvm.ClassFile.FieldType.int), Jvm.Cond.code ({ cls := "java/lang/StringLatin1", name := "canEncode", desc := "(I)Z" } : Jvm.MethodName) jdk_43_method_4_code (1 : Nat) (Option.some Jvm.ClassFile.FieldType.boolean), Jvm.Cond.code ({ cls := "java/lang/Math", name := "max", desc := "(II)I" } : Jvm.MethodName) jdk_29_method_65_code (2 : Nat) (Option.some Jvm.ClassFile.FieldType.int), Jvm.Cond.code ({ cls := "java/lang/Math", name := "min", desc := "(II)I" } : Jvm.MethodName) jdk_29_method_69_code (2 : Nat) (Option.some Jvm.ClassFile.FieldType.int), Jvm.Cond.code ({ cls := "java/lang/StringUTF16", name := "compress", desc := "([CII)[B" } : Jvm.MethodName) jdk_52_method_16_code (6 : Nat) (Option.some (Jvm.ClassFile.FieldType.array Jvm.ClassFile.FieldType.byte)), Jvm.Cond.code ({ cls := "java/lang/StringUTF16", name := "compress", desc := "([CI[BII)I" } : Jvm.MethodName) jdk_52_method_21_code (7 : Nat) (Option.some Jvm.ClassFile.FieldType.int), Jvm.Cond.code ({ cls := "java/lang/StringUTF16", name := "coderFromArrayLen", desc := "([BI)B" } : Jvm.MethodName) jdk_52_method_15_code (2 : Nat) (Option.some Jvm.ClassFile.FieldType.byte), Jvm.Cond.code ({ cls := "com/example/bleeper/bleeper/cli/FieldsCanHoldPinLaw", name := "fits", desc := "(C)Z" } : Jvm.MethodName) method_4_code (1 : Nat) (Option.some Jvm.ClassFile.FieldType.boolean), Jvm.Cond.code ({ cls := "java/lang/StringLatin1", name := "indexOfChar", desc := "([BIII)I" } : Jvm.MethodName) jdk_43_method_23_code (6 : Nat) (Option.some Jvm.ClassFile.FieldType.int), Jvm.Cond.code ({ cls := "java/lang/StringUTF16", name := "toBytes", desc := "([CII)[B" } : Jvm.MethodName) jdk_52_method_14_code (5 : Nat) (Option.some (Jvm.ClassFile.FieldType.array Jvm.ClassFile.FieldType.byte)), Jvm.Cond.code ({ cls := "java/lang/StringUTF16", name := "newBytesFor", desc := "(I)[B" } : Jvm.MethodName) jdk_52_method_2_code (1 : Nat) (Option.some (Jvm.ClassFile.FieldType.array Jvm.ClassFile.FieldType.byte)), Jvm.Cond.code ({ cls := "java/lang/StringUTF16", name := "newBytesLength", desc := "(I)I" } : Jvm.MethodName) jdk_52_method_3_code (1 : Nat) (Option.some Jvm.ClassFile.FieldType.int), Jvm.Cond.code ({ cls := "java/lang/StringUTF16", name := "putChar", desc := "([BII)V" } : Jvm.MethodName) jdk_52_method_4_code (3 : Nat) (Option.none : Option Jvm.ClassFile.FieldType), Jvm.Cond.code ({ cls := "java/lang/StringUTF16", name := "getChar", desc := "([BI)C" } : Jvm.MethodName) jdk_52_method_5_code (2 : Nat) (Option.some Jvm.ClassFile.FieldType.char), Jvm.Cond.code ({ cls := "java/lang/StringUTF16", name := "indexOf", desc := "([BIII)I" } : Jvm.MethodName) jdk_52_method_40_code (4 : Nat) (Option.some Jvm.ClassFile.FieldType.int), Jvm.Cond.code ({ cls := "java/lang/StringUTF16", name := "indexOfChar", desc := "([BIII)I" } : Jvm.MethodName) jdk_52_method_47_code (4 : Nat) (Option.some Jvm.ClassFile.FieldType.int), Jvm.Cond.code ({ cls := "java/lang/StringUTF16", name := "checkBoundsBeginEnd", desc := "(II[B)V" } : Jvm.MethodName) jdk_52_method_93_code (3 : Nat) (Option.none : Option Jvm.ClassFile.FieldType), Jvm.Cond.code ({ cls := "java/lang/StringUTF16", name := "length", desc := "([B)I" } : Jvm.MethodName) jdk_52_method_6_code (1 : Nat) (Option.some Jvm.ClassFile.FieldType.int), Jvm.Cond.code ({ cls := "java/lang/String", name := "checkBoundsBeginEnd", desc := "(III)V" } : Jvm.MethodName) jdk_42_method_158_code (3 : Nat) (Option.none : Option Jvm.ClassFile.FieldType), Jvm.Cond.code ({ cls := "jdk/internal/util/Preconditions", name := "checkFromToIndex", desc := "(IIILjava/util/function/BiFunction;)I" } : Jvm.MethodName) jdk_41_method_12_code (4 : Nat) (Option.some Jvm.ClassFile.FieldType.int), Jvm.Cond.code ({ cls := "java/lang/StringUTF16", name := "indexOfCharUnsafe", desc := "([BIII)I" } : Jvm.MethodName) jdk_52_method_48_code (5 : Nat) (Option.some Jvm.ClassFile.FieldType.int)]
set_option maxRecDepth 65536 in
theorem codes_eq : words1.filter isCode = codes1 := rfl
theorem w_codes : ∀ c ∈ words1.filter isCode, c.before args0 about1 = true := by
  rw [codes_eq]
  intro c hc
  simp only [codes1, List.mem_cons, List.not_mem_nil, or_false] at hc
  rcases hc with rfl | rfl | rfl | rfl | rfl | rfl | rfl | rfl | rfl | rfl | rfl | rfl | rfl | rfl | rfl | rfl | rfl | rfl | rfl | rfl | rfl | rfl | rfl | rfl | rfl | rfl | rfl | rfl | rfl | rfl | rfl | rfl | rfl
  · exact w_c0
  · exact w_c1
  · exact w_c2
  · exact w_c3
  · exact w_c4
  · exact w_c5
  · exact w_c6
  · exact w_c7
  · exact w_c8
  · exact w_c9
  · exact w_c10
  · exact w_c11
  · exact w_c12
  · exact w_c13
  · exact w_c14
  · exact w_c15
  · exact w_c16
  · exact w_c17
  · exact w_c18
  · exact w_c19
  · exact w_c20
  · exact w_c21
  · exact w_c22
  · exact w_c23
  · exact w_c24
  · exact w_c25
  · exact w_c26
  · exact w_c27
  · exact w_c28
  · exact w_c29
  · exact w_c30
  · exact w_c31
  · exact w_c32
set_option maxRecDepth 65536 in
theorem w_t1 : (words1.take 24).all (fun c => isCode c || c.before args0 about1) = true := by decide +kernel
set_option maxRecDepth 65536 in
theorem w_t2 : ((words1.drop 24).take 24).all (fun c => isCode c || c.before args0 about1) = true := by decide +kernel
set_option maxRecDepth 65536 in
theorem w_t3 : (((words1.drop 24).drop 24).take 24).all (fun c => isCode c || c.before args0 about1) = true := by decide +kernel
set_option maxRecDepth 65536 in
theorem w_t4 : ((((words1.drop 24).drop 24).drop 24).take 24).all (fun c => isCode c || c.before args0 about1) = true := by decide +kernel
set_option maxRecDepth 65536 in
theorem w_t5 : (((((words1.drop 24).drop 24).drop 24).drop 24).take 24).all (fun c => isCode c || c.before args0 about1) = true := by decide +kernel
set_option maxRecDepth 65536 in
theorem w_t6 : (((((words1.drop 24).drop 24).drop 24).drop 24).drop 24).all (fun c => isCode c || c.before args0 about1) = true := by decide +kernel
theorem w_tables : (allAtoms (Jvm.Cond.code x code maxLocals ret :: tables_1)).before args0 about1 = true := by
  rw [allAtoms_all]
  show words1.all (fun c => c.before args0 about1) = true
  refine all_split ?_ w_codes
  rw [← List.take_append_drop 24 words1, List.all_append, w_t1, ← List.take_append_drop 24 (words1.drop 24), List.all_append, w_t2, ← List.take_append_drop 24 ((words1.drop 24).drop 24), List.all_append, w_t3, ← List.take_append_drop 24 (((words1.drop 24).drop 24).drop 24), List.all_append, w_t4, ← List.take_append_drop 24 ((((words1.drop 24).drop 24).drop 24).drop 24), List.all_append, w_t5, w_t6]
  rfl
set_option maxRecDepth 65536 in
theorem w_rest : rest_1_c.before args0 about1 = true := by decide +kernel
set_option maxRecDepth 65536 in
theorem w_case : (Jvm.Cond.and given_1 narrow_1).before args0 about1 = true := by decide +kernel
set_option maxRecDepth 65536 in
theorem w_consts : constsHeld consts_1 about1 := Jvm.Lit.constsHeldB_iff.mp (by decide +kernel)
theorem w_applies : (headSpec (Jvm.Cond.code x code maxLocals ret :: tables_1) room_1).applies x e0.platform about1 = true :=
  (Spec.applies_iff w_frames).mpr ⟨w_running, w_runnable, w_alone, w_named, w_hears, w_ripe, w_room, w_tables⟩
theorem atStart : AtStart classFile x code maxLocals ret World_1 tables_1 room_1 Calls_1 rest_1 Pre_1 launch0 p0 e0 about1 theMethod args0 below0 :=
  ⟨lists_1, trivial, launch0.admits_env _ _ _, launch0.least_env, fairChoices_fair.cas, fairChoices_fair.clock, w_frames, w_args, w_heap, w_applies, ⟨w_consts, trivial⟩, w_rest, w_case⟩
end start1
theorem witness_1 : WitnessClaimed_1 := ⟨start1.p0, start1.e0, start1.about1, start1.theMethod, start1.args0, start1.below0, start1.atStart⟩
end Jvm.Pilot.@@N@@
