import JvmDerived
import JvmDerived.Pilot.@@N@@Statement
import JvmDerived.Pilot.@@N@@Code
set_option linter.unusedVariables false
set_option linter.unusedSimpArgs false
namespace Jvm.Pilot.@@N@@
open Jvm Jvm.ClassFile Sem Op Lib Jvm.Free Jvm.Stand Jvm.LawKit Jvm.RoadKit Bundle Jvm.Pilot.@@N@@.Jvm.D
/-! ## The walk goes forward from its goal: own_W says that the run from here ends as Q asks. -/
def own_Post (s : State) (Q : Option Value → Heap → List Loc → Prop) (kc ks : Nat) (o : Outcome) (s₂ : State) : Prop := ∃ v L, o = .returned v ∧ Q v s₂.heap L ∧ FrameEnd s o s₂ L kc ks
def own_Fin (p : Program) (e : Env) (below : List Frame) (P : Outcome → State → Prop) (A : State) : Prop :=
  ∃ s₂ o, Steps p.tables e below A s₂ ∧ s₂.status = .running ∧ Ended s₂ below o ∧ P o s₂
def own_W (p : Program) (e : Env) (below : List Frame) (P : Outcome → State → Prop) (T : State) (m : MethodId) (pc : Nat) (Ls : Array Slot) (S : List Value) : Prop :=
  own_Fin p e below P (T.setTop (mkF m pc Ls S))
theorem own_w {Z : State} {a0 : Array Value} (hw : ∀ d ∈ tables_1, d.before a0 Z = true) (i : Nat) {d : Jvm.Cond} (h : tables_1[i]? = some d) : d.before a0 Z = true := hw d (List.mem_of_getElem? h)
section OwnKit
variable {p : Program} {l : Launch} {e : Env} {R : Room} {s : State} {m : MethodId} {args : Array Value} {below : List Frame} {meth : Method} {c : Code} {T : State} {locs : List Loc} {cells slots : Nat} {Z : State} {a0 : Array Value} {h : Heap}
  {P : Outcome → State → Prop} {Q : Option Value → Heap → List Loc → Prop} {kc ks : Nat} {pc pc' : Nat} {Ls Ls' : Array Slot} {S : List Value}
theorem own_go {A B : State} (st : ∀ t, Steps p.tables e below B t → Steps p.tables e below A t) (K : own_Fin p e below P B) : own_Fin p e below P A :=
  let ⟨s₂, o, h1, r⟩ := K; ⟨s₂, o, st _ h1, r⟩
theorem own_enter {ml : Nat} (q : entryFrame m args ml = mkF m 0 Ls []) (K : own_W p e below (own_Post s Q kc ks) T m 0 Ls []) :
    ∃ s₂ o, Steps p.tables e below (T.setTop (entryFrame m args ml)) s₂ ∧ s₂.status = .running ∧ Ended s₂ below o ∧ ∃ v L, o = .returned v ∧ Q v s₂.heap L ∧ FrameEnd s o s₂ L kc ks := by
  rw [q]; exact K
theorem own_iloadN (X : Stand p l e R s m args below meth c T locs cells slots) (hx : p.tables.exec = Jvm.exec) {k : Fin 4} {v : Int32} (hd : decode c.code pc = .ok (.iload_n k, 1)) (hp : pc + 1 = pc') (hl : Ls[k.val]? = some (.val (.int v))) (K : own_W p e below P T m pc' Ls (.int v :: S)) : own_W p e below P T m pc Ls S := by
  subst hp; exact own_go (fun t => XS.iloadN (g := mkF m pc Ls S) X.here hx rfl hd hl) K
theorem own_iload (X : Stand p l e R s m args below meth c T locs cells slots) (hx : p.tables.exec = Jvm.exec) {k : Nat} {v : Int32} (hd : decode c.code pc = .ok (.iload k, 2)) (hp : pc + 2 = pc') (hl : Ls[k]? = some (.val (.int v))) (K : own_W p e below P T m pc' Ls (.int v :: S)) : own_W p e below P T m pc Ls S := by
  subst hp; exact own_go (fun t => XS.iload (g := mkF m pc Ls S) X.here hx rfl hd hl) K
theorem own_lloadN (X : Stand p l e R s m args below meth c T locs cells slots) (hx : p.tables.exec = Jvm.exec) {k : Fin 4} {v : Int64} (hd : decode c.code pc = .ok (.lload_n k, 1)) (hp : pc + 1 = pc') (hl : Ls[k.val]? = some (.val (.long v))) (K : own_W p e below P T m pc' Ls (.long v :: S)) : own_W p e below P T m pc Ls S := by
  subst hp; exact own_go (fun t => XT.lloadN (g := mkF m pc Ls S) X.here hx rfl hd hl) K
theorem own_lload (X : Stand p l e R s m args below meth c T locs cells slots) (hx : p.tables.exec = Jvm.exec) {k : Nat} {v : Int64} (hd : decode c.code pc = .ok (.lload k, 2)) (hp : pc + 2 = pc') (hl : Ls[k]? = some (.val (.long v))) (K : own_W p e below P T m pc' Ls (.long v :: S)) : own_W p e below P T m pc Ls S := by
  subst hp; exact own_go (fun t => XT.lload (g := mkF m pc Ls S) X.here hx rfl hd hl) K
theorem own_aloadN (X : Stand p l e R s m args below meth c T locs cells slots) (hx : p.tables.exec = Jvm.exec) {k : Fin 4} {v : Value} (hd : decode c.code pc = .ok (.aload_n k, 1)) (hp : pc + 1 = pc') (hl : Ls[k.val]? = some (.val v)) (hv : v.isRef = true) (K : own_W p e below P T m pc' Ls (v :: S)) : own_W p e below P T m pc Ls S := by
  subst hp; exact own_go (fun t => XS.aloadN (g := mkF m pc Ls S) X.here hx rfl hd hl hv) K
theorem own_aload (X : Stand p l e R s m args below meth c T locs cells slots) (hx : p.tables.exec = Jvm.exec) {k : Nat} {v : Value} (hd : decode c.code pc = .ok (.aload k, 2)) (hp : pc + 2 = pc') (hl : Ls[k]? = some (.val v)) (hv : v.isRef = true) (K : own_W p e below P T m pc' Ls (v :: S)) : own_W p e below P T m pc Ls S := by
  subst hp; exact own_go (fun t => XS.aload (g := mkF m pc Ls S) X.here hx rfl hd hl hv) K
theorem own_istoreN (X : Stand p l e R s m args below meth c T locs cells slots) (hx : p.tables.exec = Jvm.exec) {k : Fin 4} {v : Int32} (hd : decode c.code pc = .ok (.istore_n k, 1)) (hp : pc + 1 = pc') (hl : storeLocals Ls k.val (.int v) = some Ls') (K : own_W p e below P T m pc' Ls' S) : own_W p e below P T m pc Ls (.int v :: S) := by
  subst hp; exact own_go (fun t => XS.istoreN (g := mkF m pc Ls (.int v :: S)) X.here hx rfl hd rfl hl) K
theorem own_istore (X : Stand p l e R s m args below meth c T locs cells slots) (hx : p.tables.exec = Jvm.exec) {k : Nat} {v : Int32} (hd : decode c.code pc = .ok (.istore k, 2)) (hp : pc + 2 = pc') (hl : storeLocals Ls k (.int v) = some Ls') (K : own_W p e below P T m pc' Ls' S) : own_W p e below P T m pc Ls (.int v :: S) := by
  subst hp; exact own_go (fun t => XS.istore (g := mkF m pc Ls (.int v :: S)) X.here hx rfl hd rfl hl) K
theorem own_lstoreN (X : Stand p l e R s m args below meth c T locs cells slots) (hx : p.tables.exec = Jvm.exec) {k : Fin 4} {v : Int64} (hd : decode c.code pc = .ok (.lstore_n k, 1)) (hp : pc + 1 = pc') (hl : storeLocals Ls k.val (.long v) = some Ls') (K : own_W p e below P T m pc' Ls' S) : own_W p e below P T m pc Ls (.long v :: S) := by
  subst hp; exact own_go (fun t => XT.lstoreN (g := mkF m pc Ls (.long v :: S)) X.here hx rfl hd rfl hl) K
theorem own_lstore (X : Stand p l e R s m args below meth c T locs cells slots) (hx : p.tables.exec = Jvm.exec) {k : Nat} {v : Int64} (hd : decode c.code pc = .ok (.lstore k, 2)) (hp : pc + 2 = pc') (hl : storeLocals Ls k (.long v) = some Ls') (K : own_W p e below P T m pc' Ls' S) : own_W p e below P T m pc Ls (.long v :: S) := by
  subst hp; exact own_go (fun t => XT.lstore (g := mkF m pc Ls (.long v :: S)) X.here hx rfl hd rfl hl) K
theorem own_astoreN (X : Stand p l e R s m args below meth c T locs cells slots) (hx : p.tables.exec = Jvm.exec) {k : Fin 4} {v : Value} (hd : decode c.code pc = .ok (.astore_n k, 1)) (hp : pc + 1 = pc') (hv : v.isRef = true) (hl : storeLocals Ls k.val v = some Ls') (K : own_W p e below P T m pc' Ls' S) : own_W p e below P T m pc Ls (v :: S) := by
  subst hp; exact own_go (fun t => XS.astoreN (g := mkF m pc Ls (v :: S)) X.here hx rfl hd rfl hv hl) K
theorem own_astore (X : Stand p l e R s m args below meth c T locs cells slots) (hx : p.tables.exec = Jvm.exec) {k : Nat} {v : Value} (hd : decode c.code pc = .ok (.astore k, 2)) (hp : pc + 2 = pc') (hv : v.isRef = true) (hl : storeLocals Ls k v = some Ls') (K : own_W p e below P T m pc' Ls' S) : own_W p e below P T m pc Ls (v :: S) := by
  subst hp; exact own_go (fun t => XS.astore (g := mkF m pc Ls (v :: S)) X.here hx rfl hd rfl hv hl) K
theorem own_iconst (X : Stand p l e R s m args below meth c T locs cells slots) (hx : p.tables.exec = Jvm.exec) {i : Int} (v : Int32) (hd : decode c.code pc = .ok (.iconst i, 1)) (hp : pc + 1 = pc') (hv : Int32.ofInt i = v) (K : own_W p e below P T m pc' Ls (.int v :: S)) : own_W p e below P T m pc Ls S := by
  subst hp hv; exact own_go (fun t => XS.iconst (g := mkF m pc Ls S) X.here hx rfl hd) K
theorem own_bipush (X : Stand p l e R s m args below meth c T locs cells slots) (hx : p.tables.exec = Jvm.exec) {i : Int} (v : Int32) (hd : decode c.code pc = .ok (.bipush i, 2)) (hp : pc + 2 = pc') (hv : (Int8.ofInt i).toInt32 = v) (K : own_W p e below P T m pc' Ls (.int v :: S)) : own_W p e below P T m pc Ls S := by
  subst hp; exact own_go (fun t => XT.bipushV (g := mkF m pc Ls S) X.here hx rfl v hd hv) K
theorem own_sipush (X : Stand p l e R s m args below meth c T locs cells slots) (hx : p.tables.exec = Jvm.exec) {i : Int} (v : Int32) (hd : decode c.code pc = .ok (.sipush i, 3)) (hp : pc + 3 = pc') (hv : (Int16.ofInt i).toInt32 = v) (K : own_W p e below P T m pc' Ls (.int v :: S)) : own_W p e below P T m pc Ls S := by
  subst hp; exact own_go (fun t => XT.sipushV (g := mkF m pc Ls S) X.here hx rfl v hd hv) K
theorem own_lconst (X : Stand p l e R s m args below meth c T locs cells slots) (hx : p.tables.exec = Jvm.exec) {k : Fin 2} (v : Int64) (hd : decode c.code pc = .ok (.lconst k, 1)) (hp : pc + 1 = pc') (hv : Int64.ofNat k = v) (K : own_W p e below P T m pc' Ls (.long v :: S)) : own_W p e below P T m pc Ls S := by
  subst hp; exact own_go (fun t => XT.lconstV (g := mkF m pc Ls S) X.here hx rfl v hd hv) K
theorem own_aconst_null (X : Stand p l e R s m args below meth c T locs cells slots) (hx : p.tables.exec = Jvm.exec) (hd : decode c.code pc = .ok (.aconst_null, 1)) (hp : pc + 1 = pc') (K : own_W p e below P T m pc' Ls (.null :: S)) : own_W p e below P T m pc Ls S := by
  subst hp; exact own_go (fun t => XS.aconstNull (g := mkF m pc Ls S) X.here hx rfl hd) K
theorem own_ldc (X : Stand p l e R s m args below meth c T locs cells slots) (hx : p.tables.exec = Jvm.exec) (hZ : Z.Warmed39 s.vm) {own : String} {index : Nat} {v : Int32} (hown : s.vm.findClass own = some m.cls) (w : (Cond.constant own index v).before a0 Z = true) (hd : decode c.code pc = .ok (.ldc index, 2)) (hp : pc + 2 = pc') (K : own_W p e below P T m pc' Ls (.int v :: S)) : own_W p e below P T m pc Ls S := by
  subst hp; exact own_go (fun t => X.ldcI (g := mkF m pc Ls S) hx hown (mvT hZ w) rfl hd) K
theorem own_ldc2 (X : Stand p l e R s m args below meth c T locs cells slots) (hx : p.tables.exec = Jvm.exec) (hZ : Z.Warmed39 s.vm) {own : String} {index : Nat} {v : Int64} (hown : s.vm.findClass own = some m.cls) (w : (Cond.constantLong own index v).before a0 Z = true) (hd : decode c.code pc = .ok (.ldc2_w index, 3)) (hp : pc + 3 = pc') (K : own_W p e below P T m pc' Ls (.long v :: S)) : own_W p e below P T m pc Ls S := by
  subst hp; exact own_go (fun t => X.ldc2J (g := mkF m pc Ls S) hx hown (mvT hZ w) rfl hd) K
theorem own_iadd (X : Stand p l e R s m args below meth c T locs cells slots) (hx : p.tables.exec = Jvm.exec) {x y : Int32} (hd : decode c.code pc = .ok (.iadd, 1)) (hp : pc + 1 = pc') (K : own_W p e below P T m pc' Ls (.int (x + y) :: S)) : own_W p e below P T m pc Ls (.int y :: .int x :: S) := by
  subst hp; exact own_go (fun t => XS.iadd (g := mkF m pc Ls (.int y :: .int x :: S)) X.here hx rfl hd rfl) K
theorem own_isub (X : Stand p l e R s m args below meth c T locs cells slots) (hx : p.tables.exec = Jvm.exec) {x y : Int32} (hd : decode c.code pc = .ok (.isub, 1)) (hp : pc + 1 = pc') (K : own_W p e below P T m pc' Ls (.int (x - y) :: S)) : own_W p e below P T m pc Ls (.int y :: .int x :: S) := by
  subst hp; exact own_go (fun t => XS.isub (g := mkF m pc Ls (.int y :: .int x :: S)) X.here hx rfl hd rfl) K
theorem own_imul (X : Stand p l e R s m args below meth c T locs cells slots) (hx : p.tables.exec = Jvm.exec) {x y : Int32} (hd : decode c.code pc = .ok (.imul, 1)) (hp : pc + 1 = pc') (K : own_W p e below P T m pc' Ls (.int (x * y) :: S)) : own_W p e below P T m pc Ls (.int y :: .int x :: S) := by
  subst hp; exact own_go (fun t => XS.imul (g := mkF m pc Ls (.int y :: .int x :: S)) X.here hx rfl hd rfl) K
theorem own_iand (X : Stand p l e R s m args below meth c T locs cells slots) (hx : p.tables.exec = Jvm.exec) {x y : Int32} (hd : decode c.code pc = .ok (.iand, 1)) (hp : pc + 1 = pc') (K : own_W p e below P T m pc' Ls (.int (x &&& y) :: S)) : own_W p e below P T m pc Ls (.int y :: .int x :: S) := by
  subst hp; exact own_go (fun t => XS.iand (g := mkF m pc Ls (.int y :: .int x :: S)) X.here hx rfl hd rfl) K
theorem own_ior (X : Stand p l e R s m args below meth c T locs cells slots) (hx : p.tables.exec = Jvm.exec) {x y : Int32} (hd : decode c.code pc = .ok (.ior, 1)) (hp : pc + 1 = pc') (K : own_W p e below P T m pc' Ls (.int (x ||| y) :: S)) : own_W p e below P T m pc Ls (.int y :: .int x :: S) := by
  subst hp; exact own_go (fun t => XT.ior (g := mkF m pc Ls (.int y :: .int x :: S)) X.here hx rfl hd rfl) K
theorem own_ixor (X : Stand p l e R s m args below meth c T locs cells slots) (hx : p.tables.exec = Jvm.exec) {x y : Int32} (hd : decode c.code pc = .ok (.ixor, 1)) (hp : pc + 1 = pc') (K : own_W p e below P T m pc' Ls (.int (x ^^^ y) :: S)) : own_W p e below P T m pc Ls (.int y :: .int x :: S) := by
  subst hp; exact own_go (fun t => XT.ixor (g := mkF m pc Ls (.int y :: .int x :: S)) X.here hx rfl hd rfl) K
theorem own_ishl (X : Stand p l e R s m args below meth c T locs cells slots) (hx : p.tables.exec = Jvm.exec) {x y : Int32} (hd : decode c.code pc = .ok (.ishl, 1)) (hp : pc + 1 = pc') (K : own_W p e below P T m pc' Ls (.int (x <<< (y &&& 31)) :: S)) : own_W p e below P T m pc Ls (.int y :: .int x :: S) := by
  subst hp; exact own_go (fun t => XT.ishl (g := mkF m pc Ls (.int y :: .int x :: S)) X.here hx rfl hd rfl) K
theorem own_ishr (X : Stand p l e R s m args below meth c T locs cells slots) (hx : p.tables.exec = Jvm.exec) {x y : Int32} (hd : decode c.code pc = .ok (.ishr, 1)) (hp : pc + 1 = pc') (K : own_W p e below P T m pc' Ls (.int (x >>> (y &&& 31)) :: S)) : own_W p e below P T m pc Ls (.int y :: .int x :: S) := by
  subst hp; exact own_go (fun t => XT.ishr (g := mkF m pc Ls (.int y :: .int x :: S)) X.here hx rfl hd rfl) K
theorem own_iushr (X : Stand p l e R s m args below meth c T locs cells slots) (hx : p.tables.exec = Jvm.exec) {x y : Int32} (hd : decode c.code pc = .ok (.iushr, 1)) (hp : pc + 1 = pc') (K : own_W p e below P T m pc' Ls (.int (XT.ushr x y) :: S)) : own_W p e below P T m pc Ls (.int y :: .int x :: S) := by
  subst hp; exact own_go (fun t => XT.iushr (g := mkF m pc Ls (.int y :: .int x :: S)) X.here hx rfl hd rfl) K
theorem own_ladd (X : Stand p l e R s m args below meth c T locs cells slots) (hx : p.tables.exec = Jvm.exec) {x y : Int64} (hd : decode c.code pc = .ok (.ladd, 1)) (hp : pc + 1 = pc') (K : own_W p e below P T m pc' Ls (.long (x + y) :: S)) : own_W p e below P T m pc Ls (.long y :: .long x :: S) := by
  subst hp; exact own_go (fun t => XT.ladd (g := mkF m pc Ls (.long y :: .long x :: S)) X.here hx rfl hd rfl) K
theorem own_lsub (X : Stand p l e R s m args below meth c T locs cells slots) (hx : p.tables.exec = Jvm.exec) {x y : Int64} (hd : decode c.code pc = .ok (.lsub, 1)) (hp : pc + 1 = pc') (K : own_W p e below P T m pc' Ls (.long (x - y) :: S)) : own_W p e below P T m pc Ls (.long y :: .long x :: S) := by
  subst hp; exact own_go (fun t => XT.lsub (g := mkF m pc Ls (.long y :: .long x :: S)) X.here hx rfl hd rfl) K
theorem own_lmul (X : Stand p l e R s m args below meth c T locs cells slots) (hx : p.tables.exec = Jvm.exec) {x y : Int64} (hd : decode c.code pc = .ok (.lmul, 1)) (hp : pc + 1 = pc') (K : own_W p e below P T m pc' Ls (.long (x * y) :: S)) : own_W p e below P T m pc Ls (.long y :: .long x :: S) := by
  subst hp; exact own_go (fun t => XT.lmul (g := mkF m pc Ls (.long y :: .long x :: S)) X.here hx rfl hd rfl) K
theorem own_land (X : Stand p l e R s m args below meth c T locs cells slots) (hx : p.tables.exec = Jvm.exec) {x y : Int64} (hd : decode c.code pc = .ok (.land, 1)) (hp : pc + 1 = pc') (K : own_W p e below P T m pc' Ls (.long (x &&& y) :: S)) : own_W p e below P T m pc Ls (.long y :: .long x :: S) := by
  subst hp; exact own_go (fun t => XT.land (g := mkF m pc Ls (.long y :: .long x :: S)) X.here hx rfl hd rfl) K
theorem own_lor (X : Stand p l e R s m args below meth c T locs cells slots) (hx : p.tables.exec = Jvm.exec) {x y : Int64} (hd : decode c.code pc = .ok (.lor, 1)) (hp : pc + 1 = pc') (K : own_W p e below P T m pc' Ls (.long (x ||| y) :: S)) : own_W p e below P T m pc Ls (.long y :: .long x :: S) := by
  subst hp; exact own_go (fun t => XT.lor (g := mkF m pc Ls (.long y :: .long x :: S)) X.here hx rfl hd rfl) K
theorem own_lxor (X : Stand p l e R s m args below meth c T locs cells slots) (hx : p.tables.exec = Jvm.exec) {x y : Int64} (hd : decode c.code pc = .ok (.lxor, 1)) (hp : pc + 1 = pc') (K : own_W p e below P T m pc' Ls (.long (x ^^^ y) :: S)) : own_W p e below P T m pc Ls (.long y :: .long x :: S) := by
  subst hp; exact own_go (fun t => XT.lxor (g := mkF m pc Ls (.long y :: .long x :: S)) X.here hx rfl hd rfl) K
theorem own_lshl (X : Stand p l e R s m args below meth c T locs cells slots) (hx : p.tables.exec = Jvm.exec) {x : Int64} {y : Int32} (hd : decode c.code pc = .ok (.lshl, 1)) (hp : pc + 1 = pc') (K : own_W p e below P T m pc' Ls (.long (x <<< (y.toInt64 &&& 63)) :: S)) : own_W p e below P T m pc Ls (.int y :: .long x :: S) := by
  subst hp; exact own_go (fun t => XT.lshl (g := mkF m pc Ls (.int y :: .long x :: S)) X.here hx rfl hd rfl) K
theorem own_lshr (X : Stand p l e R s m args below meth c T locs cells slots) (hx : p.tables.exec = Jvm.exec) {x : Int64} {y : Int32} (hd : decode c.code pc = .ok (.lshr, 1)) (hp : pc + 1 = pc') (K : own_W p e below P T m pc' Ls (.long (x >>> (y.toInt64 &&& 63)) :: S)) : own_W p e below P T m pc Ls (.int y :: .long x :: S) := by
  subst hp; exact own_go (fun t => XT.lshr (g := mkF m pc Ls (.int y :: .long x :: S)) X.here hx rfl hd rfl) K
theorem own_lushr (X : Stand p l e R s m args below meth c T locs cells slots) (hx : p.tables.exec = Jvm.exec) {x : Int64} {y : Int32} (hd : decode c.code pc = .ok (.lushr, 1)) (hp : pc + 1 = pc') (K : own_W p e below P T m pc' Ls (.long (XT.ushrL x y) :: S)) : own_W p e below P T m pc Ls (.int y :: .long x :: S) := by
  subst hp; exact own_go (fun t => XT.lushr (g := mkF m pc Ls (.int y :: .long x :: S)) X.here hx rfl hd rfl) K
theorem own_idiv (X : Stand p l e R s m args below meth c T locs cells slots) (hx : p.tables.exec = Jvm.exec) {x y : Int32} (hd : decode c.code pc = .ok (.idiv, 1)) (hp : pc + 1 = pc') (hy : y ≠ 0) (K : own_W p e below P T m pc' Ls (.int (x / y) :: S)) : own_W p e below P T m pc Ls (.int y :: .int x :: S) := by
  subst hp; exact own_go (fun t => XS.idiv (g := mkF m pc Ls (.int y :: .int x :: S)) X.here hx rfl hd rfl hy) K
theorem own_irem (X : Stand p l e R s m args below meth c T locs cells slots) (hx : p.tables.exec = Jvm.exec) {x y : Int32} (hd : decode c.code pc = .ok (.irem, 1)) (hp : pc + 1 = pc') (hy : y ≠ 0) (K : own_W p e below P T m pc' Ls (.int (x % y) :: S)) : own_W p e below P T m pc Ls (.int y :: .int x :: S) := by
  subst hp; exact own_go (fun t => iremM (g := mkF m pc Ls (.int y :: .int x :: S)) X hx rfl hd rfl hy) K
theorem own_ldiv (X : Stand p l e R s m args below meth c T locs cells slots) (hx : p.tables.exec = Jvm.exec) {x y : Int64} (hd : decode c.code pc = .ok (.ldiv, 1)) (hp : pc + 1 = pc') (hy : y ≠ 0) (K : own_W p e below P T m pc' Ls (.long (x / y) :: S)) : own_W p e below P T m pc Ls (.long y :: .long x :: S) := by
  subst hp; exact own_go (fun t => XT.ldiv (g := mkF m pc Ls (.long y :: .long x :: S)) X.here hx rfl hd rfl hy) K
theorem own_lrem (X : Stand p l e R s m args below meth c T locs cells slots) (hx : p.tables.exec = Jvm.exec) {x y : Int64} (hd : decode c.code pc = .ok (.lrem, 1)) (hp : pc + 1 = pc') (hy : y ≠ 0) (K : own_W p e below P T m pc' Ls (.long (x % y) :: S)) : own_W p e below P T m pc Ls (.long y :: .long x :: S) := by
  subst hp; rw [← lrem_mod] at K; exact own_go (fun t => XT.lrem (g := mkF m pc Ls (.long y :: .long x :: S)) X.here hx rfl hd rfl hy) K
theorem own_ineg (X : Stand p l e R s m args below meth c T locs cells slots) (hx : p.tables.exec = Jvm.exec) {x : Int32} (hd : decode c.code pc = .ok (.ineg, 1)) (hp : pc + 1 = pc') (K : own_W p e below P T m pc' Ls (.int (-x) :: S)) : own_W p e below P T m pc Ls (.int x :: S) := by
  subst hp; exact own_go (fun t => XS.ineg (g := mkF m pc Ls (.int x :: S)) X.here hx rfl hd rfl) K
theorem own_lneg (X : Stand p l e R s m args below meth c T locs cells slots) (hx : p.tables.exec = Jvm.exec) {x : Int64} (hd : decode c.code pc = .ok (.lneg, 1)) (hp : pc + 1 = pc') (K : own_W p e below P T m pc' Ls (.long (-x) :: S)) : own_W p e below P T m pc Ls (.long x :: S) := by
  subst hp; exact own_go (fun t => XT.lneg (g := mkF m pc Ls (.long x :: S)) X.here hx rfl hd rfl) K
theorem own_i2l (X : Stand p l e R s m args below meth c T locs cells slots) (hx : p.tables.exec = Jvm.exec) {x : Int32} (hd : decode c.code pc = .ok (.i2l, 1)) (hp : pc + 1 = pc') (K : own_W p e below P T m pc' Ls (.long (x.toInt64) :: S)) : own_W p e below P T m pc Ls (.int x :: S) := by
  subst hp; exact own_go (fun t => XT.i2l (g := mkF m pc Ls (.int x :: S)) X.here hx rfl hd rfl) K
theorem own_l2i (X : Stand p l e R s m args below meth c T locs cells slots) (hx : p.tables.exec = Jvm.exec) {x : Int64} (hd : decode c.code pc = .ok (.l2i, 1)) (hp : pc + 1 = pc') (K : own_W p e below P T m pc' Ls (.int (x.toInt32) :: S)) : own_W p e below P T m pc Ls (.long x :: S) := by
  subst hp; exact own_go (fun t => XT.l2i (g := mkF m pc Ls (.long x :: S)) X.here hx rfl hd rfl) K
theorem own_i2b (X : Stand p l e R s m args below meth c T locs cells slots) (hx : p.tables.exec = Jvm.exec) {x : Int32} (hd : decode c.code pc = .ok (.i2b, 1)) (hp : pc + 1 = pc') (K : own_W p e below P T m pc' Ls (.int (x.toInt8.toInt32) :: S)) : own_W p e below P T m pc Ls (.int x :: S) := by
  subst hp; exact own_go (fun t => XT.i2b (g := mkF m pc Ls (.int x :: S)) X.here hx rfl hd rfl) K
theorem own_i2c (X : Stand p l e R s m args below meth c T locs cells slots) (hx : p.tables.exec = Jvm.exec) {x : Int32} (hd : decode c.code pc = .ok (.i2c, 1)) (hp : pc + 1 = pc') (K : own_W p e below P T m pc' Ls (.int (x.toUInt32.toUInt16.toUInt32.toInt32) :: S)) : own_W p e below P T m pc Ls (.int x :: S) := by
  subst hp; exact own_go (fun t => XT.i2c (g := mkF m pc Ls (.int x :: S)) X.here hx rfl hd rfl) K
theorem own_i2s (X : Stand p l e R s m args below meth c T locs cells slots) (hx : p.tables.exec = Jvm.exec) {x : Int32} (hd : decode c.code pc = .ok (.i2s, 1)) (hp : pc + 1 = pc') (K : own_W p e below P T m pc' Ls (.int (x.toInt16.toInt32) :: S)) : own_W p e below P T m pc Ls (.int x :: S) := by
  subst hp; exact own_go (fun t => XT.i2s (g := mkF m pc Ls (.int x :: S)) X.here hx rfl hd rfl) K
theorem own_iinc (X : Stand p l e R s m args below meth c T locs cells slots) (hx : p.tables.exec = Jvm.exec) {k : Nat} {cst : Int} {x : Int32} (v : Int32) (hd : decode c.code pc = .ok (.iinc k cst, 3)) (hp : pc + 3 = pc') (hv : Int32.ofInt cst = v) (hl : Ls[k]? = some (.val (.int x))) (hl' : storeLocals Ls k (.int (x + v)) = some Ls') (K : own_W p e below P T m pc' Ls' S) : own_W p e below P T m pc Ls S := by
  subst hp; exact own_go (fun t => XT.iincV (g := mkF m pc Ls S) X.here hx rfl v hd hv hl hl') K
theorem own_dup (X : Stand p l e R s m args below meth c T locs cells slots) (hx : p.tables.exec = Jvm.exec) {x : Value} (hd : decode c.code pc = .ok (.dup, 1)) (hp : pc + 1 = pc') (hc : x.category = 1) (K : own_W p e below P T m pc' Ls (x :: x :: S)) : own_W p e below P T m pc Ls (x :: S) := by
  subst hp; exact own_go (fun t => XS.dup (g := mkF m pc Ls (x :: S)) X.here hx rfl hd rfl hc) K
theorem own_pop (X : Stand p l e R s m args below meth c T locs cells slots) (hx : p.tables.exec = Jvm.exec) {x : Value} (hd : decode c.code pc = .ok (.pop, 1)) (hp : pc + 1 = pc') (hc : x.category = 1) (K : own_W p e below P T m pc' Ls S) : own_W p e below P T m pc Ls (x :: S) := by
  subst hp; exact own_go (fun t => XT.pop (g := mkF m pc Ls (x :: S)) X.here hx rfl hd rfl hc) K
theorem own_dup2 (X : Stand p l e R s m args below meth c T locs cells slots) (hx : p.tables.exec = Jvm.exec) {x y : Value} (hd : decode c.code pc = .ok (.dup2, 1)) (hp : pc + 1 = pc') (hc : x.category = 1) (hc' : y.category = 1) (K : own_W p e below P T m pc' Ls (x :: y :: x :: y :: S)) : own_W p e below P T m pc Ls (x :: y :: S) := by
  subst hp; exact own_go (fun t => XT.dup2 (g := mkF m pc Ls (x :: y :: S)) X.here hx rfl hd rfl hc hc') K
theorem own_goto (X : Stand p l e R s m args below meth c T locs cells slots) (hx : p.tables.exec = Jvm.exec) {o : Int} (hd : decode c.code pc = .ok (.goto o, 3)) (ho : 0 ≤ (pc : Int) + o) (hp : ((pc : Int) + o).toNat = pc') (K : own_W p e below P T m pc' Ls S) : own_W p e below P T m pc Ls S :=
  own_go (fun t => XS.goto (g := mkF m pc Ls S) X.here hx rfl (pc0 := pc) (pc' := pc') rfl hd ho hp) K
/-- what a taken branch tells (own_P), what one that isn't taken tells (own_N) -/
def own_P : ClassFile.Cond → Int32 → Int32 → Prop
  | .eq, x, y => x = y
  | .ne, x, y => ¬ x = y
  | .lt, x, y => x < y
  | .ge, x, y => ¬ x < y
  | .gt, x, y => y < x
  | .le, x, y => ¬ y < x
def own_N : ClassFile.Cond → Int32 → Int32 → Prop
  | .eq, x, y => ¬ x = y
  | .ne, x, y => x = y
  | .lt, x, y => ¬ x < y
  | .ge, x, y => x < y
  | .gt, x, y => ¬ y < x
  | .le, x, y => y < x
theorem own_holdsT {cd : ClassFile.Cond} {x y : Int32} (q : own_P cd x y) : if_icmp.holds cd x y = true := by
  cases cd <;> first | exact (teq q).1 | exact (feq q).2 | exact (tlt q).1 | exact (flt q).2.1 | exact (tlt q).2.2.1 | exact (flt q).2.2.2
theorem own_holdsF {cd : ClassFile.Cond} {x y : Int32} (q : own_N cd x y) : if_icmp.holds cd x y = false := by
  cases cd <;> first | exact (feq q).1 | exact (teq q).2 | exact (flt q).1 | exact (tlt q).2.1 | exact (flt q).2.2.1 | exact (tlt q).2.2.2
theorem own_or (cd : ClassFile.Cond) (x y : Int32) : own_P cd x y ∨ own_N cd x y := by
  cases cd
  · exact Classical.em (x = y)
  · exact (Classical.em (x = y)).symm
  · exact Classical.em (x < y)
  · exact (Classical.em (x < y)).symm
  · exact Classical.em (y < x)
  · exact (Classical.em (y < x)).symm
theorem own_icmpY (X : Stand p l e R s m args below meth c T locs cells slots) (hx : p.tables.exec = Jvm.exec) {cd : ClassFile.Cond} {x y : Int32} {o : Int} (hd : decode c.code pc = .ok (.if_icmp cd o, 3)) (ho : 0 ≤ (pc : Int) + o) (hp : ((pc : Int) + o).toNat = pc') (q : own_P cd x y) (K : own_W p e below P T m pc' Ls S) : own_W p e below P T m pc Ls (.int y :: .int x :: S) :=
  own_go (fun t => XS.icmpYes (g := mkF m pc Ls (.int y :: .int x :: S)) X.here hx rfl (pc0 := pc) (pc' := pc') rfl hd rfl (own_holdsT q) ho hp) K
theorem own_icmpN (X : Stand p l e R s m args below meth c T locs cells slots) (hx : p.tables.exec = Jvm.exec) {cd : ClassFile.Cond} {x y : Int32} {o : Int} (hd : decode c.code pc = .ok (.if_icmp cd o, 3)) (hp : pc + 3 = pc') (q : own_N cd x y) (K : own_W p e below P T m pc' Ls S) : own_W p e below P T m pc Ls (.int y :: .int x :: S) := by
  subst hp; exact own_go (fun t => XS.icmpNo (g := mkF m pc Ls (.int y :: .int x :: S)) X.here hx rfl hd rfl (own_holdsF q)) K
theorem own_icmp (X : Stand p l e R s m args below meth c T locs cells slots) (hx : p.tables.exec = Jvm.exec) {cd : ClassFile.Cond} {x y : Int32} {o : Int} {pcY pcN : Nat} (hd : decode c.code pc = .ok (.if_icmp cd o, 3)) (ho : 0 ≤ (pc : Int) + o) (hY : ((pc : Int) + o).toNat = pcY) (hN : pc + 3 = pcN) (KY : own_P cd x y → own_W p e below P T m pcY Ls S) (KN : own_N cd x y → own_W p e below P T m pcN Ls S) : own_W p e below P T m pc Ls (.int y :: .int x :: S) :=
  (own_or cd x y).elim (fun q => own_icmpY X hx hd ho hY q (KY q)) (fun q => own_icmpN X hx hd hN q (KN q))
theorem own_ifY (X : Stand p l e R s m args below meth c T locs cells slots) (hx : p.tables.exec = Jvm.exec) {cd : ClassFile.Cond} {x : Int32} {o : Int} (hd : decode c.code pc = .ok (.ifCond cd o, 3)) (ho : 0 ≤ (pc : Int) + o) (hp : ((pc : Int) + o).toNat = pc') (q : own_P cd x 0) (K : own_W p e below P T m pc' Ls S) : own_W p e below P T m pc Ls (.int x :: S) :=
  own_go (fun t => XS.ifYes (g := mkF m pc Ls (.int x :: S)) X.here hx rfl (pc0 := pc) (pc' := pc') rfl hd rfl ((if0 _ _).trans (own_holdsT q)) ho hp) K
theorem own_ifN (X : Stand p l e R s m args below meth c T locs cells slots) (hx : p.tables.exec = Jvm.exec) {cd : ClassFile.Cond} {x : Int32} {o : Int} (hd : decode c.code pc = .ok (.ifCond cd o, 3)) (hp : pc + 3 = pc') (q : own_N cd x 0) (K : own_W p e below P T m pc' Ls S) : own_W p e below P T m pc Ls (.int x :: S) := by
  subst hp; exact own_go (fun t => XS.ifNo (g := mkF m pc Ls (.int x :: S)) X.here hx rfl hd rfl ((if0 _ _).trans (own_holdsF q))) K
theorem own_if (X : Stand p l e R s m args below meth c T locs cells slots) (hx : p.tables.exec = Jvm.exec) {cd : ClassFile.Cond} {x : Int32} {o : Int} {pcY pcN : Nat} (hd : decode c.code pc = .ok (.ifCond cd o, 3)) (ho : 0 ≤ (pc : Int) + o) (hY : ((pc : Int) + o).toNat = pcY) (hN : pc + 3 = pcN) (KY : own_P cd x 0 → own_W p e below P T m pcY Ls S) (KN : own_N cd x 0 → own_W p e below P T m pcN Ls S) : own_W p e below P T m pc Ls (.int x :: S) :=
  (own_or cd x 0).elim (fun q => own_ifY X hx hd ho hY q (KY q)) (fun q => own_ifN X hx hd hN q (KN q))
/-- the same of two longs: lcmp and the branch behind it, in one -/
def own_PL : ClassFile.Cond → Int64 → Int64 → Prop
  | .eq, x, y => x = y
  | .ne, x, y => ¬ x = y
  | .lt, x, y => x < y
  | .ge, x, y => ¬ x < y
  | .gt, x, y => y < x
  | .le, x, y => ¬ y < x
def own_NL : ClassFile.Cond → Int64 → Int64 → Prop
  | .eq, x, y => ¬ x = y
  | .ne, x, y => x = y
  | .lt, x, y => ¬ x < y
  | .ge, x, y => x < y
  | .gt, x, y => ¬ y < x
  | .le, x, y => y < x
theorem own_holdsLT {cd : ClassFile.Cond} {x y : Int64} (q : own_PL cd x y) : ifCond.holds cd (XT.cmpL x y) = true := by
  cases cd
  · exact XT.ll_eq_t q
  · exact XT.ll_ne_t q
  · exact XT.ll_lt_t q
  · exact XT.ll_ge_t q
  · exact XT.ll_gt_t q
  · exact XT.ll_le_t q
theorem own_holdsLF {cd : ClassFile.Cond} {x y : Int64} (q : own_NL cd x y) : ifCond.holds cd (XT.cmpL x y) = false := by
  cases cd
  · exact XT.ll_eq_f q
  · exact XT.ll_ne_f q
  · exact XT.ll_lt_f q
  · exact XT.ll_ge_f q
  · exact XT.ll_gt_f q
  · exact XT.ll_le_f q
theorem own_orL (cd : ClassFile.Cond) (x y : Int64) : own_PL cd x y ∨ own_NL cd x y := by
  cases cd
  · exact Classical.em (x = y)
  · exact (Classical.em (x = y)).symm
  · exact Classical.em (x < y)
  · exact (Classical.em (x < y)).symm
  · exact Classical.em (y < x)
  · exact (Classical.em (y < x)).symm
theorem own_lcY (X : Stand p l e R s m args below meth c T locs cells slots) (hx : p.tables.exec = Jvm.exec) {cd : ClassFile.Cond} {x y : Int64} {o : Int} (hd1 : decode c.code pc = .ok (.lcmp, 1)) (hd : decode c.code (pc + 1) = .ok (.ifCond cd o, 3)) (ho : 0 ≤ ((pc + 1 : Nat) : Int) + o) (hp : (((pc + 1 : Nat) : Int) + o).toNat = pc') (q : own_PL cd x y) (K : own_W p e below P T m pc' Ls S) : own_W p e below P T m pc Ls (.long y :: .long x :: S) :=
  own_go (fun t => XT.lcmp (g := mkF m pc Ls (.long y :: .long x :: S)) X.here hx rfl hd1 rfl) (own_go (fun t => XS.ifYes (g := mkF m (pc + 1) Ls (.int (XT.cmpL x y) :: S)) X.here hx rfl (pc0 := pc + 1) (pc' := pc') rfl hd rfl (own_holdsLT q) ho hp) K)
theorem own_lcN (X : Stand p l e R s m args below meth c T locs cells slots) (hx : p.tables.exec = Jvm.exec) {cd : ClassFile.Cond} {x y : Int64} {o : Int} (hd1 : decode c.code pc = .ok (.lcmp, 1)) (hd : decode c.code (pc + 1) = .ok (.ifCond cd o, 3)) (hp : pc + 4 = pc') (q : own_NL cd x y) (K : own_W p e below P T m pc' Ls S) : own_W p e below P T m pc Ls (.long y :: .long x :: S) := by
  subst hp; exact own_go (fun t => XT.lcmp (g := mkF m pc Ls (.long y :: .long x :: S)) X.here hx rfl hd1 rfl) (own_go (fun t => XS.ifNo (g := mkF m (pc + 1) Ls (.int (XT.cmpL x y) :: S)) X.here hx rfl hd rfl (own_holdsLF q)) K)
theorem own_lc (X : Stand p l e R s m args below meth c T locs cells slots) (hx : p.tables.exec = Jvm.exec) {cd : ClassFile.Cond} {x y : Int64} {o : Int} {pcY pcN : Nat} (hd1 : decode c.code pc = .ok (.lcmp, 1)) (hd : decode c.code (pc + 1) = .ok (.ifCond cd o, 3)) (ho : 0 ≤ ((pc + 1 : Nat) : Int) + o) (hY : (((pc + 1 : Nat) : Int) + o).toNat = pcY) (hN : pc + 4 = pcN) (KY : own_PL cd x y → own_W p e below P T m pcY Ls S) (KN : own_NL cd x y → own_W p e below P T m pcN Ls S) : own_W p e below P T m pc Ls (.long y :: .long x :: S) :=
  (own_orL cd x y).elim (fun q => own_lcY X hx hd1 hd ho hY q (KY q)) (fun q => own_lcN X hx hd1 hd hN q (KN q))
theorem own_ifnullY (X : Stand p l e R s m args below meth c T locs cells slots) (hx : p.tables.exec = Jvm.exec) {o : Int} (hd : decode c.code pc = .ok (.ifnull o, 3)) (ho : 0 ≤ (pc : Int) + o) (hp : ((pc : Int) + o).toNat = pc') (K : own_W p e below P T m pc' Ls S) : own_W p e below P T m pc Ls (.null :: S) :=
  own_go (fun t => XS.ifnullYes (g := mkF m pc Ls (.null :: S)) X.here hx rfl (pc0 := pc) (pc' := pc') rfl hd rfl ho hp) K
theorem own_ifnullN (X : Stand p l e R s m args below meth c T locs cells slots) (hx : p.tables.exec = Jvm.exec) {o : Int} {a : Addr} (hd : decode c.code pc = .ok (.ifnull o, 3)) (hp : pc + 3 = pc') (K : own_W p e below P T m pc' Ls S) : own_W p e below P T m pc Ls (.ref a :: S) := by
  subst hp; exact own_go (fun t => XS.ifnullNo (g := mkF m pc Ls (.ref a :: S)) X.here hx rfl hd rfl) K
theorem own_ifnonnullY (X : Stand p l e R s m args below meth c T locs cells slots) (hx : p.tables.exec = Jvm.exec) {o : Int} {a : Addr} (hd : decode c.code pc = .ok (.ifnonnull o, 3)) (ho : 0 ≤ (pc : Int) + o) (hp : ((pc : Int) + o).toNat = pc') (K : own_W p e below P T m pc' Ls S) : own_W p e below P T m pc Ls (.ref a :: S) :=
  own_go (fun t => XT.ifnonnullYes (g := mkF m pc Ls (.ref a :: S)) X.here hx rfl (pc0 := pc) (pc' := pc') rfl hd rfl ho hp) K
theorem own_ifnonnullN (X : Stand p l e R s m args below meth c T locs cells slots) (hx : p.tables.exec = Jvm.exec) {o : Int} (hd : decode c.code pc = .ok (.ifnonnull o, 3)) (hp : pc + 3 = pc') (K : own_W p e below P T m pc' Ls S) : own_W p e below P T m pc Ls (.null :: S) := by
  subst hp; exact own_go (fun t => XT.ifnonnullNo (g := mkF m pc Ls (.null :: S)) X.here hx rfl hd rfl) K
theorem own_acmpY (X : Stand p l e R s m args below meth c T locs cells slots) (hx : p.tables.exec = Jvm.exec) {cd : ClassFile.ACond} {x y : Value} {o : Int} (hd : decode c.code pc = .ok (.if_acmp cd o, 3)) (ho : 0 ≤ (pc : Int) + o) (hp : ((pc : Int) + o).toNat = pc') (hx' : x.isRef = true) (hy' : y.isRef = true) (q : XT.acmp cd x y = true) (K : own_W p e below P T m pc' Ls S) : own_W p e below P T m pc Ls (y :: x :: S) :=
  own_go (fun t => XT.acmpYes (g := mkF m pc Ls (y :: x :: S)) X.here hx rfl (pc0 := pc) (pc' := pc') rfl hd rfl hx' hy' q ho hp) K
theorem own_acmpN (X : Stand p l e R s m args below meth c T locs cells slots) (hx : p.tables.exec = Jvm.exec) {cd : ClassFile.ACond} {x y : Value} {o : Int} (hd : decode c.code pc = .ok (.if_acmp cd o, 3)) (hp : pc + 3 = pc') (hx' : x.isRef = true) (hy' : y.isRef = true) (q : XT.acmp cd x y = false) (K : own_W p e below P T m pc' Ls S) : own_W p e below P T m pc Ls (y :: x :: S) := by
  subst hp; exact own_go (fun t => XT.acmpNo (g := mkF m pc Ls (y :: x :: S)) X.here hx rfl hd rfl hx' hy' q) K
/-! heap -/
theorem own_getF (X : Stand p l e R s m args below meth c T locs cells slots) (hx : p.tables.exec = Jvm.exec) (hZ : Z.Warmed39 s.vm) {own R0 O n d host : String} {index : Nat} (hown : s.vm.findClass own = some m.cls) (w : (Cond.fieldLink own index R0 n d).before a0 Z = true ∨ (Cond.fieldLinkNest own index R0 n d host).before a0 Z = true) (via : Via Z R0 O n d)
    (eT : T.heap = h) {a : Addr} {v : Value} (F : Fld Z h a O n d v) (hd : decode c.code pc = .ok (.getfield index, 3)) (hp : pc + 3 = pc')
    (K : ∀ T', Stand p l e R s m args below meth c T' locs cells slots → T'.heap = h → own_W p e below P T' m pc' Ls (v :: S)) : own_W p e below P T m pc Ls (.ref a :: S) := by
  subst hp
  obtain ⟨T', X', e', st⟩ := getF X hx hZ hown w via eT F (g := mkF m pc Ls (.ref a :: S)) rfl rfl hd
  exact own_go st (K T' X' e')
theorem own_getS (X : Stand p l e R s m args below meth c T locs cells slots) (hx : p.tables.exec = Jvm.exec) (hZ : Z.Warmed39 s.vm) {own R0 O n d host : String} {index : Nat} (hown : s.vm.findClass own = some m.cls) (w : (Cond.fieldLink own index R0 n d).before a0 Z = true ∨ (Cond.fieldLinkNest own index R0 n d host).before a0 Z = true) (via : Via Z R0 O n d)
    (eT : T.heap = h) {v : Value} (F : Sta Z h O n d v) (hd : decode c.code pc = .ok (.getstatic index, 3)) (hp : pc + 3 = pc')
    (K : ∀ T', Stand p l e R s m args below meth c T' locs cells slots → T'.heap = h → own_W p e below P T' m pc' Ls (v :: S)) : own_W p e below P T m pc Ls S := by
  subst hp
  obtain ⟨T', X', e', st⟩ := getS2 X hx hZ hown w via eT F (g := mkF m pc Ls S) rfl hd
  exact own_go st (K T' X' e')
theorem own_putF (X : Stand p l e R s m args below meth c T locs cells slots) (hx : p.tables.exec = Jvm.exec) (hZ : Z.Warmed39 s.vm) {own R0 O n d C : String} {index kk : Nat} {ty : FieldType} (hown : s.vm.findClass own = some m.cls) (w : (Cond.fieldLink own index R0 n d).before a0 Z = true) (via : Via Z R0 O n d)
    (eT : T.heap = h) {a : Addr} {v v' old : Value} (F : Fld Z h a O n d old) (E : Exa Z h a C) (L : (Cond.lays C O n d).before a0 Z = true ∨ ((Cond.laysFinal C O n d).before a0 Z = true ∧ own = O ∧ meth.name = "<init>")) (wi : (Cond.instantiable C kk).before a0 Z = true)
    (hty : parseFieldDescriptor d = some ty) (hn : narrow ty v = v') (hf : fits ty v' = true) (hd : decode c.code pc = .ok (.putfield index, 3)) (hp : pc + 3 = pc')
    (K : ∀ T' h' lc, Stand p l e R s m args below meth c T' lc cells slots → T'.heap = h' → Wr h h' a (Jvm.RoadKit.slotOf Z O n d) v' → (∀ n0, n0 ≤ a → Fr n0 locs → Fr n0 lc) → own_W p e below P T' m pc' Ls S) : own_W p e below P T m pc Ls (v :: .ref a :: S) := by
  subst hp
  obtain ⟨T', h', X', e', W', st⟩ := putFN X hx hZ hown w via eT F E L wi hty hn hf (g := mkF m pc Ls (v :: .ref a :: S)) rfl rfl hd
  exact own_go st (K T' h' _ X' e' W' fun _ q N => Fr.snoc X' N q)
theorem own_new (X : Stand p l e R s m args below meth c T locs cells slots) (hx : p.tables.exec = Jvm.exec) (hZ : Z.Warmed39 s.vm) {own C : String} {index n : Nat} (hown : s.vm.findClass own = some m.cls) (w : (Cond.classLink own index C).before a0 Z = true) (wi : (Cond.instantiable C n).before a0 Z = true) (wz : (Cond.initialized C).before a0 Z = true) (eT : T.heap = h)
    (hd : decode c.code pc = .ok (.new index, 3)) (hp : pc + 3 = pc') {cells' slots' : Nat} (hc' : cells + 1 = cells') (hs' : slots + n = slots') (hc : cells' ≤ R.cells) (hl : slots' ≤ R.slots)
    (K : ∀ T' h' a, Stand p l e R s m args below meth c T' locs cells' slots' → T'.heap = h' → Ext h h' → a = h.size → Exa Z h' a C → (∀ {O nm d : String} {ty : FieldType}, Laid Z a0 C O nm d → parseFieldDescriptor d = some ty → Fld Z h' a O nm d (defaultValue ty)) → own_W p e below P T' m pc' Ls (.ref a :: S)) : own_W p e below P T m pc Ls S := by
  subst hp hc' hs'
  obtain ⟨T', h', X', e', E', A', D', -, st⟩ := newO X hx hZ hown w wi wz eT (g := mkF m pc Ls S) rfl hd hc hl
  exact own_go st (K T' h' _ X' e' E' rfl A' D')
theorem own_newarr (X : Stand p l e R s m args below meth c T locs cells slots) (hx : p.tables.exec = Jvm.exec) (hZ : Z.Warmed39 s.vm) {aty : ArrayType} (w : (Cond.arrayClass (newarray.typeOf aty)).before a0 Z = true) (eT : T.heap = h) (hd : decode c.code pc = .ok (.newarray aty, 2)) (hp : pc + 2 = pc') {n : Int32}
    (hn : ¬ n < 0) (cap : Nat) (hcap : n.toNatClampNeg ≤ cap) (hb : cap * 8 ≤ 536870912) {cells' slots' : Nat} (hc' : cells + 1 = cells') (hs' : slots + cap = slots') (hc : cells' ≤ R.cells) (hl : slots' ≤ R.slots)
    (K : ∀ T' h' cA a, Stand p l e R s m args below meth c T' locs cells' slots' → T'.heap = h' → Ext h h' → a = h.size → Arv Z h' a cA (newarray.typeOf aty) n [] (defaultValue (newarray.typeOf aty)) → own_W p e below P T' m pc' Ls (.ref a :: S)) : own_W p e below P T m pc Ls (.int n :: S) := by
  subst hp hc' hs'
  obtain ⟨T', h', cA, X', e', E', A', st⟩ := newP X hx hZ w eT (g := mkF m pc Ls (.int n :: S)) rfl hd rfl hn hcap hb hc hl
  exact own_go st (K T' h' cA _ X' e' E' rfl (Arv.new A' hn))
theorem own_arrlen (X : Stand p l e R s m args below meth c T locs cells slots) (hx : p.tables.exec = Jvm.exec) (hZ : Z.Warmed39 s.vm) (eT : T.heap = h) {a : Addr} {k : ClassId} {ty : FieldType} {n : Int32} {vs : List Value} {dv : Value} (A : Arv Z h a k ty n vs dv) (hd : decode c.code pc = .ok (.arraylength, 1)) (hp : pc + 1 = pc')
    (K : own_W p e below P T m pc' Ls (.int n :: S)) : own_W p e below P T m pc Ls (.ref a :: S) := by
  subst hp
  obtain ⟨cl, Ar, -, Sz, M, -⟩ := A
  have q := len_of Sz M
  rw [← q] at K
  exact own_go (fun t => X.arraylength hx (cell := cl) (by rw [eT]; exact Ar.1) (State.isArrayOf_alike hZ.alike Ar.2.1) (g := mkF m pc Ls (.ref a :: S)) rfl rfl hd t) K
theorem own_iaload (X : Stand p l e R s m args below meth c T locs cells slots) (hx : p.tables.exec = Jvm.exec) (hZ : Z.Warmed39 s.vm) (eT : T.heap = h) {a : Addr} {k : ClassId} {n : Int32} {vs : List Value} {dv : Value} (A : Arv Z h a k .int n vs dv) {j : Int32} {v : Value} (hj : ¬ j < 0 ∧ j < n) (hv : vs.getD j.toNatClampNeg dv = v) (hd : decode c.code pc = .ok (.iaload, 1)) (hp : pc + 1 = pc')
    (K : own_W p e below P T m pc' Ls (v :: S)) : own_W p e below P T m pc Ls (.int j :: .ref a :: S) := by
  subst hp
  obtain ⟨cl, Ar, -, Sz, M, H, -⟩ := A
  have hin := inb_of Sz hj
  exact own_go (fun t => X.iaload hx (cell := cl) (j := j) (v := v) (by rw [eT]; exact Ar.1) (State.isArrayOf_alike hZ.alike Ar.2.1) Ar.2.2 hin (H.at hin hv) (g := mkF m pc Ls (.int j :: .ref a :: S)) rfl rfl hd t) K
theorem own_laload (X : Stand p l e R s m args below meth c T locs cells slots) (hx : p.tables.exec = Jvm.exec) (hZ : Z.Warmed39 s.vm) (eT : T.heap = h) {a : Addr} {k : ClassId} {n : Int32} {vs : List Value} {dv : Value} (A : Arv Z h a k .long n vs dv) {j : Int32} {v : Value} (hj : ¬ j < 0 ∧ j < n) (hv : vs.getD j.toNatClampNeg dv = v) (hd : decode c.code pc = .ok (.laload, 1)) (hp : pc + 1 = pc')
    (K : own_W p e below P T m pc' Ls (v :: S)) : own_W p e below P T m pc Ls (.int j :: .ref a :: S) := by
  subst hp
  obtain ⟨cl, Ar, -, Sz, M, H, -⟩ := A
  have hin := inb_of Sz hj
  exact own_go (fun t => X.laload hx (cell := cl) (j := j) (v := v) (by rw [eT]; exact Ar.1) (State.isArrayOf_alike hZ.alike Ar.2.1) Ar.2.2 hin (H.at hin hv) (g := mkF m pc Ls (.int j :: .ref a :: S)) rfl rfl hd t) K
theorem own_caload (X : Stand p l e R s m args below meth c T locs cells slots) (hx : p.tables.exec = Jvm.exec) (hZ : Z.Warmed39 s.vm) (eT : T.heap = h) {a : Addr} {k : ClassId} {n : Int32} {vs : List Value} {dv : Value} (A : Arv Z h a k .char n vs dv) {j : Int32} {v : Value} (hj : ¬ j < 0 ∧ j < n) (hv : vs.getD j.toNatClampNeg dv = v) (hd : decode c.code pc = .ok (.caload, 1)) (hp : pc + 1 = pc')
    (K : own_W p e below P T m pc' Ls (v :: S)) : own_W p e below P T m pc Ls (.int j :: .ref a :: S) := by
  subst hp
  obtain ⟨cl, Ar, -, Sz, M, H, -⟩ := A
  have hin := inb_of Sz hj
  exact own_go (fun t => X.caload hx (cell := cl) (j := j) (v := v) (by rw [eT]; exact Ar.1) (State.isArrayOf_alike hZ.alike Ar.2.1) Ar.2.2 hin (H.at hin hv) (g := mkF m pc Ls (.int j :: .ref a :: S)) rfl rfl hd t) K
theorem own_baloadB (X : Stand p l e R s m args below meth c T locs cells slots) (hx : p.tables.exec = Jvm.exec) (hZ : Z.Warmed39 s.vm) (eT : T.heap = h) {a : Addr} {k : ClassId} {n : Int32} {vs : List Value} {dv : Value} (A : Arv Z h a k .byte n vs dv) {j : Int32} {v : Value} (hj : ¬ j < 0 ∧ j < n) (hv : vs.getD j.toNatClampNeg dv = v) (hd : decode c.code pc = .ok (.baload, 1)) (hp : pc + 1 = pc')
    (K : own_W p e below P T m pc' Ls (v :: S)) : own_W p e below P T m pc Ls (.int j :: .ref a :: S) := by
  subst hp
  obtain ⟨cl, Ar, -, Sz, M, H, -⟩ := A
  have hin := inb_of Sz hj
  exact own_go (fun t => X.baloadBytes hx (cell := cl) (j := j) (v := v) (by rw [eT]; exact Ar.1) (State.isArrayOf_alike hZ.alike Ar.2.1) Ar.2.2 hin (H.at hin hv) (g := mkF m pc Ls (.int j :: .ref a :: S)) rfl rfl hd t) K
theorem own_baloadZ (X : Stand p l e R s m args below meth c T locs cells slots) (hx : p.tables.exec = Jvm.exec) (hZ : Z.Warmed39 s.vm) (eT : T.heap = h) {a : Addr} {k : ClassId} {n : Int32} {vs : List Value} {dv : Value} (A : Arv Z h a k .boolean n vs dv) {j : Int32} {v : Value} (hj : ¬ j < 0 ∧ j < n) (hv : vs.getD j.toNatClampNeg dv = v) (hd : decode c.code pc = .ok (.baload, 1)) (hp : pc + 1 = pc')
    (K : own_W p e below P T m pc' Ls (v :: S)) : own_W p e below P T m pc Ls (.int j :: .ref a :: S) := by
  subst hp
  obtain ⟨cl, Ar, -, Sz, M, H, -⟩ := A
  have hin := inb_of Sz hj
  exact own_go (fun t => X.baloadBooleans hx (cell := cl) (j := j) (v := v) (by rw [eT]; exact Ar.1) (State.isArrayOf_alike hZ.alike Ar.2.1) Ar.2.2 hin (H.at hin hv) (g := mkF m pc Ls (.int j :: .ref a :: S)) rfl rfl hd t) K
theorem own_aaload (X : Stand p l e R s m args below meth c T locs cells slots) (hx : p.tables.exec = Jvm.exec) (hZ : Z.Warmed39 s.vm) (eT : T.heap = h) {a : Addr} {k : ClassId} {ty : FieldType} (hty : ty.isReference = true) {n : Int32} {vs : List Value} {dv : Value} (A : Arv Z h a k ty n vs dv) {j : Int32} {v : Value} (hj : ¬ j < 0 ∧ j < n) (hv : vs.getD j.toNatClampNeg dv = v) (hd : decode c.code pc = .ok (.aaload, 1)) (hp : pc + 1 = pc')
    (K : own_W p e below P T m pc' Ls (v :: S)) : own_W p e below P T m pc Ls (.int j :: .ref a :: S) := by
  subst hp
  obtain ⟨cl, Ar, -, Sz, M, H, -⟩ := A
  have hin := inb_of Sz hj
  exact own_go (fun t => X.aaload hx (cell := cl) (j := j) (v := v) (by rw [eT]; exact Ar.1) (State.isArrayOf_alike hZ.alike Ar.2.1) hty Ar.2.2 hin (H.at hin hv) (g := mkF m pc Ls (.int j :: .ref a :: S)) rfl rfl hd t) K
theorem own_iastore (X : Stand p l e R s m args below meth c T locs cells slots) (hx : p.tables.exec = Jvm.exec) (hZ : Z.Warmed39 s.vm) (eT : T.heap = h) {a : Addr} {k : ClassId} {n : Int32} {vs : List Value} {dv : Value} (A : Arv Z h a k .int n vs dv) {j : Int32} {x : Int32} (hj : ¬ j < 0 ∧ j < n) (i : Nat) (hi : j.toNatClampNeg = i) (hlen : i < vs.length) (hd : decode c.code pc = .ok (.iastore, 1)) (hp : pc + 1 = pc')
    (K : ∀ T' h' lc, Stand p l e R s m args below meth c T' lc cells slots → T'.heap = h' → Keep h h' [a] → Arv Z h' a k .int n (vs.set i (.int x)) dv → (∀ n0, n0 ≤ a → Fr n0 locs → Fr n0 lc) → own_W p e below P T' m pc' Ls S) : own_W p e below P T m pc Ls (.int x :: .int j :: .ref a :: S) := by
  subst hp
  obtain ⟨cl, Ar, q1, Sz, M, H, G⟩ := A
  obtain ⟨T', h', X', e', W', st⟩ := stI X hx hZ eT Ar (inb_of Sz hj) (g := mkF m pc Ls (.int x :: .int j :: .ref a :: S)) rfl rfl hd
  exact own_go st (K T' h' _ X' e' (Keep.of_wr W') (Arv.set Ar q1 Sz M H G rfl W' i hi hlen) fun _ q N => Fr.snoc X' N q)
theorem own_lastore (X : Stand p l e R s m args below meth c T locs cells slots) (hx : p.tables.exec = Jvm.exec) (hZ : Z.Warmed39 s.vm) (eT : T.heap = h) {a : Addr} {k : ClassId} {n : Int32} {vs : List Value} {dv : Value} (A : Arv Z h a k .long n vs dv) {j : Int32} {x : Int64} (hj : ¬ j < 0 ∧ j < n) (i : Nat) (hi : j.toNatClampNeg = i) (hlen : i < vs.length) (hd : decode c.code pc = .ok (.lastore, 1)) (hp : pc + 1 = pc')
    (K : ∀ T' h' lc, Stand p l e R s m args below meth c T' lc cells slots → T'.heap = h' → Keep h h' [a] → Arv Z h' a k .long n (vs.set i (.long x)) dv → (∀ n0, n0 ≤ a → Fr n0 locs → Fr n0 lc) → own_W p e below P T' m pc' Ls S) : own_W p e below P T m pc Ls (.long x :: .int j :: .ref a :: S) := by
  subst hp
  obtain ⟨cl, Ar, q1, Sz, M, H, G⟩ := A
  obtain ⟨T', h', X', e', W', st⟩ := stJ X hx hZ eT Ar (inb_of Sz hj) (g := mkF m pc Ls (.long x :: .int j :: .ref a :: S)) rfl rfl hd
  exact own_go st (K T' h' _ X' e' (Keep.of_wr W') (Arv.set Ar q1 Sz M H G rfl W' i hi hlen) fun _ q N => Fr.snoc X' N q)
theorem own_castore (X : Stand p l e R s m args below meth c T locs cells slots) (hx : p.tables.exec = Jvm.exec) (hZ : Z.Warmed39 s.vm) (eT : T.heap = h) {a : Addr} {k : ClassId} {n : Int32} {vs : List Value} {dv : Value} (A : Arv Z h a k .char n vs dv) {j : Int32} {x : Int32} (hj : ¬ j < 0 ∧ j < n) (i : Nat) (hi : j.toNatClampNeg = i) (hlen : i < vs.length) (hd : decode c.code pc = .ok (.castore, 1)) (hp : pc + 1 = pc')
    (K : ∀ T' h' lc, Stand p l e R s m args below meth c T' lc cells slots → T'.heap = h' → Keep h h' [a] → Arv Z h' a k .char n (vs.set i (.int (nar .char x))) dv → (∀ n0, n0 ≤ a → Fr n0 locs → Fr n0 lc) → own_W p e below P T' m pc' Ls S) : own_W p e below P T m pc Ls (.int x :: .int j :: .ref a :: S) := by
  subst hp
  obtain ⟨cl, Ar, q1, Sz, M, H, G⟩ := A
  obtain ⟨T', h', X', e', W', st⟩ := stC X hx hZ eT Ar (inb_of Sz hj) (g := mkF m pc Ls (.int x :: .int j :: .ref a :: S)) rfl rfl hd
  exact own_go st (K T' h' _ X' e' (Keep.of_wr W') (Arv.set Ar q1 Sz M H G (fits_nar_char x) W' i hi hlen) fun _ q N => Fr.snoc X' N q)
theorem own_bastoreZ (X : Stand p l e R s m args below meth c T locs cells slots) (hx : p.tables.exec = Jvm.exec) (hZ : Z.Warmed39 s.vm) (eT : T.heap = h) {a : Addr} {k : ClassId} {n : Int32} {vs : List Value} {dv : Value} (A : Arv Z h a k .boolean n vs dv) {j : Int32} {x : Int32} (hj : ¬ j < 0 ∧ j < n) (i : Nat) (hi : j.toNatClampNeg = i) (hlen : i < vs.length) (hd : decode c.code pc = .ok (.bastore, 1)) (hp : pc + 1 = pc')
    (K : ∀ T' h' lc, Stand p l e R s m args below meth c T' lc cells slots → T'.heap = h' → Keep h h' [a] → Arv Z h' a k .boolean n (vs.set i (.int (nar .boolean x))) dv → (∀ n0, n0 ≤ a → Fr n0 locs → Fr n0 lc) → own_W p e below P T' m pc' Ls S) : own_W p e below P T m pc Ls (.int x :: .int j :: .ref a :: S) := by
  subst hp
  obtain ⟨cl, Ar, q1, Sz, M, H, G⟩ := A
  obtain ⟨T', h', X', e', W', st⟩ := stZ X hx hZ eT Ar (inb_of Sz hj) (g := mkF m pc Ls (.int x :: .int j :: .ref a :: S)) rfl rfl hd
  exact own_go st (K T' h' _ X' e' (Keep.of_wr W') (Arv.set Ar q1 Sz M H G (fits_nar_bool x) W' i hi hlen) fun _ q N => Fr.snoc X' N q)
theorem own_bastoreB (X : Stand p l e R s m args below meth c T locs cells slots) (hx : p.tables.exec = Jvm.exec) (hZ : Z.Warmed39 s.vm) (eT : T.heap = h) {a : Addr} {k : ClassId} {n : Int32} {vs : List Value} {dv : Value} (A : Arv Z h a k .byte n vs dv) {j : Int32} {x : Int32} (hj : ¬ j < 0 ∧ j < n) (i : Nat) (hi : j.toNatClampNeg = i) (hlen : i < vs.length) (hd : decode c.code pc = .ok (.bastore, 1)) (hp : pc + 1 = pc')
    (K : ∀ T' h' lc, Stand p l e R s m args below meth c T' lc cells slots → T'.heap = h' → Keep h h' [a] → Arv Z h' a k .byte n (vs.set i (.int (nar .byte x))) dv → (∀ n0, n0 ≤ a → Fr n0 locs → Fr n0 lc) → own_W p e below P T' m pc' Ls S) : own_W p e below P T m pc Ls (.int x :: .int j :: .ref a :: S) := by
  subst hp
  obtain ⟨cl, Ar, q1, Sz, M, H, G⟩ := A
  obtain ⟨T', h', X', e', W', st⟩ := stB X hx hZ eT Ar (inb_of Sz hj) (g := mkF m pc Ls (.int x :: .int j :: .ref a :: S)) rfl rfl hd
  exact own_go st (K T' h' _ X' e' (Keep.of_wr W') (Arv.set Ar q1 Sz M H G (fits_nar_byte x) W' i hi hlen) fun _ q N => Fr.snoc X' N q)
theorem own_cast (X : Stand p l e R s m args below meth c T locs cells slots) (hx : p.tables.exec = Jvm.exec) (hZ : Z.Warmed39 s.vm) {own C : String} {index : Nat} (hown : s.vm.findClass own = some m.cls) (w : (Cond.classLink own index C).before a0 Z = true) (eT : T.heap = h) {a : Addr} (E : Exa Z h a C) (hd : decode c.code pc = .ok (.checkcast index, 3)) (hp : pc + 3 = pc')
    (K : ∀ T', Stand p l e R s m args below meth c T' locs cells slots → T'.heap = h → own_W p e below P T' m pc' Ls (.ref a :: S)) : own_W p e below P T m pc Ls (.ref a :: S) := by
  subst hp
  obtain ⟨T', X', e', st⟩ := castY X hx hZ hown w eT (Ins.self E) (g := mkF m pc Ls (.ref a :: S)) rfl rfl hd
  exact own_go st (K T' X' e')
theorem own_inst (X : Stand p l e R s m args below meth c T locs cells slots) (hx : p.tables.exec = Jvm.exec) (hZ : Z.Warmed39 s.vm) {own C : String} {index : Nat} (hown : s.vm.findClass own = some m.cls) (w : (Cond.classLink own index C).before a0 Z = true) (eT : T.heap = h) {a : Addr} (E : Exa Z h a C) (hd : decode c.code pc = .ok (.instanceof index, 3)) (hp : pc + 3 = pc')
    (K : ∀ T', Stand p l e R s m args below meth c T' locs cells slots → T'.heap = h → own_W p e below P T' m pc' Ls (.int 1 :: S)) : own_W p e below P T m pc Ls (.ref a :: S) := by
  subst hp
  obtain ⟨T', X', e', st⟩ := instY X hx hZ hown w eT (Ins.self E) (g := mkF m pc Ls (.ref a :: S)) rfl rfl hd
  exact own_go st (K T' X' e')
theorem own_acmpne (X : Stand p l e R s m args below meth c T locs cells slots) (hx : p.tables.exec = Jvm.exec) {x y : Addr} {o : Int} {pcY pcN : Nat} (hd : decode c.code pc = .ok (.if_acmp .ne o, 3)) (ho : 0 ≤ (pc : Int) + o) (hY : ((pc : Int) + o).toNat = pcY) (hN : pc + 3 = pcN) (KY : ¬ x = y → own_W p e below P T m pcY Ls S) (KN : x = y → own_W p e below P T m pcN Ls S) : own_W p e below P T m pc Ls (.ref y :: .ref x :: S) :=
  (Classical.em (x = y)).elim (fun q => own_acmpN X hx hd hN rfl rfl (XT.aa_ne_f (congrArg Value.ref q)) (KN q)) (fun q => own_acmpY X hx hd ho hY rfl rfl (XT.aa_ne_t fun z => q (Value.ref.inj z)) (KY q))
theorem own_sta_keep {h' : Heap} {ws : List Addr} {C n d : String} {v : Value} (F : Sta Z h C n d v) (K : Keep h h' ws) (hn : ∀ x ∈ ws, ∀ cell : Cell, h[x]? = some cell → cell.vm.isStatics = false) : Sta Z h' C n d v := by
  obtain ⟨cf, i, k, f, st, cell, h1, h2, h3, h4, h5, h6, h7⟩ := F
  exact ⟨cf, i, k, f, st, cell, h1, h2, h3, h4, K.2.1 _ _ h5 (fun q => by rw [hn _ q _ h5] at h6; cases h6), h6, h7⟩
theorem own_ns_exa {a : Addr} {C : String} (E : Exa Z h a C) : ∀ cell : Cell, h[a]? = some cell → cell.vm.isStatics = false := fun cell hc => by
  obtain ⟨c', k, h1, h2, h3, h4, h5⟩ := E
  cases h1.symm.trans hc; exact h4
theorem own_ns_arv {a : Addr} {k : ClassId} {ty : FieldType} {z : Int32} {vs : List Value} {dv : Value} (A : Arv Z h a k ty z vs dv) : ∀ cell : Cell, h[a]? = some cell → cell.vm.isStatics = false := fun cell hc => by
  obtain ⟨c', Ar, -⟩ := A
  cases Ar.1.symm.trans hc; exact Ar.plain
theorem own_callS (X : Stand p l e R s m args below meth c T locs cells slots) (hx : p.tables.exec = Jvm.exec) (hZ : Z.Warmed39 s.vm) {own : String} {index : Nat} {y : MethodName} {bytes : ByteArray} {maxL : Nat} {ret : Option FieldType} {rm : Room} {Qc : Option Value → Heap → List Loc → Prop} {as' : Array Value} {S' : List Value} (argsL : List Value)
    (hown : s.vm.findClass own = some m.cls) (w1 : (Cond.methodLink own index y).before a0 Z = true) (w2 : (Cond.static y).before a0 Z = true) (w3 : (Cond.initialized y.cls).before a0 Z = true) (w4 : (Cond.code y bytes maxL ret).before a0 Z = true) (hy : y.cls ≠ "java/lang/invoke/MethodHandle" ∧ y.cls ≠ "java/lang/invoke/VarHandle")
    (hM : MetFree l y (head1 [Cond.code y bytes maxL ret] rm) (fun a U => a = as' ∧ Z.Warmed39 U.vm ∧ U.heap = h) (fun _ _ _ _ _ => True) (fun _ U o U' => ∃ v L, o = .returned v ∧ Qc v U'.heap L ∧ FrameEnd U o U' L rm.cells rm.slots))
    (eT : T.heap = h) {W cells' slots' : Nat} (hf : rm.frames + 1 ≤ R.frames) (hl : W + (maxL + 11) + rm.locals ≤ R.locals) (hc' : cells + rm.cells = cells') (hs' : slots + rm.slots = slots') (hc : cells' ≤ R.cells) (hs : slots' ≤ R.slots) (hsize : Ls.size = c.maxLocals) (hlen : ∀ sig, parseMethodDescriptor y.desc = some sig → argsL.length = sig.parameters.length) (has : argsL.toArray = as') (hstk : S' = argsL.reverse ++ S) (hW : 2 * 0 + (S.map fun v => v.category).sum ≤ W) (hd : decode c.code pc = .ok (.invokestatic index, 3)) (hp : pc + 3 = pc')
    (K : ∀ v T' h' L lc, Stand p l e R s m args below meth c T' lc cells' slots' → T'.heap = h' → Qc v h' L → (∀ n0, Fr n0 locs → Fr n0 L → Fr n0 lc) → own_W p e below P T' m pc' Ls (v.toList ++ S)) : own_W p e below P T m pc Ls S' := by
  subst hp hc' hs'
  obtain ⟨v, vm₁, ⟨T1, L1, k1, n1⟩, -, X1, ⟨Lc1, hQ1, l1, y1, z1⟩, st1⟩ := Jvm.LawKit.callS X hx hown (mvT hZ w1) (mvT hZ w2) (mvT hZ w3) (mvT hZ w4) hy (backOf hM hZ w4 w3 hf hl) (g := mkF m pc Ls S') rfl hsize (argsL := argsL) (rest := S) hlen hstk hW hd (fun _ _ => ⟨has, eT, hc, hs⟩)
  dsimp only [Pt.U, Pt.locs, Pt.cells, Pt.slots] at X1 l1 y1 z1 st1 hQ1
  subst l1 y1 z1
  exact own_go st1 (K v T1 _ Lc1 _ X1 rfl hQ1 fun _ a b => Fr.app a b)
theorem own_callN (X : Stand p l e R s m args below meth c T locs cells slots) (hx : p.tables.exec = Jvm.exec) (hZ : Z.Warmed39 s.vm) {own : String} {index : Nat} {y : MethodName} {bytes : ByteArray} {maxL : Nat} {rm : Room} {Qc : Option Value → Heap → List Loc → Prop} {as' : Array Value} {S' : List Value} (a : Addr) (argsL : List Value) (hy1 : y.name = "<init>")
    (hown : s.vm.findClass own = some m.cls) (w1 : (Cond.methodLink own index y).before a0 Z = true) (w2 : (Cond.instanceMethod y).before a0 Z = true) (w3 : (Cond.initialized y.cls).before a0 Z = true) (w4 : (Cond.code y bytes maxL none).before a0 Z = true) (hy : y.cls ≠ "java/lang/invoke/MethodHandle" ∧ y.cls ≠ "java/lang/invoke/VarHandle")
    (hM : MetFree l y (head1 [Cond.code y bytes maxL none] rm) (fun a U => a = as' ∧ Z.Warmed39 U.vm ∧ U.heap = h) (fun _ _ _ _ _ => True) (fun _ U o U' => ∃ v L, o = .returned v ∧ Qc v U'.heap L ∧ FrameEnd U o U' L rm.cells rm.slots))
    (eT : T.heap = h) {W cells' slots' : Nat} (hf : rm.frames + 1 ≤ R.frames) (hl : W + (maxL + 11) + rm.locals ≤ R.locals) (hc' : cells + rm.cells = cells') (hs' : slots + rm.slots = slots') (hc : cells' ≤ R.cells) (hs : slots' ≤ R.slots) (hsize : Ls.size = c.maxLocals) (hlen : ∀ sig, parseMethodDescriptor y.desc = some sig → argsL.length = sig.parameters.length) (has : (.ref a :: argsL).toArray = as') (hstk : S' = argsL.reverse ++ .ref a :: S) (hW : 2 * 0 + (S.map fun v => v.category).sum ≤ W) (hd : decode c.code pc = .ok (.invokespecial index, 3)) (hp : pc + 3 = pc')
    (K : ∀ v T' h' L lc, Stand p l e R s m args below meth c T' lc cells' slots' → T'.heap = h' → Qc v h' L → (∀ n0, Fr n0 locs → Fr n0 L → Fr n0 lc) → own_W p e below P T' m pc' Ls (v.toList ++ S)) : own_W p e below P T m pc Ls S' := by
  subst hp hc' hs'
  obtain ⟨v, vm₁, ⟨T1, L1, k1, n1⟩, -, X1, ⟨Lc1, hQ1, l1, y1, z1⟩, st1⟩ := X.specialBack hx hy1 hown (mvT hZ w1) (mvT hZ w2) (mvT hZ w4) hy (backOf hM hZ w4 w3 hf hl) (g := mkF m pc Ls S') rfl hsize (Steps.refl _) (a := a) (argsL := argsL) (rest := S) hlen hstk hW hd (fun _ _ => ⟨has, eT, hc, hs⟩)
  dsimp only [Pt.U, Pt.locs, Pt.cells, Pt.slots] at X1 l1 y1 z1 st1 hQ1
  subst l1 y1 z1
  exact own_go (fun t k => st1.trans k) (K v T1 _ Lc1 _ X1 rfl hQ1 fun _ a b => Fr.app a b)
theorem own_callV (X : Stand p l e R s m args below meth c T locs cells slots) (hx : p.tables.exec = Jvm.exec) (hZ : Z.Warmed39 s.vm) {own C : String} {index : Nat} {y : MethodName} {bytes : ByteArray} {maxL : Nat} {ret : Option FieldType} {rm : Room} {Qc : Option Value → Heap → List Loc → Prop} {as' : Array Value} {S' : List Value} (a : Addr) (argsL : List Value)
    (hown : s.vm.findClass own = some m.cls) (w1 : (Cond.methodLink own index y).before a0 Z = true) (w2 : (Cond.declares y).before a0 Z = true) (w5 : (Cond.selects C y y).before a0 Z = true) (w6 : (Cond.instanceMethod y).before a0 Z = true) (w3 : (Cond.initialized y.cls).before a0 Z = true) (w4 : (Cond.code y bytes maxL ret).before a0 Z = true) (hy : y.cls ≠ "java/lang/invoke/MethodHandle" ∧ y.cls ≠ "java/lang/invoke/VarHandle")
    (hM : MetFree l y (head1 [Cond.code y bytes maxL ret] rm) (fun a U => a = as' ∧ Z.Warmed39 U.vm ∧ U.heap = h) (fun _ _ _ _ _ => True) (fun _ U o U' => ∃ v L, o = .returned v ∧ Qc v U'.heap L ∧ FrameEnd U o U' L rm.cells rm.slots))
    (E : Exa Z h a C) (eT : T.heap = h) {W cells' slots' : Nat} (hf : rm.frames + 1 ≤ R.frames) (hl : W + (maxL + 11) + rm.locals ≤ R.locals) (hc' : cells + rm.cells = cells') (hs' : slots + rm.slots = slots') (hc : cells' ≤ R.cells) (hs : slots' ≤ R.slots) (hsize : Ls.size = c.maxLocals) (hlen : ∀ sig, parseMethodDescriptor y.desc = some sig → argsL.length = sig.parameters.length) (has : (.ref a :: argsL).toArray = as') (hstk : S' = argsL.reverse ++ .ref a :: S) (hW : 2 * 0 + (S.map fun v => v.category).sum ≤ W) (hd : decode c.code pc = .ok (.invokevirtual index, 3)) (hp : pc + 3 = pc')
    (K : ∀ v T' h' L lc, Stand p l e R s m args below meth c T' lc cells' slots' → T'.heap = h' → Qc v h' L → (∀ n0, Fr n0 locs → Fr n0 L → Fr n0 lc) → own_W p e below P T' m pc' Ls (v.toList ++ S)) : own_W p e below P T m pc Ls S' := by
  subst hp hc' hs'
  obtain ⟨cq, kq, qa, qb, qc⟩ := isOf hZ eT E
  obtain ⟨v, vm₁, ⟨T1, L1, k1, n1⟩, -, X1, ⟨Lc1, hQ1, l1, y1, z1⟩, st1⟩ := X.virtualBack hx hown (mvT hZ w1) (mvT hZ w2) (notFace_of_selects (args := #[]) (mvT hZ w5)) (mvT hZ w5) (mvT hZ w6) hy (backOf hM hZ w4 w3 hf hl) qa qc (g := mkF m pc Ls S') rfl hsize (Steps.refl _) (argsL := argsL) (rest := S) hlen hstk hW hd (fun _ _ => ⟨has, eT, hc, hs⟩)
  dsimp only [Pt.U, Pt.locs, Pt.cells, Pt.slots] at X1 l1 y1 z1 st1 hQ1
  subst l1 y1 z1
  exact own_go (fun t k => st1.trans k) (K v T1 _ Lc1 _ X1 rfl hQ1 fun _ a b => Fr.app a b)
theorem own_initO (X : Stand p l e R s m args below meth c T locs cells slots) (hx : p.tables.exec = Jvm.exec) (hZ : Z.Warmed39 s.vm) {own : String} {idx : Nat} (hown : s.vm.findClass own = some m.cls) (w1 : (Cond.methodLink own idx Lib.objectInit).before a0 Z = true) (w2 : (Cond.instanceMethod Lib.objectInit).before a0 Z = true) (w3 : (Cond.code Lib.objectInit ⟨#[0xb1]⟩ 1 none).before a0 Z = true) (eT : T.heap = h)
    (hsize : Ls.size = c.maxLocals) {a : Addr} (hd : decode c.code pc = .ok (.invokespecial idx, 3)) (hp : pc + 3 = pc') (hf : 1 ≤ R.frames) {W : Nat} (hW : 2 * 0 + (S.map fun v => v.category).sum ≤ W) (hl : W + 12 ≤ R.locals)
    (K : ∀ T', Stand p l e R s m args below meth c T' locs cells slots → T'.heap = h → own_W p e below P T' m pc' Ls S) : own_W p e below P T m pc Ls (.ref a :: S) := by
  subst hp
  obtain ⟨T', X', e', st⟩ := initO X hx hZ hown w1 w2 w3 eT (g := mkF m pc Ls (.ref a :: S)) rfl hsize rfl hd hf (W := W) hW hl
  exact own_go st (K T' X' e')
/-! returns -/
theorem own_retI (X : Stand p l e R s m args below meth c T locs cells slots) (hx : p.tables.exec = Jvm.exec) (hlk : meth.locks = false) {t : FieldType} {w w' : Value} (hret : meth.sig.returnType = some t) (hd : decode c.code pc = .ok (.ireturn, 1)) {z : Int32} (hw : w = .int z) (hn : narrow t w = w') (ht : t = .int ∨ t = .boolean ∨ t = .byte ∨ t = .char ∨ t = .short) (hc : cells ≤ kc) (hs : slots ≤ ks) (hq : Q (some w') T.heap locs) : own_W p e below (own_Post s Q kc ks) T m pc Ls (w :: S) := by
  subst hw
  obtain ⟨fs, hr, hrun, hended, hW, hsame⟩ := X.leave (v := some w') (fun h => by rw [hret] at h; cases h) hlk
  refine ⟨_, _, ?_, hrun, hended, _, _, rfl, hq, ⟨_, rfl⟩, hW, hsame.mono hc hs⟩
  have hm' : T.vm.method? m = some meth := X.method'
  show Steps p.tables e below (T.setTop { method := m, pc := pc, locals := Ls, stack := _ :: S, locked := none }) _
  rcases ht with rfl | rfl | rfl | rfl | rfl
  all_goals
    jvm_step X.here [X.here.top, hx, hd, hm', hret, hn]
    first | (intro acts; rw [hr _ acts rfl rfl rfl]) | rw [hr _ _ rfl rfl rfl]
    exact Steps.refl _
theorem own_retJ (X : Stand p l e R s m args below meth c T locs cells slots) (hx : p.tables.exec = Jvm.exec) (hlk : meth.locks = false) {z : Int64} (hret : meth.sig.returnType = some .long) (hd : decode c.code pc = .ok (.lreturn, 1)) (hc : cells ≤ kc) (hs : slots ≤ ks) (hq : Q (some (.long z)) T.heap locs) : own_W p e below (own_Post s Q kc ks) T m pc Ls (.long z :: S) := by
  obtain ⟨fs, hr, hrun, hended, hW, hsame⟩ := X.leave (v := some (.long z)) (fun h => by rw [hret] at h; cases h) hlk
  exact ⟨_, _, retOut X hx hret rfl (Or.inr (Or.inl ⟨rfl, rfl, z, rfl⟩)) hd hr, hrun, hended, _, _, rfl, hq, ⟨_, rfl⟩, hW, hsame.mono hc hs⟩
theorem own_retA (X : Stand p l e R s m args below meth c T locs cells slots) (hx : p.tables.exec = Jvm.exec) (hlk : meth.locks = false) {t : FieldType} {w : Value} (hret : meth.sig.returnType = some t) (hd : decode c.code pc = .ok (.areturn, 1)) (ht : t.isReference = true) (hw : w.isRef = true) (hn : narrow t w = w) (hc : cells ≤ kc) (hs : slots ≤ ks) (hq : Q (some w) T.heap locs) : own_W p e below (own_Post s Q kc ks) T m pc Ls (w :: S) := by
  obtain ⟨fs, hr, hrun, hended, hW, hsame⟩ := X.leave (v := some w) (fun h => by rw [hret] at h; cases h) hlk
  exact ⟨_, _, retOut X hx hret hn (Or.inr (Or.inr (Or.inr (Or.inr ⟨rfl, ht, hw⟩)))) hd hr, hrun, hended, _, _, rfl, hq, ⟨_, rfl⟩, hW, hsame.mono hc hs⟩
theorem own_ret0 (X : Stand p l e R s m args below meth c T locs cells slots) (hx : p.tables.exec = Jvm.exec) (hlk : meth.locks = false) (hret : meth.sig.returnType = none) (hd : decode c.code pc = .ok (.return_, 1)) (hc : cells ≤ kc) (hs : slots ≤ ks) (hq : Q none T.heap locs) : own_W p e below (own_Post s Q kc ks) T m pc Ls [] := by
  obtain ⟨fs, hr, hrun, hended, hW, hsame⟩ := X.leave (v := none) (fun _ => rfl) hlk
  exact ⟨_, _, X.returnOut hx hret hd hr, hrun, hended, _, _, rfl, hq, ⟨_, rfl⟩, hW, hsame.mono hc hs⟩
end OwnKit
theorem own_i2c_nar (x : Int32) : nar .char (x.toUInt32.toUInt16.toUInt32.toInt32) = x.toUInt32.toUInt16.toUInt32.toInt32 := by simp only [nar, UInt32.toUInt32_toInt32, UInt16.toUInt16_toUInt32]
theorem own_k0 : (0 : Int32).toInt = 0 := by decide
theorem own_k1 : (1 : Int32).toInt = 1 := by decide
theorem own_len (n : Int32) : 1 ≤ ((1 : Int32) + (n &&& 3)).toInt ∧ ((1 : Int32) + (n &&& 3)).toInt ≤ 4 := by
  have q := c_mask n 3 2 (by decide) (by decide)
  have r : 0 ≤ (n &&& 3).toInt ∧ (n &&& 3).toInt < 4 := by rw [q]; omega
  rw [XT.add32 ⟨by rw [own_k1]; omega, by rw [own_k1]; omega⟩, own_k1]; omega
theorem own_nz {x : Int32} (h : 1 ≤ x.toInt) : x ≠ 0 := fun q => by rw [q, own_k0] at h; omega
theorem own_idx (i ln : Int32) (h : 1 ≤ ln.toInt) : 0 ≤ ((i &&& 2147483647) % ln).toInt ∧ ((i &&& 2147483647) % ln).toInt < ln.toInt := by
  have q := c_mask i 2147483647 31 (by decide) (by decide)
  have r : 0 ≤ (i &&& 2147483647).toInt := by rw [q]; omega
  have u := (c_iremV (i &&& 2147483647) ln).1 r (by omega)
  exact ⟨u.1, u.2.1⟩
theorem own_ne32 {x y : Int32} (h : ¬ x = y) : ¬ x.toInt = y.toInt := fun q => h (Int32.toInt_inj.mp q)
theorem own_three {x : Int32} (h : 0 ≤ x.toInt ∧ x.toInt < 4) (h0 : ¬ x = 0) (h1 : ¬ x = 1) (h2 : ¬ x = 2) : x = 3 := by
  have a := own_ne32 h0; have b := own_ne32 h1; have c := own_ne32 h2
  have e0 : (0 : Int32).toInt = 0 := by decide
  have e1 : (1 : Int32).toInt = 1 := by decide
  have e2 : (2 : Int32).toInt = 2 := by decide
  have e3 : (3 : Int32).toInt = 3 := by decide
  refine Int32.toInt_inj.mp ?_
  omega
theorem own_nn {x : Int32} (h : 0 ≤ x.toInt) : ¬ x < 0 := by rw [Int32.lt_iff_toInt_lt, own_k0]; omega
theorem own_lt {x : Int32} (h : x.toInt < 4) : x < 1024 := by rw [Int32.lt_iff_toInt_lt]; have e3 : (1024 : Int32).toInt = 1024 := by decide
                                                              omega
theorem own_d_prog_69_method_1_code_0 : decode prog_69_method_1_code 0 = .ok (.aload_n 0, 1) := by decide +kernel
theorem own_d_prog_69_method_1_code_1 : decode prog_69_method_1_code 1 = .ok (.invokespecial 3, 3) := by decide +kernel
theorem own_d_prog_69_method_1_code_4 : decode prog_69_method_1_code 4 = .ok (.aload_n 0, 1) := by decide +kernel
theorem own_d_prog_69_method_1_code_5 : decode prog_69_method_1_code 5 = .ok (.sipush 1024, 3) := by decide +kernel
theorem own_d_prog_69_method_1_code_8 : decode prog_69_method_1_code 8 = .ok (.newarray .char, 2) := by decide +kernel
theorem own_d_prog_69_method_1_code_10 : decode prog_69_method_1_code 10 = .ok (.putfield 9, 3) := by decide +kernel
theorem own_d_prog_69_method_1_code_13 : decode prog_69_method_1_code 13 = .ok (.return_, 1) := by decide +kernel
theorem own_pn_com_example_bleeper_bleeper_lexicon_LineBuffer : plainName "com/example/bleeper/bleeper/lexicon/LineBuffer" = true := by first | (simp [plainName, overriddenIn]; done) | decide +kernel
theorem ef_init (m : MethodId) (x0 : Addr) : entryFrame m #[(.ref x0)] 1 = mkF m 0 #[.val (.ref x0)] [] := by first | (simp [entryFrame, mkF, argsToLocals, Value.category]; done) | rfl
def Q_init (Z : State) (a1 : Addr) (h0 : Heap) (n0 : Nat) (v : Option Value) (h : Heap) (L : List Loc) : Prop := v = none ∧ Fr n0 L ∧ Keep h0 h [a1] ∧ Fld Z h a1 "com/example/bleeper/bleeper/lexicon/LineBuffer" "length" "I" (.int (0 : Int32)) ∧ ∃ (b : Addr) (k : ClassId), h0.size ≤ b ∧ Fld Z h a1 "com/example/bleeper/bleeper/lexicon/LineBuffer" "chars" "[C" (.ref b) ∧ Arv Z h b k .char (1024 : Int32) [(.int (0 : Int32)), (.int (0 : Int32)), (.int (0 : Int32)), (.int (0 : Int32))] (.int (0 : Int32))
set_option maxRecDepth 65536 in
set_option maxHeartbeats 40000000 in
theorem rm_init (l : Launch) (Z : State) (a0 : Array Value) (hw : ∀ d ∈ tables_1, d.before a0 Z = true) (ws : List Jvm.Cond) (a1 : Addr) (h0 : Heap) (n0 : Nat) (Z0 : n0 ≤ h0.size) (u1 : Value) (E_a1 : Exa Z h0 a1 "com/example/bleeper/bleeper/lexicon/LineBuffer") (F_chars : Fld Z h0 a1 "com/example/bleeper/bleeper/lexicon/LineBuffer" "chars" "[C" u1) (F_length : Fld Z h0 a1 "com/example/bleeper/bleeper/lexicon/LineBuffer" "length" "I" (.int (0 : Int32))) (z_a1 : n0 ≤ a1) :
    MetFree l (⟨"com/example/bleeper/bleeper/lexicon/LineBuffer", "<init>", "()V"⟩ : MethodName) (head1 (Jvm.Cond.code (⟨"com/example/bleeper/bleeper/lexicon/LineBuffer", "<init>", "()V"⟩ : MethodName) prog_69_method_1_code 1 none :: ws) ({ frames := 1, cells := 1, slots := 1024, locals := 12 } : Room)) (fun a U => a = #[(.ref a1)] ∧ Z.Warmed39 U.vm ∧ U.heap = h0) (fun _ _ _ _ _ => True) (fun _ U o U' => ∃ v L, o = .returned v ∧ Q_init Z a1 h0 n0 v U'.heap L ∧ FrameEnd U o U' L ({ frames := 1, cells := 1, slots := 1024, locals := 12 } : Room).cells ({ frames := 1, cells := 1, slots := 1024, locals := 12 } : Room).slots) := by
  refine MetFree.of_bodySF (plainFor_of_name own_pn_com_example_bleeper_bleeper_lexicon_LineBuffer) hisR ?_
  intro p e s m args below meth c s₁ Bd hml0 hP hK
  obtain ⟨rfl, hZ, hh⟩ := hP
  have hx := Bd.exec
  have hby := Bd.bytes
  have hml : c.maxLocals = 1 := hml0
  have hown : s.vm.findClass "com/example/bleeper/bleeper/lexicon/LineBuffer" = some m.cls := findClass_of_methodNamed Bd.named
  have hnm := (name_of_methodNamed Bd.named Bd.method).1
  have hlk := Bd.notSynchronized
  obtain ⟨lc, hlc⟩ : ∃ lc : List Loc, lc = [] := ⟨_, rfl⟩
  have X : Stand p l e ({ frames := 1, cells := 1, slots := 1024, locals := 12 } : Room) s m #[(.ref a1)] below meth c s₁ lc 0 0 := hlc ▸ Stand.of_body Bd
  have eT : s₁.heap = h0 := by rw [← hh, Bd.state]; rfl
  have N : Fr n0 lc := hlc ▸ Fr.nil n0
  refine own_enter (ef_init m a1) ?_
  obtain ⟨T, hT⟩ : ∃ T : State, T = s₁ := ⟨_, rfl⟩
  rw [← hT] at X eT ⊢
  show own_W p e below (own_Post s (Q_init Z a1 h0 n0) 1 1024) T m 0 #[.val (.ref a1)] []
  have Kp : Keep h0 h0 [a1] := Keep.refl _ _
  refine own_aloadN X hx (hb hby own_d_prog_69_method_1_code_0) (pc' := 1) rfl rfl rfl ?_
  refine own_initO X hx hZ hown (own_w hw 6 rfl) (own_w hw 7 rfl) (own_w hw 8 rfl) eT (by rw [hml]; rfl) (hb hby own_d_prog_69_method_1_code_1) (pc' := 4) rfl (by decide) (W := 0) (Nat.le_of_eq rfl) (by decide) ?_
  intro T X eT
  refine own_aloadN X hx (hb hby own_d_prog_69_method_1_code_4) (pc' := 5) rfl rfl rfl ?_
  refine own_sipush X hx (1024 : Int32) (hb hby own_d_prog_69_method_1_code_5) (pc' := 8) rfl rfl ?_
  refine own_newarr X hx hZ (own_w hw 9 rfl) eT (hb hby own_d_prog_69_method_1_code_8) (pc' := 10) rfl (by decide) 1024 (by decide) (by decide) (cells' := 1) (slots' := 1024) rfl rfl (by decide) (by decide) ?_
  intro T h1 k_b1 b1 X eT E gb1 A_b1
  have lt_a1_b1 : a1 < b1 := Nat.lt_of_lt_of_le E_a1.lt (Nat.le_of_eq gb1.symm)
  have ne_a1_b1 : a1 ≠ b1 := Nat.ne_of_lt lt_a1_b1
  have z_b1 : n0 ≤ b1 := Nat.le_trans Z0 (Nat.le_of_eq gb1.symm)
  have s_b1 : h0.size ≤ b1 := Nat.le_trans Kp.1 (Nat.le_of_eq gb1.symm)
  have E_a1 := E_a1.ext E
  have F_chars := F_chars.ext E
  have F_length := F_length.ext E
  have Z0 := Nat.le_trans Z0 E.1
  have Kp := Kp.ext E
  have A_b1 : Arv Z h1 b1 k_b1 .char (1024 : Int32) [(.int (0 : Int32)), (.int (0 : Int32)), (.int (0 : Int32)), (.int (0 : Int32))] (.int (0 : Int32)) := A_b1.pad (pad_rep [] (.int (0 : Int32)) 4)
  refine own_putF X hx hZ hown (own_w hw 10 rfl) Via.refl eT F_chars E_a1 (Or.inl (own_w hw 11 rfl)) (own_w hw 1 rfl) (ty := (.array .char)) (v' := (.ref b1)) (by decide) rfl rfl (hb hby own_d_prog_69_method_1_code_10) (pc' := 13) rfl ?_
  intro T h2 lc X eT Wq fN
  have F_chars := F_chars.same Wq
  have E_a1 := E_a1.wr Wq
  have F_length := F_length.other Wq (Or.inr (slot_ne (Or.inl (own_w hw 18 rfl)) (Or.inl (own_w hw 11 rfl)) (by decide) (t := .int) (t' := (.array .char)) (by decide) (by decide)))
  have A_b1 := A_b1.other Wq (Ne.symm ne_a1_b1)
  have Z0 := Nat.le_trans Z0 (Keep.of_wr Wq).1
  have N := fN _ z_a1 N
  have Kp := Kp.wr Wq (Or.inl (List.mem_of_getElem? (i := 0) rfl))
  refine own_ret0 X hx hlk Bd.returns (hb hby own_d_prog_69_method_1_code_13) (by decide) (by decide) ?_
  rw [eT]
  exact ⟨rfl, N, Kp, F_length, b1, _, s_b1, F_chars, A_b1⟩
theorem own_d_prog_69_method_8_code_0 : decode prog_69_method_8_code 0 = .ok (.aload_n 0, 1) := by decide +kernel
theorem own_d_prog_69_method_8_code_1 : decode prog_69_method_8_code 1 = .ok (.getfield 9, 3) := by decide +kernel
theorem own_d_prog_69_method_8_code_4 : decode prog_69_method_8_code 4 = .ok (.arraylength, 1) := by decide +kernel
theorem own_d_prog_69_method_8_code_5 : decode prog_69_method_8_code 5 = .ok (.aload_n 0, 1) := by decide +kernel
theorem own_d_prog_69_method_8_code_6 : decode prog_69_method_8_code 6 = .ok (.getfield 15, 3) := by decide +kernel
theorem own_d_prog_69_method_8_code_9 : decode prog_69_method_8_code 9 = .ok (.isub, 1) := by decide +kernel
theorem own_d_prog_69_method_8_code_10 : decode prog_69_method_8_code 10 = .ok (.iload_n 1, 1) := by decide +kernel
theorem own_d_prog_69_method_8_code_11 : decode prog_69_method_8_code 11 = .ok (.if_icmp .ge 65, 3) := by decide +kernel
theorem own_d_prog_69_method_8_code_76 : decode prog_69_method_8_code 76 = .ok (.aload_n 0, 1) := by decide +kernel
theorem own_d_prog_69_method_8_code_77 : decode prog_69_method_8_code 77 = .ok (.getfield 9, 3) := by decide +kernel
theorem own_d_prog_69_method_8_code_80 : decode prog_69_method_8_code 80 = .ok (.areturn, 1) := by decide +kernel
theorem ef_room (m : MethodId) (x0 : Addr) (x1 : Int32) : entryFrame m #[(.ref x0), (.int x1)] 6 = mkF m 0 #[.val (.ref x0), .val (.int x1), .unset, .unset, .unset, .unset] [] := by first | (simp [entryFrame, mkF, argsToLocals, Value.category]; done) | rfl
def Q_room (Z : State) (a1 b : Addr) (h0 : Heap) (n0 : Nat) (v : Option Value) (h : Heap) (L : List Loc) : Prop := v = some (.ref b) ∧ Fr n0 L ∧ h = h0
set_option maxRecDepth 65536 in
set_option maxHeartbeats 40000000 in
theorem rm_room (l : Launch) (Z : State) (a0 : Array Value) (hw : ∀ d ∈ tables_1, d.before a0 Z = true) (ws : List Jvm.Cond) (a1 b : Addr) (h0 : Heap) (n0 : Nat) (Z0 : n0 ≤ h0.size) (F_chars : Fld Z h0 a1 "com/example/bleeper/bleeper/lexicon/LineBuffer" "chars" "[C" (.ref b)) (F_length : Fld Z h0 a1 "com/example/bleeper/bleeper/lexicon/LineBuffer" "length" "I" (.int (0 : Int32))) (k : ClassId) (vs : List Value) (A_b : Arv Z h0 b k .char (1024 : Int32) vs (.int (0 : Int32))) :
    MetFree l (⟨"com/example/bleeper/bleeper/lexicon/LineBuffer", "room", "(I)[C"⟩ : MethodName) (head1 (Jvm.Cond.code (⟨"com/example/bleeper/bleeper/lexicon/LineBuffer", "room", "(I)[C"⟩ : MethodName) prog_69_method_8_code 6 (some (.array .char)) :: ws) ({ frames := 0, cells := 0, slots := 0, locals := 0 } : Room)) (fun a U => a = #[(.ref a1), (.int (4 : Int32))] ∧ Z.Warmed39 U.vm ∧ U.heap = h0) (fun _ _ _ _ _ => True) (fun _ U o U' => ∃ v L, o = .returned v ∧ Q_room Z a1 b h0 n0 v U'.heap L ∧ FrameEnd U o U' L ({ frames := 0, cells := 0, slots := 0, locals := 0 } : Room).cells ({ frames := 0, cells := 0, slots := 0, locals := 0 } : Room).slots) := by
  refine MetFree.of_bodySF (plainFor_of_name own_pn_com_example_bleeper_bleeper_lexicon_LineBuffer) hisR ?_
  intro p e s m args below meth c s₁ Bd hml0 hP hK
  obtain ⟨rfl, hZ, hh⟩ := hP
  have hx := Bd.exec
  have hby := Bd.bytes
  have hml : c.maxLocals = 6 := hml0
  have hown : s.vm.findClass "com/example/bleeper/bleeper/lexicon/LineBuffer" = some m.cls := findClass_of_methodNamed Bd.named
  have hnm := (name_of_methodNamed Bd.named Bd.method).1
  have hlk := Bd.notSynchronized
  obtain ⟨lc, hlc⟩ : ∃ lc : List Loc, lc = [] := ⟨_, rfl⟩
  have X : Stand p l e ({ frames := 0, cells := 0, slots := 0, locals := 0 } : Room) s m #[(.ref a1), (.int (4 : Int32))] below meth c s₁ lc 0 0 := hlc ▸ Stand.of_body Bd
  have eT : s₁.heap = h0 := by rw [← hh, Bd.state]; rfl
  have N : Fr n0 lc := hlc ▸ Fr.nil n0
  refine own_enter (ef_room m a1 (4 : Int32)) ?_
  obtain ⟨T, hT⟩ : ∃ T : State, T = s₁ := ⟨_, rfl⟩
  rw [← hT] at X eT ⊢
  show own_W p e below (own_Post s (Q_room Z a1 b h0 n0) 0 0) T m 0 #[.val (.ref a1), .val (.int (4 : Int32)), .unset, .unset, .unset, .unset] []
  refine own_aloadN X hx (hb hby own_d_prog_69_method_8_code_0) (pc' := 1) rfl rfl rfl ?_
  refine own_getF X hx hZ hown (host := "") (Or.inl (own_w hw 10 rfl)) Via.refl eT F_chars (hb hby own_d_prog_69_method_8_code_1) (pc' := 4) rfl ?_
  intro T X eT
  refine own_arrlen X hx hZ eT A_b (hb hby own_d_prog_69_method_8_code_4) (pc' := 5) rfl ?_
  refine own_aloadN X hx (hb hby own_d_prog_69_method_8_code_5) (pc' := 6) rfl rfl rfl ?_
  refine own_getF X hx hZ hown (host := "") (Or.inl (own_w hw 17 rfl)) Via.refl eT F_length (hb hby own_d_prog_69_method_8_code_6) (pc' := 9) rfl ?_
  intro T X eT
  refine own_isub X hx (hb hby own_d_prog_69_method_8_code_9) (pc' := 10) rfl ?_
  refine own_iloadN X hx (hb hby own_d_prog_69_method_8_code_10) (pc' := 11) rfl rfl ?_
  refine own_icmpY X hx (hb hby own_d_prog_69_method_8_code_11) (by decide) (pc' := 76) rfl (show ¬ (((1024 : Int32) - (0 : Int32)) < (4 : Int32)) from (by decide)) ?_
  refine own_aloadN X hx (hb hby own_d_prog_69_method_8_code_76) (pc' := 77) rfl rfl rfl ?_
  refine own_getF X hx hZ hown (host := "") (Or.inl (own_w hw 10 rfl)) Via.refl eT F_chars (hb hby own_d_prog_69_method_8_code_77) (pc' := 80) rfl ?_
  intro T X eT
  refine own_retA X hx hlk Bd.returns (hb hby own_d_prog_69_method_8_code_80) rfl rfl rfl (by decide) (by decide) ?_
  rw [eT]
  exact ⟨rfl, N, rfl⟩
theorem own_d_prog_69_method_9_code_0 : decode prog_69_method_9_code 0 = .ok (.aload_n 0, 1) := by decide +kernel
theorem own_d_prog_69_method_9_code_1 : decode prog_69_method_9_code 1 = .ok (.iload_n 1, 1) := by decide +kernel
theorem own_d_prog_69_method_9_code_2 : decode prog_69_method_9_code 2 = .ok (.putfield 15, 3) := by decide +kernel
theorem own_d_prog_69_method_9_code_5 : decode prog_69_method_9_code 5 = .ok (.return_, 1) := by decide +kernel
theorem ef_setl (m : MethodId) (x0 : Addr) (x1 : Int32) : entryFrame m #[(.ref x0), (.int x1)] 2 = mkF m 0 #[.val (.ref x0), .val (.int x1)] [] := by first | (simp [entryFrame, mkF, argsToLocals, Value.category]; done) | rfl
def Q_setl (Z : State) (a1 b : Addr) (p2 : Int32) (h0 : Heap) (n0 : Nat) (v : Option Value) (h : Heap) (L : List Loc) : Prop := v = none ∧ Fr n0 L ∧ Keep h0 h [a1] ∧ Fld Z h a1 "com/example/bleeper/bleeper/lexicon/LineBuffer" "length" "I" (.int p2) ∧ Fld Z h a1 "com/example/bleeper/bleeper/lexicon/LineBuffer" "chars" "[C" (.ref b)
set_option maxRecDepth 65536 in
set_option maxHeartbeats 40000000 in
theorem rm_setl (l : Launch) (Z : State) (a0 : Array Value) (hw : ∀ d ∈ tables_1, d.before a0 Z = true) (ws : List Jvm.Cond) (a1 b : Addr) (p2 : Int32) (h0 : Heap) (n0 : Nat) (Z0 : n0 ≤ h0.size) (u1 : Value) (E_a1 : Exa Z h0 a1 "com/example/bleeper/bleeper/lexicon/LineBuffer") (F_length : Fld Z h0 a1 "com/example/bleeper/bleeper/lexicon/LineBuffer" "length" "I" u1) (F_chars : Fld Z h0 a1 "com/example/bleeper/bleeper/lexicon/LineBuffer" "chars" "[C" (.ref b)) (z_a1 : n0 ≤ a1) :
    MetFree l (⟨"com/example/bleeper/bleeper/lexicon/LineBuffer", "setLength", "(I)V"⟩ : MethodName) (head1 (Jvm.Cond.code (⟨"com/example/bleeper/bleeper/lexicon/LineBuffer", "setLength", "(I)V"⟩ : MethodName) prog_69_method_9_code 2 none :: ws) ({ frames := 0, cells := 0, slots := 0, locals := 0 } : Room)) (fun a U => a = #[(.ref a1), (.int p2)] ∧ Z.Warmed39 U.vm ∧ U.heap = h0) (fun _ _ _ _ _ => True) (fun _ U o U' => ∃ v L, o = .returned v ∧ Q_setl Z a1 b p2 h0 n0 v U'.heap L ∧ FrameEnd U o U' L ({ frames := 0, cells := 0, slots := 0, locals := 0 } : Room).cells ({ frames := 0, cells := 0, slots := 0, locals := 0 } : Room).slots) := by
  refine MetFree.of_bodySF (plainFor_of_name own_pn_com_example_bleeper_bleeper_lexicon_LineBuffer) hisR ?_
  intro p e s m args below meth c s₁ Bd hml0 hP hK
  obtain ⟨rfl, hZ, hh⟩ := hP
  have hx := Bd.exec
  have hby := Bd.bytes
  have hml : c.maxLocals = 2 := hml0
  have hown : s.vm.findClass "com/example/bleeper/bleeper/lexicon/LineBuffer" = some m.cls := findClass_of_methodNamed Bd.named
  have hnm := (name_of_methodNamed Bd.named Bd.method).1
  have hlk := Bd.notSynchronized
  obtain ⟨lc, hlc⟩ : ∃ lc : List Loc, lc = [] := ⟨_, rfl⟩
  have X : Stand p l e ({ frames := 0, cells := 0, slots := 0, locals := 0 } : Room) s m #[(.ref a1), (.int p2)] below meth c s₁ lc 0 0 := hlc ▸ Stand.of_body Bd
  have eT : s₁.heap = h0 := by rw [← hh, Bd.state]; rfl
  have N : Fr n0 lc := hlc ▸ Fr.nil n0
  refine own_enter (ef_setl m a1 p2) ?_
  obtain ⟨T, hT⟩ : ∃ T : State, T = s₁ := ⟨_, rfl⟩
  rw [← hT] at X eT ⊢
  show own_W p e below (own_Post s (Q_setl Z a1 b p2 h0 n0) 0 0) T m 0 #[.val (.ref a1), .val (.int p2)] []
  have Kp : Keep h0 h0 [a1] := Keep.refl _ _
  refine own_aloadN X hx (hb hby own_d_prog_69_method_9_code_0) (pc' := 1) rfl rfl rfl ?_
  refine own_iloadN X hx (hb hby own_d_prog_69_method_9_code_1) (pc' := 2) rfl rfl ?_
  refine own_putF X hx hZ hown (own_w hw 17 rfl) Via.refl eT F_length E_a1 (Or.inl (own_w hw 18 rfl)) (own_w hw 1 rfl) (ty := .int) (v' := (.int p2)) (by decide) rfl rfl (hb hby own_d_prog_69_method_9_code_2) (pc' := 5) rfl ?_
  intro T h1 lc X eT Wq fN
  have F_length := F_length.same Wq
  have E_a1 := E_a1.wr Wq
  have F_chars := F_chars.other Wq (Or.inr (slot_ne (Or.inl (own_w hw 11 rfl)) (Or.inl (own_w hw 18 rfl)) (by decide) (t := (.array .char)) (t' := .int) (by decide) (by decide)))
  have Z0 := Nat.le_trans Z0 (Keep.of_wr Wq).1
  have N := fN _ z_a1 N
  have Kp := Kp.wr Wq (Or.inl (List.mem_of_getElem? (i := 0) rfl))
  refine own_ret0 X hx hlk Bd.returns (hb hby own_d_prog_69_method_9_code_5) (by decide) (by decide) ?_
  rw [eT]
  exact ⟨rfl, N, Kp, F_length, F_chars⟩
theorem own_d_prog_69_method_3_code_0 : decode prog_69_method_3_code 0 = .ok (.iload_n 1, 1) := by decide +kernel
theorem own_d_prog_69_method_3_code_1 : decode prog_69_method_3_code 1 = .ok (.aload_n 0, 1) := by decide +kernel
theorem own_d_prog_69_method_3_code_2 : decode prog_69_method_3_code 2 = .ok (.getfield 15, 3) := by decide +kernel
theorem own_d_prog_69_method_3_code_5 : decode prog_69_method_3_code 5 = .ok (.if_icmp .lt 21, 3) := by decide +kernel
theorem own_d_prog_69_method_3_code_26 : decode prog_69_method_3_code 26 = .ok (.aload_n 0, 1) := by decide +kernel
theorem own_d_prog_69_method_3_code_27 : decode prog_69_method_3_code 27 = .ok (.getfield 9, 3) := by decide +kernel
theorem own_d_prog_69_method_3_code_30 : decode prog_69_method_3_code 30 = .ok (.iload_n 1, 1) := by decide +kernel
theorem own_d_prog_69_method_3_code_31 : decode prog_69_method_3_code 31 = .ok (.caload, 1) := by decide +kernel
theorem own_d_prog_69_method_3_code_32 : decode prog_69_method_3_code 32 = .ok (.ireturn, 1) := by decide +kernel
theorem ef_charAt (m : MethodId) (x0 : Addr) (x1 : Int32) : entryFrame m #[(.ref x0), (.int x1)] 2 = mkF m 0 #[.val (.ref x0), .val (.int x1)] [] := by first | (simp [entryFrame, mkF, argsToLocals, Value.category]; done) | rfl
def Q_charAt (Z : State) (a1 b : Addr) (p2 ch : Int32) (h0 : Heap) (n0 : Nat) (v : Option Value) (h : Heap) (L : List Loc) : Prop := v = some (.int (nar .char ch)) ∧ Fr n0 L ∧ h = h0
set_option maxRecDepth 65536 in
set_option maxHeartbeats 40000000 in
theorem rm_charAt (l : Launch) (Z : State) (a0 : Array Value) (hw : ∀ d ∈ tables_1, d.before a0 Z = true) (ws : List Jvm.Cond) (a1 b : Addr) (p2 ch : Int32) (h0 : Heap) (n0 : Nat) (Z0 : n0 ≤ h0.size) (ln : Int32) (F_chars : Fld Z h0 a1 "com/example/bleeper/bleeper/lexicon/LineBuffer" "chars" "[C" (.ref b)) (F_length : Fld Z h0 a1 "com/example/bleeper/bleeper/lexicon/LineBuffer" "length" "I" (.int ln)) (k : ClassId) (vs : List Value) (A_b : Arv Z h0 b k .char (1024 : Int32) vs (.int (0 : Int32))) (hlt : p2 < ln) (hj : ¬ p2 < 0 ∧ p2 < 1024) (hv : vs.getD p2.toNatClampNeg (.int (0 : Int32)) = .int ch) :
    MetFree l (⟨"com/example/bleeper/bleeper/lexicon/LineBuffer", "charAt", "(I)C"⟩ : MethodName) (head1 (Jvm.Cond.code (⟨"com/example/bleeper/bleeper/lexicon/LineBuffer", "charAt", "(I)C"⟩ : MethodName) prog_69_method_3_code 2 (some .char) :: ws) ({ frames := 0, cells := 0, slots := 0, locals := 0 } : Room)) (fun a U => a = #[(.ref a1), (.int p2)] ∧ Z.Warmed39 U.vm ∧ U.heap = h0) (fun _ _ _ _ _ => True) (fun _ U o U' => ∃ v L, o = .returned v ∧ Q_charAt Z a1 b p2 ch h0 n0 v U'.heap L ∧ FrameEnd U o U' L ({ frames := 0, cells := 0, slots := 0, locals := 0 } : Room).cells ({ frames := 0, cells := 0, slots := 0, locals := 0 } : Room).slots) := by
  refine MetFree.of_bodySF (plainFor_of_name own_pn_com_example_bleeper_bleeper_lexicon_LineBuffer) hisR ?_
  intro p e s m args below meth c s₁ Bd hml0 hP hK
  obtain ⟨rfl, hZ, hh⟩ := hP
  have hx := Bd.exec
  have hby := Bd.bytes
  have hml : c.maxLocals = 2 := hml0
  have hown : s.vm.findClass "com/example/bleeper/bleeper/lexicon/LineBuffer" = some m.cls := findClass_of_methodNamed Bd.named
  have hnm := (name_of_methodNamed Bd.named Bd.method).1
  have hlk := Bd.notSynchronized
  obtain ⟨lc, hlc⟩ : ∃ lc : List Loc, lc = [] := ⟨_, rfl⟩
  have X : Stand p l e ({ frames := 0, cells := 0, slots := 0, locals := 0 } : Room) s m #[(.ref a1), (.int p2)] below meth c s₁ lc 0 0 := hlc ▸ Stand.of_body Bd
  have eT : s₁.heap = h0 := by rw [← hh, Bd.state]; rfl
  have N : Fr n0 lc := hlc ▸ Fr.nil n0
  refine own_enter (ef_charAt m a1 p2) ?_
  obtain ⟨T, hT⟩ : ∃ T : State, T = s₁ := ⟨_, rfl⟩
  rw [← hT] at X eT ⊢
  show own_W p e below (own_Post s (Q_charAt Z a1 b p2 ch h0 n0) 0 0) T m 0 #[.val (.ref a1), .val (.int p2)] []
  refine own_iloadN X hx (hb hby own_d_prog_69_method_3_code_0) (pc' := 1) rfl rfl ?_
  refine own_aloadN X hx (hb hby own_d_prog_69_method_3_code_1) (pc' := 2) rfl rfl rfl ?_
  refine own_getF X hx hZ hown (host := "") (Or.inl (own_w hw 17 rfl)) Via.refl eT F_length (hb hby own_d_prog_69_method_3_code_2) (pc' := 5) rfl ?_
  intro T X eT
  refine own_icmpY X hx (hb hby own_d_prog_69_method_3_code_5) (by decide) (pc' := 26) rfl (show p2 < ln from hlt) ?_
  refine own_aloadN X hx (hb hby own_d_prog_69_method_3_code_26) (pc' := 27) rfl rfl rfl ?_
  refine own_getF X hx hZ hown (host := "") (Or.inl (own_w hw 10 rfl)) Via.refl eT F_chars (hb hby own_d_prog_69_method_3_code_27) (pc' := 30) rfl ?_
  intro T X eT
  refine own_iloadN X hx (hb hby own_d_prog_69_method_3_code_30) (pc' := 31) rfl rfl ?_
  refine own_caload X hx hZ eT A_b (v := (.int ch)) hj hv (hb hby own_d_prog_69_method_3_code_31) (pc' := 32) rfl ?_
  refine own_retI X hx hlk (t := .char) (w' := (.int (nar .char ch))) Bd.returns (hb hby own_d_prog_69_method_3_code_32) rfl rfl (by simp) (by decide) (by decide) ?_
  rw [eT]
  exact ⟨rfl, N, rfl⟩
theorem own_d_prog_69_method_2_code_0 : decode prog_69_method_2_code 0 = .ok (.aload_n 0, 1) := by decide +kernel
theorem own_d_prog_69_method_2_code_1 : decode prog_69_method_2_code 1 = .ok (.getfield 15, 3) := by decide +kernel
theorem own_d_prog_69_method_2_code_4 : decode prog_69_method_2_code 4 = .ok (.ireturn, 1) := by decide +kernel
theorem ef_length (m : MethodId) (x0 : Addr) : entryFrame m #[(.ref x0)] 1 = mkF m 0 #[.val (.ref x0)] [] := by first | (simp [entryFrame, mkF, argsToLocals, Value.category]; done) | rfl
def Q_length (Z : State) (a1 : Addr) (ln : Int32) (h0 : Heap) (n0 : Nat) (v : Option Value) (h : Heap) (L : List Loc) : Prop := v = some (.int ln) ∧ Fr n0 L ∧ h = h0
set_option maxRecDepth 65536 in
set_option maxHeartbeats 40000000 in
theorem rm_length (l : Launch) (Z : State) (a0 : Array Value) (hw : ∀ d ∈ tables_1, d.before a0 Z = true) (ws : List Jvm.Cond) (a1 : Addr) (ln : Int32) (h0 : Heap) (n0 : Nat) (Z0 : n0 ≤ h0.size) (F_length : Fld Z h0 a1 "com/example/bleeper/bleeper/lexicon/LineBuffer" "length" "I" (.int ln)) :
    MetFree l (⟨"com/example/bleeper/bleeper/lexicon/LineBuffer", "length", "()I"⟩ : MethodName) (head1 (Jvm.Cond.code (⟨"com/example/bleeper/bleeper/lexicon/LineBuffer", "length", "()I"⟩ : MethodName) prog_69_method_2_code 1 (some .int) :: ws) ({ frames := 0, cells := 0, slots := 0, locals := 0 } : Room)) (fun a U => a = #[(.ref a1)] ∧ Z.Warmed39 U.vm ∧ U.heap = h0) (fun _ _ _ _ _ => True) (fun _ U o U' => ∃ v L, o = .returned v ∧ Q_length Z a1 ln h0 n0 v U'.heap L ∧ FrameEnd U o U' L ({ frames := 0, cells := 0, slots := 0, locals := 0 } : Room).cells ({ frames := 0, cells := 0, slots := 0, locals := 0 } : Room).slots) := by
  refine MetFree.of_bodySF (plainFor_of_name own_pn_com_example_bleeper_bleeper_lexicon_LineBuffer) hisR ?_
  intro p e s m args below meth c s₁ Bd hml0 hP hK
  obtain ⟨rfl, hZ, hh⟩ := hP
  have hx := Bd.exec
  have hby := Bd.bytes
  have hml : c.maxLocals = 1 := hml0
  have hown : s.vm.findClass "com/example/bleeper/bleeper/lexicon/LineBuffer" = some m.cls := findClass_of_methodNamed Bd.named
  have hnm := (name_of_methodNamed Bd.named Bd.method).1
  have hlk := Bd.notSynchronized
  obtain ⟨lc, hlc⟩ : ∃ lc : List Loc, lc = [] := ⟨_, rfl⟩
  have X : Stand p l e ({ frames := 0, cells := 0, slots := 0, locals := 0 } : Room) s m #[(.ref a1)] below meth c s₁ lc 0 0 := hlc ▸ Stand.of_body Bd
  have eT : s₁.heap = h0 := by rw [← hh, Bd.state]; rfl
  have N : Fr n0 lc := hlc ▸ Fr.nil n0
  refine own_enter (ef_length m a1) ?_
  obtain ⟨T, hT⟩ : ∃ T : State, T = s₁ := ⟨_, rfl⟩
  rw [← hT] at X eT ⊢
  show own_W p e below (own_Post s (Q_length Z a1 ln h0 n0) 0 0) T m 0 #[.val (.ref a1)] []
  refine own_aloadN X hx (hb hby own_d_prog_69_method_2_code_0) (pc' := 1) rfl rfl rfl ?_
  refine own_getF X hx hZ hown (host := "") (Or.inl (own_w hw 17 rfl)) Via.refl eT F_length (hb hby own_d_prog_69_method_2_code_1) (pc' := 4) rfl ?_
  intro T X eT
  refine own_retI X hx hlk (t := .int) (w' := (.int ln)) Bd.returns (hb hby own_d_prog_69_method_2_code_4) rfl rfl (by simp) (by decide) (by decide) ?_
  rw [eT]
  exact ⟨rfl, N, rfl⟩
theorem own_pd_2829V : parseMethodDescriptor "()V" = some ⟨[], none⟩ := by decide +kernel
theorem own_pd_28I295bC : parseMethodDescriptor "(I)[C" = some ⟨[.int], some (.array .char)⟩ := by decide +kernel
theorem own_pd_28I29V : parseMethodDescriptor "(I)V" = some ⟨[.int], none⟩ := by decide +kernel
theorem own_pd_28I29C : parseMethodDescriptor "(I)C" = some ⟨[.int], some .char⟩ := by decide +kernel
theorem own_pd_2829I : parseMethodDescriptor "()I" = some ⟨[], some .int⟩ := by decide +kernel
theorem own_pn_com_example_bleeper_bleeper_lexicon_LineBufferCharAtPinLaw : plainName "com/example/bleeper/bleeper/lexicon/LineBufferCharAtPinLaw" = true := by first | (simp [plainName, overriddenIn]; done) | decide +kernel
theorem ef_law (m : MethodId) (x0 : Int32) (x1 : Int32) (x2 : Int32) (x3 : Int32) (x4 : Int32) (x5 : Int32) : entryFrame m #[(.int x0), (.int x1), (.int x2), (.int x3), (.int x4), (.int x5)] maxLocals = mkF m 0 #[.val (.int x0), .val (.int x1), .val (.int x2), .val (.int x3), .val (.int x4), .val (.int x5), .unset, .unset, .unset, .unset, .unset, .unset, .unset, .unset, .unset] [] := by first | (simp [entryFrame, mkF, argsToLocals, Value.category, maxLocals]; done) | rfl
def Q_law (Z : State) (p0 p1 p2 p3 p4 p5 : Int32) (h0 : Heap) (n0 : Nat) (v : Option Value) (h : Heap) (L : List Loc) : Prop := v = some (.int 1) ∧ Fr n0 L
set_option maxRecDepth 65536 in
set_option maxHeartbeats 40000000 in
theorem rm_law (l : Launch) (Z : State) (a0 : Array Value) (hw : ∀ d ∈ tables_1, d.before a0 Z = true) (ws : List Jvm.Cond) (p0 p1 p2 p3 p4 p5 : Int32) (h0 : Heap) (n0 : Nat) (Z0 : n0 ≤ h0.size)  :
    MetFree l x (head1 (Jvm.Cond.code x code maxLocals ret :: ws) room_1) (fun a U => a = #[(.int p0), (.int p1), (.int p2), (.int p3), (.int p4), (.int p5)] ∧ Z.Warmed39 U.vm ∧ U.heap = h0) (fun _ _ _ _ _ => True) (fun _ U o U' => ∃ v L, o = .returned v ∧ Q_law Z p0 p1 p2 p3 p4 p5 h0 n0 v U'.heap L ∧ FrameEnd U o U' L room_1.cells room_1.slots) := by
  refine MetFree.of_bodySF (plainFor_of_name own_pn_com_example_bleeper_bleeper_lexicon_LineBufferCharAtPinLaw) hisR ?_
  intro p e s m args below meth c s₁ Bd hml0 hP hK
  obtain ⟨rfl, hZ, hh⟩ := hP
  have hx := Bd.exec
  have hby := Bd.bytes
  have hml : c.maxLocals = 15 := hml0
  have hown : s.vm.findClass "com/example/bleeper/bleeper/lexicon/LineBufferCharAtPinLaw" = some m.cls := findClass_of_methodNamed Bd.named
  have hnm := (name_of_methodNamed Bd.named Bd.method).1
  have hlk := Bd.notSynchronized
  obtain ⟨lc, hlc⟩ : ∃ lc : List Loc, lc = [] := ⟨_, rfl⟩
  have X : Stand p l e room_1 s m #[(.int p0), (.int p1), (.int p2), (.int p3), (.int p4), (.int p5)] below meth c s₁ lc 0 0 := hlc ▸ Stand.of_body Bd
  have eT : s₁.heap = h0 := by rw [← hh, Bd.state]; rfl
  have N : Fr n0 lc := hlc ▸ Fr.nil n0
  refine own_enter (ef_law m p0 p1 p2 p3 p4 p5) ?_
  obtain ⟨T, hT⟩ : ∃ T : State, T = s₁ := ⟨_, rfl⟩
  rw [← hT] at X eT ⊢
  show own_W p e below (own_Post s (Q_law Z p0 p1 p2 p3 p4 p5 h0 n0) 16 2176) T m 0 #[.val (.int p0), .val (.int p1), .val (.int p2), .val (.int p3), .val (.int p4), .val (.int p5), .unset, .unset, .unset, .unset, .unset, .unset, .unset, .unset, .unset] []
  refine own_new X hx hZ hown (own_w hw 0 rfl) (own_w hw 1 rfl) (own_w hw 2 rfl) eT (hb hby at_0) (pc' := 3) rfl (cells' := 1) (slots' := 2) rfl rfl (by decide) (by decide) ?_
  intro T h1 b1 X eT E gb1 E_b1 Db1
  have z_b1 : n0 ≤ b1 := Nat.le_trans Z0 (Nat.le_of_eq gb1.symm)
  have Z0 := Nat.le_trans Z0 E.1
  have F_chars_b1 : Fld Z h1 b1 "com/example/bleeper/bleeper/lexicon/LineBuffer" "chars" "[C" .null := Db1 (Or.inl (own_w hw 11 rfl)) (ty := (.array .char)) (by decide)
  have F_length_b1 : Fld Z h1 b1 "com/example/bleeper/bleeper/lexicon/LineBuffer" "length" "I" (.int (0 : Int32)) := Db1 (Or.inl (own_w hw 18 rfl)) (ty := .int) (by decide)
  refine own_dup X hx (hb hby at_3) (pc' := 4) rfl rfl ?_
  refine own_callN X hx hZ b1 [] rfl hown (own_w hw 3 rfl) (own_w hw 4 rfl) (own_w hw 2 rfl) (own_w hw 5 rfl) (by decide) (rm_init l Z a0 hw [] b1 h1 n0 Z0 _ E_b1 F_chars_b1 F_length_b1 z_b1) eT (W := 1) (by decide) (by decide) (cells' := 2) (slots' := 1026) rfl rfl (by decide) (by decide) (by rw [hml]; rfl) (lenOf own_pd_2829V rfl) rfl (S := [(.ref b1)]) rfl (Nat.le_of_eq rfl) (hb hby at_4) (pc' := 7) rfl ?_
  intro v T h2 L lc X eT hq fN
  obtain ⟨rfl, Nq, Kq, F_length, bb, kb, hbb, F_chars, A_bb⟩ := hq
  have N := fN _ N Nq
  have lt_b1_bb : b1 < bb := Nat.lt_of_lt_of_le E_b1.lt hbb
  have ne_b1_bb : b1 ≠ bb := Nat.ne_of_lt lt_b1_bb
  have z_bb : n0 ≤ bb := Nat.le_trans Z0 hbb
  have E_b1 := E_b1.keep Kq
  have Z0 := Nat.le_trans Z0 Kq.1
  show own_W p e below (own_Post s (Q_law Z p0 p1 p2 p3 p4 p5 h0 n0) 16 2176) T m 7 #[.val (.int p0), .val (.int p1), .val (.int p2), .val (.int p3), .val (.int p4), .val (.int p5), .unset, .unset, .unset, .unset, .unset, .unset, .unset, .unset, .unset] [(.ref b1)]
  refine own_astore X hx (hb hby at_7) (pc' := 9) rfl rfl (Ls' := #[.val (.int p0), .val (.int p1), .val (.int p2), .val (.int p3), .val (.int p4), .val (.int p5), .val (.ref b1), .unset, .unset, .unset, .unset, .unset, .unset, .unset, .unset]) rfl ?_
  refine own_aload X hx (hb hby at_9) (pc' := 11) rfl rfl rfl ?_
  refine own_iconst X hx (4 : Int32) (hb hby at_11) (pc' := 12) rfl rfl ?_
  refine own_callV X hx hZ (y := (⟨"com/example/bleeper/bleeper/lexicon/LineBuffer", "room", "(I)[C"⟩ : MethodName)) b1 [(.int (4 : Int32))] hown (own_w hw 12 rfl) (own_w hw 13 rfl) (own_w hw 15 rfl) (own_w hw 14 rfl) (own_w hw 2 rfl) (own_w hw 16 rfl) (by decide) (rm_room l Z a0 hw [] b1 bb h2 n0 Z0 F_chars F_length kb _ A_bb) E_b1 eT (W := 0) (by decide) (by decide) (cells' := 2) (slots' := 1026) rfl rfl (by decide) (by decide) (by rw [hml]; rfl) (lenOf own_pd_28I295bC rfl) rfl (S := []) rfl (Nat.le_of_eq rfl) (hb hby at_12) (pc' := 15) rfl ?_
  intro v T h3 L lc X eT hq fN
  obtain ⟨rfl, Nq, hqe⟩ := hq
  have N := fN _ N Nq
  rw [hqe] at eT
  show own_W p e below (own_Post s (Q_law Z p0 p1 p2 p3 p4 p5 h0 n0) 16 2176) T m 15 #[.val (.int p0), .val (.int p1), .val (.int p2), .val (.int p3), .val (.int p4), .val (.int p5), .val (.ref b1), .unset, .unset, .unset, .unset, .unset, .unset, .unset, .unset] [(.ref bb)]
  refine own_astore X hx (hb hby at_15) (pc' := 17) rfl rfl (Ls' := #[.val (.int p0), .val (.int p1), .val (.int p2), .val (.int p3), .val (.int p4), .val (.int p5), .val (.ref b1), .val (.ref bb), .unset, .unset, .unset, .unset, .unset, .unset, .unset]) rfl ?_
  refine own_iloadN X hx (hb hby at_17) (pc' := 18) rfl rfl ?_
  refine own_i2c X hx (hb hby at_18) (pc' := 19) rfl ?_
  refine own_istore X hx (hb hby at_19) (pc' := 21) rfl (Ls' := #[.val (.int p0), .val (.int p1), .val (.int p2), .val (.int p3), .val (.int p4), .val (.int p5), .val (.ref b1), .val (.ref bb), .val (.int p0.toUInt32.toUInt16.toUInt32.toInt32), .unset, .unset, .unset, .unset, .unset, .unset]) rfl ?_
  refine own_iloadN X hx (hb hby at_21) (pc' := 22) rfl rfl ?_
  refine own_i2c X hx (hb hby at_22) (pc' := 23) rfl ?_
  refine own_istore X hx (hb hby at_23) (pc' := 25) rfl (Ls' := #[.val (.int p0), .val (.int p1), .val (.int p2), .val (.int p3), .val (.int p4), .val (.int p5), .val (.ref b1), .val (.ref bb), .val (.int p0.toUInt32.toUInt16.toUInt32.toInt32), .val (.int p1.toUInt32.toUInt16.toUInt32.toInt32), .unset, .unset, .unset, .unset, .unset]) rfl ?_
  refine own_iloadN X hx (hb hby at_25) (pc' := 26) rfl rfl ?_
  refine own_i2c X hx (hb hby at_26) (pc' := 27) rfl ?_
  refine own_istore X hx (hb hby at_27) (pc' := 29) rfl (Ls' := #[.val (.int p0), .val (.int p1), .val (.int p2), .val (.int p3), .val (.int p4), .val (.int p5), .val (.ref b1), .val (.ref bb), .val (.int p0.toUInt32.toUInt16.toUInt32.toInt32), .val (.int p1.toUInt32.toUInt16.toUInt32.toInt32), .val (.int p2.toUInt32.toUInt16.toUInt32.toInt32), .unset, .unset, .unset, .unset]) rfl ?_
  refine own_iloadN X hx (hb hby at_29) (pc' := 30) rfl rfl ?_
  refine own_i2c X hx (hb hby at_30) (pc' := 31) rfl ?_
  refine own_istore X hx (hb hby at_31) (pc' := 33) rfl (Ls' := #[.val (.int p0), .val (.int p1), .val (.int p2), .val (.int p3), .val (.int p4), .val (.int p5), .val (.ref b1), .val (.ref bb), .val (.int p0.toUInt32.toUInt16.toUInt32.toInt32), .val (.int p1.toUInt32.toUInt16.toUInt32.toInt32), .val (.int p2.toUInt32.toUInt16.toUInt32.toInt32), .val (.int p3.toUInt32.toUInt16.toUInt32.toInt32), .unset, .unset, .unset]) rfl ?_
  obtain ⟨ca, h_ca⟩ : ∃ z, z = p0.toUInt32.toUInt16.toUInt32.toInt32 := ⟨_, rfl⟩
  rw [← h_ca]
  have n_ca : nar .char ca = ca := by rw [h_ca]; exact own_i2c_nar _
  obtain ⟨cb, h_cb⟩ : ∃ z, z = p1.toUInt32.toUInt16.toUInt32.toInt32 := ⟨_, rfl⟩
  rw [← h_cb]
  have n_cb : nar .char cb = cb := by rw [h_cb]; exact own_i2c_nar _
  obtain ⟨cc, h_cc⟩ : ∃ z, z = p2.toUInt32.toUInt16.toUInt32.toInt32 := ⟨_, rfl⟩
  rw [← h_cc]
  have n_cc : nar .char cc = cc := by rw [h_cc]; exact own_i2c_nar _
  obtain ⟨cd, h_cd⟩ : ∃ z, z = p3.toUInt32.toUInt16.toUInt32.toInt32 := ⟨_, rfl⟩
  rw [← h_cd]
  have n_cd : nar .char cd = cd := by rw [h_cd]; exact own_i2c_nar _
  refine own_aload X hx (hb hby at_33) (pc' := 35) rfl rfl rfl ?_
  refine own_iconst X hx (0 : Int32) (hb hby at_35) (pc' := 36) rfl rfl ?_
  refine own_iload X hx (hb hby at_36) (pc' := 38) rfl rfl ?_
  refine own_castore X hx hZ eT A_bb (by decide) 0 rfl (by show 0 < 4; decide) (hb hby at_38) (pc' := 39) rfl ?_
  intro T h4 lc X eT Kq A_bbn fN
  have E_b1 := E_b1.keep Kq
  have F_length := F_length.keep Kq (ninS ne_b1_bb nin0)
  have F_chars := F_chars.keep Kq (ninS ne_b1_bb nin0)
  have Z0 := Nat.le_trans Z0 Kq.1
  have A_bb := A_bbn
  have N := fN _ z_bb N
  have A_bb : Arv Z h4 bb _ .char (1024 : Int32) [(.int (nar .char ca)), (.int (0 : Int32)), (.int (0 : Int32)), (.int (0 : Int32))] (.int (0 : Int32)) := A_bb
  refine own_aload X hx (hb hby at_39) (pc' := 41) rfl rfl rfl ?_
  refine own_iconst X hx (1 : Int32) (hb hby at_41) (pc' := 42) rfl rfl ?_
  refine own_iload X hx (hb hby at_42) (pc' := 44) rfl rfl ?_
  refine own_castore X hx hZ eT A_bb (by decide) 1 rfl (by show 1 < 4; decide) (hb hby at_44) (pc' := 45) rfl ?_
  intro T h5 lc X eT Kq A_bbn fN
  have E_b1 := E_b1.keep Kq
  have F_length := F_length.keep Kq (ninS ne_b1_bb nin0)
  have F_chars := F_chars.keep Kq (ninS ne_b1_bb nin0)
  have Z0 := Nat.le_trans Z0 Kq.1
  have A_bb := A_bbn
  have N := fN _ z_bb N
  have A_bb : Arv Z h5 bb _ .char (1024 : Int32) [(.int (nar .char ca)), (.int (nar .char cb)), (.int (0 : Int32)), (.int (0 : Int32))] (.int (0 : Int32)) := A_bb
  refine own_aload X hx (hb hby at_45) (pc' := 47) rfl rfl rfl ?_
  refine own_iconst X hx (2 : Int32) (hb hby at_47) (pc' := 48) rfl rfl ?_
  refine own_iload X hx (hb hby at_48) (pc' := 50) rfl rfl ?_
  refine own_castore X hx hZ eT A_bb (by decide) 2 rfl (by show 2 < 4; decide) (hb hby at_50) (pc' := 51) rfl ?_
  intro T h6 lc X eT Kq A_bbn fN
  have E_b1 := E_b1.keep Kq
  have F_length := F_length.keep Kq (ninS ne_b1_bb nin0)
  have F_chars := F_chars.keep Kq (ninS ne_b1_bb nin0)
  have Z0 := Nat.le_trans Z0 Kq.1
  have A_bb := A_bbn
  have N := fN _ z_bb N
  have A_bb : Arv Z h6 bb _ .char (1024 : Int32) [(.int (nar .char ca)), (.int (nar .char cb)), (.int (nar .char cc)), (.int (0 : Int32))] (.int (0 : Int32)) := A_bb
  refine own_aload X hx (hb hby at_51) (pc' := 53) rfl rfl rfl ?_
  refine own_iconst X hx (3 : Int32) (hb hby at_53) (pc' := 54) rfl rfl ?_
  refine own_iload X hx (hb hby at_54) (pc' := 56) rfl rfl ?_
  refine own_castore X hx hZ eT A_bb (by decide) 3 rfl (by show 3 < 4; decide) (hb hby at_56) (pc' := 57) rfl ?_
  intro T h7 lc X eT Kq A_bbn fN
  have E_b1 := E_b1.keep Kq
  have F_length := F_length.keep Kq (ninS ne_b1_bb nin0)
  have F_chars := F_chars.keep Kq (ninS ne_b1_bb nin0)
  have Z0 := Nat.le_trans Z0 Kq.1
  have A_bb := A_bbn
  have N := fN _ z_bb N
  have A_bb : Arv Z h7 bb _ .char (1024 : Int32) [(.int (nar .char ca)), (.int (nar .char cb)), (.int (nar .char cc)), (.int (nar .char cd))] (.int (0 : Int32)) := A_bb
  refine own_iconst X hx (1 : Int32) (hb hby at_57) (pc' := 58) rfl rfl ?_
  refine own_iload X hx (hb hby at_58) (pc' := 60) rfl rfl ?_
  refine own_iconst X hx (3 : Int32) (hb hby at_60) (pc' := 61) rfl rfl ?_
  refine own_iand X hx (hb hby at_61) (pc' := 62) rfl ?_
  refine own_iadd X hx (hb hby at_62) (pc' := 63) rfl ?_
  refine own_istore X hx (hb hby at_63) (pc' := 65) rfl (Ls' := #[.val (.int p0), .val (.int p1), .val (.int p2), .val (.int p3), .val (.int p4), .val (.int p5), .val (.ref b1), .val (.ref bb), .val (.int ca), .val (.int cb), .val (.int cc), .val (.int cd), .val (.int ((1 : Int32) + (p4 &&& (3 : Int32)))), .unset, .unset]) rfl ?_
  obtain ⟨ln, h_ln⟩ : ∃ z, z = ((1 : Int32) + (p4 &&& (3 : Int32))) := ⟨_, rfl⟩
  rw [← h_ln]
  have b_ln : 1 ≤ ln.toInt ∧ ln.toInt ≤ 4 := by rw [h_ln]; exact own_len _
  refine own_aload X hx (hb hby at_65) (pc' := 67) rfl rfl rfl ?_
  refine own_iload X hx (hb hby at_67) (pc' := 69) rfl rfl ?_
  refine own_callV X hx hZ (y := (⟨"com/example/bleeper/bleeper/lexicon/LineBuffer", "setLength", "(I)V"⟩ : MethodName)) b1 [(.int ln)] hown (own_w hw 19 rfl) (own_w hw 20 rfl) (own_w hw 22 rfl) (own_w hw 21 rfl) (own_w hw 2 rfl) (own_w hw 23 rfl) (by decide) (rm_setl l Z a0 hw [] b1 bb ln h7 n0 Z0 _ E_b1 F_length F_chars z_b1) E_b1 eT (W := 0) (by decide) (by decide) (cells' := 2) (slots' := 1026) rfl rfl (by decide) (by decide) (by rw [hml]; rfl) (lenOf own_pd_28I29V rfl) rfl (S := []) rfl (Nat.le_of_eq rfl) (hb hby at_69) (pc' := 72) rfl ?_
  intro v T h8 L lc X eT hq fN
  obtain ⟨rfl, Nq, Kq, G_length, G_chars⟩ := hq
  have N := fN _ N Nq
  have E_b1 := E_b1.keep Kq
  have A_bb := A_bb.keep Kq (ninS (Ne.symm ne_b1_bb) nin0)
  have Z0 := Nat.le_trans Z0 Kq.1
  show own_W p e below (own_Post s (Q_law Z p0 p1 p2 p3 p4 p5 h0 n0) 16 2176) T m 72 #[.val (.int p0), .val (.int p1), .val (.int p2), .val (.int p3), .val (.int p4), .val (.int p5), .val (.ref b1), .val (.ref bb), .val (.int ca), .val (.int cb), .val (.int cc), .val (.int cd), .val (.int ln), .unset, .unset] []
  refine own_iload X hx (hb hby at_72) (pc' := 74) rfl rfl ?_
  refine own_ldc X hx hZ hown (own_w hw 24 rfl) (hb hby at_74) (pc' := 76) rfl ?_
  refine own_iand X hx (hb hby at_76) (pc' := 77) rfl ?_
  refine own_iload X hx (hb hby at_77) (pc' := 79) rfl rfl ?_
  refine own_irem X hx (hb hby at_79) (pc' := 80) rfl (own_nz b_ln.1) ?_
  refine own_istore X hx (hb hby at_80) (pc' := 82) rfl (Ls' := #[.val (.int p0), .val (.int p1), .val (.int p2), .val (.int p3), .val (.int p4), .val (.int p5), .val (.ref b1), .val (.ref bb), .val (.int ca), .val (.int cb), .val (.int cc), .val (.int cd), .val (.int ln), .val (.int ((p5 &&& (2147483647 : Int32)) % ln)), .unset]) rfl ?_
  obtain ⟨idx, h_idx⟩ : ∃ z, z = ((p5 &&& (2147483647 : Int32)) % ln) := ⟨_, rfl⟩
  rw [← h_idx]
  have b_idx : 0 ≤ idx.toInt ∧ idx.toInt < ln.toInt := by rw [h_idx]; exact own_idx _ _ b_ln.1
  have b_i4 : 0 ≤ idx.toInt ∧ idx.toInt < 4 := ⟨b_idx.1, by omega⟩
  have b_lt : idx < ln := Int32.lt_iff_toInt_lt.mpr b_idx.2
  have J_124 : ∀ (ex : Int32), (([(.int (nar .char ca)), (.int (nar .char cb)), (.int (nar .char cc)), (.int (nar .char cd))] : List Value).getD idx.toNatClampNeg (.int (0 : Int32)) = .int (nar .char ex)) → (nar .char ex = ex) → own_W p e below (own_Post s (Q_law Z p0 p1 p2 p3 p4 p5 h0 n0) 16 2176) T m 124 #[.val (.int p0), .val (.int p1), .val (.int p2), .val (.int p3), .val (.int p4), .val (.int p5), .val (.ref b1), .val (.ref bb), .val (.int ca), .val (.int cb), .val (.int cc), .val (.int cd), .val (.int ln), .val (.int idx), .val (.int ex)] [] := by
    intro ex hv hn
    refine own_aload X hx (hb hby at_124) (pc' := 126) rfl rfl rfl ?_
    refine own_iload X hx (hb hby at_126) (pc' := 128) rfl rfl ?_
    refine own_callV X hx hZ (y := (⟨"com/example/bleeper/bleeper/lexicon/LineBuffer", "charAt", "(I)C"⟩ : MethodName)) b1 [(.int idx)] hown (own_w hw 25 rfl) (own_w hw 26 rfl) (own_w hw 28 rfl) (own_w hw 27 rfl) (own_w hw 2 rfl) (own_w hw 29 rfl) (by decide) (rm_charAt l Z a0 hw [] b1 bb idx (nar .char ex) h8 n0 Z0 ln G_chars G_length kb _ A_bb b_lt ⟨own_nn b_idx.1, own_lt b_i4.2⟩ hv) E_b1 eT (W := 0) (by decide) (by decide) (cells' := 2) (slots' := 1026) rfl rfl (by decide) (by decide) (by rw [hml]; rfl) (lenOf own_pd_28I29C rfl) rfl (S := []) rfl (Nat.le_of_eq rfl) (hb hby at_128) (pc' := 131) rfl ?_
    intro v T h9 L lc X eT hq fN
    obtain ⟨rfl, Nq, hqe⟩ := hq
    have N := fN _ N Nq
    rw [hqe] at eT
    show own_W p e below (own_Post s (Q_law Z p0 p1 p2 p3 p4 p5 h0 n0) 16 2176) T m 131 #[.val (.int p0), .val (.int p1), .val (.int p2), .val (.int p3), .val (.int p4), .val (.int p5), .val (.ref b1), .val (.ref bb), .val (.int ca), .val (.int cb), .val (.int cc), .val (.int cd), .val (.int ln), .val (.int idx), .val (.int ex)] [(.int (nar .char (nar .char ex)))]
    refine own_iload X hx (hb hby at_131) (pc' := 133) rfl rfl ?_
    refine own_icmpN X hx (hb hby at_133) (pc' := 136) rfl (show (nar .char (nar .char ex)) = ex from (by rw [hn, hn])) ?_
    refine own_aload X hx (hb hby at_136) (pc' := 138) rfl rfl rfl ?_
    refine own_callV X hx hZ (y := (⟨"com/example/bleeper/bleeper/lexicon/LineBuffer", "length", "()I"⟩ : MethodName)) b1 [] hown (own_w hw 30 rfl) (own_w hw 31 rfl) (own_w hw 33 rfl) (own_w hw 32 rfl) (own_w hw 2 rfl) (own_w hw 34 rfl) (by decide) (rm_length l Z a0 hw [] b1 ln h8 n0 Z0 G_length) E_b1 eT (W := 0) (by decide) (by decide) (cells' := 2) (slots' := 1026) rfl rfl (by decide) (by decide) (by rw [hml]; rfl) (lenOf own_pd_2829I rfl) rfl (S := []) rfl (Nat.le_of_eq rfl) (hb hby at_138) (pc' := 141) rfl ?_
    intro v T h10 L lc X eT hq fN
    obtain ⟨rfl, Nq, hqe⟩ := hq
    have N := fN _ N Nq
    rw [hqe] at eT
    show own_W p e below (own_Post s (Q_law Z p0 p1 p2 p3 p4 p5 h0 n0) 16 2176) T m 141 #[.val (.int p0), .val (.int p1), .val (.int p2), .val (.int p3), .val (.int p4), .val (.int p5), .val (.ref b1), .val (.ref bb), .val (.int ca), .val (.int cb), .val (.int cc), .val (.int cd), .val (.int ln), .val (.int idx), .val (.int ex)] [(.int ln)]
    refine own_iload X hx (hb hby at_141) (pc' := 143) rfl rfl ?_
    refine own_icmpN X hx (hb hby at_143) (pc' := 146) rfl (show ln = ln from rfl) ?_
    refine own_iconst X hx (1 : Int32) (hb hby at_146) (pc' := 147) rfl rfl ?_
    refine own_goto X hx (hb hby at_147) (by decide) (pc' := 151) rfl ?_
    refine own_retI X hx hlk (t := .boolean) (w' := (.int (1 : Int32))) Bd.returns (hb hby at_151) rfl rfl (by simp) (by decide) (by decide) ?_
    rw [eT]
    exact ⟨rfl, N⟩
  refine own_iload X hx (hb hby at_82) (pc' := 84) rfl rfl ?_
  refine own_if X hx (hb hby at_84) (by decide) (pcY := 94) (pcN := 87) rfl rfl (fun (hc84 : ¬ (idx = (0 : Int32))) => ?_) (fun (hc84 : idx = (0 : Int32)) => ?_)
  · refine own_iload X hx (hb hby at_94) (pc' := 96) rfl rfl ?_
    refine own_iconst X hx (1 : Int32) (hb hby at_96) (pc' := 97) rfl rfl ?_
    refine own_icmp X hx (hb hby at_97) (by decide) (pcY := 107) (pcN := 100) rfl rfl (fun (hc97 : ¬ (idx = (1 : Int32))) => ?_) (fun (hc97 : idx = (1 : Int32)) => ?_)
    · refine own_iload X hx (hb hby at_107) (pc' := 109) rfl rfl ?_
      refine own_iconst X hx (2 : Int32) (hb hby at_109) (pc' := 110) rfl rfl ?_
      refine own_icmp X hx (hb hby at_110) (by decide) (pcY := 120) (pcN := 113) rfl rfl (fun (hc110 : ¬ (idx = (2 : Int32))) => ?_) (fun (hc110 : idx = (2 : Int32)) => ?_)
      · refine own_iload X hx (hb hby at_120) (pc' := 122) rfl rfl ?_
        refine own_istore X hx (hb hby at_122) (pc' := 124) rfl (Ls' := #[.val (.int p0), .val (.int p1), .val (.int p2), .val (.int p3), .val (.int p4), .val (.int p5), .val (.ref b1), .val (.ref bb), .val (.int ca), .val (.int cb), .val (.int cc), .val (.int cd), .val (.int ln), .val (.int idx), .val (.int cd)]) rfl ?_
        exact J_124 cd (by rw [own_three b_i4 hc84 hc97 hc110]; rfl) n_cd
      · refine own_iload X hx (hb hby at_113) (pc' := 115) rfl rfl ?_
        refine own_istore X hx (hb hby at_115) (pc' := 117) rfl (Ls' := #[.val (.int p0), .val (.int p1), .val (.int p2), .val (.int p3), .val (.int p4), .val (.int p5), .val (.ref b1), .val (.ref bb), .val (.int ca), .val (.int cb), .val (.int cc), .val (.int cd), .val (.int ln), .val (.int idx), .val (.int cc)]) rfl ?_
        refine own_goto X hx (hb hby at_117) (by decide) (pc' := 124) rfl ?_
        exact J_124 cc (by rw [hc110]; rfl) n_cc
    · refine own_iload X hx (hb hby at_100) (pc' := 102) rfl rfl ?_
      refine own_istore X hx (hb hby at_102) (pc' := 104) rfl (Ls' := #[.val (.int p0), .val (.int p1), .val (.int p2), .val (.int p3), .val (.int p4), .val (.int p5), .val (.ref b1), .val (.ref bb), .val (.int ca), .val (.int cb), .val (.int cc), .val (.int cd), .val (.int ln), .val (.int idx), .val (.int cb)]) rfl ?_
      refine own_goto X hx (hb hby at_104) (by decide) (pc' := 124) rfl ?_
      exact J_124 cb (by rw [hc97]; rfl) n_cb
  · refine own_iload X hx (hb hby at_87) (pc' := 89) rfl rfl ?_
    refine own_istore X hx (hb hby at_89) (pc' := 91) rfl (Ls' := #[.val (.int p0), .val (.int p1), .val (.int p2), .val (.int p3), .val (.int p4), .val (.int p5), .val (.ref b1), .val (.ref bb), .val (.int ca), .val (.int cb), .val (.int cc), .val (.int cd), .val (.int ln), .val (.int idx), .val (.int ca)]) rfl ?_
    refine own_goto X hx (hb hby at_91) (by decide) (pc' := 124) rfl ?_
    exact J_124 ca (by rw [hc84]; rfl) n_ca
set_option maxRecDepth 65536 in
set_option maxHeartbeats 40000000 in
theorem comes_1 {Post : Tables → Env → Array Value → State → Outcome → State → Prop} (hpost : ∀ tb e args s v u, (limb_1_1.after args s (.returned v) u = true ∧ limb_1_2.after args s (.returned v) u = true ∧ True) → FrameEnd s (.returned v) u (Jvm.fieldLocs frame_1_writes args s ++ Jvm.arrayLocs frame_1_arrays args s ++ Jvm.staticLocs frame_1_statics s) 16 2176 → Post tb e args s (.returned v) u) :
    ArmFor flags0 classFile x code maxLocals ret World_1 tables_1 room_1 Calls_1 rest_1 Pre_1 Post := by
  intro l hfl _ _ p e ha hc hk s m args below hf hA hF happ hP
  obtain ⟨hcalls, hrest, hpre⟩ := hP
  obtain ⟨-, -, -, hnamed, -, -, -, hat⟩ := (Spec.applies_iff hf).mp happ
  obtain ⟨hg, hn⟩ := and_e (Cond.before_iff.mp (show (Jvm.Cond.and given_1 narrow_1).before args s = true from hpre))
  obtain ⟨gc, gr0⟩ := and_e hg
  obtain ⟨ga0, gr1⟩ := and_e gr0
  obtain ⟨ga1, gr2⟩ := and_e gr1
  obtain ⟨ga2, gr3⟩ := and_e gr2
  obtain ⟨ga3, gr4⟩ := and_e gr3
  obtain ⟨ga4, gr5⟩ := and_e gr4
  obtain ⟨w0, w1, w2, w3, w4, w5, rfl⟩ : ∃ w0 w1 w2 w3 w4 w5 : Value, args = #[w0, w1, w2, w3, w4, w5] := by
    have hs : args.size = 6 := by simpa [Cond.value, given_1] using gc
    obtain ⟨L⟩ := args
    match L, hs with
    | [w0, w1, w2, w3, w4, w5], _ => exact ⟨w0, w1, w2, w3, w4, w5, rfl⟩
  have hw := fun d (hd : d ∈ tables_1) => atoms_spec (ws := Jvm.Cond.code x code maxLocals ret :: tables_1) hat d (List.mem_cons_of_mem _ hd)
  obtain ⟨i0, ei0⟩ := is_v ga0
  obtain rfl : w0 = (.int i0) := Option.some.inj ei0
  obtain ⟨i1, ei1⟩ := is_v ga1
  obtain rfl : w1 = (.int i1) := Option.some.inj ei1
  obtain ⟨i2, ei2⟩ := is_v ga2
  obtain rfl : w2 = (.int i2) := Option.some.inj ei2
  obtain ⟨i3, ei3⟩ := is_v ga3
  obtain rfl : w3 = (.int i3) := Option.some.inj ei3
  obtain ⟨i4, ei4⟩ := is_v ga4
  obtain rfl : w4 = (.int i4) := Option.some.inj ei4
  obtain ⟨i5, ei5⟩ := is_v gr5
  obtain rfl : w5 = (.int i5) := Option.some.inj ei5
  obtain ⟨n, o, h1, h2, h3, _, L, rfl, ⟨rfl, N⟩, hq⟩ := rm_law l s _ hw tables_1 i0 i1 i2 i3 i4 i5 s.heap s.heap.size (Nat.le_refl _)  p e ha hc hk s m _ below hf ((Spec.applies_iff_loose hf).mp happ).1 ⟨rfl, State.Warmed39.refl s, rfl⟩ trivial
  refine ⟨n, _, h1, h2, h3, hpost _ _ _ _ _ _ ⟨Cond.after_iff.mpr rfl, Cond.after_iff.mpr (eq_i res_at (Term.int_eval (1)) rfl), trivial⟩ ⟨hq.1, hq.2.1, (hq.2.2.sift fun y hy => Or.inr (N y hy)).mono (by decide) (by decide)⟩⟩
theorem main_1_1 : Claimed_1_1 := comes_1 fun _ _ _ _ _ _ h hF => ⟨h.1, hF⟩
theorem main_1_2 : Claimed_1_2 := comes_1 fun _ _ _ _ _ _ h hF => ⟨h.2.1, hF⟩
end Jvm.Pilot.@@N@@
namespace Jvm.Pilot.@@N@@
open Jvm Jvm.ClassFile Sem Op Lib Jvm.Free Jvm.Stand Jvm.Pilot.@@N@@.Jvm.D
/-! MADE BY PROGRAM (witnessworld.py) out of the Statement's table words and the real class files: 12 classes; the members and pool entries that the words name. The judged class is class 1, her method 1. -/
namespace start1
open Jvm.ClassFile
def u (s : String) : CpInfo := .utf8 (stringToUtf16 s)
/-- a pool by its gaps: so many unusable entries, then the entry; so many at the end -/
def gap : Nat → List CpInfo → List CpInfo
  | 0, r => r
  | n + 1, r => .unusable :: gap n r
def poolList (es : List (Nat × CpInfo)) (last : Nat) : List CpInfo := es.foldr (fun e r => gap e.1 (e.2 :: r)) (gap last [])
def pool (es : List (Nat × CpInfo)) (last : Nat) : Array CpInfo := ⟨poolList es last⟩
def fileOf (pool : Array CpInfo) (this : Nat) (attrs : Array Attribute := #[]) (ms : Array MethodInfo := #[]) (fl : Nat := 33) (sup : Nat := 0) (ifs : Array Nat := #[]) (fds : Array FieldInfo := #[]) : ClassFile where
  minorVersion := 0
  majorVersion := 65
  constantPool := pool
  accessFlags := fl
  thisClass := this
  superClass := sup
  interfaces := ifs
  fields := fds
  methods := ms
  attributes := attrs
def plain (name : String) (sup : Option ClassId) : Class where
  name := name
  kind := .ordinary
  loader := none
  accessFlags := 33
  super := sup
  interfaces := #[]
  cf := none
  fields := #[]
  methods := #[]
  instanceTypes := #[]
  staticTypes := #[]
  resolved := #[]
  callSites := []
  init := .initialized
  statics := none
  mirror := none

def pool0 : Array CpInfo := pool [(5, u "<init>"), (0, u "()V"), (1, .class_ 10), (1, u "java/lang/Object")] 113

def k0c0 : Code := { maxStack := 0, maxLocals := 1, code := object_method_1_code, exceptionTable := #[], attributes := #[] }
def k0m0 : Method := { name := "<init>", desc := "()V", sig := { parameters := [], returnType := none }, accessFlags := 1, code := some k0c0 }
/-- java/lang/Object -/
def k0 : Class := { plain "java/lang/Object" none with
  accessFlags := 33
  interfaces := #[]
  cf := some (fileOf pool0 8 #[] #[{ accessFlags := 1, nameIndex := 5, descriptorIndex := 6, attributes := #[] }] 33 0 #[] #[])
  fields := #[]
  methods := #[k0m0]
  instanceTypes := #[]
  staticTypes := #[]
  resolved := Array.replicate 124 none
  statics := none }

def pool1 : Array CpInfo := pool [(2, .class_ 4), (0, .nameAndType 5 6), (0, u "java/lang/Object"), (0, u "<init>"), (0, u "()V"), (0, .class_ 8), (0, u "com/example/bleeper/bleeper/lexicon/LineBuffer"), (0, .methodref 7 3), (0, .methodref 7 11), (0, .nameAndType 12 13), (0, u "room"), (0, u "(I)[C"), (0, .methodref 7 15), (0, .nameAndType 16 17), (0, u "setLength"), (0, u "(I)V"), (0, .integer 2147483647), (0, .methodref 7 20), (0, .nameAndType 21 22), (0, u "charAt"), (0, u "(I)C"), (0, .methodref 7 24), (0, .nameAndType 25 26), (0, u "length"), (0, u "()I"), (0, .class_ 28), (0, u "com/example/bleeper/bleeper/lexicon/LineBufferCharAtPinLaw"), (2, u "law"), (0, u "(IIIIII)Z")] 5

def k1m0 : Method := { name := "<init>", desc := "()V", sig := { parameters := [], returnType := none }, accessFlags := 1, code := none }
def k1c1 : Code := { maxStack := 3, maxLocals := 15, code := code, exceptionTable := #[], attributes := #[] }
def k1m1 : Method := { name := "law", desc := "(IIIIII)Z", sig := { parameters := [.int, .int, .int, .int, .int, .int], returnType := some .boolean }, accessFlags := 9, code := some k1c1 }
/-- com/example/bleeper/bleeper/lexicon/LineBufferCharAtPinLaw -/
def k1 : Class := { plain "com/example/bleeper/bleeper/lexicon/LineBufferCharAtPinLaw" (some 0) with
  accessFlags := 49
  interfaces := #[]
  cf := some (fileOf pool1 27 #[] #[{ accessFlags := 1, nameIndex := 5, descriptorIndex := 6, attributes := #[] }, { accessFlags := 9, nameIndex := 31, descriptorIndex := 32, attributes := #[] }] 49 2 #[] #[])
  fields := #[]
  methods := #[k1m0, k1m1]
  instanceTypes := #[]
  staticTypes := #[]
  resolved := Array.replicate 38 none
  statics := none }

def pool2 : Array CpInfo := pool [(2, .class_ 4), (1, u "java/lang/CharSequence"), (42, .class_ 48), (0, u "java/lang/CharSequence$1CodePointIterator"), (10, .class_ 60), (0, u "java/lang/CharSequence$1CharIterator"), (5, .class_ 67), (0, u "java/lang/Object")] 63

/-- java/lang/CharSequence -/
def k2 : Class := { plain "java/lang/CharSequence" (some 0) with
  accessFlags := 1537
  interfaces := #[]
  cf := some (fileOf pool2 2 #[.nestMembers #[47, 59]] #[] 1537 66 #[] #[])
  fields := #[]
  methods := #[]
  instanceTypes := #[]
  staticTypes := #[]
  resolved := Array.replicate 131 none
  statics := none }

def pool3 : Array CpInfo := pool [(3, .methodref 4 5), (0, .class_ 6), (0, .nameAndType 7 8), (0, u "java/lang/Object"), (0, u "<init>"), (0, u "()V"), (0, .fieldref 10 11), (0, .class_ 12), (0, .nameAndType 13 14), (0, u "com/example/bleeper/bleeper/lexicon/LineBuffer"), (0, u "chars"), (0, u "[C"), (0, .fieldref 10 16), (0, .nameAndType 17 18), (0, u "length"), (0, u "I"), (28, .long 2), (7, .long 2147483639), (15, .class_ 72), (0, u "java/lang/CharSequence"), (0, u "MOST"), (4, u "()I"), (0, u "charAt"), (0, u "(I)C"), (5, u "(I)V"), (0, u "room"), (0, u "(I)[C"), (0, u "setLength")] 19

def k3c0 : Code := { maxStack := 2, maxLocals := 1, code := prog_69_method_1_code, exceptionTable := #[], attributes := #[] }
def k3m0 : Method := { name := "<init>", desc := "()V", sig := { parameters := [], returnType := none }, accessFlags := 1, code := some k3c0 }
def k3c1 : Code := { maxStack := 1, maxLocals := 1, code := prog_69_method_2_code, exceptionTable := #[], attributes := #[] }
def k3m1 : Method := { name := "length", desc := "()I", sig := { parameters := [], returnType := some .int }, accessFlags := 1, code := some k3c1 }
def k3c2 : Code := { maxStack := 4, maxLocals := 2, code := prog_69_method_3_code, exceptionTable := #[], attributes := #[] }
def k3m2 : Method := { name := "charAt", desc := "(I)C", sig := { parameters := [.int], returnType := some .char }, accessFlags := 1, code := some k3c2 }
def k3c3 : Code := { maxStack := 6, maxLocals := 6, code := prog_69_method_8_code, exceptionTable := #[], attributes := #[] }
def k3m3 : Method := { name := "room", desc := "(I)[C", sig := { parameters := [.int], returnType := some (.array .char) }, accessFlags := 0, code := some k3c3 }
def k3c4 : Code := { maxStack := 2, maxLocals := 2, code := prog_69_method_9_code, exceptionTable := #[], attributes := #[] }
def k3m4 : Method := { name := "setLength", desc := "(I)V", sig := { parameters := [.int], returnType := none }, accessFlags := 0, code := some k3c4 }
/-- com/example/bleeper/bleeper/lexicon/LineBuffer -/
def k3 : Class := { plain "com/example/bleeper/bleeper/lexicon/LineBuffer" (some 0) with
  accessFlags := 33
  interfaces := #[2]
  cf := some (fileOf pool3 10 #[] #[{ accessFlags := 1, nameIndex := 7, descriptorIndex := 8, attributes := #[] }, { accessFlags := 1, nameIndex := 17, descriptorIndex := 78, attributes := #[] }, { accessFlags := 1, nameIndex := 79, descriptorIndex := 80, attributes := #[] }, { accessFlags := 0, nameIndex := 87, descriptorIndex := 88, attributes := #[] }, { accessFlags := 0, nameIndex := 89, descriptorIndex := 86, attributes := #[] }] 33 4 #[71] #[{ accessFlags := 26, nameIndex := 73, descriptorIndex := 18, attributes := #[] }, { accessFlags := 2, nameIndex := 13, descriptorIndex := 14, attributes := #[] }, { accessFlags := 2, nameIndex := 17, descriptorIndex := 18, attributes := #[] }])
  fields := #[{ name := "MOST", type := .int, accessFlags := 26, slot := 0, constantValue := 0 }, { name := "chars", type := (.array .char), accessFlags := 2, slot := 0, constantValue := 0 }, { name := "length", type := .int, accessFlags := 2, slot := 1, constantValue := 0 }]
  methods := #[k3m0, k3m1, k3m2, k3m3, k3m4]
  instanceTypes := #[(.array .char), .int]
  staticTypes := #[.int]
  resolved := Array.replicate 109 none
  statics := none }

def pool4 : Array CpInfo := pool [(1, u "java/lang/Cloneable"), (0, .class_ 1), (0, u "java/lang/Object"), (0, .class_ 3)] 3

/-- java/lang/Cloneable -/
def k4 : Class := { plain "java/lang/Cloneable" (some 0) with
  accessFlags := 1537
  interfaces := #[]
  cf := some (fileOf pool4 2 #[] #[] 1537 4 #[] #[])
  fields := #[]
  methods := #[]
  instanceTypes := #[]
  staticTypes := #[]
  resolved := Array.replicate 8 none
  statics := none }

def pool5 : Array CpInfo := pool [(1, u "java/io/Serializable"), (0, .class_ 1), (0, u "java/lang/Object"), (0, .class_ 3)] 3

/-- java/io/Serializable -/
def k5 : Class := { plain "java/io/Serializable" (some 0) with
  accessFlags := 1537
  interfaces := #[]
  cf := some (fileOf pool5 2 #[] #[] 1537 4 #[] #[])
  fields := #[]
  methods := #[]
  instanceTypes := #[]
  staticTypes := #[]
  resolved := Array.replicate 8 none
  statics := none }

/-- the primitive byte -/
def k6 : Class := { plain "byte" none with kind := .primitive 'B', accessFlags := 0x411 }
/-- [B -/
def k7 : Class := { plain "[B" (some 0) with kind := .array 6 .byte, interfaces := #[4, 5], accessFlags := 1041 }

/-- the primitive char -/
def k8 : Class := { plain "char" none with kind := .primitive 'C', accessFlags := 0x411 }
/-- [C -/
def k9 : Class := { plain "[C" (some 0) with kind := .array 8 .char, interfaces := #[4, 5], accessFlags := 1041 }

/-- the primitive int -/
def k10 : Class := { plain "int" none with kind := .primitive 'I', accessFlags := 0x411 }
/-- [I -/
def k11 : Class := { plain "[I" (some 0) with kind := .array 10 .int, interfaces := #[4, 5], accessFlags := 1041 }

def heap : Heap := #[]
def classes : Array Class := #[k0, k1, k2, k3, k4, k5, k6, k7, k8, k9, k10, k11]
def interned : List (Array UInt16 × Addr) := []
def slotsUsed : Nat := 0
def theMethod : MethodId := ⟨1, 1⟩
def args0 : Array Value := #[.int 1, .int 1, .int 1, .int 1, .int 1, .int 1]
def aboutOver (below : List Frame) : State where
  vm := { classes := classes, interned := interned.toArray }
  heap := heap
  slotsUsed := slotsUsed
  threads := #[{ frames := .invoking theMethod args0 :: below }]
def below0 : List Frame := [.native { method := ⟨0, 0⟩, args := #[] }]
def about1 : State := aboutOver below0
def p0 : Program := .bare "" "" ""
def e0 : Env := launch0.env 0 0 0
theorem w_frames : about1.frames = Frame.invoking theMethod args0 :: below0 := rfl
set_option maxRecDepth 65536 in
theorem w_args : argsFit about1.vm theMethod args0 = true := by decide +kernel
set_option maxRecDepth 65536 in
theorem w_heap : heapFits about1 = true := by decide +kernel
set_option maxRecDepth 65536 in
theorem w_runnable : about1.curStatus? = some .runnable := by decide +kernel
set_option maxRecDepth 65536 in
theorem w_alone : about1.alone = true := by decide +kernel
set_option maxRecDepth 65536 in
theorem w_named : about1.methodNamed? x = some theMethod := by decide +kernel
set_option maxRecDepth 65536 in
theorem w_hears : about1.hears theMethod below0 = true := by decide +kernel
set_option maxRecDepth 65536 in
theorem w_ripe : about1.ripe theMethod args0 below0 = true := by decide +kernel
theorem w_running : about1.status = .running := rfl
set_option maxRecDepth 65536 in
theorem w_room : about1.hasRoom e0.platform room_1 = true :=
  launch0.hasRoom_least _ room_1 (by decide +kernel) (by decide +kernel) (by decide +kernel) (by decide +kernel) (by decide +kernel) (by decide +kernel)
theorem allAtoms_all (ts : List Jvm.Cond) (a : Array Jvm.Value) (st : Jvm.State) : (allAtoms ts).before a st = ts.all (fun c => c.before a st) := by
  induction ts with
  | nil => rfl
  | cons c t ih =>
    show (Jvm.Cond.and c (allAtoms t)).before a st = _
    rw [Jvm.Cond.before_and, ih, List.all_cons]
def words1 : List Jvm.Cond := Jvm.Cond.code x code maxLocals ret :: tables_1
/-- a 'code' word, met by the world's own term for the bytes: nothing is compared byte by byte -/
theorem code_word {y : MethodName} {bytes : ByteArray} {mx : Nat} {rt : Option FieldType} {a : Array Value} {s : State} {m : MethodId} {meth : Method} {c : Code} (h1 : s.methodNamed? y = some m) (h2 : s.vm.method? m = some meth) (h3 : meth.code = some c) (h4 : c.code = bytes)
    (h5 : (c.maxLocals == mx && c.exceptionTable.isEmpty && decide (c.maxStack ≤ mostOperands) && decide (meth.sig.returnType = rt) && !meth.locks && decide (parseMethodDescriptor y.desc = some meth.sig)) = true) : (Jvm.Cond.code y bytes mx rt).before a s = true := by
  simp only [Bool.and_eq_true, beq_iff_eq, Bool.not_eq_true', decide_eq_true_eq] at h5
  obtain ⟨⟨⟨⟨⟨g1, g2⟩, g3⟩, g4⟩, g5⟩, g6⟩ := h5
  simp [Cond.before, Cond.holds, Cond.value, h1, h2, h3, h4, g1, g2, g3, g4, g5, g6]
def isCode : Jvm.Cond → Bool
  | .code _ _ _ _ => true
  | _ => false
theorem all_split {L : List Jvm.Cond} {P : Jvm.Cond → Bool} (h1 : L.all (fun c => isCode c || P c) = true) (h2 : ∀ c ∈ L.filter isCode, P c = true) : L.all P = true := by
  refine List.all_eq_true.mpr fun c hc => ?_
  have h := List.all_eq_true.mp h1 c hc
  rcases Bool.eq_false_or_eq_true (isCode c) with hi | hi
  · exact h2 c (List.mem_filter.mpr ⟨hc, hi⟩)
  · simpa [hi] using h
set_option maxRecDepth 65536 in
theorem w_c0 : (Jvm.Cond.code x code maxLocals ret).before args0 about1 = true := code_word (m := ⟨1, 1⟩) (meth := k1m1) (c := k1c1) (by decide +kernel) rfl rfl rfl (by decide +kernel)
set_option maxRecDepth 65536 in
theorem w_c1 : (Jvm.Cond.code ({ cls := "com/example/bleeper/bleeper/lexicon/LineBuffer", name := "<init>", desc := "()V" } : Jvm.MethodName) prog_69_method_1_code (1 : Nat) (Option.none : Option Jvm.ClassFile.FieldType)).before args0 about1 = true := code_word (m := ⟨3, 0⟩) (meth := k3m0) (c := k3c0) (by decide +kernel) rfl rfl rfl (by decide +kernel)
set_option maxRecDepth 65536 in
theorem w_c2 : (Jvm.Cond.code ({ cls := "java/lang/Object", name := "<init>", desc := "()V" } : Jvm.MethodName) object_method_1_code (1 : Nat) (Option.none : Option Jvm.ClassFile.FieldType)).before args0 about1 = true := code_word (m := ⟨0, 0⟩) (meth := k0m0) (c := k0c0) (by decide +kernel) rfl rfl rfl (by decide +kernel)
set_option maxRecDepth 65536 in
theorem w_c3 : (Jvm.Cond.code ({ cls := "com/example/bleeper/bleeper/lexicon/LineBuffer", name := "room", desc := "(I)[C" } : Jvm.MethodName) prog_69_method_8_code (6 : Nat) (Option.some (Jvm.ClassFile.FieldType.array Jvm.ClassFile.FieldType.char))).before args0 about1 = true := code_word (m := ⟨3, 3⟩) (meth := k3m3) (c := k3c3) (by decide +kernel) rfl rfl rfl (by decide +kernel)
set_option maxRecDepth 65536 in
theorem w_c4 : (Jvm.Cond.code ({ cls := "com/example/bleeper/bleeper/lexicon/LineBuffer", name := "setLength", desc := "(I)V" } : Jvm.MethodName) prog_69_method_9_code (2 : Nat) (Option.none : Option Jvm.ClassFile.FieldType)).before args0 about1 = true := code_word (m := ⟨3, 4⟩) (meth := k3m4) (c := k3c4) (by decide +kernel) rfl rfl rfl (by decide +kernel)
set_option maxRecDepth 65536 in
theorem w_c5 : (Jvm.Cond.code ({ cls := "com/example/bleeper/bleeper/lexicon/LineBuffer", name := "charAt", desc := "(I)C" } : Jvm.MethodName) prog_69_method_3_code (2 : Nat) (Option.some Jvm.ClassFile.FieldType.char)).before args0 about1 = true := code_word (m := ⟨3, 2⟩) (meth := k3m2) (c := k3c2) (by decide +kernel) rfl rfl rfl (by decide +kernel)
set_option maxRecDepth 65536 in
theorem w_c6 : (Jvm.Cond.code ({ cls := "com/example/bleeper/bleeper/lexicon/LineBuffer", name := "length", desc := "()I" } : Jvm.MethodName) prog_69_method_2_code (1 : Nat) (Option.some Jvm.ClassFile.FieldType.int)).before args0 about1 = true := code_word (m := ⟨3, 1⟩) (meth := k3m1) (c := k3c1) (by decide +kernel) rfl rfl rfl (by decide +kernel)
def codes1 : List Jvm.Cond := [Jvm.Cond.code x code maxLocals ret, Jvm.Cond.code ({ cls := "com/example/bleeper/bleeper/lexicon/LineBuffer", name := "<init>", desc := "()V" } : Jvm.MethodName) prog_69_method_1_code (1 : Nat) (Option.none : Option Jvm.ClassFile.FieldType), Jvm.Cond.code ({ cls := "java/lang/Object", name := "<init>", desc := "()V" } : Jvm.MethodName) object_method_1_code (1 : Nat) (Option.none : Option Jvm.ClassFile.FieldType), Jvm.Cond.code ({ cls := "com/example/bleeper/bleeper/lexicon/LineBuffer", name := "room", desc := "(I)[C" } : Jvm.MethodName) prog_69_method_8_code (6 : Nat) (Option.some (Jvm.ClassFile.FieldType.array Jvm.ClassFile.FieldType.char)), Jvm.Cond.code ({ cls := "com/example/bleeper/bleeper/lexicon/LineBuffer", name := "setLength", desc := "(I)V" } : Jvm.MethodName) prog_69_method_9_code (2 : Nat) (Option.none : Option Jvm.ClassFile.FieldType), Jvm.Cond.code ({ cls := "com/example/bleeper/bleeper/lexicon/LineBuffer", name := "charAt", desc := "(I)C" } : Jvm.MethodName) prog_69_method_3_code (2 : Nat) (Option.some Jvm.ClassFile.FieldType.char), Jvm.Cond.code ({ cls := "com/example/bleeper/bleeper/lexicon/LineBuffer", name := "length", desc := "()I" } : Jvm.MethodName) prog_69_method_2_code (1 : Nat) (Option.some Jvm.ClassFile.FieldType.int)]
set_option maxRecDepth 65536 in
theorem codes_eq : words1.filter isCode = codes1 := rfl
theorem w_codes : ∀ c ∈ words1.filter isCode, c.before args0 about1 = true := by
  rw [codes_eq]
  intro c hc
  simp only [codes1, List.mem_cons, List.not_mem_nil, or_false] at hc
  rcases hc with rfl | rfl | rfl | rfl | rfl | rfl | rfl
  · exact w_c0
  · exact w_c1
  · exact w_c2
  · exact w_c3
  · exact w_c4
  · exact w_c5
  · exact w_c6
set_option maxRecDepth 65536 in
theorem w_t1 : (words1.take 24).all (fun c => isCode c || c.before args0 about1) = true := by decide +kernel
set_option maxRecDepth 65536 in
theorem w_t2 : (words1.drop 24).all (fun c => isCode c || c.before args0 about1) = true := by decide +kernel
theorem w_tables : (allAtoms (Jvm.Cond.code x code maxLocals ret :: tables_1)).before args0 about1 = true := by
  rw [allAtoms_all]
  show words1.all (fun c => c.before args0 about1) = true
  refine all_split ?_ w_codes
  rw [← List.take_append_drop 24 words1, List.all_append, w_t1, w_t2]
  rfl
set_option maxRecDepth 65536 in
theorem w_case : (Jvm.Cond.and given_1 narrow_1).before args0 about1 = true := by decide +kernel
theorem w_applies : (headSpec (Jvm.Cond.code x code maxLocals ret :: tables_1) room_1).applies x e0.platform about1 = true :=
  (Spec.applies_iff w_frames).mpr ⟨w_running, w_runnable, w_alone, w_named, w_hears, w_ripe, w_room, w_tables⟩
theorem atStart : AtStart classFile x code maxLocals ret World_1 tables_1 room_1 Calls_1 rest_1 Pre_1 launch0 p0 e0 about1 theMethod args0 below0 :=
  ⟨lists_1, trivial, launch0.admits_env _ _ _, launch0.least_env, fairChoices_fair.cas, fairChoices_fair.clock, w_frames, w_args, w_heap, w_applies, trivial, trivial, w_case⟩
end start1
theorem witness_1 : WitnessClaimed_1 := ⟨start1.p0, start1.e0, start1.about1, start1.theMethod, start1.args0, start1.below0, start1.atStart⟩
end Jvm.Pilot.@@N@@
