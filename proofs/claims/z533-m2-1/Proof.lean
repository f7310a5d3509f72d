import JvmDerived
import JvmDerived.Pilot.@@N@@Statement
import JvmDerived.Pilot.@@N@@Code
set_option linter.unusedVariables false
set_option linter.unusedSimpArgs false
namespace Jvm.Pilot.@@N@@
open Jvm Jvm.ClassFile Sem Op Lib Jvm.Free Jvm.Stand Jvm.LawKit Jvm.RoadKit Bundle Jvm.Pilot.@@N@@.Jvm.D
/-! ## The walk goes forward from its goal: own_W says that the run from here ends as Q asks. -/
def own_Post (s : State) (Q : Option Value → Heap → List Loc → Prop) (kc ks : Nat) (o : Outcome) (s₂ : State) : Prop := ∃ v L, o = .returned v ∧ Q v s₂.heap L ∧ FrameEnd s o s₂ L kc ks
def own_Fin (p : Program) (e : Env) (below : List Frame) (P : Outcome → State → Prop) (A : State) : Prop :=
  ∃ s₂ o, Steps p.tables e below A s₂ ∧ s₂.status = .running ∧ Ended s₂ below o ∧ P o s₂
def own_W (p : Program) (e : Env) (below : List Frame) (P : Outcome → State → Prop) (T : State) (m : MethodId) (pc : Nat) (Ls : Array Slot) (S : List Value) : Prop :=
  own_Fin p e below P (T.setTop (mkF m pc Ls S))
theorem own_w {Z : State} {a0 : Array Value} (hw : ∀ d ∈ tables_1, d.before a0 Z = true) (i : Nat) {d : Jvm.Cond} (h : tables_1[i]? = some d) : d.before a0 Z = true := hw d (List.mem_of_getElem? h)
section OwnKit
variable {p : Program} {l : Launch} {e : Env} {R : Room} {s : State} {m : MethodId} {args : Array Value} {below : List Frame} {meth : Method} {c : Code} {T : State} {locs : List Loc} {cells slots : Nat} {Z : State} {a0 : Array Value} {h : Heap}
  {P : Outcome → State → Prop} {Q : Option Value → Heap → List Loc → Prop} {kc ks : Nat} {pc pc' : Nat} {Ls Ls' : Array Slot} {S : List Value}
theorem own_go {A B : State} (st : ∀ t, Steps p.tables e below B t → Steps p.tables e below A t) (K : own_Fin p e below P B) : own_Fin p e below P A :=
  let ⟨s₂, o, h1, r⟩ := K; ⟨s₂, o, st _ h1, r⟩
theorem own_enter {ml : Nat} (q : entryFrame m args ml = mkF m 0 Ls []) (K : own_W p e below (own_Post s Q kc ks) T m 0 Ls []) :
    ∃ s₂ o, Steps p.tables e below (T.setTop (entryFrame m args ml)) s₂ ∧ s₂.status = .running ∧ Ended s₂ below o ∧ ∃ v L, o = .returned v ∧ Q v s₂.heap L ∧ FrameEnd s o s₂ L kc ks := by
  rw [q]; exact K
theorem own_iloadN (X : Stand p l e R s m args below meth c T locs cells slots) (hx : p.tables.exec = Jvm.exec) {k : Fin 4} {v : Int32} (hd : decode c.code pc = .ok (.iload_n k, 1)) (hp : pc + 1 = pc') (hl : Ls[k.val]? = some (.val (.int v))) (K : own_W p e below P T m pc' Ls (.int v :: S)) : own_W p e below P T m pc Ls S := by
  subst hp; exact own_go (fun t => XS.iloadN (g := mkF m pc Ls S) X.here hx rfl hd hl) K
theorem own_iload (X : Stand p l e R s m args below meth c T locs cells slots) (hx : p.tables.exec = Jvm.exec) {k : Nat} {v : Int32} (hd : decode c.code pc = .ok (.iload k, 2)) (hp : pc + 2 = pc') (hl : Ls[k]? = some (.val (.int v))) (K : own_W p e below P T m pc' Ls (.int v :: S)) : own_W p e below P T m pc Ls S := by
  subst hp; exact own_go (fun t => XS.iload (g := mkF m pc Ls S) X.here hx rfl hd hl) K
theorem own_lloadN (X : Stand p l e R s m args below meth c T locs cells slots) (hx : p.tables.exec = Jvm.exec) {k : Fin 4} {v : Int64} (hd : decode c.code pc = .ok (.lload_n k, 1)) (hp : pc + 1 = pc') (hl : Ls[k.val]? = some (.val (.long v))) (K : own_W p e below P T m pc' Ls (.long v :: S)) : own_W p e below P T m pc Ls S := by
  subst hp; exact own_go (fun t => XT.lloadN (g := mkF m pc Ls S) X.here hx rfl hd hl) K
theorem own_lload (X : Stand p l e R s m args below meth c T locs cells slots) (hx : p.tables.exec = Jvm.exec) {k : Nat} {v : Int64} (hd : decode c.code pc = .ok (.lload k, 2)) (hp : pc + 2 = pc') (hl : Ls[k]? = some (.val (.long v))) (K : own_W p e below P T m pc' Ls (.long v :: S)) : own_W p e below P T m pc Ls S := by
  subst hp; exact own_go (fun t => XT.lload (g := mkF m pc Ls S) X.here hx rfl hd hl) K
theorem own_aloadN (X : Stand p l e R s m args below meth c T locs cells slots) (hx : p.tables.exec = Jvm.exec) {k : Fin 4} {v : Value} (hd : decode c.code pc = .ok (.aload_n k, 1)) (hp : pc + 1 = pc') (hl : Ls[k.val]? = some (.val v)) (hv : v.isRef = true) (K : own_W p e below P T m pc' Ls (v :: S)) : own_W p e below P T m pc Ls S := by
  subst hp; exact own_go (fun t => XS.aloadN (g := mkF m pc Ls S) X.here hx rfl hd hl hv) K
theorem own_aload (X : Stand p l e R s m args below meth c T locs cells slots) (hx : p.tables.exec = Jvm.exec) {k : Nat} {v : Value} (hd : decode c.code pc = .ok (.aload k, 2)) (hp : pc + 2 = pc') (hl : Ls[k]? = some (.val v)) (hv : v.isRef = true) (K : own_W p e below P T m pc' Ls (v :: S)) : own_W p e below P T m pc Ls S := by
  subst hp; exact own_go (fun t => XS.aload (g := mkF m pc Ls S) X.here hx rfl hd hl hv) K
theorem own_istoreN (X : Stand p l e R s m args below meth c T locs cells slots) (hx : p.tables.exec = Jvm.exec) {k : Fin 4} {v : Int32} (hd : decode c.code pc = .ok (.istore_n k, 1)) (hp : pc + 1 = pc') (hl : storeLocals Ls k.val (.int v) = some Ls') (K : own_W p e below P T m pc' Ls' S) : own_W p e below P T m pc Ls (.int v :: S) := by
  subst hp; exact own_go (fun t => XS.istoreN (g := mkF m pc Ls (.int v :: S)) X.here hx rfl hd rfl hl) K
theorem own_istore (X : Stand p l e R s m args below meth c T locs cells slots) (hx : p.tables.exec = Jvm.exec) {k : Nat} {v : Int32} (hd : decode c.code pc = .ok (.istore k, 2)) (hp : pc + 2 = pc') (hl : storeLocals Ls k (.int v) = some Ls') (K : own_W p e below P T m pc' Ls' S) : own_W p e below P T m pc Ls (.int v :: S) := by
  subst hp; exact own_go (fun t => XS.istore (g := mkF m pc Ls (.int v :: S)) X.here hx rfl hd rfl hl) K
theorem own_lstoreN (X : Stand p l e R s m args below meth c T locs cells slots) (hx : p.tables.exec = Jvm.exec) {k : Fin 4} {v : Int64} (hd : decode c.code pc = .ok (.lstore_n k, 1)) (hp : pc + 1 = pc') (hl : storeLocals Ls k.val (.long v) = some Ls') (K : own_W p e below P T m pc' Ls' S) : own_W p e below P T m pc Ls (.long v :: S) := by
  subst hp; exact own_go (fun t => XT.lstoreN (g := mkF m pc Ls (.long v :: S)) X.here hx rfl hd rfl hl) K
theorem own_lstore (X : Stand p l e R s m args below meth c T locs cells slots) (hx : p.tables.exec = Jvm.exec) {k : Nat} {v : Int64} (hd : decode c.code pc = .ok (.lstore k, 2)) (hp : pc + 2 = pc') (hl : storeLocals Ls k (.long v) = some Ls') (K : own_W p e below P T m pc' Ls' S) : own_W p e below P T m pc Ls (.long v :: S) := by
  subst hp; exact own_go (fun t => XT.lstore (g := mkF m pc Ls (.long v :: S)) X.here hx rfl hd rfl hl) K
theorem own_astoreN (X : Stand p l e R s m args below meth c T locs cells slots) (hx : p.tables.exec = Jvm.exec) {k : Fin 4} {v : Value} (hd : decode c.code pc = .ok (.astore_n k, 1)) (hp : pc + 1 = pc') (hv : v.isRef = true) (hl : storeLocals Ls k.val v = some Ls') (K : own_W p e below P T m pc' Ls' S) : own_W p e below P T m pc Ls (v :: S) := by
  subst hp; exact own_go (fun t => XS.astoreN (g := mkF m pc Ls (v :: S)) X.here hx rfl hd rfl hv hl) K
theorem own_astore (X : Stand p l e R s m args below meth c T locs cells slots) (hx : p.tables.exec = Jvm.exec) {k : Nat} {v : Value} (hd : decode c.code pc = .ok (.astore k, 2)) (hp : pc + 2 = pc') (hv : v.isRef = true) (hl : storeLocals Ls k v = some Ls') (K : own_W p e below P T m pc' Ls' S) : own_W p e below P T m pc Ls (v :: S) := by
  subst hp; exact own_go (fun t => XS.astore (g := mkF m pc Ls (v :: S)) X.here hx rfl hd rfl hv hl) K
theorem own_iconst (X : Stand p l e R s m args below meth c T locs cells slots) (hx : p.tables.exec = Jvm.exec) {i : Int} (v : Int32) (hd : decode c.code pc = .ok (.iconst i, 1)) (hp : pc + 1 = pc') (hv : Int32.ofInt i = v) (K : own_W p e below P T m pc' Ls (.int v :: S)) : own_W p e below P T m pc Ls S := by
  subst hp hv; exact own_go (fun t => XS.iconst (g := mkF m pc Ls S) X.here hx rfl hd) K
theorem own_bipush (X : Stand p l e R s m args below meth c T locs cells slots) (hx : p.tables.exec = Jvm.exec) {i : Int} (v : Int32) (hd : decode c.code pc = .ok (.bipush i, 2)) (hp : pc + 2 = pc') (hv : (Int8.ofInt i).toInt32 = v) (K : own_W p e below P T m pc' Ls (.int v :: S)) : own_W p e below P T m pc Ls S := by
  subst hp; exact own_go (fun t => XT.bipushV (g := mkF m pc Ls S) X.here hx rfl v hd hv) K
theorem own_sipush (X : Stand p l e R s m args below meth c T locs cells slots) (hx : p.tables.exec = Jvm.exec) {i : Int} (v : Int32) (hd : decode c.code pc = .ok (.sipush i, 3)) (hp : pc + 3 = pc') (hv : (Int16.ofInt i).toInt32 = v) (K : own_W p e below P T m pc' Ls (.int v :: S)) : own_W p e below P T m pc Ls S := by
  subst hp; exact own_go (fun t => XT.sipushV (g := mkF m pc Ls S) X.here hx rfl v hd hv) K
theorem own_lconst (X : Stand p l e R s m args below meth c T locs cells slots) (hx : p.tables.exec = Jvm.exec) {k : Fin 2} (v : Int64) (hd : decode c.code pc = .ok (.lconst k, 1)) (hp : pc + 1 = pc') (hv : Int64.ofNat k = v) (K : own_W p e below P T m pc' Ls (.long v :: S)) : own_W p e below P T m pc Ls S := by
  subst hp; exact own_go (fun t => XT.lconstV (g := mkF m pc Ls S) X.here hx rfl v hd hv) K
theorem own_aconst_null (X : Stand p l e R s m args below meth c T locs cells slots) (hx : p.tables.exec = Jvm.exec) (hd : decode c.code pc = .ok (.aconst_null, 1)) (hp : pc + 1 = pc') (K : own_W p e below P T m pc' Ls (.null :: S)) : own_W p e below P T m pc Ls S := by
  subst hp; exact own_go (fun t => XS.aconstNull (g := mkF m pc Ls S) X.here hx rfl hd) K
theorem own_ldc (X : Stand p l e R s m args below meth c T locs cells slots) (hx : p.tables.exec = Jvm.exec) (hZ : Z.Warmed39 s.vm) {own : String} {index : Nat} {v : Int32} (hown : s.vm.findClass own = some m.cls) (w : (Cond.constant own index v).before a0 Z = true) (hd : decode c.code pc = .ok (.ldc index, 2)) (hp : pc + 2 = pc') (K : own_W p e below P T m pc' Ls (.int v :: S)) : own_W p e below P T m pc Ls S := by
  subst hp; exact own_go (fun t => X.ldcI (g := mkF m pc Ls S) hx hown (mvT hZ w) rfl hd) K
theorem own_ldc2 (X : Stand p l e R s m args below meth c T locs cells slots) (hx : p.tables.exec = Jvm.exec) (hZ : Z.Warmed39 s.vm) {own : String} {index : Nat} {v : Int64} (hown : s.vm.findClass own = some m.cls) (w : (Cond.constantLong own index v).before a0 Z = true) (hd : decode c.code pc = .ok (.ldc2_w index, 3)) (hp : pc + 3 = pc') (K : own_W p e below P T m pc' Ls (.long v :: S)) : own_W p e below P T m pc Ls S := by
  subst hp; exact own_go (fun t => X.ldc2J (g := mkF m pc Ls S) hx hown (mvT hZ w) rfl hd) K
theorem own_iadd (X : Stand p l e R s m args below meth c T locs cells slots) (hx : p.tables.exec = Jvm.exec) {x y : Int32} (hd : decode c.code pc = .ok (.iadd, 1)) (hp : pc + 1 = pc') (K : own_W p e below P T m pc' Ls (.int (x + y) :: S)) : own_W p e below P T m pc Ls (.int y :: .int x :: S) := by
  subst hp; exact own_go (fun t => XS.iadd (g := mkF m pc Ls (.int y :: .int x :: S)) X.here hx rfl hd rfl) K
theorem own_isub (X : Stand p l e R s m args below meth c T locs cells slots) (hx : p.tables.exec = Jvm.exec) {x y : Int32} (hd : decode c.code pc = .ok (.isub, 1)) (hp : pc + 1 = pc') (K : own_W p e below P T m pc' Ls (.int (x - y) :: S)) : own_W p e below P T m pc Ls (.int y :: .int x :: S) := by
  subst hp; exact own_go (fun t => XS.isub (g := mkF m pc Ls (.int y :: .int x :: S)) X.here hx rfl hd rfl) K
theorem own_imul (X : Stand p l e R s m args below meth c T locs cells slots) (hx : p.tables.exec = Jvm.exec) {x y : Int32} (hd : decode c.code pc = .ok (.imul, 1)) (hp : pc + 1 = pc') (K : own_W p e below P T m pc' Ls (.int (x * y) :: S)) : own_W p e below P T m pc Ls (.int y :: .int x :: S) := by
  subst hp; exact own_go (fun t => XS.imul (g := mkF m pc Ls (.int y :: .int x :: S)) X.here hx rfl hd rfl) K
theorem own_iand (X : Stand p l e R s m args below meth c T locs cells slots) (hx : p.tables.exec = Jvm.exec) {x y : Int32} (hd : decode c.code pc = .ok (.iand, 1)) (hp : pc + 1 = pc') (K : own_W p e below P T m pc' Ls (.int (x &&& y) :: S)) : own_W p e below P T m pc Ls (.int y :: .int x :: S) := by
  subst hp; exact own_go (fun t => XS.iand (g := mkF m pc Ls (.int y :: .int x :: S)) X.here hx rfl hd rfl) K
theorem own_ior (X : Stand p l e R s m args below meth c T locs cells slots) (hx : p.tables.exec = Jvm.exec) {x y : Int32} (hd : decode c.code pc = .ok (.ior, 1)) (hp : pc + 1 = pc') (K : own_W p e below P T m pc' Ls (.int (x ||| y) :: S)) : own_W p e below P T m pc Ls (.int y :: .int x :: S) := by
  subst hp; exact own_go (fun t => XT.ior (g := mkF m pc Ls (.int y :: .int x :: S)) X.here hx rfl hd rfl) K
theorem own_ixor (X : Stand p l e R s m args below meth c T locs cells slots) (hx : p.tables.exec = Jvm.exec) {x y : Int32} (hd : decode c.code pc = .ok (.ixor, 1)) (hp : pc + 1 = pc') (K : own_W p e below P T m pc' Ls (.int (x ^^^ y) :: S)) : own_W p e below P T m pc Ls (.int y :: .int x :: S) := by
  subst hp; exact own_go (fun t => XT.ixor (g := mkF m pc Ls (.int y :: .int x :: S)) X.here hx rfl hd rfl) K
theorem own_ishl (X : Stand p l e R s m args below meth c T locs cells slots) (hx : p.tables.exec = Jvm.exec) {x y : Int32} (hd : decode c.code pc = .ok (.ishl, 1)) (hp : pc + 1 = pc') (K : own_W p e below P T m pc' Ls (.int (x <<< (y &&& 31)) :: S)) : own_W p e below P T m pc Ls (.int y :: .int x :: S) := by
  subst hp; exact own_go (fun t => XT.ishl (g := mkF m pc Ls (.int y :: .int x :: S)) X.here hx rfl hd rfl) K
theorem own_ishr (X : Stand p l e R s m args below meth c T locs cells slots) (hx : p.tables.exec = Jvm.exec) {x y : Int32} (hd : decode c.code pc = .ok (.ishr, 1)) (hp : pc + 1 = pc') (K : own_W p e below P T m pc' Ls (.int (x >>> (y &&& 31)) :: S)) : own_W p e below P T m pc Ls (.int y :: .int x :: S) := by
  subst hp; exact own_go (fun t => XT.ishr (g := mkF m pc Ls (.int y :: .int x :: S)) X.here hx rfl hd rfl) K
theorem own_iushr (X : Stand p l e R s m args below meth c T locs cells slots) (hx : p.tables.exec = Jvm.exec) {x y : Int32} (hd : decode c.code pc = .ok (.iushr, 1)) (hp : pc + 1 = pc') (K : own_W p e below P T m pc' Ls (.int (XT.ushr x y) :: S)) : own_W p e below P T m pc Ls (.int y :: .int x :: S) := by
  subst hp; exact own_go (fun t => XT.iushr (g := mkF m pc Ls (.int y :: .int x :: S)) X.here hx rfl hd rfl) K
theorem own_ladd (X : Stand p l e R s m args below meth c T locs cells slots) (hx : p.tables.exec = Jvm.exec) {x y : Int64} (hd : decode c.code pc = .ok (.ladd, 1)) (hp : pc + 1 = pc') (K : own_W p e below P T m pc' Ls (.long (x + y) :: S)) : own_W p e below P T m pc Ls (.long y :: .long x :: S) := by
  subst hp; exact own_go (fun t => XT.ladd (g := mkF m pc Ls (.long y :: .long x :: S)) X.here hx rfl hd rfl) K
theorem own_lsub (X : Stand p l e R s m args below meth c T locs cells slots) (hx : p.tables.exec = Jvm.exec) {x y : Int64} (hd : decode c.code pc = .ok (.lsub, 1)) (hp : pc + 1 = pc') (K : own_W p e below P T m pc' Ls (.long (x - y) :: S)) : own_W p e below P T m pc Ls (.long y :: .long x :: S) := by
  subst hp; exact own_go (fun t => XT.lsub (g := mkF m pc Ls (.long y :: .long x :: S)) X.here hx rfl hd rfl) K
theorem own_lmul (X : Stand p l e R s m args below meth c T locs cells slots) (hx : p.tables.exec = Jvm.exec) {x y : Int64} (hd : decode c.code pc = .ok (.lmul, 1)) (hp : pc + 1 = pc') (K : own_W p e below P T m pc' Ls (.long (x * y) :: S)) : own_W p e below P T m pc Ls (.long y :: .long x :: S) := by
  subst hp; exact own_go (fun t => XT.lmul (g := mkF m pc Ls (.long y :: .long x :: S)) X.here hx rfl hd rfl) K
theorem own_land (X : Stand p l e R s m args below meth c T locs cells slots) (hx : p.tables.exec = Jvm.exec) {x y : Int64} (hd : decode c.code pc = .ok (.land, 1)) (hp : pc + 1 = pc') (K : own_W p e below P T m pc' Ls (.long (x &&& y) :: S)) : own_W p e below P T m pc Ls (.long y :: .long x :: S) := by
  subst hp; exact own_go (fun t => XT.land (g := mkF m pc Ls (.long y :: .long x :: S)) X.here hx rfl hd rfl) K
theorem own_lor (X : Stand p l e R s m args below meth c T locs cells slots) (hx : p.tables.exec = Jvm.exec) {x y : Int64} (hd : decode c.code pc = .ok (.lor, 1)) (hp : pc + 1 = pc') (K : own_W p e below P T m pc' Ls (.long (x ||| y) :: S)) : own_W p e below P T m pc Ls (.long y :: .long x :: S) := by
  subst hp; exact own_go (fun t => XT.lor (g := mkF m pc Ls (.long y :: .long x :: S)) X.here hx rfl hd rfl) K
theorem own_lxor (X : Stand p l e R s m args below meth c T locs cells slots) (hx : p.tables.exec = Jvm.exec) {x y : Int64} (hd : decode c.code pc = .ok (.lxor, 1)) (hp : pc + 1 = pc') (K : own_W p e below P T m pc' Ls (.long (x ^^^ y) :: S)) : own_W p e below P T m pc Ls (.long y :: .long x :: S) := by
  subst hp; exact own_go (fun t => XT.lxor (g := mkF m pc Ls (.long y :: .long x :: S)) X.here hx rfl hd rfl) K
theorem own_lshl (X : Stand p l e R s m args below meth c T locs cells slots) (hx : p.tables.exec = Jvm.exec) {x : Int64} {y : Int32} (hd : decode c.code pc = .ok (.lshl, 1)) (hp : pc + 1 = pc') (K : own_W p e below P T m pc' Ls (.long (x <<< (y.toInt64 &&& 63)) :: S)) : own_W p e below P T m pc Ls (.int y :: .long x :: S) := by
  subst hp; exact own_go (fun t => XT.lshl (g := mkF m pc Ls (.int y :: .long x :: S)) X.here hx rfl hd rfl) K
theorem own_lshr (X : Stand p l e R s m args below meth c T locs cells slots) (hx : p.tables.exec = Jvm.exec) {x : Int64} {y : Int32} (hd : decode c.code pc = .ok (.lshr, 1)) (hp : pc + 1 = pc') (K : own_W p e below P T m pc' Ls (.long (x >>> (y.toInt64 &&& 63)) :: S)) : own_W p e below P T m pc Ls (.int y :: .long x :: S) := by
  subst hp; exact own_go (fun t => XT.lshr (g := mkF m pc Ls (.int y :: .long x :: S)) X.here hx rfl hd rfl) K
theorem own_lushr (X : Stand p l e R s m args below meth c T locs cells slots) (hx : p.tables.exec = Jvm.exec) {x : Int64} {y : Int32} (hd : decode c.code pc = .ok (.lushr, 1)) (hp : pc + 1 = pc') (K : own_W p e below P T m pc' Ls (.long (XT.ushrL x y) :: S)) : own_W p e below P T m pc Ls (.int y :: .long x :: S) := by
  subst hp; exact own_go (fun t => XT.lushr (g := mkF m pc Ls (.int y :: .long x :: S)) X.here hx rfl hd rfl) K
theorem own_idiv (X : Stand p l e R s m args below meth c T locs cells slots) (hx : p.tables.exec = Jvm.exec) {x y : Int32} (hd : decode c.code pc = .ok (.idiv, 1)) (hp : pc + 1 = pc') (hy : y ≠ 0) (K : own_W p e below P T m pc' Ls (.int (x / y) :: S)) : own_W p e below P T m pc Ls (.int y :: .int x :: S) := by
  subst hp; exact own_go (fun t => XS.idiv (g := mkF m pc Ls (.int y :: .int x :: S)) X.here hx rfl hd rfl hy) K
theorem own_irem (X : Stand p l e R s m args below meth c T locs cells slots) (hx : p.tables.exec = Jvm.exec) {x y : Int32} (hd : decode c.code pc = .ok (.irem, 1)) (hp : pc + 1 = pc') (hy : y ≠ 0) (K : own_W p e below P T m pc' Ls (.int (x % y) :: S)) : own_W p e below P T m pc Ls (.int y :: .int x :: S) := by
  subst hp; exact own_go (fun t => iremM (g := mkF m pc Ls (.int y :: .int x :: S)) X hx rfl hd rfl hy) K
theorem own_ldiv (X : Stand p l e R s m args below meth c T locs cells slots) (hx : p.tables.exec = Jvm.exec) {x y : Int64} (hd : decode c.code pc = .ok (.ldiv, 1)) (hp : pc + 1 = pc') (hy : y ≠ 0) (K : own_W p e below P T m pc' Ls (.long (x / y) :: S)) : own_W p e below P T m pc Ls (.long y :: .long x :: S) := by
  subst hp; exact own_go (fun t => XT.ldiv (g := mkF m pc Ls (.long y :: .long x :: S)) X.here hx rfl hd rfl hy) K
theorem own_lrem (X : Stand p l e R s m args below meth c T locs cells slots) (hx : p.tables.exec = Jvm.exec) {x y : Int64} (hd : decode c.code pc = .ok (.lrem, 1)) (hp : pc + 1 = pc') (hy : y ≠ 0) (K : own_W p e below P T m pc' Ls (.long (x % y) :: S)) : own_W p e below P T m pc Ls (.long y :: .long x :: S) := by
  subst hp; rw [← lrem_mod] at K; exact own_go (fun t => XT.lrem (g := mkF m pc Ls (.long y :: .long x :: S)) X.here hx rfl hd rfl hy) K
theorem own_ineg (X : Stand p l e R s m args below meth c T locs cells slots) (hx : p.tables.exec = Jvm.exec) {x : Int32} (hd : decode c.code pc = .ok (.ineg, 1)) (hp : pc + 1 = pc') (K : own_W p e below P T m pc' Ls (.int (-x) :: S)) : own_W p e below P T m pc Ls (.int x :: S) := by
  subst hp; exact own_go (fun t => XS.ineg (g := mkF m pc Ls (.int x :: S)) X.here hx rfl hd rfl) K
theorem own_lneg (X : Stand p l e R s m args below meth c T locs cells slots) (hx : p.tables.exec = Jvm.exec) {x : Int64} (hd : decode c.code pc = .ok (.lneg, 1)) (hp : pc + 1 = pc') (K : own_W p e below P T m pc' Ls (.long (-x) :: S)) : own_W p e below P T m pc Ls (.long x :: S) := by
  subst hp; exact own_go (fun t => XT.lneg (g := mkF m pc Ls (.long x :: S)) X.here hx rfl hd rfl) K
theorem own_i2l (X : Stand p l e R s m args below meth c T locs cells slots) (hx : p.tables.exec = Jvm.exec) {x : Int32} (hd : decode c.code pc = .ok (.i2l, 1)) (hp : pc + 1 = pc') (K : own_W p e below P T m pc' Ls (.long (x.toInt64) :: S)) : own_W p e below P T m pc Ls (.int x :: S) := by
  subst hp; exact own_go (fun t => XT.i2l (g := mkF m pc Ls (.int x :: S)) X.here hx rfl hd rfl) K
theorem own_l2i (X : Stand p l e R s m args below meth c T locs cells slots) (hx : p.tables.exec = Jvm.exec) {x : Int64} (hd : decode c.code pc = .ok (.l2i, 1)) (hp : pc + 1 = pc') (K : own_W p e below P T m pc' Ls (.int (x.toInt32) :: S)) : own_W p e below P T m pc Ls (.long x :: S) := by
  subst hp; exact own_go (fun t => XT.l2i (g := mkF m pc Ls (.long x :: S)) X.here hx rfl hd rfl) K
theorem own_i2b (X : Stand p l e R s m args below meth c T locs cells slots) (hx : p.tables.exec = Jvm.exec) {x : Int32} (hd : decode c.code pc = .ok (.i2b, 1)) (hp : pc + 1 = pc') (K : own_W p e below P T m pc' Ls (.int (x.toInt8.toInt32) :: S)) : own_W p e below P T m pc Ls (.int x :: S) := by
  subst hp; exact own_go (fun t => XT.i2b (g := mkF m pc Ls (.int x :: S)) X.here hx rfl hd rfl) K
theorem own_i2c (X : Stand p l e R s m args below meth c T locs cells slots) (hx : p.tables.exec = Jvm.exec) {x : Int32} (hd : decode c.code pc = .ok (.i2c, 1)) (hp : pc + 1 = pc') (K : own_W p e below P T m pc' Ls (.int (x.toUInt32.toUInt16.toUInt32.toInt32) :: S)) : own_W p e below P T m pc Ls (.int x :: S) := by
  subst hp; exact own_go (fun t => XT.i2c (g := mkF m pc Ls (.int x :: S)) X.here hx rfl hd rfl) K
theorem own_i2s (X : Stand p l e R s m args below meth c T locs cells slots) (hx : p.tables.exec = Jvm.exec) {x : Int32} (hd : decode c.code pc = .ok (.i2s, 1)) (hp : pc + 1 = pc') (K : own_W p e below P T m pc' Ls (.int (x.toInt16.toInt32) :: S)) : own_W p e below P T m pc Ls (.int x :: S) := by
  subst hp; exact own_go (fun t => XT.i2s (g := mkF m pc Ls (.int x :: S)) X.here hx rfl hd rfl) K
theorem own_iinc (X : Stand p l e R s m args below meth c T locs cells slots) (hx : p.tables.exec = Jvm.exec) {k : Nat} {cst : Int} {x : Int32} (v : Int32) (hd : decode c.code pc = .ok (.iinc k cst, 3)) (hp : pc + 3 = pc') (hv : Int32.ofInt cst = v) (hl : Ls[k]? = some (.val (.int x))) (hl' : storeLocals Ls k (.int (x + v)) = some Ls') (K : own_W p e below P T m pc' Ls' S) : own_W p e below P T m pc Ls S := by
  subst hp; exact own_go (fun t => XT.iincV (g := mkF m pc Ls S) X.here hx rfl v hd hv hl hl') K
theorem own_dup (X : Stand p l e R s m args below meth c T locs cells slots) (hx : p.tables.exec = Jvm.exec) {x : Value} (hd : decode c.code pc = .ok (.dup, 1)) (hp : pc + 1 = pc') (hc : x.category = 1) (K : own_W p e below P T m pc' Ls (x :: x :: S)) : own_W p e below P T m pc Ls (x :: S) := by
  subst hp; exact own_go (fun t => XS.dup (g := mkF m pc Ls (x :: S)) X.here hx rfl hd rfl hc) K
theorem own_pop (X : Stand p l e R s m args below meth c T locs cells slots) (hx : p.tables.exec = Jvm.exec) {x : Value} (hd : decode c.code pc = .ok (.pop, 1)) (hp : pc + 1 = pc') (hc : x.category = 1) (K : own_W p e below P T m pc' Ls S) : own_W p e below P T m pc Ls (x :: S) := by
  subst hp; exact own_go (fun t => XT.pop (g := mkF m pc Ls (x :: S)) X.here hx rfl hd rfl hc) K
theorem own_dup2 (X : Stand p l e R s m args below meth c T locs cells slots) (hx : p.tables.exec = Jvm.exec) {x y : Value} (hd : decode c.code pc = .ok (.dup2, 1)) (hp : pc + 1 = pc') (hc : x.category = 1) (hc' : y.category = 1) (K : own_W p e below P T m pc' Ls (x :: y :: x :: y :: S)) : own_W p e below P T m pc Ls (x :: y :: S) := by
  subst hp; exact own_go (fun t => XT.dup2 (g := mkF m pc Ls (x :: y :: S)) X.here hx rfl hd rfl hc hc') K
theorem own_goto (X : Stand p l e R s m args below meth c T locs cells slots) (hx : p.tables.exec = Jvm.exec) {o : Int} (hd : decode c.code pc = .ok (.goto o, 3)) (ho : 0 ≤ (pc : Int) + o) (hp : ((pc : Int) + o).toNat = pc') (K : own_W p e below P T m pc' Ls S) : own_W p e below P T m pc Ls S :=
  own_go (fun t => XS.goto (g := mkF m pc Ls S) X.here hx rfl (pc0 := pc) (pc' := pc') rfl hd ho hp) K
/-- what a taken branch tells (own_P), what one that isn't taken tells (own_N) -/
def own_P : ClassFile.Cond → Int32 → Int32 → Prop
  | .eq, x, y => x = y
  | .ne, x, y => ¬ x = y
  | .lt, x, y => x < y
  | .ge, x, y => ¬ x < y
  | .gt, x, y => y < x
  | .le, x, y => ¬ y < x
def own_N : ClassFile.Cond → Int32 → Int32 → Prop
  | .eq, x, y => ¬ x = y
  | .ne, x, y => x = y
  | .lt, x, y => ¬ x < y
  | .ge, x, y => x < y
  | .gt, x, y => ¬ y < x
  | .le, x, y => y < x
theorem own_holdsT {cd : ClassFile.Cond} {x y : Int32} (q : own_P cd x y) : if_icmp.holds cd x y = true := by
  cases cd <;> first | exact (teq q).1 | exact (feq q).2 | exact (tlt q).1 | exact (flt q).2.1 | exact (tlt q).2.2.1 | exact (flt q).2.2.2
theorem own_holdsF {cd : ClassFile.Cond} {x y : Int32} (q : own_N cd x y) : if_icmp.holds cd x y = false := by
  cases cd <;> first | exact (feq q).1 | exact (teq q).2 | exact (flt q).1 | exact (tlt q).2.1 | exact (flt q).2.2.1 | exact (tlt q).2.2.2
theorem own_or (cd : ClassFile.Cond) (x y : Int32) : own_P cd x y ∨ own_N cd x y := by
  cases cd
  · exact Classical.em (x = y)
  · exact (Classical.em (x = y)).symm
  · exact Classical.em (x < y)
  · exact (Classical.em (x < y)).symm
  · exact Classical.em (y < x)
  · exact (Classical.em (y < x)).symm
theorem own_icmpY (X : Stand p l e R s m args below meth c T locs cells slots) (hx : p.tables.exec = Jvm.exec) {cd : ClassFile.Cond} {x y : Int32} {o : Int} (hd : decode c.code pc = .ok (.if_icmp cd o, 3)) (ho : 0 ≤ (pc : Int) + o) (hp : ((pc : Int) + o).toNat = pc') (q : own_P cd x y) (K : own_W p e below P T m pc' Ls S) : own_W p e below P T m pc Ls (.int y :: .int x :: S) :=
  own_go (fun t => XS.icmpYes (g := mkF m pc Ls (.int y :: .int x :: S)) X.here hx rfl (pc0 := pc) (pc' := pc') rfl hd rfl (own_holdsT q) ho hp) K
theorem own_icmpN (X : Stand p l e R s m args below meth c T locs cells slots) (hx : p.tables.exec = Jvm.exec) {cd : ClassFile.Cond} {x y : Int32} {o : Int} (hd : decode c.code pc = .ok (.if_icmp cd o, 3)) (hp : pc + 3 = pc') (q : own_N cd x y) (K : own_W p e below P T m pc' Ls S) : own_W p e below P T m pc Ls (.int y :: .int x :: S) := by
  subst hp; exact own_go (fun t => XS.icmpNo (g := mkF m pc Ls (.int y :: .int x :: S)) X.here hx rfl hd rfl (own_holdsF q)) K
theorem own_icmp (X : Stand p l e R s m args below meth c T locs cells slots) (hx : p.tables.exec = Jvm.exec) {cd : ClassFile.Cond} {x y : Int32} {o : Int} {pcY pcN : Nat} (hd : decode c.code pc = .ok (.if_icmp cd o, 3)) (ho : 0 ≤ (pc : Int) + o) (hY : ((pc : Int) + o).toNat = pcY) (hN : pc + 3 = pcN) (KY : own_P cd x y → own_W p e below P T m pcY Ls S) (KN : own_N cd x y → own_W p e below P T m pcN Ls S) : own_W p e below P T m pc Ls (.int y :: .int x :: S) :=
  (own_or cd x y).elim (fun q => own_icmpY X hx hd ho hY q (KY q)) (fun q => own_icmpN X hx hd hN q (KN q))
theorem own_ifY (X : Stand p l e R s m args below meth c T locs cells slots) (hx : p.tables.exec = Jvm.exec) {cd : ClassFile.Cond} {x : Int32} {o : Int} (hd : decode c.code pc = .ok (.ifCond cd o, 3)) (ho : 0 ≤ (pc : Int) + o) (hp : ((pc : Int) + o).toNat = pc') (q : own_P cd x 0) (K : own_W p e below P T m pc' Ls S) : own_W p e below P T m pc Ls (.int x :: S) :=
  own_go (fun t => XS.ifYes (g := mkF m pc Ls (.int x :: S)) X.here hx rfl (pc0 := pc) (pc' := pc') rfl hd rfl ((if0 _ _).trans (own_holdsT q)) ho hp) K
theorem own_ifN (X : Stand p l e R s m args below meth c T locs cells slots) (hx : p.tables.exec = Jvm.exec) {cd : ClassFile.Cond} {x : Int32} {o : Int} (hd : decode c.code pc = .ok (.ifCond cd o, 3)) (hp : pc + 3 = pc') (q : own_N cd x 0) (K : own_W p e below P T m pc' Ls S) : own_W p e below P T m pc Ls (.int x :: S) := by
  subst hp; exact own_go (fun t => XS.ifNo (g := mkF m pc Ls (.int x :: S)) X.here hx rfl hd rfl ((if0 _ _).trans (own_holdsF q))) K
theorem own_if (X : Stand p l e R s m args below meth c T locs cells slots) (hx : p.tables.exec = Jvm.exec) {cd : ClassFile.Cond} {x : Int32} {o : Int} {pcY pcN : Nat} (hd : decode c.code pc = .ok (.ifCond cd o, 3)) (ho : 0 ≤ (pc : Int) + o) (hY : ((pc : Int) + o).toNat = pcY) (hN : pc + 3 = pcN) (KY : own_P cd x 0 → own_W p e below P T m pcY Ls S) (KN : own_N cd x 0 → own_W p e below P T m pcN Ls S) : own_W p e below P T m pc Ls (.int x :: S) :=
  (own_or cd x 0).elim (fun q => own_ifY X hx hd ho hY q (KY q)) (fun q => own_ifN X hx hd hN q (KN q))
/-- the same of two longs: lcmp and the branch behind it, in one -/
def own_PL : ClassFile.Cond → Int64 → Int64 → Prop
  | .eq, x, y => x = y
  | .ne, x, y => ¬ x = y
  | .lt, x, y => x < y
  | .ge, x, y => ¬ x < y
  | .gt, x, y => y < x
  | .le, x, y => ¬ y < x
def own_NL : ClassFile.Cond → Int64 → Int64 → Prop
  | .eq, x, y => ¬ x = y
  | .ne, x, y => x = y
  | .lt, x, y => ¬ x < y
  | .ge, x, y => x < y
  | .gt, x, y => ¬ y < x
  | .le, x, y => y < x
theorem own_holdsLT {cd : ClassFile.Cond} {x y : Int64} (q : own_PL cd x y) : ifCond.holds cd (XT.cmpL x y) = true := by
  cases cd
  · exact XT.ll_eq_t q
  · exact XT.ll_ne_t q
  · exact XT.ll_lt_t q
  · exact XT.ll_ge_t q
  · exact XT.ll_gt_t q
  · exact XT.ll_le_t q
theorem own_holdsLF {cd : ClassFile.Cond} {x y : Int64} (q : own_NL cd x y) : ifCond.holds cd (XT.cmpL x y) = false := by
  cases cd
  · exact XT.ll_eq_f q
  · exact XT.ll_ne_f q
  · exact XT.ll_lt_f q
  · exact XT.ll_ge_f q
  · exact XT.ll_gt_f q
  · exact XT.ll_le_f q
theorem own_orL (cd : ClassFile.Cond) (x y : Int64) : own_PL cd x y ∨ own_NL cd x y := by
  cases cd
  · exact Classical.em (x = y)
  · exact (Classical.em (x = y)).symm
  · exact Classical.em (x < y)
  · exact (Classical.em (x < y)).symm
  · exact Classical.em (y < x)
  · exact (Classical.em (y < x)).symm
theorem own_lcY (X : Stand p l e R s m args below meth c T locs cells slots) (hx : p.tables.exec = Jvm.exec) {cd : ClassFile.Cond} {x y : Int64} {o : Int} (hd1 : decode c.code pc = .ok (.lcmp, 1)) (hd : decode c.code (pc + 1) = .ok (.ifCond cd o, 3)) (ho : 0 ≤ ((pc + 1 : Nat) : Int) + o) (hp : (((pc + 1 : Nat) : Int) + o).toNat = pc') (q : own_PL cd x y) (K : own_W p e below P T m pc' Ls S) : own_W p e below P T m pc Ls (.long y :: .long x :: S) :=
  own_go (fun t => XT.lcmp (g := mkF m pc Ls (.long y :: .long x :: S)) X.here hx rfl hd1 rfl) (own_go (fun t => XS.ifYes (g := mkF m (pc + 1) Ls (.int (XT.cmpL x y) :: S)) X.here hx rfl (pc0 := pc + 1) (pc' := pc') rfl hd rfl (own_holdsLT q) ho hp) K)
theorem own_lcN (X : Stand p l e R s m args below meth c T locs cells slots) (hx : p.tables.exec = Jvm.exec) {cd : ClassFile.Cond} {x y : Int64} {o : Int} (hd1 : decode c.code pc = .ok (.lcmp, 1)) (hd : decode c.code (pc + 1) = .ok (.ifCond cd o, 3)) (hp : pc + 4 = pc') (q : own_NL cd x y) (K : own_W p e below P T m pc' Ls S) : own_W p e below P T m pc Ls (.long y :: .long x :: S) := by
  subst hp; exact own_go (fun t => XT.lcmp (g := mkF m pc Ls (.long y :: .long x :: S)) X.here hx rfl hd1 rfl) (own_go (fun t => XS.ifNo (g := mkF m (pc + 1) Ls (.int (XT.cmpL x y) :: S)) X.here hx rfl hd rfl (own_holdsLF q)) K)
theorem own_lc (X : Stand p l e R s m args below meth c T locs cells slots) (hx : p.tables.exec = Jvm.exec) {cd : ClassFile.Cond} {x y : Int64} {o : Int} {pcY pcN : Nat} (hd1 : decode c.code pc = .ok (.lcmp, 1)) (hd : decode c.code (pc + 1) = .ok (.ifCond cd o, 3)) (ho : 0 ≤ ((pc + 1 : Nat) : Int) + o) (hY : (((pc + 1 : Nat) : Int) + o).toNat = pcY) (hN : pc + 4 = pcN) (KY : own_PL cd x y → own_W p e below P T m pcY Ls S) (KN : own_NL cd x y → own_W p e below P T m pcN Ls S) : own_W p e below P T m pc Ls (.long y :: .long x :: S) :=
  (own_orL cd x y).elim (fun q => own_lcY X hx hd1 hd ho hY q (KY q)) (fun q => own_lcN X hx hd1 hd hN q (KN q))
theorem own_ifnullY (X : Stand p l e R s m args below meth c T locs cells slots) (hx : p.tables.exec = Jvm.exec) {o : Int} (hd : decode c.code pc = .ok (.ifnull o, 3)) (ho : 0 ≤ (pc : Int) + o) (hp : ((pc : Int) + o).toNat = pc') (K : own_W p e below P T m pc' Ls S) : own_W p e below P T m pc Ls (.null :: S) :=
  own_go (fun t => XS.ifnullYes (g := mkF m pc Ls (.null :: S)) X.here hx rfl (pc0 := pc) (pc' := pc') rfl hd rfl ho hp) K
theorem own_ifnullN (X : Stand p l e R s m args below meth c T locs cells slots) (hx : p.tables.exec = Jvm.exec) {o : Int} {a : Addr} (hd : decode c.code pc = .ok (.ifnull o, 3)) (hp : pc + 3 = pc') (K : own_W p e below P T m pc' Ls S) : own_W p e below P T m pc Ls (.ref a :: S) := by
  subst hp; exact own_go (fun t => XS.ifnullNo (g := mkF m pc Ls (.ref a :: S)) X.here hx rfl hd rfl) K
theorem own_ifnonnullY (X : Stand p l e R s m args below meth c T locs cells slots) (hx : p.tables.exec = Jvm.exec) {o : Int} {a : Addr} (hd : decode c.code pc = .ok (.ifnonnull o, 3)) (ho : 0 ≤ (pc : Int) + o) (hp : ((pc : Int) + o).toNat = pc') (K : own_W p e below P T m pc' Ls S) : own_W p e below P T m pc Ls (.ref a :: S) :=
  own_go (fun t => XT.ifnonnullYes (g := mkF m pc Ls (.ref a :: S)) X.here hx rfl (pc0 := pc) (pc' := pc') rfl hd rfl ho hp) K
theorem own_ifnonnullN (X : Stand p l e R s m args below meth c T locs cells slots) (hx : p.tables.exec = Jvm.exec) {o : Int} (hd : decode c.code pc = .ok (.ifnonnull o, 3)) (hp : pc + 3 = pc') (K : own_W p e below P T m pc' Ls S) : own_W p e below P T m pc Ls (.null :: S) := by
  subst hp; exact own_go (fun t => XT.ifnonnullNo (g := mkF m pc Ls (.null :: S)) X.here hx rfl hd rfl) K
theorem own_acmpY (X : Stand p l e R s m args below meth c T locs cells slots) (hx : p.tables.exec = Jvm.exec) {cd : ClassFile.ACond} {x y : Value} {o : Int} (hd : decode c.code pc = .ok (.if_acmp cd o, 3)) (ho : 0 ≤ (pc : Int) + o) (hp : ((pc : Int) + o).toNat = pc') (hx' : x.isRef = true) (hy' : y.isRef = true) (q : XT.acmp cd x y = true) (K : own_W p e below P T m pc' Ls S) : own_W p e below P T m pc Ls (y :: x :: S) :=
  own_go (fun t => XT.acmpYes (g := mkF m pc Ls (y :: x :: S)) X.here hx rfl (pc0 := pc) (pc' := pc') rfl hd rfl hx' hy' q ho hp) K
theorem own_acmpN (X : Stand p l e R s m args below meth c T locs cells slots) (hx : p.tables.exec = Jvm.exec) {cd : ClassFile.ACond} {x y : Value} {o : Int} (hd : decode c.code pc = .ok (.if_acmp cd o, 3)) (hp : pc + 3 = pc') (hx' : x.isRef = true) (hy' : y.isRef = true) (q : XT.acmp cd x y = false) (K : own_W p e below P T m pc' Ls S) : own_W p e below P T m pc Ls (y :: x :: S) := by
  subst hp; exact own_go (fun t => XT.acmpNo (g := mkF m pc Ls (y :: x :: S)) X.here hx rfl hd rfl hx' hy' q) K
/-! heap -/
theorem own_getF (X : Stand p l e R s m args below meth c T locs cells slots) (hx : p.tables.exec = Jvm.exec) (hZ : Z.Warmed39 s.vm) {own R0 O n d host : String} {index : Nat} (hown : s.vm.findClass own = some m.cls) (w : (Cond.fieldLink own index R0 n d).before a0 Z = true ∨ (Cond.fieldLinkNest own index R0 n d host).before a0 Z = true) (via : Via Z R0 O n d)
    (eT : T.heap = h) {a : Addr} {v : Value} (F : Fld Z h a O n d v) (hd : decode c.code pc = .ok (.getfield index, 3)) (hp : pc + 3 = pc')
    (K : ∀ T', Stand p l e R s m args below meth c T' locs cells slots → T'.heap = h → own_W p e below P T' m pc' Ls (v :: S)) : own_W p e below P T m pc Ls (.ref a :: S) := by
  subst hp
  obtain ⟨T', X', e', st⟩ := getF X hx hZ hown w via eT F (g := mkF m pc Ls (.ref a :: S)) rfl rfl hd
  exact own_go st (K T' X' e')
theorem own_getS (X : Stand p l e R s m args below meth c T locs cells slots) (hx : p.tables.exec = Jvm.exec) (hZ : Z.Warmed39 s.vm) {own R0 O n d host : String} {index : Nat} (hown : s.vm.findClass own = some m.cls) (w : (Cond.fieldLink own index R0 n d).before a0 Z = true ∨ (Cond.fieldLinkNest own index R0 n d host).before a0 Z = true) (via : Via Z R0 O n d)
    (eT : T.heap = h) {v : Value} (F : Sta Z h O n d v) (hd : decode c.code pc = .ok (.getstatic index, 3)) (hp : pc + 3 = pc')
    (K : ∀ T', Stand p l e R s m args below meth c T' locs cells slots → T'.heap = h → own_W p e below P T' m pc' Ls (v :: S)) : own_W p e below P T m pc Ls S := by
  subst hp
  obtain ⟨T', X', e', st⟩ := getS2 X hx hZ hown w via eT F (g := mkF m pc Ls S) rfl hd
  exact own_go st (K T' X' e')
theorem own_putF (X : Stand p l e R s m args below meth c T locs cells slots) (hx : p.tables.exec = Jvm.exec) (hZ : Z.Warmed39 s.vm) {own R0 O n d C : String} {index kk : Nat} {ty : FieldType} (hown : s.vm.findClass own = some m.cls) (w : (Cond.fieldLink own index R0 n d).before a0 Z = true) (via : Via Z R0 O n d)
    (eT : T.heap = h) {a : Addr} {v v' old : Value} (F : Fld Z h a O n d old) (E : Exa Z h a C) (L : (Cond.lays C O n d).before a0 Z = true ∨ ((Cond.laysFinal C O n d).before a0 Z = true ∧ own = O ∧ meth.name = "<init>")) (wi : (Cond.instantiable C kk).before a0 Z = true)
    (hty : parseFieldDescriptor d = some ty) (hn : narrow ty v = v') (hf : fits ty v' = true) (hd : decode c.code pc = .ok (.putfield index, 3)) (hp : pc + 3 = pc')
    (K : ∀ T' h' lc, Stand p l e R s m args below meth c T' lc cells slots → T'.heap = h' → Wr h h' a (Jvm.RoadKit.slotOf Z O n d) v' → (∀ n0, n0 ≤ a → Fr n0 locs → Fr n0 lc) → own_W p e below P T' m pc' Ls S) : own_W p e below P T m pc Ls (v :: .ref a :: S) := by
  subst hp
  obtain ⟨T', h', X', e', W', st⟩ := putFN X hx hZ hown w via eT F E L wi hty hn hf (g := mkF m pc Ls (v :: .ref a :: S)) rfl rfl hd
  exact own_go st (K T' h' _ X' e' W' fun _ q N => Fr.snoc X' N q)
theorem own_new (X : Stand p l e R s m args below meth c T locs cells slots) (hx : p.tables.exec = Jvm.exec) (hZ : Z.Warmed39 s.vm) {own C : String} {index n : Nat} (hown : s.vm.findClass own = some m.cls) (w : (Cond.classLink own index C).before a0 Z = true) (wi : (Cond.instantiable C n).before a0 Z = true) (wz : (Cond.initialized C).before a0 Z = true) (eT : T.heap = h)
    (hd : decode c.code pc = .ok (.new index, 3)) (hp : pc + 3 = pc') {cells' slots' : Nat} (hc' : cells + 1 = cells') (hs' : slots + n = slots') (hc : cells' ≤ R.cells) (hl : slots' ≤ R.slots)
    (K : ∀ T' h' a, Stand p l e R s m args below meth c T' locs cells' slots' → T'.heap = h' → Ext h h' → a = h.size → Exa Z h' a C → (∀ {O nm d : String} {ty : FieldType}, Laid Z a0 C O nm d → parseFieldDescriptor d = some ty → Fld Z h' a O nm d (defaultValue ty)) → own_W p e below P T' m pc' Ls (.ref a :: S)) : own_W p e below P T m pc Ls S := by
  subst hp hc' hs'
  obtain ⟨T', h', X', e', E', A', D', -, st⟩ := newO X hx hZ hown w wi wz eT (g := mkF m pc Ls S) rfl hd hc hl
  exact own_go st (K T' h' _ X' e' E' rfl A' D')
theorem own_newarr (X : Stand p l e R s m args below meth c T locs cells slots) (hx : p.tables.exec = Jvm.exec) (hZ : Z.Warmed39 s.vm) {aty : ArrayType} (w : (Cond.arrayClass (newarray.typeOf aty)).before a0 Z = true) (eT : T.heap = h) (hd : decode c.code pc = .ok (.newarray aty, 2)) (hp : pc + 2 = pc') {n : Int32}
    (hn : ¬ n < 0) (cap : Nat) (hcap : n.toNatClampNeg ≤ cap) (hb : cap * 8 ≤ 536870912) {cells' slots' : Nat} (hc' : cells + 1 = cells') (hs' : slots + cap = slots') (hc : cells' ≤ R.cells) (hl : slots' ≤ R.slots)
    (K : ∀ T' h' cA a, Stand p l e R s m args below meth c T' locs cells' slots' → T'.heap = h' → Ext h h' → a = h.size → Arv Z h' a cA (newarray.typeOf aty) n [] (defaultValue (newarray.typeOf aty)) → own_W p e below P T' m pc' Ls (.ref a :: S)) : own_W p e below P T m pc Ls (.int n :: S) := by
  subst hp hc' hs'
  obtain ⟨T', h', cA, X', e', E', A', st⟩ := newP X hx hZ w eT (g := mkF m pc Ls (.int n :: S)) rfl hd rfl hn hcap hb hc hl
  exact own_go st (K T' h' cA _ X' e' E' rfl (Arv.new A' hn))
theorem own_arrlen (X : Stand p l e R s m args below meth c T locs cells slots) (hx : p.tables.exec = Jvm.exec) (hZ : Z.Warmed39 s.vm) (eT : T.heap = h) {a : Addr} {k : ClassId} {ty : FieldType} {n : Int32} {vs : List Value} {dv : Value} (A : Arv Z h a k ty n vs dv) (hd : decode c.code pc = .ok (.arraylength, 1)) (hp : pc + 1 = pc')
    (K : own_W p e below P T m pc' Ls (.int n :: S)) : own_W p e below P T m pc Ls (.ref a :: S) := by
  subst hp
  obtain ⟨cl, Ar, -, Sz, M, -⟩ := A
  have q := len_of Sz M
  rw [← q] at K
  exact own_go (fun t => X.arraylength hx (cell := cl) (by rw [eT]; exact Ar.1) (State.isArrayOf_alike hZ.alike Ar.2.1) (g := mkF m pc Ls (.ref a :: S)) rfl rfl hd t) K
theorem own_iaload (X : Stand p l e R s m args below meth c T locs cells slots) (hx : p.tables.exec = Jvm.exec) (hZ : Z.Warmed39 s.vm) (eT : T.heap = h) {a : Addr} {k : ClassId} {n : Int32} {vs : List Value} {dv : Value} (A : Arv Z h a k .int n vs dv) {j : Int32} {v : Value} (hj : ¬ j < 0 ∧ j < n) (hv : vs.getD j.toNatClampNeg dv = v) (hd : decode c.code pc = .ok (.iaload, 1)) (hp : pc + 1 = pc')
    (K : own_W p e below P T m pc' Ls (v :: S)) : own_W p e below P T m pc Ls (.int j :: .ref a :: S) := by
  subst hp
  obtain ⟨cl, Ar, -, Sz, M, H, -⟩ := A
  have hin := inb_of Sz hj
  exact own_go (fun t => X.iaload hx (cell := cl) (j := j) (v := v) (by rw [eT]; exact Ar.1) (State.isArrayOf_alike hZ.alike Ar.2.1) Ar.2.2 hin (H.at hin hv) (g := mkF m pc Ls (.int j :: .ref a :: S)) rfl rfl hd t) K
theorem own_laload (X : Stand p l e R s m args below meth c T locs cells slots) (hx : p.tables.exec = Jvm.exec) (hZ : Z.Warmed39 s.vm) (eT : T.heap = h) {a : Addr} {k : ClassId} {n : Int32} {vs : List Value} {dv : Value} (A : Arv Z h a k .long n vs dv) {j : Int32} {v : Value} (hj : ¬ j < 0 ∧ j < n) (hv : vs.getD j.toNatClampNeg dv = v) (hd : decode c.code pc = .ok (.laload, 1)) (hp : pc + 1 = pc')
    (K : own_W p e below P T m pc' Ls (v :: S)) : own_W p e below P T m pc Ls (.int j :: .ref a :: S) := by
  subst hp
  obtain ⟨cl, Ar, -, Sz, M, H, -⟩ := A
  have hin := inb_of Sz hj
  exact own_go (fun t => X.laload hx (cell := cl) (j := j) (v := v) (by rw [eT]; exact Ar.1) (State.isArrayOf_alike hZ.alike Ar.2.1) Ar.2.2 hin (H.at hin hv) (g := mkF m pc Ls (.int j :: .ref a :: S)) rfl rfl hd t) K
theorem own_caload (X : Stand p l e R s m args below meth c T locs cells slots) (hx : p.tables.exec = Jvm.exec) (hZ : Z.Warmed39 s.vm) (eT : T.heap = h) {a : Addr} {k : ClassId} {n : Int32} {vs : List Value} {dv : Value} (A : Arv Z h a k .char n vs dv) {j : Int32} {v : Value} (hj : ¬ j < 0 ∧ j < n) (hv : vs.getD j.toNatClampNeg dv = v) (hd : decode c.code pc = .ok (.caload, 1)) (hp : pc + 1 = pc')
    (K : own_W p e below P T m pc' Ls (v :: S)) : own_W p e below P T m pc Ls (.int j :: .ref a :: S) := by
  subst hp
  obtain ⟨cl, Ar, -, Sz, M, H, -⟩ := A
  have hin := inb_of Sz hj
  exact own_go (fun t => X.caload hx (cell := cl) (j := j) (v := v) (by rw [eT]; exact Ar.1) (State.isArrayOf_alike hZ.alike Ar.2.1) Ar.2.2 hin (H.at hin hv) (g := mkF m pc Ls (.int j :: .ref a :: S)) rfl rfl hd t) K
theorem own_baloadB (X : Stand p l e R s m args below meth c T locs cells slots) (hx : p.tables.exec = Jvm.exec) (hZ : Z.Warmed39 s.vm) (eT : T.heap = h) {a : Addr} {k : ClassId} {n : Int32} {vs : List Value} {dv : Value} (A : Arv Z h a k .byte n vs dv) {j : Int32} {v : Value} (hj : ¬ j < 0 ∧ j < n) (hv : vs.getD j.toNatClampNeg dv = v) (hd : decode c.code pc = .ok (.baload, 1)) (hp : pc + 1 = pc')
    (K : own_W p e below P T m pc' Ls (v :: S)) : own_W p e below P T m pc Ls (.int j :: .ref a :: S) := by
  subst hp
  obtain ⟨cl, Ar, -, Sz, M, H, -⟩ := A
  have hin := inb_of Sz hj
  exact own_go (fun t => X.baloadBytes hx (cell := cl) (j := j) (v := v) (by rw [eT]; exact Ar.1) (State.isArrayOf_alike hZ.alike Ar.2.1) Ar.2.2 hin (H.at hin hv) (g := mkF m pc Ls (.int j :: .ref a :: S)) rfl rfl hd t) K
theorem own_baloadZ (X : Stand p l e R s m args below meth c T locs cells slots) (hx : p.tables.exec = Jvm.exec) (hZ : Z.Warmed39 s.vm) (eT : T.heap = h) {a : Addr} {k : ClassId} {n : Int32} {vs : List Value} {dv : Value} (A : Arv Z h a k .boolean n vs dv) {j : Int32} {v : Value} (hj : ¬ j < 0 ∧ j < n) (hv : vs.getD j.toNatClampNeg dv = v) (hd : decode c.code pc = .ok (.baload, 1)) (hp : pc + 1 = pc')
    (K : own_W p e below P T m pc' Ls (v :: S)) : own_W p e below P T m pc Ls (.int j :: .ref a :: S) := by
  subst hp
  obtain ⟨cl, Ar, -, Sz, M, H, -⟩ := A
  have hin := inb_of Sz hj
  exact own_go (fun t => X.baloadBooleans hx (cell := cl) (j := j) (v := v) (by rw [eT]; exact Ar.1) (State.isArrayOf_alike hZ.alike Ar.2.1) Ar.2.2 hin (H.at hin hv) (g := mkF m pc Ls (.int j :: .ref a :: S)) rfl rfl hd t) K
theorem own_aaload (X : Stand p l e R s m args below meth c T locs cells slots) (hx : p.tables.exec = Jvm.exec) (hZ : Z.Warmed39 s.vm) (eT : T.heap = h) {a : Addr} {k : ClassId} {ty : FieldType} (hty : ty.isReference = true) {n : Int32} {vs : List Value} {dv : Value} (A : Arv Z h a k ty n vs dv) {j : Int32} {v : Value} (hj : ¬ j < 0 ∧ j < n) (hv : vs.getD j.toNatClampNeg dv = v) (hd : decode c.code pc = .ok (.aaload, 1)) (hp : pc + 1 = pc')
    (K : own_W p e below P T m pc' Ls (v :: S)) : own_W p e below P T m pc Ls (.int j :: .ref a :: S) := by
  subst hp
  obtain ⟨cl, Ar, -, Sz, M, H, -⟩ := A
  have hin := inb_of Sz hj
  exact own_go (fun t => X.aaload hx (cell := cl) (j := j) (v := v) (by rw [eT]; exact Ar.1) (State.isArrayOf_alike hZ.alike Ar.2.1) hty Ar.2.2 hin (H.at hin hv) (g := mkF m pc Ls (.int j :: .ref a :: S)) rfl rfl hd t) K
theorem own_iastore (X : Stand p l e R s m args below meth c T locs cells slots) (hx : p.tables.exec = Jvm.exec) (hZ : Z.Warmed39 s.vm) (eT : T.heap = h) {a : Addr} {k : ClassId} {n : Int32} {vs : List Value} {dv : Value} (A : Arv Z h a k .int n vs dv) {j : Int32} {x : Int32} (hj : ¬ j < 0 ∧ j < n) (i : Nat) (hi : j.toNatClampNeg = i) (hlen : i < vs.length) (hd : decode c.code pc = .ok (.iastore, 1)) (hp : pc + 1 = pc')
    (K : ∀ T' h' lc, Stand p l e R s m args below meth c T' lc cells slots → T'.heap = h' → Keep h h' [a] → Arv Z h' a k .int n (vs.set i (.int x)) dv → (∀ n0, n0 ≤ a → Fr n0 locs → Fr n0 lc) → own_W p e below P T' m pc' Ls S) : own_W p e below P T m pc Ls (.int x :: .int j :: .ref a :: S) := by
  subst hp
  obtain ⟨cl, Ar, q1, Sz, M, H, G⟩ := A
  obtain ⟨T', h', X', e', W', st⟩ := stI X hx hZ eT Ar (inb_of Sz hj) (g := mkF m pc Ls (.int x :: .int j :: .ref a :: S)) rfl rfl hd
  exact own_go st (K T' h' _ X' e' (Keep.of_wr W') (Arv.set Ar q1 Sz M H G rfl W' i hi hlen) fun _ q N => Fr.snoc X' N q)
theorem own_lastore (X : Stand p l e R s m args below meth c T locs cells slots) (hx : p.tables.exec = Jvm.exec) (hZ : Z.Warmed39 s.vm) (eT : T.heap = h) {a : Addr} {k : ClassId} {n : Int32} {vs : List Value} {dv : Value} (A : Arv Z h a k .long n vs dv) {j : Int32} {x : Int64} (hj : ¬ j < 0 ∧ j < n) (i : Nat) (hi : j.toNatClampNeg = i) (hlen : i < vs.length) (hd : decode c.code pc = .ok (.lastore, 1)) (hp : pc + 1 = pc')
    (K : ∀ T' h' lc, Stand p l e R s m args below meth c T' lc cells slots → T'.heap = h' → Keep h h' [a] → Arv Z h' a k .long n (vs.set i (.long x)) dv → (∀ n0, n0 ≤ a → Fr n0 locs → Fr n0 lc) → own_W p e below P T' m pc' Ls S) : own_W p e below P T m pc Ls (.long x :: .int j :: .ref a :: S) := by
  subst hp
  obtain ⟨cl, Ar, q1, Sz, M, H, G⟩ := A
  obtain ⟨T', h', X', e', W', st⟩ := stJ X hx hZ eT Ar (inb_of Sz hj) (g := mkF m pc Ls (.long x :: .int j :: .ref a :: S)) rfl rfl hd
  exact own_go st (K T' h' _ X' e' (Keep.of_wr W') (Arv.set Ar q1 Sz M H G rfl W' i hi hlen) fun _ q N => Fr.snoc X' N q)
theorem own_castore (X : Stand p l e R s m args below meth c T locs cells slots) (hx : p.tables.exec = Jvm.exec) (hZ : Z.Warmed39 s.vm) (eT : T.heap = h) {a : Addr} {k : ClassId} {n : Int32} {vs : List Value} {dv : Value} (A : Arv Z h a k .char n vs dv) {j : Int32} {x : Int32} (hj : ¬ j < 0 ∧ j < n) (i : Nat) (hi : j.toNatClampNeg = i) (hlen : i < vs.length) (hd : decode c.code pc = .ok (.castore, 1)) (hp : pc + 1 = pc')
    (K : ∀ T' h' lc, Stand p l e R s m args below meth c T' lc cells slots → T'.heap = h' → Keep h h' [a] → Arv Z h' a k .char n (vs.set i (.int (nar .char x))) dv → (∀ n0, n0 ≤ a → Fr n0 locs → Fr n0 lc) → own_W p e below P T' m pc' Ls S) : own_W p e below P T m pc Ls (.int x :: .int j :: .ref a :: S) := by
  subst hp
  obtain ⟨cl, Ar, q1, Sz, M, H, G⟩ := A
  obtain ⟨T', h', X', e', W', st⟩ := stC X hx hZ eT Ar (inb_of Sz hj) (g := mkF m pc Ls (.int x :: .int j :: .ref a :: S)) rfl rfl hd
  exact own_go st (K T' h' _ X' e' (Keep.of_wr W') (Arv.set Ar q1 Sz M H G (fits_nar_char x) W' i hi hlen) fun _ q N => Fr.snoc X' N q)
theorem own_bastoreZ (X : Stand p l e R s m args below meth c T locs cells slots) (hx : p.tables.exec = Jvm.exec) (hZ : Z.Warmed39 s.vm) (eT : T.heap = h) {a : Addr} {k : ClassId} {n : Int32} {vs : List Value} {dv : Value} (A : Arv Z h a k .boolean n vs dv) {j : Int32} {x : Int32} (hj : ¬ j < 0 ∧ j < n) (i : Nat) (hi : j.toNatClampNeg = i) (hlen : i < vs.length) (hd : decode c.code pc = .ok (.bastore, 1)) (hp : pc + 1 = pc')
    (K : ∀ T' h' lc, Stand p l e R s m args below meth c T' lc cells slots → T'.heap = h' → Keep h h' [a] → Arv Z h' a k .boolean n (vs.set i (.int (nar .boolean x))) dv → (∀ n0, n0 ≤ a → Fr n0 locs → Fr n0 lc) → own_W p e below P T' m pc' Ls S) : own_W p e below P T m pc Ls (.int x :: .int j :: .ref a :: S) := by
  subst hp
  obtain ⟨cl, Ar, q1, Sz, M, H, G⟩ := A
  obtain ⟨T', h', X', e', W', st⟩ := stZ X hx hZ eT Ar (inb_of Sz hj) (g := mkF m pc Ls (.int x :: .int j :: .ref a :: S)) rfl rfl hd
  exact own_go st (K T' h' _ X' e' (Keep.of_wr W') (Arv.set Ar q1 Sz M H G (fits_nar_bool x) W' i hi hlen) fun _ q N => Fr.snoc X' N q)
theorem own_bastoreB (X : Stand p l e R s m args below meth c T locs cells slots) (hx : p.tables.exec = Jvm.exec) (hZ : Z.Warmed39 s.vm) (eT : T.heap = h) {a : Addr} {k : ClassId} {n : Int32} {vs : List Value} {dv : Value} (A : Arv Z h a k .byte n vs dv) {j : Int32} {x : Int32} (hj : ¬ j < 0 ∧ j < n) (i : Nat) (hi : j.toNatClampNeg = i) (hlen : i < vs.length) (hd : decode c.code pc = .ok (.bastore, 1)) (hp : pc + 1 = pc')
    (K : ∀ T' h' lc, Stand p l e R s m args below meth c T' lc cells slots → T'.heap = h' → Keep h h' [a] → Arv Z h' a k .byte n (vs.set i (.int (nar .byte x))) dv → (∀ n0, n0 ≤ a → Fr n0 locs → Fr n0 lc) → own_W p e below P T' m pc' Ls S) : own_W p e below P T m pc Ls (.int x :: .int j :: .ref a :: S) := by
  subst hp
  obtain ⟨cl, Ar, q1, Sz, M, H, G⟩ := A
  obtain ⟨T', h', X', e', W', st⟩ := stB X hx hZ eT Ar (inb_of Sz hj) (g := mkF m pc Ls (.int x :: .int j :: .ref a :: S)) rfl rfl hd
  exact own_go st (K T' h' _ X' e' (Keep.of_wr W') (Arv.set Ar q1 Sz M H G (fits_nar_byte x) W' i hi hlen) fun _ q N => Fr.snoc X' N q)
theorem own_cast (X : Stand p l e R s m args below meth c T locs cells slots) (hx : p.tables.exec = Jvm.exec) (hZ : Z.Warmed39 s.vm) {own C : String} {index : Nat} (hown : s.vm.findClass own = some m.cls) (w : (Cond.classLink own index C).before a0 Z = true) (eT : T.heap = h) {a : Addr} (E : Exa Z h a C) (hd : decode c.code pc = .ok (.checkcast index, 3)) (hp : pc + 3 = pc')
    (K : ∀ T', Stand p l e R s m args below meth c T' locs cells slots → T'.heap = h → own_W p e below P T' m pc' Ls (.ref a :: S)) : own_W p e below P T m pc Ls (.ref a :: S) := by
  subst hp
  obtain ⟨T', X', e', st⟩ := castY X hx hZ hown w eT (Ins.self E) (g := mkF m pc Ls (.ref a :: S)) rfl rfl hd
  exact own_go st (K T' X' e')
theorem own_inst (X : Stand p l e R s m args below meth c T locs cells slots) (hx : p.tables.exec = Jvm.exec) (hZ : Z.Warmed39 s.vm) {own C : String} {index : Nat} (hown : s.vm.findClass own = some m.cls) (w : (Cond.classLink own index C).before a0 Z = true) (eT : T.heap = h) {a : Addr} (E : Exa Z h a C) (hd : decode c.code pc = .ok (.instanceof index, 3)) (hp : pc + 3 = pc')
    (K : ∀ T', Stand p l e R s m args below meth c T' locs cells slots → T'.heap = h → own_W p e below P T' m pc' Ls (.int 1 :: S)) : own_W p e below P T m pc Ls (.ref a :: S) := by
  subst hp
  obtain ⟨T', X', e', st⟩ := instY X hx hZ hown w eT (Ins.self E) (g := mkF m pc Ls (.ref a :: S)) rfl rfl hd
  exact own_go st (K T' X' e')
theorem own_acmpne (X : Stand p l e R s m args below meth c T locs cells slots) (hx : p.tables.exec = Jvm.exec) {x y : Addr} {o : Int} {pcY pcN : Nat} (hd : decode c.code pc = .ok (.if_acmp .ne o, 3)) (ho : 0 ≤ (pc : Int) + o) (hY : ((pc : Int) + o).toNat = pcY) (hN : pc + 3 = pcN) (KY : ¬ x = y → own_W p e below P T m pcY Ls S) (KN : x = y → own_W p e below P T m pcN Ls S) : own_W p e below P T m pc Ls (.ref y :: .ref x :: S) :=
  (Classical.em (x = y)).elim (fun q => own_acmpN X hx hd hN rfl rfl (XT.aa_ne_f (congrArg Value.ref q)) (KN q)) (fun q => own_acmpY X hx hd ho hY rfl rfl (XT.aa_ne_t fun z => q (Value.ref.inj z)) (KY q))
theorem own_sta_keep {h' : Heap} {ws : List Addr} {C n d : String} {v : Value} (F : Sta Z h C n d v) (K : Keep h h' ws) (hn : ∀ x ∈ ws, ∀ cell : Cell, h[x]? = some cell → cell.vm.isStatics = false) : Sta Z h' C n d v := by
  obtain ⟨cf, i, k, f, st, cell, h1, h2, h3, h4, h5, h6, h7⟩ := F
  exact ⟨cf, i, k, f, st, cell, h1, h2, h3, h4, K.2.1 _ _ h5 (fun q => by rw [hn _ q _ h5] at h6; cases h6), h6, h7⟩
theorem own_ns_exa {a : Addr} {C : String} (E : Exa Z h a C) : ∀ cell : Cell, h[a]? = some cell → cell.vm.isStatics = false := fun cell hc => by
  obtain ⟨c', k, h1, h2, h3, h4, h5⟩ := E
  cases h1.symm.trans hc; exact h4
theorem own_ns_arv {a : Addr} {k : ClassId} {ty : FieldType} {z : Int32} {vs : List Value} {dv : Value} (A : Arv Z h a k ty z vs dv) : ∀ cell : Cell, h[a]? = some cell → cell.vm.isStatics = false := fun cell hc => by
  obtain ⟨c', Ar, -⟩ := A
  cases Ar.1.symm.trans hc; exact Ar.plain
theorem own_callS (X : Stand p l e R s m args below meth c T locs cells slots) (hx : p.tables.exec = Jvm.exec) (hZ : Z.Warmed39 s.vm) {own : String} {index : Nat} {y : MethodName} {bytes : ByteArray} {maxL : Nat} {ret : Option FieldType} {rm : Room} {Qc : Option Value → Heap → List Loc → Prop} {as' : Array Value} {S' : List Value} (argsL : List Value)
    (hown : s.vm.findClass own = some m.cls) (w1 : (Cond.methodLink own index y).before a0 Z = true) (w2 : (Cond.static y).before a0 Z = true) (w3 : (Cond.initialized y.cls).before a0 Z = true) (w4 : (Cond.code y bytes maxL ret).before a0 Z = true) (hy : y.cls ≠ "java/lang/invoke/MethodHandle" ∧ y.cls ≠ "java/lang/invoke/VarHandle")
    (hM : MetFree l y (head1 [Cond.code y bytes maxL ret] rm) (fun a U => a = as' ∧ Z.Warmed39 U.vm ∧ U.heap = h) (fun _ _ _ _ _ => True) (fun _ U o U' => ∃ v L, o = .returned v ∧ Qc v U'.heap L ∧ FrameEnd U o U' L rm.cells rm.slots))
    (eT : T.heap = h) {W cells' slots' : Nat} (hf : rm.frames + 1 ≤ R.frames) (hl : W + (maxL + 11) + rm.locals ≤ R.locals) (hc' : cells + rm.cells = cells') (hs' : slots + rm.slots = slots') (hc : cells' ≤ R.cells) (hs : slots' ≤ R.slots) (hsize : Ls.size = c.maxLocals) (hlen : ∀ sig, parseMethodDescriptor y.desc = some sig → argsL.length = sig.parameters.length) (has : argsL.toArray = as') (hstk : S' = argsL.reverse ++ S) (hW : 2 * 0 + (S.map fun v => v.category).sum ≤ W) (hd : decode c.code pc = .ok (.invokestatic index, 3)) (hp : pc + 3 = pc')
    (K : ∀ v T' h' L lc, Stand p l e R s m args below meth c T' lc cells' slots' → T'.heap = h' → Qc v h' L → (∀ n0, Fr n0 locs → Fr n0 L → Fr n0 lc) → own_W p e below P T' m pc' Ls (v.toList ++ S)) : own_W p e below P T m pc Ls S' := by
  subst hp hc' hs'
  obtain ⟨v, vm₁, ⟨T1, L1, k1, n1⟩, -, X1, ⟨Lc1, hQ1, l1, y1, z1⟩, st1⟩ := Jvm.LawKit.callS X hx hown (mvT hZ w1) (mvT hZ w2) (mvT hZ w3) (mvT hZ w4) hy (backOf hM hZ w4 w3 hf hl) (g := mkF m pc Ls S') rfl hsize (argsL := argsL) (rest := S) hlen hstk hW hd (fun _ _ => ⟨has, eT, hc, hs⟩)
  dsimp only [Pt.U, Pt.locs, Pt.cells, Pt.slots] at X1 l1 y1 z1 st1 hQ1
  subst l1 y1 z1
  exact own_go st1 (K v T1 _ Lc1 _ X1 rfl hQ1 fun _ a b => Fr.app a b)
theorem own_callN (X : Stand p l e R s m args below meth c T locs cells slots) (hx : p.tables.exec = Jvm.exec) (hZ : Z.Warmed39 s.vm) {own : String} {index : Nat} {y : MethodName} {bytes : ByteArray} {maxL : Nat} {rm : Room} {Qc : Option Value → Heap → List Loc → Prop} {as' : Array Value} {S' : List Value} (a : Addr) (argsL : List Value) (hy1 : y.name = "<init>")
    (hown : s.vm.findClass own = some m.cls) (w1 : (Cond.methodLink own index y).before a0 Z = true) (w2 : (Cond.instanceMethod y).before a0 Z = true) (w3 : (Cond.initialized y.cls).before a0 Z = true) (w4 : (Cond.code y bytes maxL none).before a0 Z = true) (hy : y.cls ≠ "java/lang/invoke/MethodHandle" ∧ y.cls ≠ "java/lang/invoke/VarHandle")
    (hM : MetFree l y (head1 [Cond.code y bytes maxL none] rm) (fun a U => a = as' ∧ Z.Warmed39 U.vm ∧ U.heap = h) (fun _ _ _ _ _ => True) (fun _ U o U' => ∃ v L, o = .returned v ∧ Qc v U'.heap L ∧ FrameEnd U o U' L rm.cells rm.slots))
    (eT : T.heap = h) {W cells' slots' : Nat} (hf : rm.frames + 1 ≤ R.frames) (hl : W + (maxL + 11) + rm.locals ≤ R.locals) (hc' : cells + rm.cells = cells') (hs' : slots + rm.slots = slots') (hc : cells' ≤ R.cells) (hs : slots' ≤ R.slots) (hsize : Ls.size = c.maxLocals) (hlen : ∀ sig, parseMethodDescriptor y.desc = some sig → argsL.length = sig.parameters.length) (has : (.ref a :: argsL).toArray = as') (hstk : S' = argsL.reverse ++ .ref a :: S) (hW : 2 * 0 + (S.map fun v => v.category).sum ≤ W) (hd : decode c.code pc = .ok (.invokespecial index, 3)) (hp : pc + 3 = pc')
    (K : ∀ v T' h' L lc, Stand p l e R s m args below meth c T' lc cells' slots' → T'.heap = h' → Qc v h' L → (∀ n0, Fr n0 locs → Fr n0 L → Fr n0 lc) → own_W p e below P T' m pc' Ls (v.toList ++ S)) : own_W p e below P T m pc Ls S' := by
  subst hp hc' hs'
  obtain ⟨v, vm₁, ⟨T1, L1, k1, n1⟩, -, X1, ⟨Lc1, hQ1, l1, y1, z1⟩, st1⟩ := X.specialBack hx hy1 hown (mvT hZ w1) (mvT hZ w2) (mvT hZ w4) hy (backOf hM hZ w4 w3 hf hl) (g := mkF m pc Ls S') rfl hsize (Steps.refl _) (a := a) (argsL := argsL) (rest := S) hlen hstk hW hd (fun _ _ => ⟨has, eT, hc, hs⟩)
  dsimp only [Pt.U, Pt.locs, Pt.cells, Pt.slots] at X1 l1 y1 z1 st1 hQ1
  subst l1 y1 z1
  exact own_go (fun t k => st1.trans k) (K v T1 _ Lc1 _ X1 rfl hQ1 fun _ a b => Fr.app a b)
theorem own_callV (X : Stand p l e R s m args below meth c T locs cells slots) (hx : p.tables.exec = Jvm.exec) (hZ : Z.Warmed39 s.vm) {own C : String} {index : Nat} {y : MethodName} {bytes : ByteArray} {maxL : Nat} {ret : Option FieldType} {rm : Room} {Qc : Option Value → Heap → List Loc → Prop} {as' : Array Value} {S' : List Value} (a : Addr) (argsL : List Value)
    (hown : s.vm.findClass own = some m.cls) (w1 : (Cond.methodLink own index y).before a0 Z = true) (w2 : (Cond.declares y).before a0 Z = true) (w5 : (Cond.selects C y y).before a0 Z = true) (w6 : (Cond.instanceMethod y).before a0 Z = true) (w3 : (Cond.initialized y.cls).before a0 Z = true) (w4 : (Cond.code y bytes maxL ret).before a0 Z = true) (hy : y.cls ≠ "java/lang/invoke/MethodHandle" ∧ y.cls ≠ "java/lang/invoke/VarHandle")
    (hM : MetFree l y (head1 [Cond.code y bytes maxL ret] rm) (fun a U => a = as' ∧ Z.Warmed39 U.vm ∧ U.heap = h) (fun _ _ _ _ _ => True) (fun _ U o U' => ∃ v L, o = .returned v ∧ Qc v U'.heap L ∧ FrameEnd U o U' L rm.cells rm.slots))
    (E : Exa Z h a C) (eT : T.heap = h) {W cells' slots' : Nat} (hf : rm.frames + 1 ≤ R.frames) (hl : W + (maxL + 11) + rm.locals ≤ R.locals) (hc' : cells + rm.cells = cells') (hs' : slots + rm.slots = slots') (hc : cells' ≤ R.cells) (hs : slots' ≤ R.slots) (hsize : Ls.size = c.maxLocals) (hlen : ∀ sig, parseMethodDescriptor y.desc = some sig → argsL.length = sig.parameters.length) (has : (.ref a :: argsL).toArray = as') (hstk : S' = argsL.reverse ++ .ref a :: S) (hW : 2 * 0 + (S.map fun v => v.category).sum ≤ W) (hd : decode c.code pc = .ok (.invokevirtual index, 3)) (hp : pc + 3 = pc')
    (K : ∀ v T' h' L lc, Stand p l e R s m args below meth c T' lc cells' slots' → T'.heap = h' → Qc v h' L → (∀ n0, Fr n0 locs → Fr n0 L → Fr n0 lc) → own_W p e below P T' m pc' Ls (v.toList ++ S)) : own_W p e below P T m pc Ls S' := by
  subst hp hc' hs'
  obtain ⟨cq, kq, qa, qb, qc⟩ := isOf hZ eT E
  obtain ⟨v, vm₁, ⟨T1, L1, k1, n1⟩, -, X1, ⟨Lc1, hQ1, l1, y1, z1⟩, st1⟩ := X.virtualBack hx hown (mvT hZ w1) (mvT hZ w2) (notFace_of_selects (args := #[]) (mvT hZ w5)) (mvT hZ w5) (mvT hZ w6) hy (backOf hM hZ w4 w3 hf hl) qa qc (g := mkF m pc Ls S') rfl hsize (Steps.refl _) (argsL := argsL) (rest := S) hlen hstk hW hd (fun _ _ => ⟨has, eT, hc, hs⟩)
  dsimp only [Pt.U, Pt.locs, Pt.cells, Pt.slots] at X1 l1 y1 z1 st1 hQ1
  subst l1 y1 z1
  exact own_go (fun t k => st1.trans k) (K v T1 _ Lc1 _ X1 rfl hQ1 fun _ a b => Fr.app a b)
theorem own_initO (X : Stand p l e R s m args below meth c T locs cells slots) (hx : p.tables.exec = Jvm.exec) (hZ : Z.Warmed39 s.vm) {own : String} {idx : Nat} (hown : s.vm.findClass own = some m.cls) (w1 : (Cond.methodLink own idx Lib.objectInit).before a0 Z = true) (w2 : (Cond.instanceMethod Lib.objectInit).before a0 Z = true) (w3 : (Cond.code Lib.objectInit ⟨#[0xb1]⟩ 1 none).before a0 Z = true) (eT : T.heap = h)
    (hsize : Ls.size = c.maxLocals) {a : Addr} (hd : decode c.code pc = .ok (.invokespecial idx, 3)) (hp : pc + 3 = pc') (hf : 1 ≤ R.frames) {W : Nat} (hW : 2 * 0 + (S.map fun v => v.category).sum ≤ W) (hl : W + 12 ≤ R.locals)
    (K : ∀ T', Stand p l e R s m args below meth c T' locs cells slots → T'.heap = h → own_W p e below P T' m pc' Ls S) : own_W p e below P T m pc Ls (.ref a :: S) := by
  subst hp
  obtain ⟨T', X', e', st⟩ := initO X hx hZ hown w1 w2 w3 eT (g := mkF m pc Ls (.ref a :: S)) rfl hsize rfl hd hf (W := W) hW hl
  exact own_go st (K T' X' e')
/-! returns -/
theorem own_retI (X : Stand p l e R s m args below meth c T locs cells slots) (hx : p.tables.exec = Jvm.exec) (hlk : meth.locks = false) {t : FieldType} {w w' : Value} (hret : meth.sig.returnType = some t) (hd : decode c.code pc = .ok (.ireturn, 1)) {z : Int32} (hw : w = .int z) (hn : narrow t w = w') (ht : t = .int ∨ t = .boolean ∨ t = .byte ∨ t = .char ∨ t = .short) (hc : cells ≤ kc) (hs : slots ≤ ks) (hq : Q (some w') T.heap locs) : own_W p e below (own_Post s Q kc ks) T m pc Ls (w :: S) := by
  subst hw
  obtain ⟨fs, hr, hrun, hended, hW, hsame⟩ := X.leave (v := some w') (fun h => by rw [hret] at h; cases h) hlk
  refine ⟨_, _, ?_, hrun, hended, _, _, rfl, hq, ⟨_, rfl⟩, hW, hsame.mono hc hs⟩
  have hm' : T.vm.method? m = some meth := X.method'
  show Steps p.tables e below (T.setTop { method := m, pc := pc, locals := Ls, stack := _ :: S, locked := none }) _
  rcases ht with rfl | rfl | rfl | rfl | rfl
  all_goals
    jvm_step X.here [X.here.top, hx, hd, hm', hret, hn]
    first | (intro acts; rw [hr _ acts rfl rfl rfl]) | rw [hr _ _ rfl rfl rfl]
    exact Steps.refl _
theorem own_retJ (X : Stand p l e R s m args below meth c T locs cells slots) (hx : p.tables.exec = Jvm.exec) (hlk : meth.locks = false) {z : Int64} (hret : meth.sig.returnType = some .long) (hd : decode c.code pc = .ok (.lreturn, 1)) (hc : cells ≤ kc) (hs : slots ≤ ks) (hq : Q (some (.long z)) T.heap locs) : own_W p e below (own_Post s Q kc ks) T m pc Ls (.long z :: S) := by
  obtain ⟨fs, hr, hrun, hended, hW, hsame⟩ := X.leave (v := some (.long z)) (fun h => by rw [hret] at h; cases h) hlk
  exact ⟨_, _, retOut X hx hret rfl (Or.inr (Or.inl ⟨rfl, rfl, z, rfl⟩)) hd hr, hrun, hended, _, _, rfl, hq, ⟨_, rfl⟩, hW, hsame.mono hc hs⟩
theorem own_retA (X : Stand p l e R s m args below meth c T locs cells slots) (hx : p.tables.exec = Jvm.exec) (hlk : meth.locks = false) {t : FieldType} {w : Value} (hret : meth.sig.returnType = some t) (hd : decode c.code pc = .ok (.areturn, 1)) (ht : t.isReference = true) (hw : w.isRef = true) (hn : narrow t w = w) (hc : cells ≤ kc) (hs : slots ≤ ks) (hq : Q (some w) T.heap locs) : own_W p e below (own_Post s Q kc ks) T m pc Ls (w :: S) := by
  obtain ⟨fs, hr, hrun, hended, hW, hsame⟩ := X.leave (v := some w) (fun h => by rw [hret] at h; cases h) hlk
  exact ⟨_, _, retOut X hx hret hn (Or.inr (Or.inr (Or.inr (Or.inr ⟨rfl, ht, hw⟩)))) hd hr, hrun, hended, _, _, rfl, hq, ⟨_, rfl⟩, hW, hsame.mono hc hs⟩
theorem own_ret0 (X : Stand p l e R s m args below meth c T locs cells slots) (hx : p.tables.exec = Jvm.exec) (hlk : meth.locks = false) (hret : meth.sig.returnType = none) (hd : decode c.code pc = .ok (.return_, 1)) (hc : cells ≤ kc) (hs : slots ≤ ks) (hq : Q none T.heap locs) : own_W p e below (own_Post s Q kc ks) T m pc Ls [] := by
  obtain ⟨fs, hr, hrun, hended, hW, hsame⟩ := X.leave (v := none) (fun _ => rfl) hlk
  exact ⟨_, _, X.returnOut hx hret hd hr, hrun, hended, _, _, rfl, hq, ⟨_, rfl⟩, hW, hsame.mono hc hs⟩
end OwnKit
/-! ## the wide walk: String constants may be loaded; the Stand is over the start with the tables at hand (s.setVm vm0) -/
def own_PostS (Z : State) (EL : List (String × Nat)) (s : State) (Q : Option Value → Heap → List Loc → Prop) (kc ks : Nat) (o : Outcome) (s₂ : State) : Prop := ∃ v L, o = .returned v ∧ Q v s₂.heap L ∧ CHr Z EL s.vm s.heap s₂.vm s₂.heap ∧ ReturnedEndW s o s₂ L kc ks
theorem own_endW {s t : State} {o : Outcome} {L : List Loc} {k n k' n' : Nat} (h : ReturnedEndW s o t L k n) (hk : k ≤ k') (hn : n ≤ n') : ReturnedEndW s o t L k' n' := ⟨h.1, h.2.1, h.2.2.1, h.2.2.2.mono hk hn⟩
section OwnKit3
variable {p : Program} {l : Launch} {e : Env} {R : Room} {s : State} {m : MethodId} {args : Array Value} {below : List Frame} {meth : Method} {c : Code} {T : State} {locs : List Loc} {cells slots : Nat} {Z : State} {a0 : Array Value} {h h0 : Heap}
  {P : Outcome → State → Prop} {Q : Option Value → Heap → List Loc → Prop} {kc ks : Nat} {pc pc' : Nat} {Ls Ls' : Array Slot} {S : List Value} {EL : List (String × Nat)} {vm0 : Vm} {k0 : Nat}
theorem own_enterS {ml : Nat} (q : entryFrame m args ml = mkF m 0 Ls []) (K : own_W p e below (own_PostS Z EL s Q kc ks) T m 0 Ls []) :
    ∃ s₂ o, Steps p.tables e below (T.setTop (entryFrame m args ml)) s₂ ∧ s₂.status = .running ∧ Ended s₂ below o ∧ ∃ v L, o = .returned v ∧ Q v s₂.heap L ∧ CHr Z EL s.vm s.heap s₂.vm s₂.heap ∧ ReturnedEndW s o s₂ L kc ks := by
  rw [q]; exact K
theorem own_ldcS (X : Stand p l e R (s.setVm vm0) m args below meth c T locs cells slots) (hx : p.tables.exec = Jvm.exec) (hZ : Z.Warmed39 (s.setVm vm0).vm) {own text : String} {index : Nat} (hown : (s.setVm vm0).vm.findClass own = some m.cls) (w : (Cond.stringLink own index text).before a0 Z = true) (wS : ∀ a ∈ Bundle.stringAtoms, a.before a0 Z = true)
    (eT : T.heap = h) (hS : s.Since vm0 k0) (hk : k0 ≤ h.size) (hEL : EW Z a0 EL) (hmem : (own, index) ∈ EL) (H : CHv Z EL vm0 h) (vs : List Value) (z : Int32) (ht : (∀ c ∈ text.toList, c.toNat < 256) ∧ text.toList.map (fun c => Value.int (Jvm.Lit.byteI c.toNat.toUInt16)) = vs) (hz : ¬ z < 0) (hl : z.toNatClampNeg = vs.length)
    (hd : decode c.code pc = .ok (.ldc index, 2)) (hp : pc + 2 = pc') (n : Nat) (hn : 4 * text.toList.length ≤ n) (hbig : n ≤ 536870912) {cells' slots' : Nat} (hc' : cells + 2 = cells') (hs' : slots + (n + 4) = slots') (hc : cells' ≤ R.cells) (hl' : slots' ≤ R.slots)
    (K : ∀ a T' h' k1 b k vm1, Stand p l e R (s.setVm vm1) m args below meth c T' locs cells' slots' → T'.heap = h' → Ext h h' → s.Since vm1 k1 → k1 ≤ h'.size → Z.Warmed39 (s.setVm vm1).vm → (s.setVm vm1).vm.findClass own = some m.cls →
      Exa Z h' a "java/lang/String" → Fld Z h' a "java/lang/String" "coder" "B" (.int 0) → Fld Z h' a "java/lang/String" "value" "[B" (.ref b) → Arv Z h' b k .byte z vs (.int 0) → CHr Z EL vm0 h vm1 h' → (∀ x, Safe Z EL vm1 h' x → x ≠ a ∧ x ≠ b) → own_W p e below P T' m pc' Ls (.ref a :: S)) : own_W p e below P T m pc Ls S := by
  subst hp hc' hs'
  obtain ⟨a, T', h', k1, b, k, X', e', E', S', hk', hZ', ho', Ea, Fc, Fv, Av, -, -, C', -, hne, st⟩ := ldcCH X hx hZ hown w wS eT hS hk hEL hmem H ht hz hl (g := mkF m pc Ls S) rfl hd hn hbig hc hl'
  exact own_go st (K a T' h' k1 b k T'.vm X' e' E' S' hk' hZ' ho' Ea Fc Fv Av C' hne)
theorem own_callSS (X : Stand p l e R (s.setVm vm0) m args below meth c T locs cells slots) (hx : p.tables.exec = Jvm.exec) (hZ : Z.Warmed39 (s.setVm vm0).vm) {own : String} {index : Nat} {y : MethodName} {bytes : ByteArray} {maxL : Nat} {ret : Option FieldType} {rm : Room} {Qc : Option Value → Heap → List Loc → Prop} {as' : Array Value} {S' : List Value} (argsL : List Value)
    (hown : (s.setVm vm0).vm.findClass own = some m.cls) (w1 : (Cond.methodLink own index y).before a0 Z = true) (w2 : (Cond.static y).before a0 Z = true) (w3 : (Cond.initialized y.cls).before a0 Z = true) (w4 : (Cond.code y bytes maxL ret).before a0 Z = true) (hy : y.cls ≠ "java/lang/invoke/MethodHandle" ∧ y.cls ≠ "java/lang/invoke/VarHandle")
    (hM : MetFree l y (head1 [Cond.code y bytes maxL ret] rm) (fun a U => a = as' ∧ Z.Warmed39 U.vm ∧ U.heap = h ∧ CHv Z EL U.vm h) (fun _ _ _ _ _ => True) (fun _ U o U' => ∃ v L, o = .returned v ∧ Qc v U'.heap L ∧ CHr Z EL U.vm U.heap U'.vm U'.heap ∧ ReturnedEndW U o U' L rm.cells rm.slots))
    (eT : T.heap = h) (hS : s.Since vm0 k0) (hk : k0 ≤ h.size) (hEL : EW Z a0 EL) (H : CHv Z EL vm0 h) {W cells' slots' : Nat} (hf : rm.frames + 1 ≤ R.frames) (hl : W + (maxL + 11) + rm.locals ≤ R.locals) (hc' : cells + rm.cells = cells') (hs' : slots + rm.slots = slots') (hc : cells' ≤ R.cells) (hs : slots' ≤ R.slots) (hsize : Ls.size = c.maxLocals)
    (hlen : ∀ sig, parseMethodDescriptor y.desc = some sig → argsL.length = sig.parameters.length) (has : argsL.toArray = as') (hstk : S' = argsL.reverse ++ S) (hW : 2 * 0 + (S.map fun v => v.category).sum ≤ W) (hd : decode c.code pc = .ok (.invokestatic index, 3)) (hp : pc + 3 = pc')
    (K : ∀ v T' h' L lc vm1 k1, Stand p l e R (s.setVm vm1) m args below meth c T' lc cells' slots' → T'.heap = h' → s.Since vm1 k1 → k1 ≤ h'.size → Z.Warmed39 (s.setVm vm1).vm → (s.setVm vm1).vm.findClass own = some m.cls → CHr Z EL vm0 h vm1 h' → Qc v h' L → (∀ n0, Fr n0 locs → Fr n0 L → Fr n0 lc) → own_W p e below P T' m pc' Ls (v.toList ++ S)) : own_W p e below P T m pc Ls S' := by
  subst hp hc' hs' eT
  obtain ⟨v, vm₁, ⟨T1, L1, k1, n1⟩, -, X1, S1, g1, ⟨Lc1, hQ1, l1, y1, z1, C1⟩, st1⟩ := callSS X hx hown (mvT hZ w1) (mvT hZ w2) (mvT hZ w3) (mvT hZ w4) hy (backOfSH (s := s) (vm0 := vm0) hM hZ w4 w3 hf hl hEL H) (g := mkF m pc Ls S') rfl hsize (argsL := argsL) (rest := S) hlen hstk hW hd (fun _ _ => ⟨has, rfl, hc, hs⟩)
  dsimp only [Pt.U, Pt.locs, Pt.cells, Pt.slots] at X1 l1 y1 z1 st1 hQ1 S1 g1 C1
  subst l1 y1 z1
  obtain ⟨X2, S2, Z2, o2⟩ := rebS hS hk X1 S1 g1 hZ hown
  exact own_go (fun t k => st1.trans k) (K v T1 _ Lc1 _ _ _ X2 rfl S2 (Nat.le_refl _) Z2 o2 C1 hQ1 fun _ a b => Fr.app a b)
theorem own_callNS (X : Stand p l e R (s.setVm vm0) m args below meth c T locs cells slots) (hx : p.tables.exec = Jvm.exec) (hZ : Z.Warmed39 (s.setVm vm0).vm) {own : String} {index : Nat} {y : MethodName} {bytes : ByteArray} {maxL : Nat} {rm : Room} {Qc : Option Value → Heap → List Loc → Prop} {as' : Array Value} {S' : List Value} (a : Addr) (argsL : List Value) (hy1 : y.name = "<init>")
    (hown : (s.setVm vm0).vm.findClass own = some m.cls) (w1 : (Cond.methodLink own index y).before a0 Z = true) (w2 : (Cond.instanceMethod y).before a0 Z = true) (w3 : (Cond.initialized y.cls).before a0 Z = true) (w4 : (Cond.code y bytes maxL none).before a0 Z = true) (hy : y.cls ≠ "java/lang/invoke/MethodHandle" ∧ y.cls ≠ "java/lang/invoke/VarHandle")
    (hM : MetFree l y (head1 [Cond.code y bytes maxL none] rm) (fun a U => a = as' ∧ Z.Warmed39 U.vm ∧ U.heap = h ∧ CHv Z EL U.vm h) (fun _ _ _ _ _ => True) (fun _ U o U' => ∃ v L, o = .returned v ∧ Qc v U'.heap L ∧ CHr Z EL U.vm U.heap U'.vm U'.heap ∧ ReturnedEndW U o U' L rm.cells rm.slots))
    (eT : T.heap = h) (hS : s.Since vm0 k0) (hk : k0 ≤ h.size) (hEL : EW Z a0 EL) (H : CHv Z EL vm0 h) {W cells' slots' : Nat} (hf : rm.frames + 1 ≤ R.frames) (hl : W + (maxL + 11) + rm.locals ≤ R.locals) (hc' : cells + rm.cells = cells') (hs' : slots + rm.slots = slots') (hc : cells' ≤ R.cells) (hs : slots' ≤ R.slots) (hsize : Ls.size = c.maxLocals)
    (hlen : ∀ sig, parseMethodDescriptor y.desc = some sig → argsL.length = sig.parameters.length) (has : (.ref a :: argsL).toArray = as') (hstk : S' = argsL.reverse ++ .ref a :: S) (hW : 2 * 0 + (S.map fun v => v.category).sum ≤ W) (hd : decode c.code pc = .ok (.invokespecial index, 3)) (hp : pc + 3 = pc')
    (K : ∀ v T' h' L lc vm1 k1, Stand p l e R (s.setVm vm1) m args below meth c T' lc cells' slots' → T'.heap = h' → s.Since vm1 k1 → k1 ≤ h'.size → Z.Warmed39 (s.setVm vm1).vm → (s.setVm vm1).vm.findClass own = some m.cls → CHr Z EL vm0 h vm1 h' → Qc v h' L → (∀ n0, Fr n0 locs → Fr n0 L → Fr n0 lc) → own_W p e below P T' m pc' Ls (v.toList ++ S)) : own_W p e below P T m pc Ls S' := by
  subst hp hc' hs' eT
  obtain ⟨v, vm₁, ⟨T1, L1, k1, n1⟩, -, X1, S1, g1, ⟨Lc1, hQ1, l1, y1, z1, C1⟩, st1⟩ := X.specialBackS hx hy1 hown (mvT hZ w1) (mvT hZ w2) (mvT hZ w4) hy (backOfSH (s := s) (vm0 := vm0) hM hZ w4 w3 hf hl hEL H) (g := mkF m pc Ls S') rfl hsize (Steps.refl _) (a := a) (argsL := argsL) (rest := S) hlen hstk hW hd (fun _ _ => ⟨has, rfl, hc, hs⟩)
  dsimp only [Pt.U, Pt.locs, Pt.cells, Pt.slots] at X1 l1 y1 z1 st1 hQ1 S1 g1 C1
  subst l1 y1 z1
  obtain ⟨X2, S2, Z2, o2⟩ := rebS hS hk X1 S1 g1 hZ hown
  exact own_go (fun t k => st1.trans k) (K v T1 _ Lc1 _ _ _ X2 rfl S2 (Nat.le_refl _) Z2 o2 C1 hQ1 fun _ a b => Fr.app a b)
theorem own_callVS (X : Stand p l e R (s.setVm vm0) m args below meth c T locs cells slots) (hx : p.tables.exec = Jvm.exec) (hZ : Z.Warmed39 (s.setVm vm0).vm) {own C : String} {index : Nat} {y : MethodName} {bytes : ByteArray} {maxL : Nat} {ret : Option FieldType} {rm : Room} {Qc : Option Value → Heap → List Loc → Prop} {as' : Array Value} {S' : List Value} (a : Addr) (argsL : List Value)
    (hown : (s.setVm vm0).vm.findClass own = some m.cls) (w1 : (Cond.methodLink own index y).before a0 Z = true) (w2 : (Cond.declares y).before a0 Z = true) (w5 : (Cond.selects C y y).before a0 Z = true) (w6 : (Cond.instanceMethod y).before a0 Z = true) (w3 : (Cond.initialized y.cls).before a0 Z = true) (w4 : (Cond.code y bytes maxL ret).before a0 Z = true) (hy : y.cls ≠ "java/lang/invoke/MethodHandle" ∧ y.cls ≠ "java/lang/invoke/VarHandle")
    (hM : MetFree l y (head1 [Cond.code y bytes maxL ret] rm) (fun a U => a = as' ∧ Z.Warmed39 U.vm ∧ U.heap = h ∧ CHv Z EL U.vm h) (fun _ _ _ _ _ => True) (fun _ U o U' => ∃ v L, o = .returned v ∧ Qc v U'.heap L ∧ CHr Z EL U.vm U.heap U'.vm U'.heap ∧ ReturnedEndW U o U' L rm.cells rm.slots))
    (E : Exa Z h a C) (eT : T.heap = h) (hS : s.Since vm0 k0) (hk : k0 ≤ h.size) (hEL : EW Z a0 EL) (H : CHv Z EL vm0 h) {W cells' slots' : Nat} (hf : rm.frames + 1 ≤ R.frames) (hl : W + (maxL + 11) + rm.locals ≤ R.locals) (hc' : cells + rm.cells = cells') (hs' : slots + rm.slots = slots') (hc : cells' ≤ R.cells) (hs : slots' ≤ R.slots) (hsize : Ls.size = c.maxLocals)
    (hlen : ∀ sig, parseMethodDescriptor y.desc = some sig → argsL.length = sig.parameters.length) (has : (.ref a :: argsL).toArray = as') (hstk : S' = argsL.reverse ++ .ref a :: S) (hW : 2 * 0 + (S.map fun v => v.category).sum ≤ W) (hd : decode c.code pc = .ok (.invokevirtual index, 3)) (hp : pc + 3 = pc')
    (K : ∀ v T' h' L lc vm1 k1, Stand p l e R (s.setVm vm1) m args below meth c T' lc cells' slots' → T'.heap = h' → s.Since vm1 k1 → k1 ≤ h'.size → Z.Warmed39 (s.setVm vm1).vm → (s.setVm vm1).vm.findClass own = some m.cls → CHr Z EL vm0 h vm1 h' → Qc v h' L → (∀ n0, Fr n0 locs → Fr n0 L → Fr n0 lc) → own_W p e below P T' m pc' Ls (v.toList ++ S)) : own_W p e below P T m pc Ls S' := by
  subst hp hc' hs' eT
  obtain ⟨cq, kq, qa, qb, qc⟩ := isOf hZ rfl E
  obtain ⟨v, vm₁, ⟨T1, L1, k1, n1⟩, -, X1, S1, g1, ⟨Lc1, hQ1, l1, y1, z1, C1⟩, st1⟩ := X.virtualBackS hx hown (mvT hZ w1) (mvT hZ w2) (notFace_of_selects (args := #[]) (mvT hZ w5)) (mvT hZ w5) (mvT hZ w6) hy (backOfSH (s := s) (vm0 := vm0) hM hZ w4 w3 hf hl hEL H) qa qc (g := mkF m pc Ls S') rfl hsize (Steps.refl _) (argsL := argsL) (rest := S) hlen hstk hW hd (fun _ _ => ⟨has, rfl, hc, hs⟩)
  dsimp only [Pt.U, Pt.locs, Pt.cells, Pt.slots] at X1 l1 y1 z1 st1 hQ1 S1 g1 C1
  subst l1 y1 z1
  obtain ⟨X2, S2, Z2, o2⟩ := rebS hS hk X1 S1 g1 hZ hown
  exact own_go (fun t k => st1.trans k) (K v T1 _ Lc1 _ _ _ X2 rfl S2 (Nat.le_refl _) Z2 o2 C1 hQ1 fun _ a b => Fr.app a b)
theorem own_chr (X : Stand p l e R (s.setVm vm0) m args below meth c T locs cells slots) (hZ : Z.Warmed39 (s.setVm vm0).vm) (eT : T.heap = h) (hh : s.heap = h0) (hEL : EW Z a0 EL) (H : CHv Z EL vm0 h) (CR : CHr Z EL s.vm h0 vm0 h) (fs : List Frame) : CHr Z EL s.vm s.heap (T.setFrames fs).vm (T.setFrames fs).heap := by
  have q := CR.trans (CHv.at X hZ hEL H)
  rw [← hh, ← eT] at q
  exact q
theorem own_retIS (X : Stand p l e R (s.setVm vm0) m args below meth c T locs cells slots) (hx : p.tables.exec = Jvm.exec) (hlk : meth.locks = false) (hZ : Z.Warmed39 (s.setVm vm0).vm) (eT : T.heap = h) (hh : s.heap = h0) (hS : s.Since vm0 k0) (hk : k0 ≤ h.size) (hEL : EW Z a0 EL) (H : CHv Z EL vm0 h) (CR : CHr Z EL s.vm h0 vm0 h)
    {t : FieldType} {w w' : Value} (hret : meth.sig.returnType = some t) (hd : decode c.code pc = .ok (.ireturn, 1)) {z : Int32} (hw : w = .int z) (hn : narrow t w = w') (ht : t = .int ∨ t = .boolean ∨ t = .byte ∨ t = .char ∨ t = .short) (hc : cells ≤ kc) (hs : slots ≤ ks) (hq : Q (some w') T.heap locs) : own_W p e below (own_PostS Z EL s Q kc ks) T m pc Ls (w :: S) := by
  subst hw
  obtain ⟨fs, hr, hrun, hended, hW⟩ := X.leaveW hS (by rw [eT]; exact hk) (v := some w') (fun h => by rw [hret] at h; cases h) hlk
  refine ⟨_, _, ?_, hrun, hended, _, _, rfl, hq, own_chr X hZ eT hh hEL H CR fs, own_endW hW hc hs⟩
  have hm' : T.vm.method? m = some meth := X.method'
  show Steps p.tables e below (T.setTop { method := m, pc := pc, locals := Ls, stack := _ :: S, locked := none }) _
  rcases ht with rfl | rfl | rfl | rfl | rfl
  all_goals
    jvm_step X.here [X.here.top, hx, hd, hm', hret, hn]
    first | (intro acts; rw [hr _ acts rfl rfl rfl]) | rw [hr _ _ rfl rfl rfl]
    exact Steps.refl _
theorem own_retAS (X : Stand p l e R (s.setVm vm0) m args below meth c T locs cells slots) (hx : p.tables.exec = Jvm.exec) (hlk : meth.locks = false) (hZ : Z.Warmed39 (s.setVm vm0).vm) (eT : T.heap = h) (hh : s.heap = h0) (hS : s.Since vm0 k0) (hk : k0 ≤ h.size) (hEL : EW Z a0 EL) (H : CHv Z EL vm0 h) (CR : CHr Z EL s.vm h0 vm0 h)
    {t : FieldType} {w : Value} (hret : meth.sig.returnType = some t) (hd : decode c.code pc = .ok (.areturn, 1)) (ht : t.isReference = true) (hw : w.isRef = true) (hn : narrow t w = w) (hc : cells ≤ kc) (hs : slots ≤ ks) (hq : Q (some w) T.heap locs) : own_W p e below (own_PostS Z EL s Q kc ks) T m pc Ls (w :: S) := by
  obtain ⟨fs, hr, hrun, hended, hW⟩ := X.leaveW hS (by rw [eT]; exact hk) (v := some w) (fun h => by rw [hret] at h; cases h) hlk
  exact ⟨_, _, retOut X hx hret hn (Or.inr (Or.inr (Or.inr (Or.inr ⟨rfl, ht, hw⟩)))) hd hr, hrun, hended, _, _, rfl, hq, own_chr X hZ eT hh hEL H CR fs, own_endW hW hc hs⟩
theorem own_ret0S (X : Stand p l e R (s.setVm vm0) m args below meth c T locs cells slots) (hx : p.tables.exec = Jvm.exec) (hlk : meth.locks = false) (hZ : Z.Warmed39 (s.setVm vm0).vm) (eT : T.heap = h) (hh : s.heap = h0) (hS : s.Since vm0 k0) (hk : k0 ≤ h.size) (hEL : EW Z a0 EL) (H : CHv Z EL vm0 h) (CR : CHr Z EL s.vm h0 vm0 h)
    (hret : meth.sig.returnType = none) (hd : decode c.code pc = .ok (.return_, 1)) (hc : cells ≤ kc) (hs : slots ≤ ks) (hq : Q none T.heap locs) : own_W p e below (own_PostS Z EL s Q kc ks) T m pc Ls [] := by
  obtain ⟨fs, hr, hrun, hended, hW⟩ := X.leaveW hS (by rw [eT]; exact hk) (v := none) (fun _ => rfl) hlk
  exact ⟨_, _, X.returnOut hx hret hd hr, hrun, hended, _, _, rfl, hq, own_chr X hZ eT hh hEL H CR fs, own_endW hW hc hs⟩
end OwnKit3
/-- a String under construction (its value is null yet) is no booked literal -/
theorem own_safe_null {Z : State} {EL : List (String × Nat)} {vm : Vm} {h : Heap} {x : Addr} (hal : Z.vm.Alike vm) (E : Exa Z h x "java/lang/String") (F : Fld Z h x "java/lang/String" "value" "[B" .null) : Safe Z EL vm h x := by
  rintro ⟨p, hp, u, a, hb, q, rfl, ⟨cS, ⟨⟨s1, s2, s3, ⟨cv, kv, iv, s4, s4'⟩, ⟨cc, kc, ic, s5, s5'⟩, s6, s7, s8, s9, s10, s11, s12, s13, s14, s15, s16⟩, hfS, hcS⟩, ⟨kS, k1, k2, k3⟩, hB, hbyt⟩, hy⟩
  rcases hy with rfl | rfl
  · obtain ⟨cell, cf, k, i, f, f1, f2, f3, f4, f5, f6, f7⟩ := F
    obtain ⟨kv', z4⟩ := ff_back (Z := Z) (U := Wst Z vm h) hal s4
    have c1 : h[q.sa]? = some q.sC := s1
    cases c1.symm.trans f1
    cases z4.symm.trans f2
    cases s8.symm.trans f7
  · obtain ⟨cell, k, e1, e2, e3, e4, e5⟩ := E
    have c1 : h[q.sd]? = some q.SA := s10
    cases c1.symm.trans e1
    have hfS' : Z.vm.findClass "java/lang/String" = some q.SA.cls := e2
    have hB' : Z.vm.findClass "[B" = some q.SA.cls := by rw [← hal.findClass]; exact hB
    obtain ⟨ka, a1, a2⟩ := Vm.findClass_spec hfS'
    obtain ⟨kb, b1, b2⟩ := Vm.findClass_spec hB'
    cases a1.symm.trans b1
    exact absurd (a2.symm.trans b2) (by decide)
theorem own_arv_at {Z : State} {h : Heap} {a : Addr} {k k' : ClassId} {ty ty' : FieldType} {z z' : Int32} {vs vs' : List Value} {d d' : Value} (A : Arv Z h a k ty z vs d) (B : Arv Z h a k' ty' z' vs' d') (i : Nat) (hi : i < z.toNatClampNeg) : vs.getD i d = vs'.getD i d' := by
  obtain ⟨c1, a1, -, s1, -, h1, -⟩ := A
  obtain ⟨c2, b1, -, s2, -, h2, -⟩ := B
  cases a1.1.symm.trans b1.1
  exact Option.some.inj ((h1 i (by rw [s1]; exact hi)).symm.trans (h2 i (by rw [s1]; exact hi)))
theorem own_fld_at {Z : State} {h : Heap} {a : Addr} {C n d : String} {v w : Value} (F : Fld Z h a C n d v) (G : Fld Z h a C n d w) : v = w := Classical.byContradiction fun q => F.ne G q rfl
def own_EL : List (String × Nat) := consts_1
theorem own_mem_18 : ("java/lang/String", 7) ∈ own_EL := by simp [own_EL, consts_1]
theorem own_txt_18 : (∀ c ∈ "".toList, c.toNat < 256) ∧ "".toList.map (fun c => Value.int (Jvm.Lit.byteI c.toNat.toUInt16)) = [] := by decide +kernel
theorem own_wS {Z : State} {a0 : Array Value} (hw : ∀ d ∈ tables_1, d.before a0 Z = true) : ∀ a ∈ Bundle.stringAtoms, a.before a0 Z = true := by
  intro a ha
  simp only [Bundle.stringAtoms, List.mem_cons, List.not_mem_nil, or_false] at ha
  rcases ha with rfl | rfl | rfl | rfl | rfl | rfl | rfl
  all_goals first | exact (own_w hw 6 rfl) | exact (own_w hw 5 rfl) | exact (own_w hw 19 rfl) | exact (own_w hw 20 rfl) | exact (own_w hw 21 rfl) | exact (own_w hw 22 rfl) | exact (own_w hw 23 rfl)
def own_lat8 (z : Int32) : Prop := 0 ≤ z.toInt ∧ z.toInt ≤ 255
theorem own_le {z : Int32} (h : own_lat8 z) : ¬ (255 : Int32) < z := by
  rw [Int32.lt_iff_toInt_lt]; have e : (255 : Int32).toInt = 255 := by decide
  have := h.2; omega
theorem own_nc {z : Int32} (h : own_lat8 z) : nar .char z = z := by
  have q := c_i2c z
  refine Int32.toInt_inj.mp ?_
  show (z.toUInt32.toUInt16.toUInt32.toInt32).toInt = _
  have := h.1; have := h.2; omega
theorem own_m255 (x : Int32) : own_lat8 (x &&& 255).toUInt32.toUInt16.toUInt32.toInt32 := by
  have q := c_mask x 255 8 (by decide) (by decide)
  have r : own_lat8 (x &&& 255) := by unfold own_lat8; rw [q]; omega
  have e : (x &&& 255).toUInt32.toUInt16.toUInt32.toInt32 = x &&& 255 := own_nc r
  rw [e]; exact r
theorem own_d_jdk_42_method_149_code_0 : decode jdk_42_method_149_code 0 = .ok (.aload_n 0, 1) := by decide +kernel
theorem own_d_jdk_42_method_149_code_1 : decode jdk_42_method_149_code 1 = .ok (.invokespecial 1, 3) := by decide +kernel
theorem own_d_jdk_42_method_149_code_4 : decode jdk_42_method_149_code 4 = .ok (.iload_n 3, 1) := by decide +kernel
theorem own_d_jdk_42_method_149_code_5 : decode jdk_42_method_149_code 5 = .ok (.ifCond .ne 22, 3) := by decide +kernel
theorem own_d_jdk_42_method_149_code_8 : decode jdk_42_method_149_code 8 = .ok (.aload_n 0, 1) := by decide +kernel
theorem own_d_jdk_42_method_149_code_9 : decode jdk_42_method_149_code 9 = .ok (.ldc 7, 2) := by decide +kernel
theorem own_d_jdk_42_method_149_code_11 : decode jdk_42_method_149_code 11 = .ok (.getfield 9, 3) := by decide +kernel
theorem own_d_jdk_42_method_149_code_14 : decode jdk_42_method_149_code 14 = .ok (.putfield 9, 3) := by decide +kernel
theorem own_d_jdk_42_method_149_code_17 : decode jdk_42_method_149_code 17 = .ok (.aload_n 0, 1) := by decide +kernel
theorem own_d_jdk_42_method_149_code_18 : decode jdk_42_method_149_code 18 = .ok (.ldc 7, 2) := by decide +kernel
theorem own_d_jdk_42_method_149_code_20 : decode jdk_42_method_149_code 20 = .ok (.getfield 15, 3) := by decide +kernel
theorem own_d_jdk_42_method_149_code_23 : decode jdk_42_method_149_code 23 = .ok (.putfield 15, 3) := by decide +kernel
theorem own_d_jdk_42_method_149_code_26 : decode jdk_42_method_149_code 26 = .ok (.return_, 1) := by decide +kernel
theorem own_pn_java_lang_String : plainName "java/lang/String" = true := by first | (simp [plainName, overriddenIn]; done) | decide +kernel
theorem ef_iv0 (m : MethodId) (x0 : Addr) (x1 : Addr) (x2 : Int32) (x3 : Int32) : entryFrame m #[(.ref x0), (.ref x1), (.int x2), (.int x3), .null] 6 = mkF m 0 #[.val (.ref x0), .val (.ref x1), .val (.int x2), .val (.int x3), .val .null, .unset] [] := by first | (simp [entryFrame, mkF, argsToLocals, Value.category]; done) | rfl
def Q_iv0 (Z : State) (a1 aq : Addr) (h0 : Heap) (n0 : Nat) (v : Option Value) (h : Heap) (L : List Loc) : Prop := v = none ∧ Fr n0 L ∧ Keep h0 h [a1] ∧ ∃ (b : Addr) (k : ClassId), Fld Z h a1 "java/lang/String" "coder" "B" (.int (0 : Int32)) ∧ Fld Z h a1 "java/lang/String" "value" "[B" (.ref b) ∧ Arv Z h b k .byte (0 : Int32) [] (.int (0 : Int32))
set_option maxRecDepth 65536 in
set_option maxHeartbeats 40000000 in
theorem rm_iv0 (l : Launch) (Z : State) (a0 : Array Value) (hw : ∀ d ∈ tables_1, d.before a0 Z = true) (hEL : EW Z a0 own_EL) (ws : List Jvm.Cond) (a1 aq : Addr) (h0 : Heap) (n0 : Nat) (Z0 : n0 ≤ h0.size) (u1 : Value) (E_a1 : Exa Z h0 a1 "java/lang/String") (F_c : Fld Z h0 a1 "java/lang/String" "coder" "B" u1) (F_v : Fld Z h0 a1 "java/lang/String" "value" "[B" .null) (z_a1 : n0 ≤ a1) :
    MetFree l (⟨"java/lang/String", "<init>", "([CIILjava/lang/Void;)V"⟩ : MethodName) (head1 (Jvm.Cond.code (⟨"java/lang/String", "<init>", "([CIILjava/lang/Void;)V"⟩ : MethodName) jdk_42_method_149_code 6 none :: ws) ({ frames := 1, cells := 4, slots := 8, locals := 12 } : Room)) (fun a U => a = #[(.ref a1), (.ref aq), (.int (0 : Int32)), (.int (0 : Int32)), .null] ∧ Z.Warmed39 U.vm ∧ U.heap = h0 ∧ CHv Z own_EL U.vm h0) (fun _ _ _ _ _ => True) (fun _ U o U' => ∃ v L, o = .returned v ∧ Q_iv0 Z a1 aq h0 n0 v U'.heap L ∧ CHr Z own_EL U.vm U.heap U'.vm U'.heap ∧ ReturnedEndW U o U' L ({ frames := 1, cells := 4, slots := 8, locals := 12 } : Room).cells ({ frames := 1, cells := 4, slots := 8, locals := 12 } : Room).slots) := by
  refine MetFree.of_bodySF (plainFor_of_name own_pn_java_lang_String) hisR ?_
  intro p e s m args below meth c s₁ Bd hml0 hP hK
  obtain ⟨rfl, hZ, hh, H⟩ := hP
  have hx := Bd.exec
  have hby := Bd.bytes
  have hml : c.maxLocals = 6 := hml0
  have hown : s.vm.findClass "java/lang/String" = some m.cls := findClass_of_methodNamed Bd.named
  have hnm := (name_of_methodNamed Bd.named Bd.method).1
  have hlk := Bd.notSynchronized
  obtain ⟨lc, hlc⟩ : ∃ lc : List Loc, lc = [] := ⟨_, rfl⟩
  have X : Stand p l e ({ frames := 1, cells := 4, slots := 8, locals := 12 } : Room) s m #[(.ref a1), (.ref aq), (.int (0 : Int32)), (.int (0 : Int32)), .null] below meth c s₁ lc 0 0 := hlc ▸ Stand.of_body Bd
  have eT : s₁.heap = h0 := by rw [← hh, Bd.state]; rfl
  have N : Fr n0 lc := hlc ▸ Fr.nil n0
  obtain ⟨vm0, hvm⟩ : ∃ v : Vm, v = s.vm := ⟨_, rfl⟩
  have X : Stand p l e ({ frames := 1, cells := 4, slots := 8, locals := 12 } : Room) (s.setVm vm0) m #[(.ref a1), (.ref aq), (.int (0 : Int32)), (.int (0 : Int32)), .null] below meth c s₁ lc 0 0 := by rw [hvm]; exact X
  have hZ : Z.Warmed39 (s.setVm vm0).vm := by rw [hvm]; exact hZ
  have hown : (s.setVm vm0).vm.findClass "java/lang/String" = some m.cls := by rw [hvm]; exact hown
  have hS : s.Since vm0 h0.size := by rw [hvm]; exact (State.WarmedH.refl s).since _
  have hk : h0.size ≤ h0.size := Nat.le_refl _
  have CR : CHr Z own_EL s.vm h0 vm0 h0 := by rw [hvm]; exact CHr.refl H
  have H : CHv Z own_EL vm0 h0 := by rw [hvm]; exact H
  refine own_enterS (ef_iv0 m a1 aq (0 : Int32) (0 : Int32)) ?_
  obtain ⟨T, hT⟩ : ∃ T : State, T = s₁ := ⟨_, rfl⟩
  rw [← hT] at X eT ⊢
  show own_W p e below (own_PostS Z own_EL s (Q_iv0 Z a1 aq h0 n0) 4 8) T m 0 #[.val (.ref a1), .val (.ref aq), .val (.int (0 : Int32)), .val (.int (0 : Int32)), .val .null, .unset] []
  have Kp : Keep h0 h0 [a1] := Keep.refl _ _
  have S_a1 : Safe Z own_EL vm0 h0 a1 := own_safe_null hZ.alike E_a1 F_v
  refine own_aloadN X hx (hb hby own_d_jdk_42_method_149_code_0) (pc' := 1) rfl rfl rfl ?_
  refine own_initO X hx hZ hown (own_w hw 15 rfl) (own_w hw 16 rfl) (own_w hw 17 rfl) eT (by rw [hml]; rfl) (hb hby own_d_jdk_42_method_149_code_1) (pc' := 4) rfl (by decide) (W := 0) (Nat.le_of_eq rfl) (by decide) ?_
  intro T X eT
  refine own_iloadN X hx (hb hby own_d_jdk_42_method_149_code_4) (pc' := 5) rfl rfl ?_
  refine own_ifN X hx (hb hby own_d_jdk_42_method_149_code_5) (pc' := 8) rfl (show (0 : Int32) = (0 : Int32) from (by decide)) ?_
  refine own_aloadN X hx (hb hby own_d_jdk_42_method_149_code_8) (pc' := 9) rfl rfl rfl ?_
  refine own_ldcS X hx hZ hown (own_w hw 18 rfl) (own_wS hw) eT hS hk hEL own_mem_18 H [] (0 : Int32) own_txt_18 (by decide) rfl (hb hby own_d_jdk_42_method_149_code_9) (pc' := 11) rfl 0 (by decide) (by decide) (cells' := 2) (slots' := 4) rfl rfl (by decide) (by decide) ?_
  intro sa1 T h1 k1 sb1 k_sb1 vm0 X eT E hS hk hZ hown E_sa1 FC_sa1 FV_sa1 A_sb1 CQ hne_sa1
  have S_a1 := CQ.safe E_a1.lt S_a1
  have CR := CR.trans CQ
  have H := CQ.1
  have E_a1 := E_a1.ext E
  have F_c := F_c.ext E
  have F_v := F_v.ext E
  have Z0 := Nat.le_trans Z0 E.1
  have Kp := Kp.ext E
  have ne_a1_sa1 := (hne_sa1 _ S_a1).1
  have ne_a1_sb1 := (hne_sa1 _ S_a1).2
  refine own_getF X hx hZ hown (host := "") (Or.inl (own_w hw 24 rfl)) Via.refl eT FV_sa1 (hb hby own_d_jdk_42_method_149_code_11) (pc' := 14) rfl ?_
  intro T X eT
  refine own_putF X hx hZ hown (own_w hw 24 rfl) Via.refl eT F_v E_a1 (Or.inr ⟨(own_w hw 20 rfl), rfl, hnm⟩) (own_w hw 5 rfl) (ty := (.array .byte)) (v' := (.ref sb1)) (by decide) rfl rfl (hb hby own_d_jdk_42_method_149_code_14) (pc' := 17) rfl ?_
  intro T h2 lc X eT Wq fN
  have sfa : Safe Z own_EL vm0 _ a1 := S_a1
  have S_a1 := Safe.wr Wq sfa H S_a1
  have CR := CR.trans (CHr.wr Wq sfa H)
  have H := H.wr Wq sfa
  have hk := Nat.le_trans hk (Keep.of_wr Wq).1
  have F_v := F_v.same Wq
  have E_a1 := E_a1.wr Wq
  have F_c := F_c.other Wq (Or.inr (slot_ne (Or.inr (own_w hw 21 rfl)) (Or.inr (own_w hw 20 rfl)) (by decide) (t := .byte) (t' := (.array .byte)) (by decide) (by decide)))
  have E_sa1 := E_sa1.wr Wq
  have FC_sa1 := FC_sa1.other Wq (Or.inl (Ne.symm ne_a1_sa1))
  have FV_sa1 := FV_sa1.other Wq (Or.inl (Ne.symm ne_a1_sa1))
  have A_sb1 := A_sb1.other Wq (Ne.symm ne_a1_sb1)
  have Z0 := Nat.le_trans Z0 (Keep.of_wr Wq).1
  have N := fN _ z_a1 N
  have Kp := Kp.wr Wq (Or.inl (List.mem_of_getElem? (i := 0) rfl))
  refine own_aloadN X hx (hb hby own_d_jdk_42_method_149_code_17) (pc' := 18) rfl rfl rfl ?_
  refine own_ldcS X hx hZ hown (own_w hw 18 rfl) (own_wS hw) eT hS hk hEL own_mem_18 H [] (0 : Int32) own_txt_18 (by decide) rfl (hb hby own_d_jdk_42_method_149_code_18) (pc' := 20) rfl 0 (by decide) (by decide) (cells' := 4) (slots' := 8) rfl rfl (by decide) (by decide) ?_
  intro sa3 T h3 k1 sb3 k_sb3 vm0 X eT E hS hk hZ hown E_sa3 FC_sa3 FV_sa3 A_sb3 CQ hne_sa3
  have S_a1 := CQ.safe E_a1.lt S_a1
  have CR := CR.trans CQ
  have H := CQ.1
  have E_a1 := E_a1.ext E
  have F_c := F_c.ext E
  have E_sa1 := E_sa1.ext E
  have FC_sa1 := FC_sa1.ext E
  have FV_sa1 := FV_sa1.ext E
  have A_sb1 := A_sb1.ext E
  have F_v := F_v.ext E
  have Z0 := Nat.le_trans Z0 E.1
  have Kp := Kp.ext E
  have ne_a1_sa3 := (hne_sa3 _ S_a1).1
  have ne_a1_sb3 := (hne_sa3 _ S_a1).2
  refine own_getF X hx hZ hown (host := "") (Or.inl (own_w hw 25 rfl)) Via.refl eT FC_sa3 (hb hby own_d_jdk_42_method_149_code_20) (pc' := 23) rfl ?_
  intro T X eT
  refine own_putF X hx hZ hown (own_w hw 25 rfl) Via.refl eT F_c E_a1 (Or.inr ⟨(own_w hw 21 rfl), rfl, hnm⟩) (own_w hw 5 rfl) (ty := .byte) (v' := (.int (0 : Int32))) (by decide) rfl rfl (hb hby own_d_jdk_42_method_149_code_23) (pc' := 26) rfl ?_
  intro T h4 lc X eT Wq fN
  have sfa : Safe Z own_EL vm0 _ a1 := S_a1
  have S_a1 := Safe.wr Wq sfa H S_a1
  have CR := CR.trans (CHr.wr Wq sfa H)
  have H := H.wr Wq sfa
  have hk := Nat.le_trans hk (Keep.of_wr Wq).1
  have F_c := F_c.same Wq
  have E_a1 := E_a1.wr Wq
  have E_sa1 := E_sa1.wr Wq
  have FC_sa1 := FC_sa1.other Wq (Or.inl (Ne.symm ne_a1_sa1))
  have FV_sa1 := FV_sa1.other Wq (Or.inl (Ne.symm ne_a1_sa1))
  have A_sb1 := A_sb1.other Wq (Ne.symm ne_a1_sb1)
  have F_v := F_v.other Wq (Or.inr (slot_ne (Or.inr (own_w hw 20 rfl)) (Or.inr (own_w hw 21 rfl)) (by decide) (t := (.array .byte)) (t' := .byte) (by decide) (by decide)))
  have E_sa3 := E_sa3.wr Wq
  have FC_sa3 := FC_sa3.other Wq (Or.inl (Ne.symm ne_a1_sa3))
  have FV_sa3 := FV_sa3.other Wq (Or.inl (Ne.symm ne_a1_sa3))
  have A_sb3 := A_sb3.other Wq (Ne.symm ne_a1_sb3)
  have Z0 := Nat.le_trans Z0 (Keep.of_wr Wq).1
  have N := fN _ z_a1 N
  have Kp := Kp.wr Wq (Or.inl (List.mem_of_getElem? (i := 0) rfl))
  refine own_ret0S X hx hlk hZ eT hh hS hk hEL H CR Bd.returns (hb hby own_d_jdk_42_method_149_code_26) (by decide) (by decide) ?_
  rw [eT]
  exact ⟨rfl, N, Kp, sb1, _, F_c, F_v, A_sb1⟩
theorem own_d_jdk_42_method_3_code_0 : decode jdk_42_method_3_code 0 = .ok (.aload_n 0, 1) := by decide +kernel
theorem own_d_jdk_42_method_3_code_1 : decode jdk_42_method_3_code 1 = .ok (.aload_n 1, 1) := by decide +kernel
theorem own_d_jdk_42_method_3_code_2 : decode jdk_42_method_3_code 2 = .ok (.iconst 0, 1) := by decide +kernel
theorem own_d_jdk_42_method_3_code_3 : decode jdk_42_method_3_code 3 = .ok (.aload_n 1, 1) := by decide +kernel
theorem own_d_jdk_42_method_3_code_4 : decode jdk_42_method_3_code 4 = .ok (.arraylength, 1) := by decide +kernel
theorem own_d_jdk_42_method_3_code_5 : decode jdk_42_method_3_code 5 = .ok (.aconst_null, 1) := by decide +kernel
theorem own_d_jdk_42_method_3_code_6 : decode jdk_42_method_3_code 6 = .ok (.invokespecial 27, 3) := by decide +kernel
theorem own_pd_285bCIILjava2flang2fVoid3b29V : parseMethodDescriptor "([CIILjava/lang/Void;)V" = some ⟨[(.array .char), .int, .int, (.object "java/lang/Void")], none⟩ := by decide +kernel
theorem own_d_jdk_42_method_3_code_9 : decode jdk_42_method_3_code 9 = .ok (.return_, 1) := by decide +kernel
theorem ef_ic0 (m : MethodId) (x0 : Addr) (x1 : Addr) : entryFrame m #[(.ref x0), (.ref x1)] 2 = mkF m 0 #[.val (.ref x0), .val (.ref x1)] [] := by first | (simp [entryFrame, mkF, argsToLocals, Value.category]; done) | rfl
def Q_ic0 (Z : State) (a1 aq : Addr) (h0 : Heap) (n0 : Nat) (v : Option Value) (h : Heap) (L : List Loc) : Prop := v = none ∧ Fr n0 L ∧ Keep h0 h [a1] ∧ ∃ (b : Addr) (k : ClassId), Fld Z h a1 "java/lang/String" "coder" "B" (.int (0 : Int32)) ∧ Fld Z h a1 "java/lang/String" "value" "[B" (.ref b) ∧ Arv Z h b k .byte (0 : Int32) [] (.int (0 : Int32))
set_option maxRecDepth 65536 in
set_option maxHeartbeats 40000000 in
theorem rm_ic0 (l : Launch) (Z : State) (a0 : Array Value) (hw : ∀ d ∈ tables_1, d.before a0 Z = true) (hEL : EW Z a0 own_EL) (ws : List Jvm.Cond) (a1 aq : Addr) (h0 : Heap) (n0 : Nat) (Z0 : n0 ≤ h0.size) (u1 : Value) (E_a1 : Exa Z h0 a1 "java/lang/String") (F_c : Fld Z h0 a1 "java/lang/String" "coder" "B" u1) (F_v : Fld Z h0 a1 "java/lang/String" "value" "[B" .null) (z_a1 : n0 ≤ a1) (kq : ClassId) (vq : List Value) (A_aq : Arv Z h0 aq kq .char (0 : Int32) vq (.int (0 : Int32))) :
    MetFree l (⟨"java/lang/String", "<init>", "([C)V"⟩ : MethodName) (head1 (Jvm.Cond.code (⟨"java/lang/String", "<init>", "([C)V"⟩ : MethodName) jdk_42_method_3_code 2 none :: ws) ({ frames := 2, cells := 4, slots := 8, locals := 29 } : Room)) (fun a U => a = #[(.ref a1), (.ref aq)] ∧ Z.Warmed39 U.vm ∧ U.heap = h0 ∧ CHv Z own_EL U.vm h0) (fun _ _ _ _ _ => True) (fun _ U o U' => ∃ v L, o = .returned v ∧ Q_ic0 Z a1 aq h0 n0 v U'.heap L ∧ CHr Z own_EL U.vm U.heap U'.vm U'.heap ∧ ReturnedEndW U o U' L ({ frames := 2, cells := 4, slots := 8, locals := 29 } : Room).cells ({ frames := 2, cells := 4, slots := 8, locals := 29 } : Room).slots) := by
  refine MetFree.of_bodySF (plainFor_of_name own_pn_java_lang_String) hisR ?_
  intro p e s m args below meth c s₁ Bd hml0 hP hK
  obtain ⟨rfl, hZ, hh, H⟩ := hP
  have hx := Bd.exec
  have hby := Bd.bytes
  have hml : c.maxLocals = 2 := hml0
  have hown : s.vm.findClass "java/lang/String" = some m.cls := findClass_of_methodNamed Bd.named
  have hnm := (name_of_methodNamed Bd.named Bd.method).1
  have hlk := Bd.notSynchronized
  obtain ⟨lc, hlc⟩ : ∃ lc : List Loc, lc = [] := ⟨_, rfl⟩
  have X : Stand p l e ({ frames := 2, cells := 4, slots := 8, locals := 29 } : Room) s m #[(.ref a1), (.ref aq)] below meth c s₁ lc 0 0 := hlc ▸ Stand.of_body Bd
  have eT : s₁.heap = h0 := by rw [← hh, Bd.state]; rfl
  have N : Fr n0 lc := hlc ▸ Fr.nil n0
  obtain ⟨vm0, hvm⟩ : ∃ v : Vm, v = s.vm := ⟨_, rfl⟩
  have X : Stand p l e ({ frames := 2, cells := 4, slots := 8, locals := 29 } : Room) (s.setVm vm0) m #[(.ref a1), (.ref aq)] below meth c s₁ lc 0 0 := by rw [hvm]; exact X
  have hZ : Z.Warmed39 (s.setVm vm0).vm := by rw [hvm]; exact hZ
  have hown : (s.setVm vm0).vm.findClass "java/lang/String" = some m.cls := by rw [hvm]; exact hown
  have hS : s.Since vm0 h0.size := by rw [hvm]; exact (State.WarmedH.refl s).since _
  have hk : h0.size ≤ h0.size := Nat.le_refl _
  have CR : CHr Z own_EL s.vm h0 vm0 h0 := by rw [hvm]; exact CHr.refl H
  have H : CHv Z own_EL vm0 h0 := by rw [hvm]; exact H
  refine own_enterS (ef_ic0 m a1 aq) ?_
  obtain ⟨T, hT⟩ : ∃ T : State, T = s₁ := ⟨_, rfl⟩
  rw [← hT] at X eT ⊢
  show own_W p e below (own_PostS Z own_EL s (Q_ic0 Z a1 aq h0 n0) 4 8) T m 0 #[.val (.ref a1), .val (.ref aq)] []
  refine own_aloadN X hx (hb hby own_d_jdk_42_method_3_code_0) (pc' := 1) rfl rfl rfl ?_
  refine own_aloadN X hx (hb hby own_d_jdk_42_method_3_code_1) (pc' := 2) rfl rfl rfl ?_
  refine own_iconst X hx (0 : Int32) (hb hby own_d_jdk_42_method_3_code_2) (pc' := 3) rfl rfl ?_
  refine own_aloadN X hx (hb hby own_d_jdk_42_method_3_code_3) (pc' := 4) rfl rfl rfl ?_
  refine own_arrlen X hx hZ eT A_aq (hb hby own_d_jdk_42_method_3_code_4) (pc' := 5) rfl ?_
  refine own_aconst_null X hx (hb hby own_d_jdk_42_method_3_code_5) (pc' := 6) rfl ?_
  refine own_callNS X hx hZ a1 [(.ref aq), (.int (0 : Int32)), (.int (0 : Int32)), .null] rfl hown (own_w hw 11 rfl) (own_w hw 12 rfl) (own_w hw 6 rfl) (own_w hw 14 rfl) (by decide) (rm_iv0 l Z a0 hw hEL [] a1 aq h0 n0 Z0 _ E_a1 F_c F_v z_a1) eT hS hk hEL H (W := 0) (by decide) (by decide) (cells' := 4) (slots' := 8) rfl rfl (by decide) (by decide) (by rw [hml]; rfl) (lenOf own_pd_285bCIILjava2flang2fVoid3b29V rfl) rfl (S := []) rfl (Nat.le_of_eq rfl) (hb hby own_d_jdk_42_method_3_code_6) (pc' := 9) rfl ?_
  intro v T h1 L lc vm0 k1 X eT hS hk hZ hown CQ hq fN
  obtain ⟨rfl, Nq, Kq, bb, kb, F_c2, F_v2, A_bb⟩ := hq
  have N := fN _ N Nq
  have CR := CR.trans CQ
  have H := CQ.1
  show own_W p e below (own_PostS Z own_EL s (Q_ic0 Z a1 aq h0 n0) 4 8) T m 9 #[.val (.ref a1), .val (.ref aq)] []
  refine own_ret0S X hx hlk hZ eT hh hS hk hEL H CR Bd.returns (hb hby own_d_jdk_42_method_3_code_9) (by decide) (by decide) ?_
  rw [eT]
  exact ⟨rfl, N, Kq, bb, kb, F_c2, F_v2, A_bb⟩
theorem own_d_jdk_52_method_21_code_0 : decode jdk_52_method_21_code 0 = .ok (.iconst 0, 1) := by decide +kernel
theorem own_d_jdk_52_method_21_code_1 : decode jdk_52_method_21_code 1 = .ok (.istore 5, 2) := by decide +kernel
theorem own_d_jdk_52_method_21_code_3 : decode jdk_52_method_21_code 3 = .ok (.iload 5, 2) := by decide +kernel
theorem own_d_jdk_52_method_21_code_5 : decode jdk_52_method_21_code 5 = .ok (.iload 4, 2) := by decide +kernel
theorem own_d_jdk_52_method_21_code_7 : decode jdk_52_method_21_code 7 = .ok (.if_icmp .ge 37, 3) := by decide +kernel
theorem own_d_jdk_52_method_21_code_10 : decode jdk_52_method_21_code 10 = .ok (.aload_n 0, 1) := by decide +kernel
theorem own_d_jdk_52_method_21_code_11 : decode jdk_52_method_21_code 11 = .ok (.iload_n 1, 1) := by decide +kernel
theorem own_d_jdk_52_method_21_code_12 : decode jdk_52_method_21_code 12 = .ok (.caload, 1) := by decide +kernel
theorem own_d_jdk_52_method_21_code_13 : decode jdk_52_method_21_code 13 = .ok (.istore 6, 2) := by decide +kernel
theorem own_d_jdk_52_method_21_code_15 : decode jdk_52_method_21_code 15 = .ok (.iload 6, 2) := by decide +kernel
theorem own_d_jdk_52_method_21_code_17 : decode jdk_52_method_21_code 17 = .ok (.sipush 255, 3) := by decide +kernel
theorem own_d_jdk_52_method_21_code_20 : decode jdk_52_method_21_code 20 = .ok (.if_icmp .le 6, 3) := by decide +kernel
theorem own_d_jdk_52_method_21_code_26 : decode jdk_52_method_21_code 26 = .ok (.aload_n 2, 1) := by decide +kernel
theorem own_d_jdk_52_method_21_code_27 : decode jdk_52_method_21_code 27 = .ok (.iload_n 3, 1) := by decide +kernel
theorem own_d_jdk_52_method_21_code_28 : decode jdk_52_method_21_code 28 = .ok (.iload 6, 2) := by decide +kernel
theorem own_d_jdk_52_method_21_code_30 : decode jdk_52_method_21_code 30 = .ok (.i2b, 1) := by decide +kernel
theorem own_d_jdk_52_method_21_code_31 : decode jdk_52_method_21_code 31 = .ok (.bastore, 1) := by decide +kernel
theorem own_d_jdk_52_method_21_code_32 : decode jdk_52_method_21_code 32 = .ok (.iinc 1 1, 3) := by decide +kernel
theorem own_d_jdk_52_method_21_code_35 : decode jdk_52_method_21_code 35 = .ok (.iinc 3 1, 3) := by decide +kernel
theorem own_d_jdk_52_method_21_code_38 : decode jdk_52_method_21_code 38 = .ok (.iinc 5 1, 3) := by decide +kernel
theorem own_d_jdk_52_method_21_code_41 : decode jdk_52_method_21_code 41 = .ok (.goto (-38), 3) := by decide +kernel
theorem own_d_jdk_52_method_21_code_44 : decode jdk_52_method_21_code 44 = .ok (.iload 4, 2) := by decide +kernel
theorem own_d_jdk_52_method_21_code_46 : decode jdk_52_method_21_code 46 = .ok (.ireturn, 1) := by decide +kernel
theorem own_pn_java_lang_StringUTF16 : plainName "java/lang/StringUTF16" = true := by first | (simp [plainName, overriddenIn]; done) | decide +kernel
theorem ef_ci2 (m : MethodId) (x0 : Addr) (x1 : Int32) (x2 : Addr) (x3 : Int32) (x4 : Int32) : entryFrame m #[(.ref x0), (.int x1), (.ref x2), (.int x3), (.int x4)] 7 = mkF m 0 #[.val (.ref x0), .val (.int x1), .val (.ref x2), .val (.int x3), .val (.int x4), .unset, .unset] [] := by first | (simp [entryFrame, mkF, argsToLocals, Value.category]; done) | rfl
def Q_ci2 (Z : State) (aq ad : Addr) (kq kd : ClassId) (d0 d1 : Int32) (h0 : Heap) (n0 : Nat) (v : Option Value) (h : Heap) (L : List Loc) : Prop := v = some (.int (2 : Int32)) ∧ Fr n0 L ∧ Keep h0 h [ad] ∧ Arv Z h ad kd .byte (2 : Int32) [(.int (nar .byte d0.toInt8.toInt32)), (.int (nar .byte d1.toInt8.toInt32))] (.int (0 : Int32))
set_option maxRecDepth 65536 in
set_option maxHeartbeats 40000000 in
theorem rm_ci2 (l : Launch) (Z : State) (a0 : Array Value) (hw : ∀ d ∈ tables_1, d.before a0 Z = true) (ws : List Jvm.Cond) (aq ad : Addr) (kq kd : ClassId) (d0 d1 : Int32) (h0 : Heap) (n0 : Nat) (Z0 : n0 ≤ h0.size) (A_aq : Arv Z h0 aq kq .char (2 : Int32) [(.int d0), (.int d1)] (.int (0 : Int32))) (A_ad : Arv Z h0 ad kd .byte (2 : Int32) [(.int (0 : Int32)), (.int (0 : Int32))] (.int (0 : Int32))) (nqd : aq ≠ ad) (hd0 : ¬ ((255 : Int32) < d0)) (hd1 : ¬ ((255 : Int32) < d1)) (z_ad : n0 ≤ ad) :
    MetFree l (⟨"java/lang/StringUTF16", "compress", "([CI[BII)I"⟩ : MethodName) (head1 (Jvm.Cond.code (⟨"java/lang/StringUTF16", "compress", "([CI[BII)I"⟩ : MethodName) jdk_52_method_21_code 7 (some .int) :: ws) ({ frames := 0, cells := 0, slots := 0, locals := 0 } : Room)) (fun a U => a = #[(.ref aq), (.int (0 : Int32)), (.ref ad), (.int (0 : Int32)), (.int (2 : Int32))] ∧ Z.Warmed39 U.vm ∧ U.heap = h0) (fun _ _ _ _ _ => True) (fun _ U o U' => ∃ v L, o = .returned v ∧ Q_ci2 Z aq ad kq kd d0 d1 h0 n0 v U'.heap L ∧ FrameEnd U o U' L ({ frames := 0, cells := 0, slots := 0, locals := 0 } : Room).cells ({ frames := 0, cells := 0, slots := 0, locals := 0 } : Room).slots) := by
  refine MetFree.of_bodySF (plainFor_of_name own_pn_java_lang_StringUTF16) hisR ?_
  intro p e s m args below meth c s₁ Bd hml0 hP hK
  obtain ⟨rfl, hZ, hh⟩ := hP
  have hx := Bd.exec
  have hby := Bd.bytes
  have hml : c.maxLocals = 7 := hml0
  have hown : s.vm.findClass "java/lang/StringUTF16" = some m.cls := findClass_of_methodNamed Bd.named
  have hnm := (name_of_methodNamed Bd.named Bd.method).1
  have hlk := Bd.notSynchronized
  obtain ⟨lc, hlc⟩ : ∃ lc : List Loc, lc = [] := ⟨_, rfl⟩
  have X : Stand p l e ({ frames := 0, cells := 0, slots := 0, locals := 0 } : Room) s m #[(.ref aq), (.int (0 : Int32)), (.ref ad), (.int (0 : Int32)), (.int (2 : Int32))] below meth c s₁ lc 0 0 := hlc ▸ Stand.of_body Bd
  have eT : s₁.heap = h0 := by rw [← hh, Bd.state]; rfl
  have N : Fr n0 lc := hlc ▸ Fr.nil n0
  refine own_enter (ef_ci2 m aq (0 : Int32) ad (0 : Int32) (2 : Int32)) ?_
  obtain ⟨T, hT⟩ : ∃ T : State, T = s₁ := ⟨_, rfl⟩
  rw [← hT] at X eT ⊢
  show own_W p e below (own_Post s (Q_ci2 Z aq ad kq kd d0 d1 h0 n0) 0 0) T m 0 #[.val (.ref aq), .val (.int (0 : Int32)), .val (.ref ad), .val (.int (0 : Int32)), .val (.int (2 : Int32)), .unset, .unset] []
  have Kp : Keep h0 h0 [ad] := Keep.refl _ _
  refine own_iconst X hx (0 : Int32) (hb hby own_d_jdk_52_method_21_code_0) (pc' := 1) rfl rfl ?_
  refine own_istore X hx (hb hby own_d_jdk_52_method_21_code_1) (pc' := 3) rfl (Ls' := #[.val (.ref aq), .val (.int (0 : Int32)), .val (.ref ad), .val (.int (0 : Int32)), .val (.int (2 : Int32)), .val (.int (0 : Int32)), .unset]) rfl ?_
  refine own_iload X hx (hb hby own_d_jdk_52_method_21_code_3) (pc' := 5) rfl rfl ?_
  refine own_iload X hx (hb hby own_d_jdk_52_method_21_code_5) (pc' := 7) rfl rfl ?_
  refine own_icmpN X hx (hb hby own_d_jdk_52_method_21_code_7) (pc' := 10) rfl (show (0 : Int32) < (2 : Int32) from (by decide)) ?_
  refine own_aloadN X hx (hb hby own_d_jdk_52_method_21_code_10) (pc' := 11) rfl rfl rfl ?_
  refine own_iloadN X hx (hb hby own_d_jdk_52_method_21_code_11) (pc' := 12) rfl rfl ?_
  refine own_caload X hx hZ eT A_aq (v := (.int d0)) (by decide) rfl (hb hby own_d_jdk_52_method_21_code_12) (pc' := 13) rfl ?_
  refine own_istore X hx (hb hby own_d_jdk_52_method_21_code_13) (pc' := 15) rfl (Ls' := #[.val (.ref aq), .val (.int (0 : Int32)), .val (.ref ad), .val (.int (0 : Int32)), .val (.int (2 : Int32)), .val (.int (0 : Int32)), .val (.int d0)]) rfl ?_
  refine own_iload X hx (hb hby own_d_jdk_52_method_21_code_15) (pc' := 17) rfl rfl ?_
  refine own_sipush X hx (255 : Int32) (hb hby own_d_jdk_52_method_21_code_17) (pc' := 20) rfl rfl ?_
  refine own_icmpY X hx (hb hby own_d_jdk_52_method_21_code_20) (by decide) (pc' := 26) rfl (show ¬ ((255 : Int32) < d0) from hd0) ?_
  refine own_aloadN X hx (hb hby own_d_jdk_52_method_21_code_26) (pc' := 27) rfl rfl rfl ?_
  refine own_iloadN X hx (hb hby own_d_jdk_52_method_21_code_27) (pc' := 28) rfl rfl ?_
  refine own_iload X hx (hb hby own_d_jdk_52_method_21_code_28) (pc' := 30) rfl rfl ?_
  refine own_i2b X hx (hb hby own_d_jdk_52_method_21_code_30) (pc' := 31) rfl ?_
  refine own_bastoreB X hx hZ eT A_ad (by decide) 0 rfl (by show 0 < 2; decide) (hb hby own_d_jdk_52_method_21_code_31) (pc' := 32) rfl ?_
  intro T h1 lc X eT Kq A_adn fN
  have A_aq := A_aq.keep Kq (ninS nqd nin0)
  have Z0 := Nat.le_trans Z0 Kq.1
  have A_ad := A_adn
  have N := fN _ z_ad N
  have Kp := Kp.trans Kq (allS (P := fun x => x ∈ [ad] ∨ h0.size ≤ x) (Or.inl (List.mem_of_getElem? (i := 0) rfl)) all0)
  have A_ad : Arv Z h1 ad _ .byte (2 : Int32) [(.int (nar .byte d0.toInt8.toInt32)), (.int (0 : Int32))] (.int (0 : Int32)) := A_ad
  refine own_iinc X hx (1 : Int32) (hb hby own_d_jdk_52_method_21_code_32) (pc' := 35) rfl rfl rfl (Ls' := #[.val (.ref aq), .val (.int (1 : Int32)), .val (.ref ad), .val (.int (0 : Int32)), .val (.int (2 : Int32)), .val (.int (0 : Int32)), .val (.int d0)]) rfl ?_
  refine own_iinc X hx (1 : Int32) (hb hby own_d_jdk_52_method_21_code_35) (pc' := 38) rfl rfl rfl (Ls' := #[.val (.ref aq), .val (.int (1 : Int32)), .val (.ref ad), .val (.int (1 : Int32)), .val (.int (2 : Int32)), .val (.int (0 : Int32)), .val (.int d0)]) rfl ?_
  refine own_iinc X hx (1 : Int32) (hb hby own_d_jdk_52_method_21_code_38) (pc' := 41) rfl rfl rfl (Ls' := #[.val (.ref aq), .val (.int (1 : Int32)), .val (.ref ad), .val (.int (1 : Int32)), .val (.int (2 : Int32)), .val (.int (1 : Int32)), .val (.int d0)]) rfl ?_
  refine own_goto X hx (hb hby own_d_jdk_52_method_21_code_41) (by decide) (pc' := 3) rfl ?_
  refine own_iload X hx (hb hby own_d_jdk_52_method_21_code_3) (pc' := 5) rfl rfl ?_
  refine own_iload X hx (hb hby own_d_jdk_52_method_21_code_5) (pc' := 7) rfl rfl ?_
  refine own_icmpN X hx (hb hby own_d_jdk_52_method_21_code_7) (pc' := 10) rfl (show (1 : Int32) < (2 : Int32) from (by decide)) ?_
  refine own_aloadN X hx (hb hby own_d_jdk_52_method_21_code_10) (pc' := 11) rfl rfl rfl ?_
  refine own_iloadN X hx (hb hby own_d_jdk_52_method_21_code_11) (pc' := 12) rfl rfl ?_
  refine own_caload X hx hZ eT A_aq (v := (.int d1)) (by decide) rfl (hb hby own_d_jdk_52_method_21_code_12) (pc' := 13) rfl ?_
  refine own_istore X hx (hb hby own_d_jdk_52_method_21_code_13) (pc' := 15) rfl (Ls' := #[.val (.ref aq), .val (.int (1 : Int32)), .val (.ref ad), .val (.int (1 : Int32)), .val (.int (2 : Int32)), .val (.int (1 : Int32)), .val (.int d1)]) rfl ?_
  refine own_iload X hx (hb hby own_d_jdk_52_method_21_code_15) (pc' := 17) rfl rfl ?_
  refine own_sipush X hx (255 : Int32) (hb hby own_d_jdk_52_method_21_code_17) (pc' := 20) rfl rfl ?_
  refine own_icmpY X hx (hb hby own_d_jdk_52_method_21_code_20) (by decide) (pc' := 26) rfl (show ¬ ((255 : Int32) < d1) from hd1) ?_
  refine own_aloadN X hx (hb hby own_d_jdk_52_method_21_code_26) (pc' := 27) rfl rfl rfl ?_
  refine own_iloadN X hx (hb hby own_d_jdk_52_method_21_code_27) (pc' := 28) rfl rfl ?_
  refine own_iload X hx (hb hby own_d_jdk_52_method_21_code_28) (pc' := 30) rfl rfl ?_
  refine own_i2b X hx (hb hby own_d_jdk_52_method_21_code_30) (pc' := 31) rfl ?_
  refine own_bastoreB X hx hZ eT A_ad (by decide) 1 rfl (by show 1 < 2; decide) (hb hby own_d_jdk_52_method_21_code_31) (pc' := 32) rfl ?_
  intro T h2 lc X eT Kq A_adn fN
  have A_aq := A_aq.keep Kq (ninS nqd nin0)
  have Z0 := Nat.le_trans Z0 Kq.1
  have A_ad := A_adn
  have N := fN _ z_ad N
  have Kp := Kp.trans Kq (allS (P := fun x => x ∈ [ad] ∨ h0.size ≤ x) (Or.inl (List.mem_of_getElem? (i := 0) rfl)) all0)
  have A_ad : Arv Z h2 ad _ .byte (2 : Int32) [(.int (nar .byte d0.toInt8.toInt32)), (.int (nar .byte d1.toInt8.toInt32))] (.int (0 : Int32)) := A_ad
  refine own_iinc X hx (1 : Int32) (hb hby own_d_jdk_52_method_21_code_32) (pc' := 35) rfl rfl rfl (Ls' := #[.val (.ref aq), .val (.int (2 : Int32)), .val (.ref ad), .val (.int (1 : Int32)), .val (.int (2 : Int32)), .val (.int (1 : Int32)), .val (.int d1)]) rfl ?_
  refine own_iinc X hx (1 : Int32) (hb hby own_d_jdk_52_method_21_code_35) (pc' := 38) rfl rfl rfl (Ls' := #[.val (.ref aq), .val (.int (2 : Int32)), .val (.ref ad), .val (.int (2 : Int32)), .val (.int (2 : Int32)), .val (.int (1 : Int32)), .val (.int d1)]) rfl ?_
  refine own_iinc X hx (1 : Int32) (hb hby own_d_jdk_52_method_21_code_38) (pc' := 41) rfl rfl rfl (Ls' := #[.val (.ref aq), .val (.int (2 : Int32)), .val (.ref ad), .val (.int (2 : Int32)), .val (.int (2 : Int32)), .val (.int (2 : Int32)), .val (.int d1)]) rfl ?_
  refine own_goto X hx (hb hby own_d_jdk_52_method_21_code_41) (by decide) (pc' := 3) rfl ?_
  refine own_iload X hx (hb hby own_d_jdk_52_method_21_code_3) (pc' := 5) rfl rfl ?_
  refine own_iload X hx (hb hby own_d_jdk_52_method_21_code_5) (pc' := 7) rfl rfl ?_
  refine own_icmpY X hx (hb hby own_d_jdk_52_method_21_code_7) (by decide) (pc' := 44) rfl (show ¬ ((2 : Int32) < (2 : Int32)) from (by decide)) ?_
  refine own_iload X hx (hb hby own_d_jdk_52_method_21_code_44) (pc' := 46) rfl rfl ?_
  refine own_retI X hx hlk (t := .int) (w' := (.int (2 : Int32))) Bd.returns (hb hby own_d_jdk_52_method_21_code_46) rfl rfl (by simp) (by decide) (by decide) ?_
  rw [eT]
  exact ⟨rfl, N, Kp, A_ad⟩
theorem own_d_jdk_52_method_16_code_0 : decode jdk_52_method_16_code 0 = .ok (.iload_n 2, 1) := by decide +kernel
theorem own_d_jdk_52_method_16_code_1 : decode jdk_52_method_16_code 1 = .ok (.newarray .byte, 2) := by decide +kernel
theorem own_d_jdk_52_method_16_code_3 : decode jdk_52_method_16_code 3 = .ok (.astore_n 3, 1) := by decide +kernel
theorem own_d_jdk_52_method_16_code_4 : decode jdk_52_method_16_code 4 = .ok (.aload_n 0, 1) := by decide +kernel
theorem own_d_jdk_52_method_16_code_5 : decode jdk_52_method_16_code 5 = .ok (.iload_n 1, 1) := by decide +kernel
theorem own_d_jdk_52_method_16_code_6 : decode jdk_52_method_16_code 6 = .ok (.aload_n 3, 1) := by decide +kernel
theorem own_d_jdk_52_method_16_code_7 : decode jdk_52_method_16_code 7 = .ok (.iconst 0, 1) := by decide +kernel
theorem own_d_jdk_52_method_16_code_8 : decode jdk_52_method_16_code 8 = .ok (.iload_n 2, 1) := by decide +kernel
theorem own_d_jdk_52_method_16_code_9 : decode jdk_52_method_16_code 9 = .ok (.invokestatic 115, 3) := by decide +kernel
theorem own_pd_285bCI5bBII29I : parseMethodDescriptor "([CI[BII)I" = some ⟨[(.array .char), .int, (.array .byte), .int, .int], some .int⟩ := by decide +kernel
theorem own_d_jdk_52_method_16_code_12 : decode jdk_52_method_16_code 12 = .ok (.istore 4, 2) := by decide +kernel
theorem own_d_jdk_52_method_16_code_14 : decode jdk_52_method_16_code 14 = .ok (.iload 4, 2) := by decide +kernel
theorem own_d_jdk_52_method_16_code_16 : decode jdk_52_method_16_code 16 = .ok (.iload_n 2, 1) := by decide +kernel
theorem own_d_jdk_52_method_16_code_17 : decode jdk_52_method_16_code 17 = .ok (.if_icmp .eq 40, 3) := by decide +kernel
theorem own_d_jdk_52_method_16_code_57 : decode jdk_52_method_16_code 57 = .ok (.aload_n 3, 1) := by decide +kernel
theorem own_d_jdk_52_method_16_code_58 : decode jdk_52_method_16_code 58 = .ok (.areturn, 1) := by decide +kernel
theorem ef_cc2 (m : MethodId) (x0 : Addr) (x1 : Int32) (x2 : Int32) : entryFrame m #[(.ref x0), (.int x1), (.int x2)] 6 = mkF m 0 #[.val (.ref x0), .val (.int x1), .val (.int x2), .unset, .unset, .unset] [] := by first | (simp [entryFrame, mkF, argsToLocals, Value.category]; done) | rfl
def Q_cc2 (Z : State) (aq : Addr) (kq : ClassId) (d0 d1 : Int32) (h0 : Heap) (n0 : Nat) (v : Option Value) (h : Heap) (L : List Loc) : Prop := ∃ (b : Addr) (kb : ClassId), v = some (.ref b) ∧ Fr n0 L ∧ Keep h0 h [] ∧ h0.size ≤ b ∧ Arv Z h b kb .byte (2 : Int32) [(.int (nar .byte d0.toInt8.toInt32)), (.int (nar .byte d1.toInt8.toInt32))] (.int (0 : Int32))
set_option maxRecDepth 65536 in
set_option maxHeartbeats 40000000 in
theorem rm_cc2 (l : Launch) (Z : State) (a0 : Array Value) (hw : ∀ d ∈ tables_1, d.before a0 Z = true) (ws : List Jvm.Cond) (aq : Addr) (kq : ClassId) (d0 d1 : Int32) (h0 : Heap) (n0 : Nat) (Z0 : n0 ≤ h0.size) (A_aq : Arv Z h0 aq kq .char (2 : Int32) [(.int d0), (.int d1)] (.int (0 : Int32))) (hd0 : ¬ ((255 : Int32) < d0)) (hd1 : ¬ ((255 : Int32) < d1)) :
    MetFree l (⟨"java/lang/StringUTF16", "compress", "([CII)[B"⟩ : MethodName) (head1 (Jvm.Cond.code (⟨"java/lang/StringUTF16", "compress", "([CII)[B"⟩ : MethodName) jdk_52_method_16_code 6 (some (.array .byte)) :: ws) ({ frames := 1, cells := 1, slots := 2, locals := 18 } : Room)) (fun a U => a = #[(.ref aq), (.int (0 : Int32)), (.int (2 : Int32))] ∧ Z.Warmed39 U.vm ∧ U.heap = h0) (fun _ _ _ _ _ => True) (fun _ U o U' => ∃ v L, o = .returned v ∧ Q_cc2 Z aq kq d0 d1 h0 n0 v U'.heap L ∧ FrameEnd U o U' L ({ frames := 1, cells := 1, slots := 2, locals := 18 } : Room).cells ({ frames := 1, cells := 1, slots := 2, locals := 18 } : Room).slots) := by
  refine MetFree.of_bodySF (plainFor_of_name own_pn_java_lang_StringUTF16) hisR ?_
  intro p e s m args below meth c s₁ Bd hml0 hP hK
  obtain ⟨rfl, hZ, hh⟩ := hP
  have hx := Bd.exec
  have hby := Bd.bytes
  have hml : c.maxLocals = 6 := hml0
  have hown : s.vm.findClass "java/lang/StringUTF16" = some m.cls := findClass_of_methodNamed Bd.named
  have hnm := (name_of_methodNamed Bd.named Bd.method).1
  have hlk := Bd.notSynchronized
  obtain ⟨lc, hlc⟩ : ∃ lc : List Loc, lc = [] := ⟨_, rfl⟩
  have X : Stand p l e ({ frames := 1, cells := 1, slots := 2, locals := 18 } : Room) s m #[(.ref aq), (.int (0 : Int32)), (.int (2 : Int32))] below meth c s₁ lc 0 0 := hlc ▸ Stand.of_body Bd
  have eT : s₁.heap = h0 := by rw [← hh, Bd.state]; rfl
  have N : Fr n0 lc := hlc ▸ Fr.nil n0
  refine own_enter (ef_cc2 m aq (0 : Int32) (2 : Int32)) ?_
  obtain ⟨T, hT⟩ : ∃ T : State, T = s₁ := ⟨_, rfl⟩
  rw [← hT] at X eT ⊢
  show own_W p e below (own_Post s (Q_cc2 Z aq kq d0 d1 h0 n0) 1 2) T m 0 #[.val (.ref aq), .val (.int (0 : Int32)), .val (.int (2 : Int32)), .unset, .unset, .unset] []
  have Kp : Keep h0 h0 [] := Keep.refl _ _
  refine own_iloadN X hx (hb hby own_d_jdk_52_method_16_code_0) (pc' := 1) rfl rfl ?_
  refine own_newarr X hx hZ (own_w hw 19 rfl) eT (hb hby own_d_jdk_52_method_16_code_1) (pc' := 3) rfl (by decide) 2 (by decide) (by decide) (cells' := 1) (slots' := 2) rfl rfl (by decide) (by decide) ?_
  intro T h1 k_b1 b1 X eT E gb1 A_b1
  have lt_aq_b1 : aq < b1 := Nat.lt_of_lt_of_le A_aq.lt (Nat.le_of_eq gb1.symm)
  have ne_aq_b1 : aq ≠ b1 := Nat.ne_of_lt lt_aq_b1
  have z_b1 : n0 ≤ b1 := Nat.le_trans Z0 (Nat.le_of_eq gb1.symm)
  have s_b1 : h0.size ≤ b1 := Nat.le_trans Kp.1 (Nat.le_of_eq gb1.symm)
  have A_aq := A_aq.ext E
  have Z0 := Nat.le_trans Z0 E.1
  have Kp := Kp.ext E
  have A_b1 : Arv Z h1 b1 k_b1 .byte (2 : Int32) [(.int (0 : Int32)), (.int (0 : Int32))] (.int (0 : Int32)) := A_b1.pad (pad_rep [] (.int (0 : Int32)) 2)
  refine own_astoreN X hx (hb hby own_d_jdk_52_method_16_code_3) (pc' := 4) rfl rfl (Ls' := #[.val (.ref aq), .val (.int (0 : Int32)), .val (.int (2 : Int32)), .val (.ref b1), .unset, .unset]) rfl ?_
  refine own_aloadN X hx (hb hby own_d_jdk_52_method_16_code_4) (pc' := 5) rfl rfl rfl ?_
  refine own_iloadN X hx (hb hby own_d_jdk_52_method_16_code_5) (pc' := 6) rfl rfl ?_
  refine own_aloadN X hx (hb hby own_d_jdk_52_method_16_code_6) (pc' := 7) rfl rfl rfl ?_
  refine own_iconst X hx (0 : Int32) (hb hby own_d_jdk_52_method_16_code_7) (pc' := 8) rfl rfl ?_
  refine own_iloadN X hx (hb hby own_d_jdk_52_method_16_code_8) (pc' := 9) rfl rfl ?_
  refine own_callS X hx hZ [(.ref aq), (.int (0 : Int32)), (.ref b1), (.int (0 : Int32)), (.int (2 : Int32))] hown (own_w hw 101 rfl) (own_w hw 102 rfl) (own_w hw 99 rfl) (own_w hw 103 rfl) (by decide) (rm_ci2 l Z a0 hw [] aq b1 _ _ d0 d1 h1 n0 Z0 A_aq A_b1 ne_aq_b1 hd0 hd1 z_b1) eT (W := 0) (by decide) (by decide) (cells' := 1) (slots' := 2) rfl rfl (by decide) (by decide) (by rw [hml]; rfl) (lenOf own_pd_285bCI5bBII29I rfl) rfl (S := []) rfl (Nat.le_of_eq rfl) (hb hby own_d_jdk_52_method_16_code_9) (pc' := 12) rfl ?_
  intro v T h2 L lc X eT hq fN
  obtain ⟨rfl, Nq, Kq, B_b1⟩ := hq
  have N := fN _ N Nq
  have A_aq := A_aq.keep Kq (ninS ne_aq_b1 nin0)
  have Z0 := Nat.le_trans Z0 Kq.1
  have Kp := Kp.trans Kq (allS (P := fun x => x ∈ ([] : List Addr) ∨ h0.size ≤ x) (Or.inr s_b1) all0)
  show own_W p e below (own_Post s (Q_cc2 Z aq kq d0 d1 h0 n0) 1 2) T m 12 #[.val (.ref aq), .val (.int (0 : Int32)), .val (.int (2 : Int32)), .val (.ref b1), .unset, .unset] [(.int (2 : Int32))]
  refine own_istore X hx (hb hby own_d_jdk_52_method_16_code_12) (pc' := 14) rfl (Ls' := #[.val (.ref aq), .val (.int (0 : Int32)), .val (.int (2 : Int32)), .val (.ref b1), .val (.int (2 : Int32)), .unset]) rfl ?_
  refine own_iload X hx (hb hby own_d_jdk_52_method_16_code_14) (pc' := 16) rfl rfl ?_
  refine own_iloadN X hx (hb hby own_d_jdk_52_method_16_code_16) (pc' := 17) rfl rfl ?_
  refine own_icmpY X hx (hb hby own_d_jdk_52_method_16_code_17) (by decide) (pc' := 57) rfl (show (2 : Int32) = (2 : Int32) from (by decide)) ?_
  refine own_aloadN X hx (hb hby own_d_jdk_52_method_16_code_57) (pc' := 58) rfl rfl rfl ?_
  refine own_retA X hx hlk Bd.returns (hb hby own_d_jdk_52_method_16_code_58) rfl rfl rfl (by decide) (by decide) ?_
  rw [eT]
  exact ⟨_, _, rfl, N, Kp, s_b1, B_b1⟩
theorem own_d_jdk_52_method_15_code_0 : decode jdk_52_method_15_code 0 = .ok (.iload_n 1, 1) := by decide +kernel
theorem own_d_jdk_52_method_15_code_1 : decode jdk_52_method_15_code 1 = .ok (.aload_n 0, 1) := by decide +kernel
theorem own_d_jdk_52_method_15_code_2 : decode jdk_52_method_15_code 2 = .ok (.arraylength, 1) := by decide +kernel
theorem own_d_jdk_52_method_15_code_3 : decode jdk_52_method_15_code 3 = .ok (.isub, 1) := by decide +kernel
theorem own_d_jdk_52_method_15_code_4 : decode jdk_52_method_15_code 4 = .ok (.bipush 31, 2) := by decide +kernel
theorem own_d_jdk_52_method_15_code_6 : decode jdk_52_method_15_code 6 = .ok (.iushr, 1) := by decide +kernel
theorem own_d_jdk_52_method_15_code_7 : decode jdk_52_method_15_code 7 = .ok (.i2b, 1) := by decide +kernel
theorem own_d_jdk_52_method_15_code_8 : decode jdk_52_method_15_code 8 = .ok (.ireturn, 1) := by decide +kernel
theorem ef_cf2 (m : MethodId) (x0 : Addr) (x1 : Int32) : entryFrame m #[(.ref x0), (.int x1)] 2 = mkF m 0 #[.val (.ref x0), .val (.int x1)] [] := by first | (simp [entryFrame, mkF, argsToLocals, Value.category]; done) | rfl
def Q_cf2 (Z : State) (b : Addr) (h0 : Heap) (n0 : Nat) (v : Option Value) (h : Heap) (L : List Loc) : Prop := v = some (.int (0 : Int32)) ∧ Fr n0 L ∧ h = h0
set_option maxRecDepth 65536 in
set_option maxHeartbeats 40000000 in
theorem rm_cf2 (l : Launch) (Z : State) (a0 : Array Value) (hw : ∀ d ∈ tables_1, d.before a0 Z = true) (ws : List Jvm.Cond) (b : Addr) (h0 : Heap) (n0 : Nat) (Z0 : n0 ≤ h0.size) (k : ClassId) (vs : List Value) (A_b : Arv Z h0 b k .byte (2 : Int32) vs (.int (0 : Int32))) :
    MetFree l (⟨"java/lang/StringUTF16", "coderFromArrayLen", "([BI)B"⟩ : MethodName) (head1 (Jvm.Cond.code (⟨"java/lang/StringUTF16", "coderFromArrayLen", "([BI)B"⟩ : MethodName) jdk_52_method_15_code 2 (some .byte) :: ws) ({ frames := 0, cells := 0, slots := 0, locals := 0 } : Room)) (fun a U => a = #[(.ref b), (.int (2 : Int32))] ∧ Z.Warmed39 U.vm ∧ U.heap = h0) (fun _ _ _ _ _ => True) (fun _ U o U' => ∃ v L, o = .returned v ∧ Q_cf2 Z b h0 n0 v U'.heap L ∧ FrameEnd U o U' L ({ frames := 0, cells := 0, slots := 0, locals := 0 } : Room).cells ({ frames := 0, cells := 0, slots := 0, locals := 0 } : Room).slots) := by
  refine MetFree.of_bodySF (plainFor_of_name own_pn_java_lang_StringUTF16) hisR ?_
  intro p e s m args below meth c s₁ Bd hml0 hP hK
  obtain ⟨rfl, hZ, hh⟩ := hP
  have hx := Bd.exec
  have hby := Bd.bytes
  have hml : c.maxLocals = 2 := hml0
  have hown : s.vm.findClass "java/lang/StringUTF16" = some m.cls := findClass_of_methodNamed Bd.named
  have hnm := (name_of_methodNamed Bd.named Bd.method).1
  have hlk := Bd.notSynchronized
  obtain ⟨lc, hlc⟩ : ∃ lc : List Loc, lc = [] := ⟨_, rfl⟩
  have X : Stand p l e ({ frames := 0, cells := 0, slots := 0, locals := 0 } : Room) s m #[(.ref b), (.int (2 : Int32))] below meth c s₁ lc 0 0 := hlc ▸ Stand.of_body Bd
  have eT : s₁.heap = h0 := by rw [← hh, Bd.state]; rfl
  have N : Fr n0 lc := hlc ▸ Fr.nil n0
  refine own_enter (ef_cf2 m b (2 : Int32)) ?_
  obtain ⟨T, hT⟩ : ∃ T : State, T = s₁ := ⟨_, rfl⟩
  rw [← hT] at X eT ⊢
  show own_W p e below (own_Post s (Q_cf2 Z b h0 n0) 0 0) T m 0 #[.val (.ref b), .val (.int (2 : Int32))] []
  refine own_iloadN X hx (hb hby own_d_jdk_52_method_15_code_0) (pc' := 1) rfl rfl ?_
  refine own_aloadN X hx (hb hby own_d_jdk_52_method_15_code_1) (pc' := 2) rfl rfl rfl ?_
  refine own_arrlen X hx hZ eT A_b (hb hby own_d_jdk_52_method_15_code_2) (pc' := 3) rfl ?_
  refine own_isub X hx (hb hby own_d_jdk_52_method_15_code_3) (pc' := 4) rfl ?_
  refine own_bipush X hx (31 : Int32) (hb hby own_d_jdk_52_method_15_code_4) (pc' := 6) rfl rfl ?_
  refine own_iushr X hx (hb hby own_d_jdk_52_method_15_code_6) (pc' := 7) rfl ?_
  refine own_i2b X hx (hb hby own_d_jdk_52_method_15_code_7) (pc' := 8) rfl ?_
  refine own_retI X hx hlk (t := .byte) (w' := (.int (0 : Int32))) Bd.returns (hb hby own_d_jdk_52_method_15_code_8) rfl rfl (by simp) (by decide) (by decide) ?_
  rw [eT]
  exact ⟨rfl, N, rfl⟩
theorem own_d_jdk_42_method_149_code_27 : decode jdk_42_method_149_code 27 = .ok (.getstatic 38, 3) := by decide +kernel
theorem own_d_jdk_42_method_149_code_30 : decode jdk_42_method_149_code 30 = .ok (.ifCond .eq 28, 3) := by decide +kernel
theorem own_d_jdk_42_method_149_code_33 : decode jdk_42_method_149_code 33 = .ok (.aload_n 1, 1) := by decide +kernel
theorem own_d_jdk_42_method_149_code_34 : decode jdk_42_method_149_code 34 = .ok (.iload_n 2, 1) := by decide +kernel
theorem own_d_jdk_42_method_149_code_35 : decode jdk_42_method_149_code 35 = .ok (.iload_n 3, 1) := by decide +kernel
theorem own_d_jdk_42_method_149_code_36 : decode jdk_42_method_149_code 36 = .ok (.invokestatic 177, 3) := by decide +kernel
theorem own_pd_285bCII295bB : parseMethodDescriptor "([CII)[B" = some ⟨[(.array .char), .int, .int], some (.array .byte)⟩ := by decide +kernel
theorem own_d_jdk_42_method_149_code_39 : decode jdk_42_method_149_code 39 = .ok (.astore 5, 2) := by decide +kernel
theorem own_d_jdk_42_method_149_code_41 : decode jdk_42_method_149_code 41 = .ok (.aload_n 0, 1) := by decide +kernel
theorem own_d_jdk_42_method_149_code_42 : decode jdk_42_method_149_code 42 = .ok (.aload 5, 2) := by decide +kernel
theorem own_d_jdk_42_method_149_code_44 : decode jdk_42_method_149_code 44 = .ok (.iload_n 3, 1) := by decide +kernel
theorem own_d_jdk_42_method_149_code_45 : decode jdk_42_method_149_code 45 = .ok (.invokestatic 47, 3) := by decide +kernel
theorem own_pd_285bBI29B : parseMethodDescriptor "([BI)B" = some ⟨[(.array .byte), .int], some .byte⟩ := by decide +kernel
theorem own_d_jdk_42_method_149_code_48 : decode jdk_42_method_149_code 48 = .ok (.putfield 15, 3) := by decide +kernel
theorem own_d_jdk_42_method_149_code_51 : decode jdk_42_method_149_code 51 = .ok (.aload_n 0, 1) := by decide +kernel
theorem own_d_jdk_42_method_149_code_52 : decode jdk_42_method_149_code 52 = .ok (.aload 5, 2) := by decide +kernel
theorem own_d_jdk_42_method_149_code_54 : decode jdk_42_method_149_code 54 = .ok (.putfield 9, 3) := by decide +kernel
theorem own_d_jdk_42_method_149_code_57 : decode jdk_42_method_149_code 57 = .ok (.return_, 1) := by decide +kernel
theorem ef_iv2 (m : MethodId) (x0 : Addr) (x1 : Addr) (x2 : Int32) (x3 : Int32) : entryFrame m #[(.ref x0), (.ref x1), (.int x2), (.int x3), .null] 6 = mkF m 0 #[.val (.ref x0), .val (.ref x1), .val (.int x2), .val (.int x3), .val .null, .unset] [] := by first | (simp [entryFrame, mkF, argsToLocals, Value.category]; done) | rfl
def Q_iv2 (Z : State) (a1 aq : Addr) (kq : ClassId) (cs : Int32) (d0 d1 : Int32) (h0 : Heap) (n0 : Nat) (v : Option Value) (h : Heap) (L : List Loc) : Prop := v = none ∧ Fr n0 L ∧ Keep h0 h [a1] ∧ ∃ (b : Addr) (k : ClassId), h0.size ≤ b ∧ Fld Z h a1 "java/lang/String" "coder" "B" (.int (0 : Int32)) ∧ Fld Z h a1 "java/lang/String" "value" "[B" (.ref b) ∧ Arv Z h b k .byte (2 : Int32) [(.int (nar .byte d0.toInt8.toInt32)), (.int (nar .byte d1.toInt8.toInt32))] (.int (0 : Int32))
set_option maxRecDepth 65536 in
set_option maxHeartbeats 40000000 in
theorem rm_iv2 (l : Launch) (Z : State) (a0 : Array Value) (hw : ∀ d ∈ tables_1, d.before a0 Z = true) (ws : List Jvm.Cond) (a1 aq : Addr) (kq : ClassId) (cs : Int32) (d0 d1 : Int32) (h0 : Heap) (n0 : Nat) (Z0 : n0 ≤ h0.size) (S_C : Sta Z h0 "java/lang/String" "COMPACT_STRINGS" "Z" (.int cs)) (hcs : ¬ cs = 0) (u1 u2 : Value) (E_a1 : Exa Z h0 a1 "java/lang/String") (F_c : Fld Z h0 a1 "java/lang/String" "coder" "B" u1) (F_v : Fld Z h0 a1 "java/lang/String" "value" "[B" u2) (A_aq : Arv Z h0 aq kq .char (2 : Int32) [(.int d0), (.int d1)] (.int (0 : Int32))) (n1q : a1 ≠ aq) (hd0 : ¬ ((255 : Int32) < d0)) (hd1 : ¬ ((255 : Int32) < d1)) (z_a1 : n0 ≤ a1) :
    MetFree l (⟨"java/lang/String", "<init>", "([CIILjava/lang/Void;)V"⟩ : MethodName) (head1 (Jvm.Cond.code (⟨"java/lang/String", "<init>", "([CIILjava/lang/Void;)V"⟩ : MethodName) jdk_42_method_149_code 6 none :: ws) ({ frames := 2, cells := 1, slots := 2, locals := 35 } : Room)) (fun a U => a = #[(.ref a1), (.ref aq), (.int (0 : Int32)), (.int (2 : Int32)), .null] ∧ Z.Warmed39 U.vm ∧ U.heap = h0) (fun _ _ _ _ _ => True) (fun _ U o U' => ∃ v L, o = .returned v ∧ Q_iv2 Z a1 aq kq cs d0 d1 h0 n0 v U'.heap L ∧ FrameEnd U o U' L ({ frames := 2, cells := 1, slots := 2, locals := 35 } : Room).cells ({ frames := 2, cells := 1, slots := 2, locals := 35 } : Room).slots) := by
  refine MetFree.of_bodySF (plainFor_of_name own_pn_java_lang_String) hisR ?_
  intro p e s m args below meth c s₁ Bd hml0 hP hK
  obtain ⟨rfl, hZ, hh⟩ := hP
  have hx := Bd.exec
  have hby := Bd.bytes
  have hml : c.maxLocals = 6 := hml0
  have hown : s.vm.findClass "java/lang/String" = some m.cls := findClass_of_methodNamed Bd.named
  have hnm := (name_of_methodNamed Bd.named Bd.method).1
  have hlk := Bd.notSynchronized
  obtain ⟨lc, hlc⟩ : ∃ lc : List Loc, lc = [] := ⟨_, rfl⟩
  have X : Stand p l e ({ frames := 2, cells := 1, slots := 2, locals := 35 } : Room) s m #[(.ref a1), (.ref aq), (.int (0 : Int32)), (.int (2 : Int32)), .null] below meth c s₁ lc 0 0 := hlc ▸ Stand.of_body Bd
  have eT : s₁.heap = h0 := by rw [← hh, Bd.state]; rfl
  have N : Fr n0 lc := hlc ▸ Fr.nil n0
  refine own_enter (ef_iv2 m a1 aq (0 : Int32) (2 : Int32)) ?_
  obtain ⟨T, hT⟩ : ∃ T : State, T = s₁ := ⟨_, rfl⟩
  rw [← hT] at X eT ⊢
  show own_W p e below (own_Post s (Q_iv2 Z a1 aq kq cs d0 d1 h0 n0) 1 2) T m 0 #[.val (.ref a1), .val (.ref aq), .val (.int (0 : Int32)), .val (.int (2 : Int32)), .val .null, .unset] []
  have Kp : Keep h0 h0 [a1] := Keep.refl _ _
  refine own_aloadN X hx (hb hby own_d_jdk_42_method_149_code_0) (pc' := 1) rfl rfl rfl ?_
  refine own_initO X hx hZ hown (own_w hw 15 rfl) (own_w hw 16 rfl) (own_w hw 17 rfl) eT (by rw [hml]; rfl) (hb hby own_d_jdk_42_method_149_code_1) (pc' := 4) rfl (by decide) (W := 0) (Nat.le_of_eq rfl) (by decide) ?_
  intro T X eT
  refine own_iloadN X hx (hb hby own_d_jdk_42_method_149_code_4) (pc' := 5) rfl rfl ?_
  refine own_ifY X hx (hb hby own_d_jdk_42_method_149_code_5) (by decide) (pc' := 27) rfl (show ¬ ((2 : Int32) = (0 : Int32)) from (by decide)) ?_
  refine own_getS X hx hZ hown (host := "") (Or.inl (own_w hw 96 rfl)) Via.refl eT S_C (hb hby own_d_jdk_42_method_149_code_27) (pc' := 30) rfl ?_
  intro T X eT
  refine own_ifN X hx (hb hby own_d_jdk_42_method_149_code_30) (pc' := 33) rfl (show ¬ (cs = (0 : Int32)) from hcs) ?_
  refine own_aloadN X hx (hb hby own_d_jdk_42_method_149_code_33) (pc' := 34) rfl rfl rfl ?_
  refine own_iloadN X hx (hb hby own_d_jdk_42_method_149_code_34) (pc' := 35) rfl rfl ?_
  refine own_iloadN X hx (hb hby own_d_jdk_42_method_149_code_35) (pc' := 36) rfl rfl ?_
  refine own_callS X hx hZ [(.ref aq), (.int (0 : Int32)), (.int (2 : Int32))] hown (own_w hw 97 rfl) (own_w hw 98 rfl) (own_w hw 99 rfl) (own_w hw 100 rfl) (by decide) (rm_cc2 l Z a0 hw [] aq kq d0 d1 h0 n0 Z0 A_aq hd0 hd1) eT (W := 0) (by decide) (by decide) (cells' := 1) (slots' := 2) rfl rfl (by decide) (by decide) (by rw [hml]; rfl) (lenOf own_pd_285bCII295bB rfl) rfl (S := []) rfl (Nat.le_of_eq rfl) (hb hby own_d_jdk_42_method_149_code_36) (pc' := 39) rfl ?_
  intro v T h1 L lc X eT hq fN
  obtain ⟨bb, kb, rfl, Nq, Kq, hbb, A_bb⟩ := hq
  have N := fN _ N Nq
  have lt_a1_bb : a1 < bb := Nat.lt_of_lt_of_le E_a1.lt hbb
  have ne_a1_bb : a1 ≠ bb := Nat.ne_of_lt lt_a1_bb
  have lt_aq_bb : aq < bb := Nat.lt_of_lt_of_le A_aq.lt hbb
  have ne_aq_bb : aq ≠ bb := Nat.ne_of_lt lt_aq_bb
  have z_bb : n0 ≤ bb := Nat.le_trans Z0 hbb
  have s_bb : h0.size ≤ bb := Nat.le_trans Kp.1 hbb
  have S_C := own_sta_keep S_C Kq ns0
  have E_a1 := E_a1.keep Kq
  have F_c := F_c.keep Kq nin0
  have F_v := F_v.keep Kq nin0
  have A_aq := A_aq.keep Kq nin0
  have Z0 := Nat.le_trans Z0 Kq.1
  have Kp := Kp.trans Kq all0
  show own_W p e below (own_Post s (Q_iv2 Z a1 aq kq cs d0 d1 h0 n0) 1 2) T m 39 #[.val (.ref a1), .val (.ref aq), .val (.int (0 : Int32)), .val (.int (2 : Int32)), .val .null, .unset] [(.ref bb)]
  refine own_astore X hx (hb hby own_d_jdk_42_method_149_code_39) (pc' := 41) rfl rfl (Ls' := #[.val (.ref a1), .val (.ref aq), .val (.int (0 : Int32)), .val (.int (2 : Int32)), .val .null, .val (.ref bb)]) rfl ?_
  refine own_aloadN X hx (hb hby own_d_jdk_42_method_149_code_41) (pc' := 42) rfl rfl rfl ?_
  refine own_aload X hx (hb hby own_d_jdk_42_method_149_code_42) (pc' := 44) rfl rfl rfl ?_
  refine own_iloadN X hx (hb hby own_d_jdk_42_method_149_code_44) (pc' := 45) rfl rfl ?_
  refine own_callS X hx hZ [(.ref bb), (.int (2 : Int32))] hown (own_w hw 104 rfl) (own_w hw 105 rfl) (own_w hw 99 rfl) (own_w hw 106 rfl) (by decide) (rm_cf2 l Z a0 hw [] bb h1 n0 Z0 _ _ A_bb) eT (W := 1) (by decide) (by decide) (cells' := 1) (slots' := 2) rfl rfl (by decide) (by decide) (by rw [hml]; rfl) (lenOf own_pd_285bBI29B rfl) rfl (S := [(.ref a1)]) rfl (Nat.le_of_eq rfl) (hb hby own_d_jdk_42_method_149_code_45) (pc' := 48) rfl ?_
  intro v T h2 L lc X eT hq fN
  obtain ⟨rfl, Nq, hqe⟩ := hq
  have N := fN _ N Nq
  rw [hqe] at eT
  show own_W p e below (own_Post s (Q_iv2 Z a1 aq kq cs d0 d1 h0 n0) 1 2) T m 48 #[.val (.ref a1), .val (.ref aq), .val (.int (0 : Int32)), .val (.int (2 : Int32)), .val .null, .val (.ref bb)] [(.int (0 : Int32)), (.ref a1)]
  refine own_putF X hx hZ hown (own_w hw 25 rfl) Via.refl eT F_c E_a1 (Or.inr ⟨(own_w hw 21 rfl), rfl, hnm⟩) (own_w hw 5 rfl) (ty := .byte) (v' := (.int (0 : Int32))) (by decide) rfl rfl (hb hby own_d_jdk_42_method_149_code_48) (pc' := 51) rfl ?_
  intro T h3 lc X eT Wq fN
  have F_c := F_c.same Wq
  have S_C := S_C.wr Wq
  have E_a1 := E_a1.wr Wq
  have F_v := F_v.other Wq (Or.inr (slot_ne (Or.inr (own_w hw 20 rfl)) (Or.inr (own_w hw 21 rfl)) (by decide) (t := (.array .byte)) (t' := .byte) (by decide) (by decide)))
  have A_aq := A_aq.other Wq (Ne.symm n1q)
  have A_bb := A_bb.other Wq (Ne.symm ne_a1_bb)
  have Z0 := Nat.le_trans Z0 (Keep.of_wr Wq).1
  have N := fN _ z_a1 N
  have Kp := Kp.wr Wq (Or.inl (List.mem_of_getElem? (i := 0) rfl))
  refine own_aloadN X hx (hb hby own_d_jdk_42_method_149_code_51) (pc' := 52) rfl rfl rfl ?_
  refine own_aload X hx (hb hby own_d_jdk_42_method_149_code_52) (pc' := 54) rfl rfl rfl ?_
  refine own_putF X hx hZ hown (own_w hw 24 rfl) Via.refl eT F_v E_a1 (Or.inr ⟨(own_w hw 20 rfl), rfl, hnm⟩) (own_w hw 5 rfl) (ty := (.array .byte)) (v' := (.ref bb)) (by decide) rfl rfl (hb hby own_d_jdk_42_method_149_code_54) (pc' := 57) rfl ?_
  intro T h4 lc X eT Wq fN
  have F_v := F_v.same Wq
  have S_C := S_C.wr Wq
  have E_a1 := E_a1.wr Wq
  have A_aq := A_aq.other Wq (Ne.symm n1q)
  have A_bb := A_bb.other Wq (Ne.symm ne_a1_bb)
  have F_c := F_c.other Wq (Or.inr (slot_ne (Or.inr (own_w hw 21 rfl)) (Or.inr (own_w hw 20 rfl)) (by decide) (t := .byte) (t' := (.array .byte)) (by decide) (by decide)))
  have Z0 := Nat.le_trans Z0 (Keep.of_wr Wq).1
  have N := fN _ z_a1 N
  have Kp := Kp.wr Wq (Or.inl (List.mem_of_getElem? (i := 0) rfl))
  refine own_ret0 X hx hlk Bd.returns (hb hby own_d_jdk_42_method_149_code_57) (by decide) (by decide) ?_
  rw [eT]
  exact ⟨rfl, N, Kp, bb, kb, s_bb, F_c, F_v, A_bb⟩
theorem ef_ic2 (m : MethodId) (x0 : Addr) (x1 : Addr) : entryFrame m #[(.ref x0), (.ref x1)] 2 = mkF m 0 #[.val (.ref x0), .val (.ref x1)] [] := by first | (simp [entryFrame, mkF, argsToLocals, Value.category]; done) | rfl
def Q_ic2 (Z : State) (a1 aq : Addr) (kq : ClassId) (cs : Int32) (d0 d1 : Int32) (h0 : Heap) (n0 : Nat) (v : Option Value) (h : Heap) (L : List Loc) : Prop := v = none ∧ Fr n0 L ∧ Keep h0 h [a1] ∧ ∃ (b : Addr) (k : ClassId), h0.size ≤ b ∧ Fld Z h a1 "java/lang/String" "coder" "B" (.int (0 : Int32)) ∧ Fld Z h a1 "java/lang/String" "value" "[B" (.ref b) ∧ Arv Z h b k .byte (2 : Int32) [(.int (nar .byte d0.toInt8.toInt32)), (.int (nar .byte d1.toInt8.toInt32))] (.int (0 : Int32))
set_option maxRecDepth 65536 in
set_option maxHeartbeats 40000000 in
theorem rm_ic2 (l : Launch) (Z : State) (a0 : Array Value) (hw : ∀ d ∈ tables_1, d.before a0 Z = true) (ws : List Jvm.Cond) (a1 aq : Addr) (kq : ClassId) (cs : Int32) (d0 d1 : Int32) (h0 : Heap) (n0 : Nat) (Z0 : n0 ≤ h0.size) (S_C : Sta Z h0 "java/lang/String" "COMPACT_STRINGS" "Z" (.int cs)) (hcs : ¬ cs = 0) (u1 u2 : Value) (E_a1 : Exa Z h0 a1 "java/lang/String") (F_c : Fld Z h0 a1 "java/lang/String" "coder" "B" u1) (F_v : Fld Z h0 a1 "java/lang/String" "value" "[B" u2) (A_aq : Arv Z h0 aq kq .char (2 : Int32) [(.int d0), (.int d1)] (.int (0 : Int32))) (n1q : a1 ≠ aq) (hd0 : ¬ ((255 : Int32) < d0)) (hd1 : ¬ ((255 : Int32) < d1)) (z_a1 : n0 ≤ a1) :
    MetFree l (⟨"java/lang/String", "<init>", "([C)V"⟩ : MethodName) (head1 (Jvm.Cond.code (⟨"java/lang/String", "<init>", "([C)V"⟩ : MethodName) jdk_42_method_3_code 2 none :: ws) ({ frames := 3, cells := 1, slots := 2, locals := 52 } : Room)) (fun a U => a = #[(.ref a1), (.ref aq)] ∧ Z.Warmed39 U.vm ∧ U.heap = h0) (fun _ _ _ _ _ => True) (fun _ U o U' => ∃ v L, o = .returned v ∧ Q_ic2 Z a1 aq kq cs d0 d1 h0 n0 v U'.heap L ∧ FrameEnd U o U' L ({ frames := 3, cells := 1, slots := 2, locals := 52 } : Room).cells ({ frames := 3, cells := 1, slots := 2, locals := 52 } : Room).slots) := by
  refine MetFree.of_bodySF (plainFor_of_name own_pn_java_lang_String) hisR ?_
  intro p e s m args below meth c s₁ Bd hml0 hP hK
  obtain ⟨rfl, hZ, hh⟩ := hP
  have hx := Bd.exec
  have hby := Bd.bytes
  have hml : c.maxLocals = 2 := hml0
  have hown : s.vm.findClass "java/lang/String" = some m.cls := findClass_of_methodNamed Bd.named
  have hnm := (name_of_methodNamed Bd.named Bd.method).1
  have hlk := Bd.notSynchronized
  obtain ⟨lc, hlc⟩ : ∃ lc : List Loc, lc = [] := ⟨_, rfl⟩
  have X : Stand p l e ({ frames := 3, cells := 1, slots := 2, locals := 52 } : Room) s m #[(.ref a1), (.ref aq)] below meth c s₁ lc 0 0 := hlc ▸ Stand.of_body Bd
  have eT : s₁.heap = h0 := by rw [← hh, Bd.state]; rfl
  have N : Fr n0 lc := hlc ▸ Fr.nil n0
  refine own_enter (ef_ic2 m a1 aq) ?_
  obtain ⟨T, hT⟩ : ∃ T : State, T = s₁ := ⟨_, rfl⟩
  rw [← hT] at X eT ⊢
  show own_W p e below (own_Post s (Q_ic2 Z a1 aq kq cs d0 d1 h0 n0) 1 2) T m 0 #[.val (.ref a1), .val (.ref aq)] []
  refine own_aloadN X hx (hb hby own_d_jdk_42_method_3_code_0) (pc' := 1) rfl rfl rfl ?_
  refine own_aloadN X hx (hb hby own_d_jdk_42_method_3_code_1) (pc' := 2) rfl rfl rfl ?_
  refine own_iconst X hx (0 : Int32) (hb hby own_d_jdk_42_method_3_code_2) (pc' := 3) rfl rfl ?_
  refine own_aloadN X hx (hb hby own_d_jdk_42_method_3_code_3) (pc' := 4) rfl rfl rfl ?_
  refine own_arrlen X hx hZ eT A_aq (hb hby own_d_jdk_42_method_3_code_4) (pc' := 5) rfl ?_
  refine own_aconst_null X hx (hb hby own_d_jdk_42_method_3_code_5) (pc' := 6) rfl ?_
  refine own_callN X hx hZ a1 [(.ref aq), (.int (0 : Int32)), (.int (2 : Int32)), .null] rfl hown (own_w hw 11 rfl) (own_w hw 12 rfl) (own_w hw 6 rfl) (own_w hw 14 rfl) (by decide) (rm_iv2 l Z a0 hw [] a1 aq kq cs d0 d1 h0 n0 Z0 S_C hcs _ _ E_a1 F_c F_v A_aq n1q hd0 hd1 z_a1) eT (W := 0) (by decide) (by decide) (cells' := 1) (slots' := 2) rfl rfl (by decide) (by decide) (by rw [hml]; rfl) (lenOf own_pd_285bCIILjava2flang2fVoid3b29V rfl) rfl (S := []) rfl (Nat.le_of_eq rfl) (hb hby own_d_jdk_42_method_3_code_6) (pc' := 9) rfl ?_
  intro v T h1 L lc X eT hq fN
  obtain ⟨rfl, Nq, Kq, bb, kb, hbb, F_c2, F_v2, A_bb⟩ := hq
  have N := fN _ N Nq
  show own_W p e below (own_Post s (Q_ic2 Z a1 aq kq cs d0 d1 h0 n0) 1 2) T m 9 #[.val (.ref a1), .val (.ref aq)] []
  refine own_ret0 X hx hlk Bd.returns (hb hby own_d_jdk_42_method_3_code_9) (by decide) (by decide) ?_
  rw [eT]
  exact ⟨rfl, N, Kq, bb, kb, hbb, F_c2, F_v2, A_bb⟩
theorem own_d_jdk_43_method_3_code_0 : decode jdk_43_method_3_code 0 = .ok (.iload_n 0, 1) := by decide +kernel
theorem own_d_jdk_43_method_3_code_1 : decode jdk_43_method_3_code 1 = .ok (.sipush 255, 3) := by decide +kernel
theorem own_d_jdk_43_method_3_code_4 : decode jdk_43_method_3_code 4 = .ok (.if_icmp .gt 7, 3) := by decide +kernel
theorem own_d_jdk_43_method_3_code_7 : decode jdk_43_method_3_code 7 = .ok (.iconst 1, 1) := by decide +kernel
theorem own_d_jdk_43_method_3_code_8 : decode jdk_43_method_3_code 8 = .ok (.goto 4, 3) := by decide +kernel
theorem own_d_jdk_43_method_3_code_12 : decode jdk_43_method_3_code 12 = .ok (.ireturn, 1) := by decide +kernel
theorem own_pn_java_lang_StringLatin1 : plainName "java/lang/StringLatin1" = true := by first | (simp [plainName, overriddenIn]; done) | decide +kernel
theorem ef_ce (m : MethodId) (x0 : Int32) : entryFrame m #[(.int x0)] 1 = mkF m 0 #[.val (.int x0)] [] := by first | (simp [entryFrame, mkF, argsToLocals, Value.category]; done) | rfl
def Q_ce (Z : State) (p0 : Int32) (h0 : Heap) (n0 : Nat) (v : Option Value) (h : Heap) (L : List Loc) : Prop := v = some (.int (1 : Int32)) ∧ Fr n0 L ∧ h = h0
set_option maxRecDepth 65536 in
set_option maxHeartbeats 40000000 in
theorem rm_ce (l : Launch) (Z : State) (a0 : Array Value) (hw : ∀ d ∈ tables_1, d.before a0 Z = true) (ws : List Jvm.Cond) (p0 : Int32) (h0 : Heap) (n0 : Nat) (Z0 : n0 ≤ h0.size) (hp0 : ¬ (255 : Int32) < p0) :
    MetFree l (⟨"java/lang/StringLatin1", "canEncode", "(C)Z"⟩ : MethodName) (head1 (Jvm.Cond.code (⟨"java/lang/StringLatin1", "canEncode", "(C)Z"⟩ : MethodName) jdk_43_method_3_code 1 (some .boolean) :: ws) ({ frames := 0, cells := 0, slots := 0, locals := 0 } : Room)) (fun a U => a = #[(.int p0)] ∧ Z.Warmed39 U.vm ∧ U.heap = h0) (fun _ _ _ _ _ => True) (fun _ U o U' => ∃ v L, o = .returned v ∧ Q_ce Z p0 h0 n0 v U'.heap L ∧ FrameEnd U o U' L ({ frames := 0, cells := 0, slots := 0, locals := 0 } : Room).cells ({ frames := 0, cells := 0, slots := 0, locals := 0 } : Room).slots) := by
  refine MetFree.of_bodySF (plainFor_of_name own_pn_java_lang_StringLatin1) hisR ?_
  intro p e s m args below meth c s₁ Bd hml0 hP hK
  obtain ⟨rfl, hZ, hh⟩ := hP
  have hx := Bd.exec
  have hby := Bd.bytes
  have hml : c.maxLocals = 1 := hml0
  have hown : s.vm.findClass "java/lang/StringLatin1" = some m.cls := findClass_of_methodNamed Bd.named
  have hnm := (name_of_methodNamed Bd.named Bd.method).1
  have hlk := Bd.notSynchronized
  obtain ⟨lc, hlc⟩ : ∃ lc : List Loc, lc = [] := ⟨_, rfl⟩
  have X : Stand p l e ({ frames := 0, cells := 0, slots := 0, locals := 0 } : Room) s m #[(.int p0)] below meth c s₁ lc 0 0 := hlc ▸ Stand.of_body Bd
  have eT : s₁.heap = h0 := by rw [← hh, Bd.state]; rfl
  have N : Fr n0 lc := hlc ▸ Fr.nil n0
  refine own_enter (ef_ce m p0) ?_
  obtain ⟨T, hT⟩ : ∃ T : State, T = s₁ := ⟨_, rfl⟩
  rw [← hT] at X eT ⊢
  show own_W p e below (own_Post s (Q_ce Z p0 h0 n0) 0 0) T m 0 #[.val (.int p0)] []
  refine own_iloadN X hx (hb hby own_d_jdk_43_method_3_code_0) (pc' := 1) rfl rfl ?_
  refine own_sipush X hx (255 : Int32) (hb hby own_d_jdk_43_method_3_code_1) (pc' := 4) rfl rfl ?_
  refine own_icmpN X hx (hb hby own_d_jdk_43_method_3_code_4) (pc' := 7) rfl (show ¬ ((255 : Int32) < p0) from hp0) ?_
  refine own_iconst X hx (1 : Int32) (hb hby own_d_jdk_43_method_3_code_7) (pc' := 8) rfl rfl ?_
  refine own_goto X hx (hb hby own_d_jdk_43_method_3_code_8) (by decide) (pc' := 12) rfl ?_
  refine own_retI X hx hlk (t := .boolean) (w' := (.int (1 : Int32))) Bd.returns (hb hby own_d_jdk_43_method_3_code_12) rfl rfl (by simp) (by decide) (by decide) ?_
  rw [eT]
  exact ⟨rfl, N, rfl⟩
theorem own_d_jdk_43_method_46_code_0 : decode jdk_43_method_46_code 0 = .ok (.iconst 1, 1) := by decide +kernel
theorem own_d_jdk_43_method_46_code_1 : decode jdk_43_method_46_code 1 = .ok (.newarray .byte, 2) := by decide +kernel
theorem own_d_jdk_43_method_46_code_3 : decode jdk_43_method_46_code 3 = .ok (.dup, 1) := by decide +kernel
theorem own_d_jdk_43_method_46_code_4 : decode jdk_43_method_46_code 4 = .ok (.iconst 0, 1) := by decide +kernel
theorem own_d_jdk_43_method_46_code_5 : decode jdk_43_method_46_code 5 = .ok (.iload_n 0, 1) := by decide +kernel
theorem own_d_jdk_43_method_46_code_6 : decode jdk_43_method_46_code 6 = .ok (.i2b, 1) := by decide +kernel
theorem own_d_jdk_43_method_46_code_7 : decode jdk_43_method_46_code 7 = .ok (.bastore, 1) := by decide +kernel
theorem own_d_jdk_43_method_46_code_8 : decode jdk_43_method_46_code 8 = .ok (.areturn, 1) := by decide +kernel
theorem ef_tb (m : MethodId) (x0 : Int32) : entryFrame m #[(.int x0)] 1 = mkF m 0 #[.val (.int x0)] [] := by first | (simp [entryFrame, mkF, argsToLocals, Value.category]; done) | rfl
def Q_tb (Z : State) (p0 : Int32) (h0 : Heap) (n0 : Nat) (v : Option Value) (h : Heap) (L : List Loc) : Prop := ∃ (b : Addr) (k : ClassId), v = some (.ref b) ∧ Fr n0 L ∧ Keep h0 h [] ∧ h0.size ≤ b ∧ Arv Z h b k .byte (1 : Int32) [(.int (nar .byte p0.toInt8.toInt32))] (.int (0 : Int32))
set_option maxRecDepth 65536 in
set_option maxHeartbeats 40000000 in
theorem rm_tb (l : Launch) (Z : State) (a0 : Array Value) (hw : ∀ d ∈ tables_1, d.before a0 Z = true) (ws : List Jvm.Cond) (p0 : Int32) (h0 : Heap) (n0 : Nat) (Z0 : n0 ≤ h0.size)  :
    MetFree l (⟨"java/lang/StringLatin1", "toBytes", "(C)[B"⟩ : MethodName) (head1 (Jvm.Cond.code (⟨"java/lang/StringLatin1", "toBytes", "(C)[B"⟩ : MethodName) jdk_43_method_46_code 1 (some (.array .byte)) :: ws) ({ frames := 0, cells := 1, slots := 1, locals := 0 } : Room)) (fun a U => a = #[(.int p0)] ∧ Z.Warmed39 U.vm ∧ U.heap = h0) (fun _ _ _ _ _ => True) (fun _ U o U' => ∃ v L, o = .returned v ∧ Q_tb Z p0 h0 n0 v U'.heap L ∧ FrameEnd U o U' L ({ frames := 0, cells := 1, slots := 1, locals := 0 } : Room).cells ({ frames := 0, cells := 1, slots := 1, locals := 0 } : Room).slots) := by
  refine MetFree.of_bodySF (plainFor_of_name own_pn_java_lang_StringLatin1) hisR ?_
  intro p e s m args below meth c s₁ Bd hml0 hP hK
  obtain ⟨rfl, hZ, hh⟩ := hP
  have hx := Bd.exec
  have hby := Bd.bytes
  have hml : c.maxLocals = 1 := hml0
  have hown : s.vm.findClass "java/lang/StringLatin1" = some m.cls := findClass_of_methodNamed Bd.named
  have hnm := (name_of_methodNamed Bd.named Bd.method).1
  have hlk := Bd.notSynchronized
  obtain ⟨lc, hlc⟩ : ∃ lc : List Loc, lc = [] := ⟨_, rfl⟩
  have X : Stand p l e ({ frames := 0, cells := 1, slots := 1, locals := 0 } : Room) s m #[(.int p0)] below meth c s₁ lc 0 0 := hlc ▸ Stand.of_body Bd
  have eT : s₁.heap = h0 := by rw [← hh, Bd.state]; rfl
  have N : Fr n0 lc := hlc ▸ Fr.nil n0
  refine own_enter (ef_tb m p0) ?_
  obtain ⟨T, hT⟩ : ∃ T : State, T = s₁ := ⟨_, rfl⟩
  rw [← hT] at X eT ⊢
  show own_W p e below (own_Post s (Q_tb Z p0 h0 n0) 1 1) T m 0 #[.val (.int p0)] []
  have Kp : Keep h0 h0 [] := Keep.refl _ _
  refine own_iconst X hx (1 : Int32) (hb hby own_d_jdk_43_method_46_code_0) (pc' := 1) rfl rfl ?_
  refine own_newarr X hx hZ (own_w hw 19 rfl) eT (hb hby own_d_jdk_43_method_46_code_1) (pc' := 3) rfl (by decide) 1 (by decide) (by decide) (cells' := 1) (slots' := 1) rfl rfl (by decide) (by decide) ?_
  intro T h1 k_b1 b1 X eT E gb1 A_b1
  have z_b1 : n0 ≤ b1 := Nat.le_trans Z0 (Nat.le_of_eq gb1.symm)
  have s_b1 : h0.size ≤ b1 := Nat.le_trans Kp.1 (Nat.le_of_eq gb1.symm)
  have Z0 := Nat.le_trans Z0 E.1
  have Kp := Kp.ext E
  have A_b1 : Arv Z h1 b1 k_b1 .byte (1 : Int32) [(.int (0 : Int32))] (.int (0 : Int32)) := A_b1.pad (pad_rep [] (.int (0 : Int32)) 1)
  refine own_dup X hx (hb hby own_d_jdk_43_method_46_code_3) (pc' := 4) rfl rfl ?_
  refine own_iconst X hx (0 : Int32) (hb hby own_d_jdk_43_method_46_code_4) (pc' := 5) rfl rfl ?_
  refine own_iloadN X hx (hb hby own_d_jdk_43_method_46_code_5) (pc' := 6) rfl rfl ?_
  refine own_i2b X hx (hb hby own_d_jdk_43_method_46_code_6) (pc' := 7) rfl ?_
  refine own_bastoreB X hx hZ eT A_b1 (by decide) 0 rfl (by show 0 < 1; decide) (hb hby own_d_jdk_43_method_46_code_7) (pc' := 8) rfl ?_
  intro T h2 lc X eT Kq A_b1n fN
  have Z0 := Nat.le_trans Z0 Kq.1
  have A_b1 := A_b1n
  have N := fN _ z_b1 N
  have Kp := Kp.trans Kq (allS (P := fun x => x ∈ [] ∨ h0.size ≤ x) (Or.inr s_b1) all0)
  have A_b1 : Arv Z h2 b1 _ .byte (1 : Int32) [(.int (nar .byte p0.toInt8.toInt32))] (.int (0 : Int32)) := A_b1
  refine own_retA X hx hlk Bd.returns (hb hby own_d_jdk_43_method_46_code_8) rfl rfl rfl (by decide) (by decide) ?_
  rw [eT]
  exact ⟨_, _, rfl, N, Kp, s_b1, A_b1⟩
theorem own_d_jdk_42_method_151_code_0 : decode jdk_42_method_151_code 0 = .ok (.aload_n 0, 1) := by decide +kernel
theorem own_d_jdk_42_method_151_code_1 : decode jdk_42_method_151_code 1 = .ok (.invokespecial 1, 3) := by decide +kernel
theorem own_d_jdk_42_method_151_code_4 : decode jdk_42_method_151_code 4 = .ok (.aload_n 0, 1) := by decide +kernel
theorem own_d_jdk_42_method_151_code_5 : decode jdk_42_method_151_code 5 = .ok (.aload_n 1, 1) := by decide +kernel
theorem own_d_jdk_42_method_151_code_6 : decode jdk_42_method_151_code 6 = .ok (.putfield 9, 3) := by decide +kernel
theorem own_d_jdk_42_method_151_code_9 : decode jdk_42_method_151_code 9 = .ok (.aload_n 0, 1) := by decide +kernel
theorem own_d_jdk_42_method_151_code_10 : decode jdk_42_method_151_code 10 = .ok (.iload_n 2, 1) := by decide +kernel
theorem own_d_jdk_42_method_151_code_11 : decode jdk_42_method_151_code 11 = .ok (.putfield 15, 3) := by decide +kernel
theorem own_d_jdk_42_method_151_code_14 : decode jdk_42_method_151_code 14 = .ok (.return_, 1) := by decide +kernel
theorem ef_ib (m : MethodId) (x0 : Addr) (x1 : Addr) (x2 : Int32) : entryFrame m #[(.ref x0), (.ref x1), (.int x2)] 3 = mkF m 0 #[.val (.ref x0), .val (.ref x1), .val (.int x2)] [] := by first | (simp [entryFrame, mkF, argsToLocals, Value.category]; done) | rfl
def Q_ib (Z : State) (a1 b1 : Addr) (h0 : Heap) (n0 : Nat) (v : Option Value) (h : Heap) (L : List Loc) : Prop := v = none ∧ Fr n0 L ∧ Keep h0 h [a1]
set_option maxRecDepth 65536 in
set_option maxHeartbeats 40000000 in
theorem rm_ib (l : Launch) (Z : State) (a0 : Array Value) (hw : ∀ d ∈ tables_1, d.before a0 Z = true) (ws : List Jvm.Cond) (a1 b1 : Addr) (h0 : Heap) (n0 : Nat) (Z0 : n0 ≤ h0.size) (u1 u2 : Value) (E_a1 : Exa Z h0 a1 "java/lang/String") (F_c : Fld Z h0 a1 "java/lang/String" "coder" "B" u1) (F_v : Fld Z h0 a1 "java/lang/String" "value" "[B" u2) (z_a1 : n0 ≤ a1) :
    MetFree l (⟨"java/lang/String", "<init>", "([BB)V"⟩ : MethodName) (head1 (Jvm.Cond.code (⟨"java/lang/String", "<init>", "([BB)V"⟩ : MethodName) jdk_42_method_151_code 3 none :: ws) ({ frames := 1, cells := 0, slots := 0, locals := 12 } : Room)) (fun a U => a = #[(.ref a1), (.ref b1), (.int (0 : Int32))] ∧ Z.Warmed39 U.vm ∧ U.heap = h0) (fun _ _ _ _ _ => True) (fun _ U o U' => ∃ v L, o = .returned v ∧ Q_ib Z a1 b1 h0 n0 v U'.heap L ∧ FrameEnd U o U' L ({ frames := 1, cells := 0, slots := 0, locals := 12 } : Room).cells ({ frames := 1, cells := 0, slots := 0, locals := 12 } : Room).slots) := by
  refine MetFree.of_bodySF (plainFor_of_name own_pn_java_lang_String) hisR ?_
  intro p e s m args below meth c s₁ Bd hml0 hP hK
  obtain ⟨rfl, hZ, hh⟩ := hP
  have hx := Bd.exec
  have hby := Bd.bytes
  have hml : c.maxLocals = 3 := hml0
  have hown : s.vm.findClass "java/lang/String" = some m.cls := findClass_of_methodNamed Bd.named
  have hnm := (name_of_methodNamed Bd.named Bd.method).1
  have hlk := Bd.notSynchronized
  obtain ⟨lc, hlc⟩ : ∃ lc : List Loc, lc = [] := ⟨_, rfl⟩
  have X : Stand p l e ({ frames := 1, cells := 0, slots := 0, locals := 12 } : Room) s m #[(.ref a1), (.ref b1), (.int (0 : Int32))] below meth c s₁ lc 0 0 := hlc ▸ Stand.of_body Bd
  have eT : s₁.heap = h0 := by rw [← hh, Bd.state]; rfl
  have N : Fr n0 lc := hlc ▸ Fr.nil n0
  refine own_enter (ef_ib m a1 b1 (0 : Int32)) ?_
  obtain ⟨T, hT⟩ : ∃ T : State, T = s₁ := ⟨_, rfl⟩
  rw [← hT] at X eT ⊢
  show own_W p e below (own_Post s (Q_ib Z a1 b1 h0 n0) 0 0) T m 0 #[.val (.ref a1), .val (.ref b1), .val (.int (0 : Int32))] []
  have Kp : Keep h0 h0 [a1] := Keep.refl _ _
  refine own_aloadN X hx (hb hby own_d_jdk_42_method_151_code_0) (pc' := 1) rfl rfl rfl ?_
  refine own_initO X hx hZ hown (own_w hw 15 rfl) (own_w hw 16 rfl) (own_w hw 17 rfl) eT (by rw [hml]; rfl) (hb hby own_d_jdk_42_method_151_code_1) (pc' := 4) rfl (by decide) (W := 0) (Nat.le_of_eq rfl) (by decide) ?_
  intro T X eT
  refine own_aloadN X hx (hb hby own_d_jdk_42_method_151_code_4) (pc' := 5) rfl rfl rfl ?_
  refine own_aloadN X hx (hb hby own_d_jdk_42_method_151_code_5) (pc' := 6) rfl rfl rfl ?_
  refine own_putF X hx hZ hown (own_w hw 24 rfl) Via.refl eT F_v E_a1 (Or.inr ⟨(own_w hw 20 rfl), rfl, hnm⟩) (own_w hw 5 rfl) (ty := (.array .byte)) (v' := (.ref b1)) (by decide) rfl rfl (hb hby own_d_jdk_42_method_151_code_6) (pc' := 9) rfl ?_
  intro T h1 lc X eT Wq fN
  have F_v := F_v.same Wq
  have E_a1 := E_a1.wr Wq
  have F_c := F_c.other Wq (Or.inr (slot_ne (Or.inr (own_w hw 21 rfl)) (Or.inr (own_w hw 20 rfl)) (by decide) (t := .byte) (t' := (.array .byte)) (by decide) (by decide)))
  have Z0 := Nat.le_trans Z0 (Keep.of_wr Wq).1
  have N := fN _ z_a1 N
  have Kp := Kp.wr Wq (Or.inl (List.mem_of_getElem? (i := 0) rfl))
  refine own_aloadN X hx (hb hby own_d_jdk_42_method_151_code_9) (pc' := 10) rfl rfl rfl ?_
  refine own_iloadN X hx (hb hby own_d_jdk_42_method_151_code_10) (pc' := 11) rfl rfl ?_
  refine own_putF X hx hZ hown (own_w hw 25 rfl) Via.refl eT F_c E_a1 (Or.inr ⟨(own_w hw 21 rfl), rfl, hnm⟩) (own_w hw 5 rfl) (ty := .byte) (v' := (.int (0 : Int32))) (by decide) rfl rfl (hb hby own_d_jdk_42_method_151_code_11) (pc' := 14) rfl ?_
  intro T h2 lc X eT Wq fN
  have F_c := F_c.same Wq
  have E_a1 := E_a1.wr Wq
  have F_v := F_v.other Wq (Or.inr (slot_ne (Or.inr (own_w hw 20 rfl)) (Or.inr (own_w hw 21 rfl)) (by decide) (t := (.array .byte)) (t' := .byte) (by decide) (by decide)))
  have Z0 := Nat.le_trans Z0 (Keep.of_wr Wq).1
  have N := fN _ z_a1 N
  have Kp := Kp.wr Wq (Or.inl (List.mem_of_getElem? (i := 0) rfl))
  refine own_ret0 X hx hlk Bd.returns (hb hby own_d_jdk_42_method_151_code_14) (by decide) (by decide) ?_
  rw [eT]
  exact ⟨rfl, N, Kp⟩
theorem own_d_jdk_42_method_139_code_0 : decode jdk_42_method_139_code 0 = .ok (.getstatic 38, 3) := by decide +kernel
theorem own_d_jdk_42_method_139_code_3 : decode jdk_42_method_139_code 3 = .ok (.ifCond .eq 23, 3) := by decide +kernel
theorem own_d_jdk_42_method_139_code_6 : decode jdk_42_method_139_code 6 = .ok (.iload_n 0, 1) := by decide +kernel
theorem own_d_jdk_42_method_139_code_7 : decode jdk_42_method_139_code 7 = .ok (.invokestatic 1015, 3) := by decide +kernel
theorem own_pd_28C29Z : parseMethodDescriptor "(C)Z" = some ⟨[.char], some .boolean⟩ := by decide +kernel
theorem own_d_jdk_42_method_139_code_10 : decode jdk_42_method_139_code 10 = .ok (.ifCond .eq 16, 3) := by decide +kernel
theorem own_d_jdk_42_method_139_code_13 : decode jdk_42_method_139_code 13 = .ok (.new 10, 3) := by decide +kernel
theorem own_d_jdk_42_method_139_code_16 : decode jdk_42_method_139_code 16 = .ok (.dup, 1) := by decide +kernel
theorem own_d_jdk_42_method_139_code_17 : decode jdk_42_method_139_code 17 = .ok (.iload_n 0, 1) := by decide +kernel
theorem own_d_jdk_42_method_139_code_18 : decode jdk_42_method_139_code 18 = .ok (.invokestatic 1018, 3) := by decide +kernel
theorem own_pd_28C295bB : parseMethodDescriptor "(C)[B" = some ⟨[.char], some (.array .byte)⟩ := by decide +kernel
theorem own_d_jdk_42_method_139_code_21 : decode jdk_42_method_139_code 21 = .ok (.iconst 0, 1) := by decide +kernel
theorem own_d_jdk_42_method_139_code_22 : decode jdk_42_method_139_code 22 = .ok (.invokespecial 209, 3) := by decide +kernel
theorem own_pd_285bBB29V : parseMethodDescriptor "([BB)V" = some ⟨[(.array .byte), .byte], none⟩ := by decide +kernel
theorem own_d_jdk_42_method_139_code_25 : decode jdk_42_method_139_code 25 = .ok (.areturn, 1) := by decide +kernel
theorem ef_vo (m : MethodId) (x0 : Int32) : entryFrame m #[(.int x0)] 1 = mkF m 0 #[.val (.int x0)] [] := by first | (simp [entryFrame, mkF, argsToLocals, Value.category]; done) | rfl
def Q_vo (Z : State) (p0 cs : Int32) (h0 : Heap) (n0 : Nat) (v : Option Value) (h : Heap) (L : List Loc) : Prop := ∃ a : Addr, v = some (.ref a) ∧ Fr n0 L ∧ Keep h0 h [] ∧ Exa Z h a "java/lang/String"
set_option maxRecDepth 65536 in
set_option maxHeartbeats 40000000 in
theorem rm_vo (l : Launch) (Z : State) (a0 : Array Value) (hw : ∀ d ∈ tables_1, d.before a0 Z = true) (ws : List Jvm.Cond) (p0 cs : Int32) (h0 : Heap) (n0 : Nat) (Z0 : n0 ≤ h0.size) (S_C : Sta Z h0 "java/lang/String" "COMPACT_STRINGS" "Z" (.int cs)) (hcs : ¬ cs = 0) (hp0 : ¬ (255 : Int32) < p0) :
    MetFree l (⟨"java/lang/String", "valueOf", "(C)Ljava/lang/String;"⟩ : MethodName) (head1 (Jvm.Cond.code (⟨"java/lang/String", "valueOf", "(C)Ljava/lang/String;"⟩ : MethodName) jdk_42_method_139_code 1 (some (.object "java/lang/String")) :: ws) ({ frames := 2, cells := 2, slots := 5, locals := 27 } : Room)) (fun a U => a = #[(.int p0)] ∧ Z.Warmed39 U.vm ∧ U.heap = h0) (fun _ _ _ _ _ => True) (fun _ U o U' => ∃ v L, o = .returned v ∧ Q_vo Z p0 cs h0 n0 v U'.heap L ∧ FrameEnd U o U' L ({ frames := 2, cells := 2, slots := 5, locals := 27 } : Room).cells ({ frames := 2, cells := 2, slots := 5, locals := 27 } : Room).slots) := by
  refine MetFree.of_bodySF (plainFor_of_name own_pn_java_lang_String) hisR ?_
  intro p e s m args below meth c s₁ Bd hml0 hP hK
  obtain ⟨rfl, hZ, hh⟩ := hP
  have hx := Bd.exec
  have hby := Bd.bytes
  have hml : c.maxLocals = 1 := hml0
  have hown : s.vm.findClass "java/lang/String" = some m.cls := findClass_of_methodNamed Bd.named
  have hnm := (name_of_methodNamed Bd.named Bd.method).1
  have hlk := Bd.notSynchronized
  obtain ⟨lc, hlc⟩ : ∃ lc : List Loc, lc = [] := ⟨_, rfl⟩
  have X : Stand p l e ({ frames := 2, cells := 2, slots := 5, locals := 27 } : Room) s m #[(.int p0)] below meth c s₁ lc 0 0 := hlc ▸ Stand.of_body Bd
  have eT : s₁.heap = h0 := by rw [← hh, Bd.state]; rfl
  have N : Fr n0 lc := hlc ▸ Fr.nil n0
  refine own_enter (ef_vo m p0) ?_
  obtain ⟨T, hT⟩ : ∃ T : State, T = s₁ := ⟨_, rfl⟩
  rw [← hT] at X eT ⊢
  show own_W p e below (own_Post s (Q_vo Z p0 cs h0 n0) 2 5) T m 0 #[.val (.int p0)] []
  have Kp : Keep h0 h0 [] := Keep.refl _ _
  refine own_getS X hx hZ hown (host := "") (Or.inl (own_w hw 96 rfl)) Via.refl eT S_C (hb hby own_d_jdk_42_method_139_code_0) (pc' := 3) rfl ?_
  intro T X eT
  refine own_ifN X hx (hb hby own_d_jdk_42_method_139_code_3) (pc' := 6) rfl (show ¬ (cs = (0 : Int32)) from hcs) ?_
  refine own_iloadN X hx (hb hby own_d_jdk_42_method_139_code_6) (pc' := 7) rfl rfl ?_
  refine own_callS X hx hZ [(.int p0)] hown (own_w hw 110 rfl) (own_w hw 111 rfl) (own_w hw 112 rfl) (own_w hw 113 rfl) (by decide) (rm_ce l Z a0 hw [] p0 h0 n0 Z0 hp0) eT (W := 0) (by decide) (by decide) (cells' := 0) (slots' := 0) rfl rfl (by decide) (by decide) (by rw [hml]; rfl) (lenOf own_pd_28C29Z rfl) rfl (S := []) rfl (Nat.le_of_eq rfl) (hb hby own_d_jdk_42_method_139_code_7) (pc' := 10) rfl ?_
  intro v T h1 L lc X eT hq fN
  obtain ⟨rfl, Nq, hqe⟩ := hq
  have N := fN _ N Nq
  rw [hqe] at eT
  show own_W p e below (own_Post s (Q_vo Z p0 cs h0 n0) 2 5) T m 10 #[.val (.int p0)] [(.int (1 : Int32))]
  refine own_ifN X hx (hb hby own_d_jdk_42_method_139_code_10) (pc' := 13) rfl (show ¬ ((1 : Int32) = (0 : Int32)) from (by decide)) ?_
  refine own_new X hx hZ hown (own_w hw 114 rfl) (own_w hw 5 rfl) (own_w hw 6 rfl) eT (hb hby own_d_jdk_42_method_139_code_13) (pc' := 16) rfl (cells' := 1) (slots' := 4) rfl rfl (by decide) (by decide) ?_
  intro T h2 b2 X eT E gb2 E_b2 Db2
  have z_b2 : n0 ≤ b2 := Nat.le_trans Z0 (Nat.le_of_eq gb2.symm)
  have s_b2 : h0.size ≤ b2 := Nat.le_trans Kp.1 (Nat.le_of_eq gb2.symm)
  have S_C := S_C.ext E
  have Z0 := Nat.le_trans Z0 E.1
  have Kp := Kp.ext E
  have F_value_b2 : Fld Z h2 b2 "java/lang/String" "value" "[B" .null := Db2 (Or.inr (own_w hw 20 rfl)) (ty := (.array .byte)) (by decide)
  have F_coder_b2 : Fld Z h2 b2 "java/lang/String" "coder" "B" (.int (0 : Int32)) := Db2 (Or.inr (own_w hw 21 rfl)) (ty := .byte) (by decide)
  refine own_dup X hx (hb hby own_d_jdk_42_method_139_code_16) (pc' := 17) rfl rfl ?_
  refine own_iloadN X hx (hb hby own_d_jdk_42_method_139_code_17) (pc' := 18) rfl rfl ?_
  refine own_callS X hx hZ [(.int p0)] hown (own_w hw 115 rfl) (own_w hw 116 rfl) (own_w hw 112 rfl) (own_w hw 117 rfl) (by decide) (rm_tb l Z a0 hw [] p0 h2 n0 Z0) eT (W := 2) (by decide) (by decide) (cells' := 2) (slots' := 5) rfl rfl (by decide) (by decide) (by rw [hml]; rfl) (lenOf own_pd_28C295bB rfl) rfl (S := [(.ref b2), (.ref b2)]) rfl (Nat.le_of_eq rfl) (hb hby own_d_jdk_42_method_139_code_18) (pc' := 21) rfl ?_
  intro v T h3 L lc X eT hq fN
  obtain ⟨bb, kb, rfl, Nq, Kq, hbb, A_bb⟩ := hq
  have N := fN _ N Nq
  have lt_b2_bb : b2 < bb := Nat.lt_of_lt_of_le E_b2.lt hbb
  have ne_b2_bb : b2 ≠ bb := Nat.ne_of_lt lt_b2_bb
  have S_C := own_sta_keep S_C Kq ns0
  have E_b2 := E_b2.keep Kq
  have F_value_b2 := F_value_b2.keep Kq nin0
  have F_coder_b2 := F_coder_b2.keep Kq nin0
  have Z0 := Nat.le_trans Z0 Kq.1
  have Kp := Kp.trans Kq all0
  show own_W p e below (own_Post s (Q_vo Z p0 cs h0 n0) 2 5) T m 21 #[.val (.int p0)] [(.ref bb), (.ref b2), (.ref b2)]
  refine own_iconst X hx (0 : Int32) (hb hby own_d_jdk_42_method_139_code_21) (pc' := 22) rfl rfl ?_
  refine own_callN X hx hZ b2 [(.ref bb), (.int (0 : Int32))] rfl hown (own_w hw 118 rfl) (own_w hw 119 rfl) (own_w hw 6 rfl) (own_w hw 120 rfl) (by decide) (rm_ib l Z a0 hw [] b2 bb h3 n0 Z0 _ _ E_b2 F_coder_b2 F_value_b2 z_b2) eT (W := 1) (by decide) (by decide) (cells' := 2) (slots' := 5) rfl rfl (by decide) (by decide) (by rw [hml]; rfl) (lenOf own_pd_285bBB29V rfl) rfl (S := [(.ref b2)]) rfl (Nat.le_of_eq rfl) (hb hby own_d_jdk_42_method_139_code_22) (pc' := 25) rfl ?_
  intro v T h4 L lc X eT hq fN
  obtain ⟨rfl, Nq, Kq⟩ := hq
  have N := fN _ N Nq
  have S_C := own_sta_keep S_C Kq (nsS (own_ns_exa E_b2) ns0)
  have E_b2 := E_b2.keep Kq
  have Z0 := Nat.le_trans Z0 Kq.1
  have Kp := Kp.trans Kq (allS (P := fun x => x ∈ ([] : List Addr) ∨ h0.size ≤ x) (Or.inr s_b2) all0)
  show own_W p e below (own_Post s (Q_vo Z p0 cs h0 n0) 2 5) T m 25 #[.val (.int p0)] [(.ref b2)]
  refine own_retA X hx hlk Bd.returns (hb hby own_d_jdk_42_method_139_code_25) rfl rfl rfl (by decide) (by decide) ?_
  rw [eT]
  exact ⟨b2, rfl, N, Kp, E_b2⟩
theorem own_d_method_3_code_0 : decode method_3_code 0 = .ok (.iload_n 0, 1) := by decide +kernel
theorem own_d_method_3_code_1 : decode method_3_code 1 = .ok (.sipush 255, 3) := by decide +kernel
theorem own_d_method_3_code_4 : decode method_3_code 4 = .ok (.iand, 1) := by decide +kernel
theorem own_d_method_3_code_5 : decode method_3_code 5 = .ok (.i2c, 1) := by decide +kernel
theorem own_d_method_3_code_6 : decode method_3_code 6 = .ok (.istore_n 1, 1) := by decide +kernel
theorem own_d_method_3_code_7 : decode method_3_code 7 = .ok (.iload_n 0, 1) := by decide +kernel
theorem own_d_method_3_code_8 : decode method_3_code 8 = .ok (.bipush 8, 2) := by decide +kernel
theorem own_d_method_3_code_10 : decode method_3_code 10 = .ok (.iushr, 1) := by decide +kernel
theorem own_d_method_3_code_11 : decode method_3_code 11 = .ok (.sipush 255, 3) := by decide +kernel
theorem own_d_method_3_code_14 : decode method_3_code 14 = .ok (.iand, 1) := by decide +kernel
theorem own_d_method_3_code_15 : decode method_3_code 15 = .ok (.i2c, 1) := by decide +kernel
theorem own_d_method_3_code_16 : decode method_3_code 16 = .ok (.istore_n 2, 1) := by decide +kernel
theorem own_d_method_3_code_17 : decode method_3_code 17 = .ok (.iload_n 0, 1) := by decide +kernel
theorem own_d_method_3_code_18 : decode method_3_code 18 = .ok (.bipush 16, 2) := by decide +kernel
theorem own_d_method_3_code_20 : decode method_3_code 20 = .ok (.iushr, 1) := by decide +kernel
theorem own_d_method_3_code_21 : decode method_3_code 21 = .ok (.iconst 3, 1) := by decide +kernel
theorem own_d_method_3_code_22 : decode method_3_code 22 = .ok (.iand, 1) := by decide +kernel
theorem own_d_method_3_code_23 : decode method_3_code 23 = .ok (.istore_n 3, 1) := by decide +kernel
theorem own_d_method_3_code_24 : decode method_3_code 24 = .ok (.iload_n 3, 1) := by decide +kernel
theorem own_d_method_3_code_25 : decode method_3_code 25 = .ok (.ifCond .ne 14, 3) := by decide +kernel
theorem own_d_method_3_code_39 : decode method_3_code 39 = .ok (.iload_n 3, 1) := by decide +kernel
theorem own_d_method_3_code_40 : decode method_3_code 40 = .ok (.iconst 1, 1) := by decide +kernel
theorem own_d_method_3_code_41 : decode method_3_code 41 = .ok (.if_icmp .ne 8, 3) := by decide +kernel
theorem own_d_method_3_code_49 : decode method_3_code 49 = .ok (.new 46, 3) := by decide +kernel
theorem own_d_method_3_code_52 : decode method_3_code 52 = .ok (.dup, 1) := by decide +kernel
theorem own_d_method_3_code_53 : decode method_3_code 53 = .ok (.iconst 2, 1) := by decide +kernel
theorem own_d_method_3_code_54 : decode method_3_code 54 = .ok (.newarray .char, 2) := by decide +kernel
theorem own_d_method_3_code_56 : decode method_3_code 56 = .ok (.dup, 1) := by decide +kernel
theorem own_d_method_3_code_57 : decode method_3_code 57 = .ok (.iconst 0, 1) := by decide +kernel
theorem own_d_method_3_code_58 : decode method_3_code 58 = .ok (.iload_n 1, 1) := by decide +kernel
theorem own_d_method_3_code_59 : decode method_3_code 59 = .ok (.castore, 1) := by decide +kernel
theorem own_d_method_3_code_60 : decode method_3_code 60 = .ok (.dup, 1) := by decide +kernel
theorem own_d_method_3_code_61 : decode method_3_code 61 = .ok (.iconst 1, 1) := by decide +kernel
theorem own_d_method_3_code_62 : decode method_3_code 62 = .ok (.iload_n 2, 1) := by decide +kernel
theorem own_d_method_3_code_63 : decode method_3_code 63 = .ok (.castore, 1) := by decide +kernel
theorem own_d_method_3_code_64 : decode method_3_code 64 = .ok (.invokespecial 48, 3) := by decide +kernel
theorem own_pd_285bC29V : parseMethodDescriptor "([C)V" = some ⟨[(.array .char)], none⟩ := by decide +kernel
theorem own_d_method_3_code_67 : decode method_3_code 67 = .ok (.areturn, 1) := by decide +kernel
theorem own_d_method_3_code_44 : decode method_3_code 44 = .ok (.iload_n 1, 1) := by decide +kernel
theorem own_d_method_3_code_45 : decode method_3_code 45 = .ok (.invokestatic 51, 3) := by decide +kernel
theorem own_pd_28C29Ljava2flang2fString3b : parseMethodDescriptor "(C)Ljava/lang/String;" = some ⟨[.char], some (.object "java/lang/String")⟩ := by decide +kernel
theorem own_d_method_3_code_48 : decode method_3_code 48 = .ok (.areturn, 1) := by decide +kernel
theorem own_d_method_3_code_28 : decode method_3_code 28 = .ok (.new 46, 3) := by decide +kernel
theorem own_d_method_3_code_31 : decode method_3_code 31 = .ok (.dup, 1) := by decide +kernel
theorem own_d_method_3_code_32 : decode method_3_code 32 = .ok (.iconst 0, 1) := by decide +kernel
theorem own_d_method_3_code_33 : decode method_3_code 33 = .ok (.newarray .char, 2) := by decide +kernel
theorem own_d_method_3_code_35 : decode method_3_code 35 = .ok (.invokespecial 48, 3) := by decide +kernel
theorem own_d_method_3_code_38 : decode method_3_code 38 = .ok (.areturn, 1) := by decide +kernel
theorem own_pn_com_example_runnel_runnel_apps_AppEnvironmentOfPinLaw : plainName "com/example/runnel/runnel/apps/AppEnvironmentOfPinLaw" = true := by first | (simp [plainName, overriddenIn]; done) | decide +kernel
theorem ef_str (m : MethodId) (x0 : Int32) : entryFrame m #[(.int x0)] 4 = mkF m 0 #[.val (.int x0), .unset, .unset, .unset] [] := by first | (simp [entryFrame, mkF, argsToLocals, Value.category]; done) | rfl
def Q_str (Z : State) (p0 cs : Int32) (h0 : Heap) (n0 : Nat) (v : Option Value) (h : Heap) (L : List Loc) : Prop := ∃ a : Addr, v = some (.ref a) ∧ Fr n0 L ∧ Keep h0 h [] ∧ Exa Z h a "java/lang/String"
set_option maxRecDepth 65536 in
set_option maxHeartbeats 40000000 in
theorem rm_str (l : Launch) (Z : State) (a0 : Array Value) (hw : ∀ d ∈ tables_1, d.before a0 Z = true) (hEL : EW Z a0 own_EL) (ws : List Jvm.Cond) (p0 cs : Int32) (h0 : Heap) (n0 : Nat) (Z0 : n0 ≤ h0.size) (S_C : Sta Z h0 "java/lang/String" "COMPACT_STRINGS" "Z" (.int cs)) (hcs : ¬ cs = 0) :
    MetFree l (⟨"com/example/runnel/runnel/apps/AppEnvironmentOfPinLaw", "str", "(I)Ljava/lang/String;"⟩ : MethodName) (head1 (Jvm.Cond.code (⟨"com/example/runnel/runnel/apps/AppEnvironmentOfPinLaw", "str", "(I)Ljava/lang/String;"⟩ : MethodName) method_3_code 4 (some (.object "java/lang/String")) :: ws) ({ frames := 4, cells := 6, slots := 12, locals := 66 } : Room)) (fun a U => a = #[(.int p0)] ∧ Z.Warmed39 U.vm ∧ U.heap = h0 ∧ CHv Z own_EL U.vm h0) (fun _ _ _ _ _ => True) (fun _ U o U' => ∃ v L, o = .returned v ∧ Q_str Z p0 cs h0 n0 v U'.heap L ∧ CHr Z own_EL U.vm U.heap U'.vm U'.heap ∧ ReturnedEndW U o U' L ({ frames := 4, cells := 6, slots := 12, locals := 66 } : Room).cells ({ frames := 4, cells := 6, slots := 12, locals := 66 } : Room).slots) := by
  refine MetFree.of_bodySF (plainFor_of_name own_pn_com_example_runnel_runnel_apps_AppEnvironmentOfPinLaw) hisR ?_
  intro p e s m args below meth c s₁ Bd hml0 hP hK
  obtain ⟨rfl, hZ, hh, H⟩ := hP
  have hx := Bd.exec
  have hby := Bd.bytes
  have hml : c.maxLocals = 4 := hml0
  have hown : s.vm.findClass "com/example/runnel/runnel/apps/AppEnvironmentOfPinLaw" = some m.cls := findClass_of_methodNamed Bd.named
  have hnm := (name_of_methodNamed Bd.named Bd.method).1
  have hlk := Bd.notSynchronized
  obtain ⟨lc, hlc⟩ : ∃ lc : List Loc, lc = [] := ⟨_, rfl⟩
  have X : Stand p l e ({ frames := 4, cells := 6, slots := 12, locals := 66 } : Room) s m #[(.int p0)] below meth c s₁ lc 0 0 := hlc ▸ Stand.of_body Bd
  have eT : s₁.heap = h0 := by rw [← hh, Bd.state]; rfl
  have N : Fr n0 lc := hlc ▸ Fr.nil n0
  obtain ⟨vm0, hvm⟩ : ∃ v : Vm, v = s.vm := ⟨_, rfl⟩
  have X : Stand p l e ({ frames := 4, cells := 6, slots := 12, locals := 66 } : Room) (s.setVm vm0) m #[(.int p0)] below meth c s₁ lc 0 0 := by rw [hvm]; exact X
  have hZ : Z.Warmed39 (s.setVm vm0).vm := by rw [hvm]; exact hZ
  have hown : (s.setVm vm0).vm.findClass "com/example/runnel/runnel/apps/AppEnvironmentOfPinLaw" = some m.cls := by rw [hvm]; exact hown
  have hS : s.Since vm0 h0.size := by rw [hvm]; exact (State.WarmedH.refl s).since _
  have hk : h0.size ≤ h0.size := Nat.le_refl _
  have CR : CHr Z own_EL s.vm h0 vm0 h0 := by rw [hvm]; exact CHr.refl H
  have H : CHv Z own_EL vm0 h0 := by rw [hvm]; exact H
  refine own_enterS (ef_str m p0) ?_
  obtain ⟨T, hT⟩ : ∃ T : State, T = s₁ := ⟨_, rfl⟩
  rw [← hT] at X eT ⊢
  show own_W p e below (own_PostS Z own_EL s (Q_str Z p0 cs h0 n0) 6 12) T m 0 #[.val (.int p0), .unset, .unset, .unset] []
  have Kp : Keep h0 h0 [] := Keep.refl _ _
  refine own_iloadN X hx (hb hby own_d_method_3_code_0) (pc' := 1) rfl rfl ?_
  refine own_sipush X hx (255 : Int32) (hb hby own_d_method_3_code_1) (pc' := 4) rfl rfl ?_
  refine own_iand X hx (hb hby own_d_method_3_code_4) (pc' := 5) rfl ?_
  refine own_i2c X hx (hb hby own_d_method_3_code_5) (pc' := 6) rfl ?_
  refine own_istoreN X hx (hb hby own_d_method_3_code_6) (pc' := 7) rfl (Ls' := #[.val (.int p0), .val (.int (p0 &&& (255 : Int32)).toUInt32.toUInt16.toUInt32.toInt32), .unset, .unset]) rfl ?_
  refine own_iloadN X hx (hb hby own_d_method_3_code_7) (pc' := 8) rfl rfl ?_
  refine own_bipush X hx (8 : Int32) (hb hby own_d_method_3_code_8) (pc' := 10) rfl rfl ?_
  refine own_iushr X hx (hb hby own_d_method_3_code_10) (pc' := 11) rfl ?_
  refine own_sipush X hx (255 : Int32) (hb hby own_d_method_3_code_11) (pc' := 14) rfl rfl ?_
  refine own_iand X hx (hb hby own_d_method_3_code_14) (pc' := 15) rfl ?_
  refine own_i2c X hx (hb hby own_d_method_3_code_15) (pc' := 16) rfl ?_
  refine own_istoreN X hx (hb hby own_d_method_3_code_16) (pc' := 17) rfl (Ls' := #[.val (.int p0), .val (.int (p0 &&& (255 : Int32)).toUInt32.toUInt16.toUInt32.toInt32), .val (.int ((XT.ushr p0 (8 : Int32)) &&& (255 : Int32)).toUInt32.toUInt16.toUInt32.toInt32), .unset]) rfl ?_
  obtain ⟨d0, h_d0⟩ : ∃ z, z = (p0 &&& (255 : Int32)).toUInt32.toUInt16.toUInt32.toInt32 := ⟨_, rfl⟩
  rw [← h_d0]
  have bd0 : own_lat8 d0 := by rw [h_d0]; exact own_m255 _
  obtain ⟨d1, h_d1⟩ : ∃ z, z = ((XT.ushr p0 (8 : Int32)) &&& (255 : Int32)).toUInt32.toUInt16.toUInt32.toInt32 := ⟨_, rfl⟩
  rw [← h_d1]
  have bd1 : own_lat8 d1 := by rw [h_d1]; exact own_m255 _
  refine own_iloadN X hx (hb hby own_d_method_3_code_17) (pc' := 18) rfl rfl ?_
  refine own_bipush X hx (16 : Int32) (hb hby own_d_method_3_code_18) (pc' := 20) rfl rfl ?_
  refine own_iushr X hx (hb hby own_d_method_3_code_20) (pc' := 21) rfl ?_
  refine own_iconst X hx (3 : Int32) (hb hby own_d_method_3_code_21) (pc' := 22) rfl rfl ?_
  refine own_iand X hx (hb hby own_d_method_3_code_22) (pc' := 23) rfl ?_
  refine own_istoreN X hx (hb hby own_d_method_3_code_23) (pc' := 24) rfl (Ls' := #[.val (.int p0), .val (.int d0), .val (.int d1), .val (.int ((XT.ushr p0 (16 : Int32)) &&& (3 : Int32)))]) rfl ?_
  refine own_iloadN X hx (hb hby own_d_method_3_code_24) (pc' := 25) rfl rfl ?_
  refine own_if X hx (hb hby own_d_method_3_code_25) (by decide) (pcY := 39) (pcN := 28) rfl rfl (fun (hc25 : ¬ (((XT.ushr p0 (16 : Int32)) &&& (3 : Int32)) = (0 : Int32))) => ?_) (fun (hc25 : ((XT.ushr p0 (16 : Int32)) &&& (3 : Int32)) = (0 : Int32)) => ?_)
  · refine own_iloadN X hx (hb hby own_d_method_3_code_39) (pc' := 40) rfl rfl ?_
    refine own_iconst X hx (1 : Int32) (hb hby own_d_method_3_code_40) (pc' := 41) rfl rfl ?_
    refine own_icmp X hx (hb hby own_d_method_3_code_41) (by decide) (pcY := 49) (pcN := 44) rfl rfl (fun (hc41 : ¬ (((XT.ushr p0 (16 : Int32)) &&& (3 : Int32)) = (1 : Int32))) => ?_) (fun (hc41 : ((XT.ushr p0 (16 : Int32)) &&& (3 : Int32)) = (1 : Int32)) => ?_)
    · refine own_new X hx hZ hown (own_w hw 4 rfl) (own_w hw 5 rfl) (own_w hw 6 rfl) eT (hb hby own_d_method_3_code_49) (pc' := 52) rfl (cells' := 1) (slots' := 4) rfl rfl (by decide) (by decide) ?_
      intro T h1 b1 X eT E gb1 E_b1 Db1
      have z_b1 : n0 ≤ b1 := Nat.le_trans Z0 (Nat.le_of_eq gb1.symm)
      have s_b1 : h0.size ≤ b1 := Nat.le_trans Kp.1 (Nat.le_of_eq gb1.symm)
      have S_b1 : Safe Z own_EL vm0 h0 b1 := Safe.new (Nat.le_of_eq gb1.symm)
      have S_b1 := S_b1.ext E H
      have CR := CR.trans (CHr.ext E H)
      have H := H.ext E
      have hk := Nat.le_trans hk E.1
      have S_C := S_C.ext E
      have Z0 := Nat.le_trans Z0 E.1
      have Kp := Kp.ext E
      have F_value_b1 : Fld Z h1 b1 "java/lang/String" "value" "[B" .null := Db1 (Or.inr (own_w hw 20 rfl)) (ty := (.array .byte)) (by decide)
      have F_coder_b1 : Fld Z h1 b1 "java/lang/String" "coder" "B" (.int (0 : Int32)) := Db1 (Or.inr (own_w hw 21 rfl)) (ty := .byte) (by decide)
      refine own_dup X hx (hb hby own_d_method_3_code_52) (pc' := 53) rfl rfl ?_
      refine own_iconst X hx (2 : Int32) (hb hby own_d_method_3_code_53) (pc' := 54) rfl rfl ?_
      refine own_newarr X hx hZ (own_w hw 7 rfl) eT (hb hby own_d_method_3_code_54) (pc' := 56) rfl (by decide) 2 (by decide) (by decide) (cells' := 2) (slots' := 6) rfl rfl (by decide) (by decide) ?_
      intro T h2 k_b2 b2 X eT E gb2 A_b2
      have lt_b1_b2 : b1 < b2 := Nat.lt_of_lt_of_le E_b1.lt (Nat.le_of_eq gb2.symm)
      have ne_b1_b2 : b1 ≠ b2 := Nat.ne_of_lt lt_b1_b2
      have z_b2 : n0 ≤ b2 := Nat.le_trans Z0 (Nat.le_of_eq gb2.symm)
      have s_b2 : h0.size ≤ b2 := Nat.le_trans Kp.1 (Nat.le_of_eq gb2.symm)
      have S_b1 := S_b1.ext E H
      have CR := CR.trans (CHr.ext E H)
      have H := H.ext E
      have hk := Nat.le_trans hk E.1
      have S_C := S_C.ext E
      have E_b1 := E_b1.ext E
      have F_value_b1 := F_value_b1.ext E
      have F_coder_b1 := F_coder_b1.ext E
      have Z0 := Nat.le_trans Z0 E.1
      have Kp := Kp.ext E
      have A_b2 : Arv Z h2 b2 k_b2 .char (2 : Int32) [(.int (0 : Int32)), (.int (0 : Int32))] (.int (0 : Int32)) := A_b2.pad (pad_rep [] (.int (0 : Int32)) 2)
      refine own_dup X hx (hb hby own_d_method_3_code_56) (pc' := 57) rfl rfl ?_
      refine own_iconst X hx (0 : Int32) (hb hby own_d_method_3_code_57) (pc' := 58) rfl rfl ?_
      refine own_iloadN X hx (hb hby own_d_method_3_code_58) (pc' := 59) rfl rfl ?_
      refine own_castore X hx hZ eT A_b2 (by decide) 0 rfl (by show 0 < 2; decide) (hb hby own_d_method_3_code_59) (pc' := 60) rfl ?_
      intro T h3 lc X eT Kq A_b2n fN
      have hsf : ∀ x ∈ ([b2] : List Addr), Safe Z own_EL vm0 h2 x := (sfS (Safe.arv hZ.alike A_b2 (by decide)) sf0)
      have S_b1 := S_b1.keep Kq hsf H
      have CR := CR.trans (CHr.keep Kq hsf H)
      have H := H.keep Kq hsf
      have hk := Nat.le_trans hk Kq.1
      have S_C := own_sta_keep S_C Kq (nsS (own_ns_arv A_b2) ns0)
      have E_b1 := E_b1.keep Kq
      have F_value_b1 := F_value_b1.keep Kq (ninS ne_b1_b2 nin0)
      have F_coder_b1 := F_coder_b1.keep Kq (ninS ne_b1_b2 nin0)
      have Z0 := Nat.le_trans Z0 Kq.1
      have A_b2 := A_b2n
      have N := fN _ z_b2 N
      have Kp := Kp.trans Kq (allS (P := fun x => x ∈ [] ∨ h0.size ≤ x) (Or.inr s_b2) all0)
      rw [own_nc bd0] at A_b2
      have A_b2 : Arv Z h3 b2 _ .char (2 : Int32) [(.int d0), (.int (0 : Int32))] (.int (0 : Int32)) := A_b2
      refine own_dup X hx (hb hby own_d_method_3_code_60) (pc' := 61) rfl rfl ?_
      refine own_iconst X hx (1 : Int32) (hb hby own_d_method_3_code_61) (pc' := 62) rfl rfl ?_
      refine own_iloadN X hx (hb hby own_d_method_3_code_62) (pc' := 63) rfl rfl ?_
      refine own_castore X hx hZ eT A_b2 (by decide) 1 rfl (by show 1 < 2; decide) (hb hby own_d_method_3_code_63) (pc' := 64) rfl ?_
      intro T h4 lc X eT Kq A_b2n fN
      have hsf : ∀ x ∈ ([b2] : List Addr), Safe Z own_EL vm0 h3 x := (sfS (Safe.arv hZ.alike A_b2 (by decide)) sf0)
      have S_b1 := S_b1.keep Kq hsf H
      have CR := CR.trans (CHr.keep Kq hsf H)
      have H := H.keep Kq hsf
      have hk := Nat.le_trans hk Kq.1
      have S_C := own_sta_keep S_C Kq (nsS (own_ns_arv A_b2) ns0)
      have E_b1 := E_b1.keep Kq
      have F_value_b1 := F_value_b1.keep Kq (ninS ne_b1_b2 nin0)
      have F_coder_b1 := F_coder_b1.keep Kq (ninS ne_b1_b2 nin0)
      have Z0 := Nat.le_trans Z0 Kq.1
      have A_b2 := A_b2n
      have N := fN _ z_b2 N
      have Kp := Kp.trans Kq (allS (P := fun x => x ∈ [] ∨ h0.size ≤ x) (Or.inr s_b2) all0)
      rw [own_nc bd1] at A_b2
      have A_b2 : Arv Z h4 b2 _ .char (2 : Int32) [(.int d0), (.int d1)] (.int (0 : Int32)) := A_b2
      refine own_callN X hx hZ b1 [(.ref b2)] rfl hown (own_w hw 8 rfl) (own_w hw 9 rfl) (own_w hw 6 rfl) (own_w hw 10 rfl) (by decide) (rm_ic2 l Z a0 hw [] b1 b2 _ cs d0 d1 h4 n0 Z0 S_C hcs _ _ E_b1 F_coder_b1 F_value_b1 A_b2 ne_b1_b2 (own_le bd0) (own_le bd1) z_b1) eT (W := 1) (by decide) (by decide) (cells' := 3) (slots' := 8) rfl rfl (by decide) (by decide) (by rw [hml]; rfl) (lenOf own_pd_285bC29V rfl) rfl (S := [(.ref b1)]) rfl (Nat.le_of_eq rfl) (hb hby own_d_method_3_code_64) (pc' := 67) rfl ?_
      intro v T h5 L lc X eT hq fN
      obtain ⟨rfl, Nq, Kq, bb, kb, hbb, F_c, F_v, A_bb⟩ := hq
      have N := fN _ N Nq
      have Kp := Kp.trans Kq (allS (P := fun x => x ∈ ([] : List Addr) ∨ h0.size ≤ x) (Or.inr s_b1) all0)
      have hsf : ∀ x ∈ ([b1] : List Addr), Safe Z own_EL vm0 h4 x := (sfS S_b1 sf0)
      have S_b1 := S_b1.keep Kq hsf H
      have CR := CR.trans (CHr.keep Kq hsf H)
      have H := H.keep Kq hsf
      have hk := Nat.le_trans hk Kq.1
      have S_C := own_sta_keep S_C Kq (nsS (own_ns_exa E_b1) ns0)
      have E_b1 := E_b1.keep Kq
      have A_b2 := A_b2.keep Kq (ninS (Ne.symm ne_b1_b2) nin0)
      have Z0 := Nat.le_trans Z0 Kq.1
      show own_W p e below (own_PostS Z own_EL s (Q_str Z p0 cs h0 n0) 6 12) T m 67 #[.val (.int p0), .val (.int d0), .val (.int d1), .val (.int ((XT.ushr p0 (16 : Int32)) &&& (3 : Int32)))] [(.ref b1)]
      refine own_retAS X hx hlk hZ eT hh hS hk hEL H CR Bd.returns (hb hby own_d_method_3_code_67) rfl rfl rfl (by decide) (by decide) ?_
      rw [eT]
      exact ⟨b1, rfl, N, Kp, E_b1⟩
    · refine own_iloadN X hx (hb hby own_d_method_3_code_44) (pc' := 45) rfl rfl ?_
      refine own_callS X hx hZ [(.int d0)] hown (own_w hw 107 rfl) (own_w hw 108 rfl) (own_w hw 6 rfl) (own_w hw 109 rfl) (by decide) (rm_vo l Z a0 hw [] d0 cs h0 n0 Z0 S_C hcs (own_le bd0)) eT (W := 0) (by decide) (by decide) (cells' := 2) (slots' := 5) rfl rfl (by decide) (by decide) (by rw [hml]; rfl) (lenOf own_pd_28C29Ljava2flang2fString3b rfl) rfl (S := []) rfl (Nat.le_of_eq rfl) (hb hby own_d_method_3_code_45) (pc' := 48) rfl ?_
      intro v T h6 L lc X eT hq fN
      obtain ⟨rs, rfl, Nq, Kq, E_rs⟩ := hq
      have N := fN _ N Nq
      have hsf : ∀ x ∈ ([] : List Addr), Safe Z own_EL vm0 h0 x := sf0
      have CR := CR.trans (CHr.keep Kq hsf H)
      have H := H.keep Kq hsf
      have hk := Nat.le_trans hk Kq.1
      have S_C := own_sta_keep S_C Kq ns0
      have Z0 := Nat.le_trans Z0 Kq.1
      have Kp := Kp.trans Kq all0
      show own_W p e below (own_PostS Z own_EL s (Q_str Z p0 cs h0 n0) 6 12) T m 48 #[.val (.int p0), .val (.int d0), .val (.int d1), .val (.int ((XT.ushr p0 (16 : Int32)) &&& (3 : Int32)))] [(.ref rs)]
      refine own_retAS X hx hlk hZ eT hh hS hk hEL H CR Bd.returns (hb hby own_d_method_3_code_48) rfl rfl rfl (by decide) (by decide) ?_
      rw [eT]
      exact ⟨rs, rfl, N, Kp, E_rs⟩
  · refine own_new X hx hZ hown (own_w hw 4 rfl) (own_w hw 5 rfl) (own_w hw 6 rfl) eT (hb hby own_d_method_3_code_28) (pc' := 31) rfl (cells' := 1) (slots' := 4) rfl rfl (by decide) (by decide) ?_
    intro T h7 b7 X eT E gb7 E_b7 Db7
    have z_b7 : n0 ≤ b7 := Nat.le_trans Z0 (Nat.le_of_eq gb7.symm)
    have s_b7 : h0.size ≤ b7 := Nat.le_trans Kp.1 (Nat.le_of_eq gb7.symm)
    have S_b7 : Safe Z own_EL vm0 h0 b7 := Safe.new (Nat.le_of_eq gb7.symm)
    have S_b7 := S_b7.ext E H
    have CR := CR.trans (CHr.ext E H)
    have H := H.ext E
    have hk := Nat.le_trans hk E.1
    have S_C := S_C.ext E
    have Z0 := Nat.le_trans Z0 E.1
    have Kp := Kp.ext E
    have F_value_b7 : Fld Z h7 b7 "java/lang/String" "value" "[B" .null := Db7 (Or.inr (own_w hw 20 rfl)) (ty := (.array .byte)) (by decide)
    have F_coder_b7 : Fld Z h7 b7 "java/lang/String" "coder" "B" (.int (0 : Int32)) := Db7 (Or.inr (own_w hw 21 rfl)) (ty := .byte) (by decide)
    refine own_dup X hx (hb hby own_d_method_3_code_31) (pc' := 32) rfl rfl ?_
    refine own_iconst X hx (0 : Int32) (hb hby own_d_method_3_code_32) (pc' := 33) rfl rfl ?_
    refine own_newarr X hx hZ (own_w hw 7 rfl) eT (hb hby own_d_method_3_code_33) (pc' := 35) rfl (by decide) 0 (by decide) (by decide) (cells' := 2) (slots' := 4) rfl rfl (by decide) (by decide) ?_
    intro T h8 k_b8 b8 X eT E gb8 A_b8
    have lt_b7_b8 : b7 < b8 := Nat.lt_of_lt_of_le E_b7.lt (Nat.le_of_eq gb8.symm)
    have ne_b7_b8 : b7 ≠ b8 := Nat.ne_of_lt lt_b7_b8
    have z_b8 : n0 ≤ b8 := Nat.le_trans Z0 (Nat.le_of_eq gb8.symm)
    have s_b8 : h0.size ≤ b8 := Nat.le_trans Kp.1 (Nat.le_of_eq gb8.symm)
    have S_b7 := S_b7.ext E H
    have CR := CR.trans (CHr.ext E H)
    have H := H.ext E
    have hk := Nat.le_trans hk E.1
    have S_C := S_C.ext E
    have E_b7 := E_b7.ext E
    have F_value_b7 := F_value_b7.ext E
    have F_coder_b7 := F_coder_b7.ext E
    have Z0 := Nat.le_trans Z0 E.1
    have Kp := Kp.ext E
    have A_b8 : Arv Z h8 b8 k_b8 .char (0 : Int32) [] (.int (0 : Int32)) := A_b8.pad (pad_rep [] (.int (0 : Int32)) 0)
    refine own_callNS X hx hZ b7 [(.ref b8)] rfl hown (own_w hw 8 rfl) (own_w hw 9 rfl) (own_w hw 6 rfl) (own_w hw 10 rfl) (by decide) (rm_ic0 l Z a0 hw hEL [] b7 b8 h8 n0 Z0 _ E_b7 F_coder_b7 F_value_b7 z_b7 _ _ A_b8) eT hS hk hEL H (W := 1) (by decide) (by decide) (cells' := 6) (slots' := 12) rfl rfl (by decide) (by decide) (by rw [hml]; rfl) (lenOf own_pd_285bC29V rfl) rfl (S := [(.ref b7)]) rfl (Nat.le_of_eq rfl) (hb hby own_d_method_3_code_35) (pc' := 38) rfl ?_
    intro v T h9 L lc vm0 k1 X eT hS hk hZ hown CQ hq fN
    obtain ⟨rfl, Nq, Kq, bb, kb, F_c, F_v, A_bb⟩ := hq
    have N := fN _ N Nq
    have Kp := Kp.trans Kq (allS (P := fun x => x ∈ ([] : List Addr) ∨ h0.size ≤ x) (Or.inr s_b7) all0)
    have S_b7 := CQ.safe E_b7.lt S_b7
    have CR := CR.trans CQ
    have H := CQ.1
    have S_C := own_sta_keep S_C Kq (nsS (own_ns_exa E_b7) ns0)
    have E_b7 := E_b7.keep Kq
    have A_b8 := A_b8.keep Kq (ninS (Ne.symm ne_b7_b8) nin0)
    have Z0 := Nat.le_trans Z0 Kq.1
    show own_W p e below (own_PostS Z own_EL s (Q_str Z p0 cs h0 n0) 6 12) T m 38 #[.val (.int p0), .val (.int d0), .val (.int d1), .val (.int ((XT.ushr p0 (16 : Int32)) &&& (3 : Int32)))] [(.ref b7)]
    refine own_retAS X hx hlk hZ eT hh hS hk hEL H CR Bd.returns (hb hby own_d_method_3_code_38) rfl rfl rfl (by decide) (by decide) ?_
    rw [eT]
    exact ⟨b7, rfl, N, Kp, E_b7⟩
theorem own_d_jdk_30_method_1_code_0 : decode jdk_30_method_1_code 0 = .ok (.aload_n 0, 1) := by decide +kernel
theorem own_d_jdk_30_method_1_code_1 : decode jdk_30_method_1_code 1 = .ok (.invokespecial 1, 3) := by decide +kernel
theorem own_d_jdk_30_method_1_code_4 : decode jdk_30_method_1_code 4 = .ok (.return_, 1) := by decide +kernel
theorem own_pn_java_lang_Record : plainName "java/lang/Record" = true := by first | (simp [plainName, overriddenIn]; done) | decide +kernel
theorem ef_rec (m : MethodId) (x0 : Addr) : entryFrame m #[(.ref x0)] 1 = mkF m 0 #[.val (.ref x0)] [] := by first | (simp [entryFrame, mkF, argsToLocals, Value.category]; done) | rfl
def Q_rec (Z : State) (a1 : Addr) (h0 : Heap) (n0 : Nat) (v : Option Value) (h : Heap) (L : List Loc) : Prop := v = none ∧ Fr n0 L ∧ h = h0
set_option maxRecDepth 65536 in
set_option maxHeartbeats 40000000 in
theorem rm_rec (l : Launch) (Z : State) (a0 : Array Value) (hw : ∀ d ∈ tables_1, d.before a0 Z = true) (ws : List Jvm.Cond) (a1 : Addr) (h0 : Heap) (n0 : Nat) (Z0 : n0 ≤ h0.size)  :
    MetFree l (⟨"java/lang/Record", "<init>", "()V"⟩ : MethodName) (head1 (Jvm.Cond.code (⟨"java/lang/Record", "<init>", "()V"⟩ : MethodName) jdk_30_method_1_code 1 none :: ws) ({ frames := 1, cells := 0, slots := 0, locals := 12 } : Room)) (fun a U => a = #[(.ref a1)] ∧ Z.Warmed39 U.vm ∧ U.heap = h0) (fun _ _ _ _ _ => True) (fun _ U o U' => ∃ v L, o = .returned v ∧ Q_rec Z a1 h0 n0 v U'.heap L ∧ FrameEnd U o U' L ({ frames := 1, cells := 0, slots := 0, locals := 12 } : Room).cells ({ frames := 1, cells := 0, slots := 0, locals := 12 } : Room).slots) := by
  refine MetFree.of_bodySF (plainFor_of_name own_pn_java_lang_Record) hisR ?_
  intro p e s m args below meth c s₁ Bd hml0 hP hK
  obtain ⟨rfl, hZ, hh⟩ := hP
  have hx := Bd.exec
  have hby := Bd.bytes
  have hml : c.maxLocals = 1 := hml0
  have hown : s.vm.findClass "java/lang/Record" = some m.cls := findClass_of_methodNamed Bd.named
  have hnm := (name_of_methodNamed Bd.named Bd.method).1
  have hlk := Bd.notSynchronized
  obtain ⟨lc, hlc⟩ : ∃ lc : List Loc, lc = [] := ⟨_, rfl⟩
  have X : Stand p l e ({ frames := 1, cells := 0, slots := 0, locals := 12 } : Room) s m #[(.ref a1)] below meth c s₁ lc 0 0 := hlc ▸ Stand.of_body Bd
  have eT : s₁.heap = h0 := by rw [← hh, Bd.state]; rfl
  have N : Fr n0 lc := hlc ▸ Fr.nil n0
  refine own_enter (ef_rec m a1) ?_
  obtain ⟨T, hT⟩ : ∃ T : State, T = s₁ := ⟨_, rfl⟩
  rw [← hT] at X eT ⊢
  show own_W p e below (own_Post s (Q_rec Z a1 h0 n0) 0 0) T m 0 #[.val (.ref a1)] []
  refine own_aloadN X hx (hb hby own_d_jdk_30_method_1_code_0) (pc' := 1) rfl rfl rfl ?_
  refine own_initO X hx hZ hown (own_w hw 40 rfl) (own_w hw 16 rfl) (own_w hw 17 rfl) eT (by rw [hml]; rfl) (hb hby own_d_jdk_30_method_1_code_1) (pc' := 4) rfl (by decide) (W := 0) (Nat.le_of_eq rfl) (by decide) ?_
  intro T X eT
  refine own_ret0 X hx hlk Bd.returns (hb hby own_d_jdk_30_method_1_code_4) (by decide) (by decide) ?_
  rw [eT]
  exact ⟨rfl, N, rfl⟩
theorem own_d_prog_14_method_1_code_0 : decode prog_14_method_1_code 0 = .ok (.aload_n 0, 1) := by decide +kernel
theorem own_d_prog_14_method_1_code_1 : decode prog_14_method_1_code 1 = .ok (.invokespecial 1, 3) := by decide +kernel
theorem own_pd_2829V : parseMethodDescriptor "()V" = some ⟨[], none⟩ := by decide +kernel
theorem own_d_prog_14_method_1_code_4 : decode prog_14_method_1_code 4 = .ok (.aload_n 0, 1) := by decide +kernel
theorem own_d_prog_14_method_1_code_5 : decode prog_14_method_1_code 5 = .ok (.aload_n 1, 1) := by decide +kernel
theorem own_d_prog_14_method_1_code_6 : decode prog_14_method_1_code 6 = .ok (.putfield 7, 3) := by decide +kernel
theorem own_d_prog_14_method_1_code_9 : decode prog_14_method_1_code 9 = .ok (.aload_n 0, 1) := by decide +kernel
theorem own_d_prog_14_method_1_code_10 : decode prog_14_method_1_code 10 = .ok (.aload_n 2, 1) := by decide +kernel
theorem own_d_prog_14_method_1_code_11 : decode prog_14_method_1_code 11 = .ok (.putfield 13, 3) := by decide +kernel
theorem own_d_prog_14_method_1_code_14 : decode prog_14_method_1_code 14 = .ok (.aload_n 0, 1) := by decide +kernel
theorem own_d_prog_14_method_1_code_15 : decode prog_14_method_1_code 15 = .ok (.aload_n 3, 1) := by decide +kernel
theorem own_d_prog_14_method_1_code_16 : decode prog_14_method_1_code 16 = .ok (.putfield 16, 3) := by decide +kernel
theorem own_d_prog_14_method_1_code_19 : decode prog_14_method_1_code 19 = .ok (.aload_n 0, 1) := by decide +kernel
theorem own_d_prog_14_method_1_code_20 : decode prog_14_method_1_code 20 = .ok (.aload 4, 2) := by decide +kernel
theorem own_d_prog_14_method_1_code_22 : decode prog_14_method_1_code 22 = .ok (.putfield 19, 3) := by decide +kernel
theorem own_d_prog_14_method_1_code_25 : decode prog_14_method_1_code 25 = .ok (.aload_n 0, 1) := by decide +kernel
theorem own_d_prog_14_method_1_code_26 : decode prog_14_method_1_code 26 = .ok (.aload 5, 2) := by decide +kernel
theorem own_d_prog_14_method_1_code_28 : decode prog_14_method_1_code 28 = .ok (.putfield 22, 3) := by decide +kernel
theorem own_d_prog_14_method_1_code_31 : decode prog_14_method_1_code 31 = .ok (.aload_n 0, 1) := by decide +kernel
theorem own_d_prog_14_method_1_code_32 : decode prog_14_method_1_code 32 = .ok (.aload 6, 2) := by decide +kernel
theorem own_d_prog_14_method_1_code_34 : decode prog_14_method_1_code 34 = .ok (.putfield 26, 3) := by decide +kernel
theorem own_d_prog_14_method_1_code_37 : decode prog_14_method_1_code 37 = .ok (.return_, 1) := by decide +kernel
theorem own_pn_com_example_runnel_runnel_apps_AppEnvironment : plainName "com/example/runnel/runnel/apps/AppEnvironment" = true := by first | (simp [plainName, overriddenIn]; done) | decide +kernel
theorem ef_in00 (m : MethodId) (x0 : Addr) (x1 : Addr) (x2 : Addr) (x3 : Addr) : entryFrame m #[(.ref x0), (.ref x1), (.ref x2), (.ref x3), .null, .null, .null] 7 = mkF m 0 #[.val (.ref x0), .val (.ref x1), .val (.ref x2), .val (.ref x3), .val .null, .val .null, .val .null] [] := by first | (simp [entryFrame, mkF, argsToLocals, Value.category]; done) | rfl
def Q_in00 (Z : State) (a1 : Addr) (x0 x1 x2 : Addr) (h0 : Heap) (n0 : Nat) (v : Option Value) (h : Heap) (L : List Loc) : Prop := v = none ∧ Fr n0 L ∧ Keep h0 h [a1] ∧ Fld Z h a1 "com/example/runnel/runnel/apps/AppEnvironment" "brokerUri" "Ljava/lang/String;" (.ref x0) ∧ Fld Z h a1 "com/example/runnel/runnel/apps/AppEnvironment" "input" "Ljava/lang/String;" (.ref x1) ∧ Fld Z h a1 "com/example/runnel/runnel/apps/AppEnvironment" "output" "Ljava/lang/String;" (.ref x2) ∧ Fld Z h a1 "com/example/runnel/runnel/apps/AppEnvironment" "instance" "Ljava/lang/String;" .null ∧ Fld Z h a1 "com/example/runnel/runnel/apps/AppEnvironment" "statusFile" "Ljava/nio/file/Path;" .null ∧ Fld Z h a1 "com/example/runnel/runnel/apps/AppEnvironment" "positionFile" "Ljava/nio/file/Path;" .null
set_option maxRecDepth 65536 in
set_option maxHeartbeats 40000000 in
theorem rm_in00 (l : Launch) (Z : State) (a0 : Array Value) (hw : ∀ d ∈ tables_1, d.before a0 Z = true) (ws : List Jvm.Cond) (a1 : Addr) (x0 x1 x2 : Addr) (h0 : Heap) (n0 : Nat) (Z0 : n0 ≤ h0.size) (u_brokerUri u_input u_output u_instance u_statusFile u_positionFile : Value) (E_a1 : Exa Z h0 a1 "com/example/runnel/runnel/apps/AppEnvironment") (F_brokerUri : Fld Z h0 a1 "com/example/runnel/runnel/apps/AppEnvironment" "brokerUri" "Ljava/lang/String;" u_brokerUri) (F_input : Fld Z h0 a1 "com/example/runnel/runnel/apps/AppEnvironment" "input" "Ljava/lang/String;" u_input) (F_output : Fld Z h0 a1 "com/example/runnel/runnel/apps/AppEnvironment" "output" "Ljava/lang/String;" u_output) (F_instance : Fld Z h0 a1 "com/example/runnel/runnel/apps/AppEnvironment" "instance" "Ljava/lang/String;" u_instance) (F_statusFile : Fld Z h0 a1 "com/example/runnel/runnel/apps/AppEnvironment" "statusFile" "Ljava/nio/file/Path;" u_statusFile) (F_positionFile : Fld Z h0 a1 "com/example/runnel/runnel/apps/AppEnvironment" "positionFile" "Ljava/nio/file/Path;" u_positionFile) (z_a1 : n0 ≤ a1) :
    MetFree l (⟨"com/example/runnel/runnel/apps/AppEnvironment", "<init>", "(Ljava/lang/String;Ljava/lang/String;Ljava/lang/String;Ljava/lang/String;Ljava/nio/file/Path;Ljava/nio/file/Path;)V"⟩ : MethodName) (head1 (Jvm.Cond.code (⟨"com/example/runnel/runnel/apps/AppEnvironment", "<init>", "(Ljava/lang/String;Ljava/lang/String;Ljava/lang/String;Ljava/lang/String;Ljava/nio/file/Path;Ljava/nio/file/Path;)V"⟩ : MethodName) prog_14_method_1_code 7 none :: ws) ({ frames := 2, cells := 0, slots := 0, locals := 24 } : Room)) (fun a U => a = #[(.ref a1), (.ref x0), (.ref x1), (.ref x2), .null, .null, .null] ∧ Z.Warmed39 U.vm ∧ U.heap = h0) (fun _ _ _ _ _ => True) (fun _ U o U' => ∃ v L, o = .returned v ∧ Q_in00 Z a1 x0 x1 x2 h0 n0 v U'.heap L ∧ FrameEnd U o U' L ({ frames := 2, cells := 0, slots := 0, locals := 24 } : Room).cells ({ frames := 2, cells := 0, slots := 0, locals := 24 } : Room).slots) := by
  refine MetFree.of_bodySF (plainFor_of_name own_pn_com_example_runnel_runnel_apps_AppEnvironment) hisR ?_
  intro p e s m args below meth c s₁ Bd hml0 hP hK
  obtain ⟨rfl, hZ, hh⟩ := hP
  have hx := Bd.exec
  have hby := Bd.bytes
  have hml : c.maxLocals = 7 := hml0
  have hown : s.vm.findClass "com/example/runnel/runnel/apps/AppEnvironment" = some m.cls := findClass_of_methodNamed Bd.named
  have hnm := (name_of_methodNamed Bd.named Bd.method).1
  have hlk := Bd.notSynchronized
  obtain ⟨lc, hlc⟩ : ∃ lc : List Loc, lc = [] := ⟨_, rfl⟩
  have X : Stand p l e ({ frames := 2, cells := 0, slots := 0, locals := 24 } : Room) s m #[(.ref a1), (.ref x0), (.ref x1), (.ref x2), .null, .null, .null] below meth c s₁ lc 0 0 := hlc ▸ Stand.of_body Bd
  have eT : s₁.heap = h0 := by rw [← hh, Bd.state]; rfl
  have N : Fr n0 lc := hlc ▸ Fr.nil n0
  refine own_enter (ef_in00 m a1 x0 x1 x2) ?_
  obtain ⟨T, hT⟩ : ∃ T : State, T = s₁ := ⟨_, rfl⟩
  rw [← hT] at X eT ⊢
  show own_W p e below (own_Post s (Q_in00 Z a1 x0 x1 x2 h0 n0) 0 0) T m 0 #[.val (.ref a1), .val (.ref x0), .val (.ref x1), .val (.ref x2), .val .null, .val .null, .val .null] []
  have Kp : Keep h0 h0 [a1] := Keep.refl _ _
  refine own_aloadN X hx (hb hby own_d_prog_14_method_1_code_0) (pc' := 1) rfl rfl rfl ?_
  refine own_callN X hx hZ a1 [] rfl hown (own_w hw 35 rfl) (own_w hw 36 rfl) (own_w hw 38 rfl) (own_w hw 39 rfl) (by decide) (rm_rec l Z a0 hw [] a1 h0 n0 Z0) eT (W := 0) (by decide) (by decide) (cells' := 0) (slots' := 0) rfl rfl (by decide) (by decide) (by rw [hml]; rfl) (lenOf own_pd_2829V rfl) rfl (S := []) rfl (Nat.le_of_eq rfl) (hb hby own_d_prog_14_method_1_code_1) (pc' := 4) rfl ?_
  intro v T h1 L lc X eT hq fN
  obtain ⟨rfl, Nq, hqe⟩ := hq
  have N := fN _ N Nq
  rw [hqe] at eT
  show own_W p e below (own_Post s (Q_in00 Z a1 x0 x1 x2 h0 n0) 0 0) T m 4 #[.val (.ref a1), .val (.ref x0), .val (.ref x1), .val (.ref x2), .val .null, .val .null, .val .null] []
  refine own_aloadN X hx (hb hby own_d_prog_14_method_1_code_4) (pc' := 5) rfl rfl rfl ?_
  refine own_aloadN X hx (hb hby own_d_prog_14_method_1_code_5) (pc' := 6) rfl rfl rfl ?_
  refine own_putF X hx hZ hown (own_w hw 41 rfl) Via.refl eT F_brokerUri E_a1 (Or.inr ⟨(own_w hw 42 rfl), rfl, hnm⟩) (own_w hw 31 rfl) (ty := (.object "java/lang/String")) (v' := (.ref x0)) (by decide) rfl rfl (hb hby own_d_prog_14_method_1_code_6) (pc' := 9) rfl ?_
  intro T h2 lc X eT Wq fN
  have F_brokerUri := F_brokerUri.same Wq
  have E_a1 := E_a1.wr Wq
  have F_input := F_input.other Wq (Or.inr (slot_ne (Or.inr (own_w hw 44 rfl)) (Or.inr (own_w hw 42 rfl)) (by decide) (t := (.object "java/lang/String")) (t' := (.object "java/lang/String")) (by decide) (by decide)))
  have F_output := F_output.other Wq (Or.inr (slot_ne (Or.inr (own_w hw 46 rfl)) (Or.inr (own_w hw 42 rfl)) (by decide) (t := (.object "java/lang/String")) (t' := (.object "java/lang/String")) (by decide) (by decide)))
  have F_instance := F_instance.other Wq (Or.inr (slot_ne (Or.inr (own_w hw 48 rfl)) (Or.inr (own_w hw 42 rfl)) (by decide) (t := (.object "java/lang/String")) (t' := (.object "java/lang/String")) (by decide) (by decide)))
  have F_statusFile := F_statusFile.other Wq (Or.inr (slot_ne (Or.inr (own_w hw 50 rfl)) (Or.inr (own_w hw 42 rfl)) (by decide) (t := (.object "java/nio/file/Path")) (t' := (.object "java/lang/String")) (by decide) (by decide)))
  have F_positionFile := F_positionFile.other Wq (Or.inr (slot_ne (Or.inr (own_w hw 52 rfl)) (Or.inr (own_w hw 42 rfl)) (by decide) (t := (.object "java/nio/file/Path")) (t' := (.object "java/lang/String")) (by decide) (by decide)))
  have Z0 := Nat.le_trans Z0 (Keep.of_wr Wq).1
  have N := fN _ z_a1 N
  have Kp := Kp.wr Wq (Or.inl (List.mem_of_getElem? (i := 0) rfl))
  refine own_aloadN X hx (hb hby own_d_prog_14_method_1_code_9) (pc' := 10) rfl rfl rfl ?_
  refine own_aloadN X hx (hb hby own_d_prog_14_method_1_code_10) (pc' := 11) rfl rfl rfl ?_
  refine own_putF X hx hZ hown (own_w hw 43 rfl) Via.refl eT F_input E_a1 (Or.inr ⟨(own_w hw 44 rfl), rfl, hnm⟩) (own_w hw 31 rfl) (ty := (.object "java/lang/String")) (v' := (.ref x1)) (by decide) rfl rfl (hb hby own_d_prog_14_method_1_code_11) (pc' := 14) rfl ?_
  intro T h3 lc X eT Wq fN
  have F_input := F_input.same Wq
  have E_a1 := E_a1.wr Wq
  have F_output := F_output.other Wq (Or.inr (slot_ne (Or.inr (own_w hw 46 rfl)) (Or.inr (own_w hw 44 rfl)) (by decide) (t := (.object "java/lang/String")) (t' := (.object "java/lang/String")) (by decide) (by decide)))
  have F_instance := F_instance.other Wq (Or.inr (slot_ne (Or.inr (own_w hw 48 rfl)) (Or.inr (own_w hw 44 rfl)) (by decide) (t := (.object "java/lang/String")) (t' := (.object "java/lang/String")) (by decide) (by decide)))
  have F_statusFile := F_statusFile.other Wq (Or.inr (slot_ne (Or.inr (own_w hw 50 rfl)) (Or.inr (own_w hw 44 rfl)) (by decide) (t := (.object "java/nio/file/Path")) (t' := (.object "java/lang/String")) (by decide) (by decide)))
  have F_positionFile := F_positionFile.other Wq (Or.inr (slot_ne (Or.inr (own_w hw 52 rfl)) (Or.inr (own_w hw 44 rfl)) (by decide) (t := (.object "java/nio/file/Path")) (t' := (.object "java/lang/String")) (by decide) (by decide)))
  have F_brokerUri := F_brokerUri.other Wq (Or.inr (slot_ne (Or.inr (own_w hw 42 rfl)) (Or.inr (own_w hw 44 rfl)) (by decide) (t := (.object "java/lang/String")) (t' := (.object "java/lang/String")) (by decide) (by decide)))
  have Z0 := Nat.le_trans Z0 (Keep.of_wr Wq).1
  have N := fN _ z_a1 N
  have Kp := Kp.wr Wq (Or.inl (List.mem_of_getElem? (i := 0) rfl))
  refine own_aloadN X hx (hb hby own_d_prog_14_method_1_code_14) (pc' := 15) rfl rfl rfl ?_
  refine own_aloadN X hx (hb hby own_d_prog_14_method_1_code_15) (pc' := 16) rfl rfl rfl ?_
  refine own_putF X hx hZ hown (own_w hw 45 rfl) Via.refl eT F_output E_a1 (Or.inr ⟨(own_w hw 46 rfl), rfl, hnm⟩) (own_w hw 31 rfl) (ty := (.object "java/lang/String")) (v' := (.ref x2)) (by decide) rfl rfl (hb hby own_d_prog_14_method_1_code_16) (pc' := 19) rfl ?_
  intro T h4 lc X eT Wq fN
  have F_output := F_output.same Wq
  have E_a1 := E_a1.wr Wq
  have F_instance := F_instance.other Wq (Or.inr (slot_ne (Or.inr (own_w hw 48 rfl)) (Or.inr (own_w hw 46 rfl)) (by decide) (t := (.object "java/lang/String")) (t' := (.object "java/lang/String")) (by decide) (by decide)))
  have F_statusFile := F_statusFile.other Wq (Or.inr (slot_ne (Or.inr (own_w hw 50 rfl)) (Or.inr (own_w hw 46 rfl)) (by decide) (t := (.object "java/nio/file/Path")) (t' := (.object "java/lang/String")) (by decide) (by decide)))
  have F_positionFile := F_positionFile.other Wq (Or.inr (slot_ne (Or.inr (own_w hw 52 rfl)) (Or.inr (own_w hw 46 rfl)) (by decide) (t := (.object "java/nio/file/Path")) (t' := (.object "java/lang/String")) (by decide) (by decide)))
  have F_brokerUri := F_brokerUri.other Wq (Or.inr (slot_ne (Or.inr (own_w hw 42 rfl)) (Or.inr (own_w hw 46 rfl)) (by decide) (t := (.object "java/lang/String")) (t' := (.object "java/lang/String")) (by decide) (by decide)))
  have F_input := F_input.other Wq (Or.inr (slot_ne (Or.inr (own_w hw 44 rfl)) (Or.inr (own_w hw 46 rfl)) (by decide) (t := (.object "java/lang/String")) (t' := (.object "java/lang/String")) (by decide) (by decide)))
  have Z0 := Nat.le_trans Z0 (Keep.of_wr Wq).1
  have N := fN _ z_a1 N
  have Kp := Kp.wr Wq (Or.inl (List.mem_of_getElem? (i := 0) rfl))
  refine own_aloadN X hx (hb hby own_d_prog_14_method_1_code_19) (pc' := 20) rfl rfl rfl ?_
  refine own_aload X hx (hb hby own_d_prog_14_method_1_code_20) (pc' := 22) rfl rfl rfl ?_
  refine own_putF X hx hZ hown (own_w hw 47 rfl) Via.refl eT F_instance E_a1 (Or.inr ⟨(own_w hw 48 rfl), rfl, hnm⟩) (own_w hw 31 rfl) (ty := (.object "java/lang/String")) (v' := .null) (by decide) rfl rfl (hb hby own_d_prog_14_method_1_code_22) (pc' := 25) rfl ?_
  intro T h5 lc X eT Wq fN
  have F_instance := F_instance.same Wq
  have E_a1 := E_a1.wr Wq
  have F_statusFile := F_statusFile.other Wq (Or.inr (slot_ne (Or.inr (own_w hw 50 rfl)) (Or.inr (own_w hw 48 rfl)) (by decide) (t := (.object "java/nio/file/Path")) (t' := (.object "java/lang/String")) (by decide) (by decide)))
  have F_positionFile := F_positionFile.other Wq (Or.inr (slot_ne (Or.inr (own_w hw 52 rfl)) (Or.inr (own_w hw 48 rfl)) (by decide) (t := (.object "java/nio/file/Path")) (t' := (.object "java/lang/String")) (by decide) (by decide)))
  have F_brokerUri := F_brokerUri.other Wq (Or.inr (slot_ne (Or.inr (own_w hw 42 rfl)) (Or.inr (own_w hw 48 rfl)) (by decide) (t := (.object "java/lang/String")) (t' := (.object "java/lang/String")) (by decide) (by decide)))
  have F_input := F_input.other Wq (Or.inr (slot_ne (Or.inr (own_w hw 44 rfl)) (Or.inr (own_w hw 48 rfl)) (by decide) (t := (.object "java/lang/String")) (t' := (.object "java/lang/String")) (by decide) (by decide)))
  have F_output := F_output.other Wq (Or.inr (slot_ne (Or.inr (own_w hw 46 rfl)) (Or.inr (own_w hw 48 rfl)) (by decide) (t := (.object "java/lang/String")) (t' := (.object "java/lang/String")) (by decide) (by decide)))
  have Z0 := Nat.le_trans Z0 (Keep.of_wr Wq).1
  have N := fN _ z_a1 N
  have Kp := Kp.wr Wq (Or.inl (List.mem_of_getElem? (i := 0) rfl))
  refine own_aloadN X hx (hb hby own_d_prog_14_method_1_code_25) (pc' := 26) rfl rfl rfl ?_
  refine own_aload X hx (hb hby own_d_prog_14_method_1_code_26) (pc' := 28) rfl rfl rfl ?_
  refine own_putF X hx hZ hown (own_w hw 49 rfl) Via.refl eT F_statusFile E_a1 (Or.inr ⟨(own_w hw 50 rfl), rfl, hnm⟩) (own_w hw 31 rfl) (ty := (.object "java/nio/file/Path")) (v' := .null) (by decide) rfl rfl (hb hby own_d_prog_14_method_1_code_28) (pc' := 31) rfl ?_
  intro T h6 lc X eT Wq fN
  have F_statusFile := F_statusFile.same Wq
  have E_a1 := E_a1.wr Wq
  have F_positionFile := F_positionFile.other Wq (Or.inr (slot_ne (Or.inr (own_w hw 52 rfl)) (Or.inr (own_w hw 50 rfl)) (by decide) (t := (.object "java/nio/file/Path")) (t' := (.object "java/nio/file/Path")) (by decide) (by decide)))
  have F_brokerUri := F_brokerUri.other Wq (Or.inr (slot_ne (Or.inr (own_w hw 42 rfl)) (Or.inr (own_w hw 50 rfl)) (by decide) (t := (.object "java/lang/String")) (t' := (.object "java/nio/file/Path")) (by decide) (by decide)))
  have F_input := F_input.other Wq (Or.inr (slot_ne (Or.inr (own_w hw 44 rfl)) (Or.inr (own_w hw 50 rfl)) (by decide) (t := (.object "java/lang/String")) (t' := (.object "java/nio/file/Path")) (by decide) (by decide)))
  have F_output := F_output.other Wq (Or.inr (slot_ne (Or.inr (own_w hw 46 rfl)) (Or.inr (own_w hw 50 rfl)) (by decide) (t := (.object "java/lang/String")) (t' := (.object "java/nio/file/Path")) (by decide) (by decide)))
  have F_instance := F_instance.other Wq (Or.inr (slot_ne (Or.inr (own_w hw 48 rfl)) (Or.inr (own_w hw 50 rfl)) (by decide) (t := (.object "java/lang/String")) (t' := (.object "java/nio/file/Path")) (by decide) (by decide)))
  have Z0 := Nat.le_trans Z0 (Keep.of_wr Wq).1
  have N := fN _ z_a1 N
  have Kp := Kp.wr Wq (Or.inl (List.mem_of_getElem? (i := 0) rfl))
  refine own_aloadN X hx (hb hby own_d_prog_14_method_1_code_31) (pc' := 32) rfl rfl rfl ?_
  refine own_aload X hx (hb hby own_d_prog_14_method_1_code_32) (pc' := 34) rfl rfl rfl ?_
  refine own_putF X hx hZ hown (own_w hw 51 rfl) Via.refl eT F_positionFile E_a1 (Or.inr ⟨(own_w hw 52 rfl), rfl, hnm⟩) (own_w hw 31 rfl) (ty := (.object "java/nio/file/Path")) (v' := .null) (by decide) rfl rfl (hb hby own_d_prog_14_method_1_code_34) (pc' := 37) rfl ?_
  intro T h7 lc X eT Wq fN
  have F_positionFile := F_positionFile.same Wq
  have E_a1 := E_a1.wr Wq
  have F_brokerUri := F_brokerUri.other Wq (Or.inr (slot_ne (Or.inr (own_w hw 42 rfl)) (Or.inr (own_w hw 52 rfl)) (by decide) (t := (.object "java/lang/String")) (t' := (.object "java/nio/file/Path")) (by decide) (by decide)))
  have F_input := F_input.other Wq (Or.inr (slot_ne (Or.inr (own_w hw 44 rfl)) (Or.inr (own_w hw 52 rfl)) (by decide) (t := (.object "java/lang/String")) (t' := (.object "java/nio/file/Path")) (by decide) (by decide)))
  have F_output := F_output.other Wq (Or.inr (slot_ne (Or.inr (own_w hw 46 rfl)) (Or.inr (own_w hw 52 rfl)) (by decide) (t := (.object "java/lang/String")) (t' := (.object "java/nio/file/Path")) (by decide) (by decide)))
  have F_instance := F_instance.other Wq (Or.inr (slot_ne (Or.inr (own_w hw 48 rfl)) (Or.inr (own_w hw 52 rfl)) (by decide) (t := (.object "java/lang/String")) (t' := (.object "java/nio/file/Path")) (by decide) (by decide)))
  have F_statusFile := F_statusFile.other Wq (Or.inr (slot_ne (Or.inr (own_w hw 50 rfl)) (Or.inr (own_w hw 52 rfl)) (by decide) (t := (.object "java/nio/file/Path")) (t' := (.object "java/nio/file/Path")) (by decide) (by decide)))
  have Z0 := Nat.le_trans Z0 (Keep.of_wr Wq).1
  have N := fN _ z_a1 N
  have Kp := Kp.wr Wq (Or.inl (List.mem_of_getElem? (i := 0) rfl))
  refine own_ret0 X hx hlk Bd.returns (hb hby own_d_prog_14_method_1_code_37) (by decide) (by decide) ?_
  rw [eT]
  exact ⟨rfl, N, Kp, F_brokerUri, F_input, F_output, F_instance, F_statusFile, F_positionFile⟩
theorem own_d_prog_14_method_2_code_0 : decode prog_14_method_2_code 0 = .ok (.new 8, 3) := by decide +kernel
theorem own_d_prog_14_method_2_code_3 : decode prog_14_method_2_code 3 = .ok (.dup, 1) := by decide +kernel
theorem own_d_prog_14_method_2_code_4 : decode prog_14_method_2_code 4 = .ok (.aload_n 0, 1) := by decide +kernel
theorem own_d_prog_14_method_2_code_5 : decode prog_14_method_2_code 5 = .ok (.aload_n 1, 1) := by decide +kernel
theorem own_d_prog_14_method_2_code_6 : decode prog_14_method_2_code 6 = .ok (.aload_n 2, 1) := by decide +kernel
theorem own_d_prog_14_method_2_code_7 : decode prog_14_method_2_code 7 = .ok (.aconst_null, 1) := by decide +kernel
theorem own_d_prog_14_method_2_code_8 : decode prog_14_method_2_code 8 = .ok (.aconst_null, 1) := by decide +kernel
theorem own_d_prog_14_method_2_code_9 : decode prog_14_method_2_code 9 = .ok (.aconst_null, 1) := by decide +kernel
theorem own_d_prog_14_method_2_code_10 : decode prog_14_method_2_code 10 = .ok (.invokespecial 29, 3) := by decide +kernel
theorem own_pd_28Ljava2flang2fString3bLjava2flang2fString3bLjava2flang2fString3bLjava2flang2fString3bLjava2fnio2ffile2fPath3bLjava2fnio2ffile2fPath3b29V : parseMethodDescriptor "(Ljava/lang/String;Ljava/lang/String;Ljava/lang/String;Ljava/lang/String;Ljava/nio/file/Path;Ljava/nio/file/Path;)V" = some ⟨[(.object "java/lang/String"), (.object "java/lang/String"), (.object "java/lang/String"), (.object "java/lang/String"), (.object "java/nio/file/Path"), (.object "java/nio/file/Path")], none⟩ := by decide +kernel
theorem own_d_prog_14_method_2_code_13 : decode prog_14_method_2_code 13 = .ok (.areturn, 1) := by decide +kernel
theorem ef_of00 (m : MethodId) (x0 : Addr) (x1 : Addr) (x2 : Addr) : entryFrame m #[(.ref x0), (.ref x1), (.ref x2)] 3 = mkF m 0 #[.val (.ref x0), .val (.ref x1), .val (.ref x2)] [] := by first | (simp [entryFrame, mkF, argsToLocals, Value.category]; done) | rfl
def Q_of00 (Z : State) (x0 x1 x2 : Addr) (h0 : Heap) (n0 : Nat) (v : Option Value) (h : Heap) (L : List Loc) : Prop := ∃ a : Addr, v = some (.ref a) ∧ Fr n0 L ∧ Keep h0 h [] ∧ Exa Z h a "com/example/runnel/runnel/apps/AppEnvironment" ∧ Fld Z h a "com/example/runnel/runnel/apps/AppEnvironment" "brokerUri" "Ljava/lang/String;" (.ref x0) ∧ Fld Z h a "com/example/runnel/runnel/apps/AppEnvironment" "input" "Ljava/lang/String;" (.ref x1) ∧ Fld Z h a "com/example/runnel/runnel/apps/AppEnvironment" "output" "Ljava/lang/String;" (.ref x2) ∧ Fld Z h a "com/example/runnel/runnel/apps/AppEnvironment" "instance" "Ljava/lang/String;" .null ∧ Fld Z h a "com/example/runnel/runnel/apps/AppEnvironment" "statusFile" "Ljava/nio/file/Path;" .null ∧ Fld Z h a "com/example/runnel/runnel/apps/AppEnvironment" "positionFile" "Ljava/nio/file/Path;" .null
set_option maxRecDepth 65536 in
set_option maxHeartbeats 40000000 in
theorem rm_of00 (l : Launch) (Z : State) (a0 : Array Value) (hw : ∀ d ∈ tables_1, d.before a0 Z = true) (ws : List Jvm.Cond) (x0 x1 x2 : Addr) (h0 : Heap) (n0 : Nat) (Z0 : n0 ≤ h0.size)  :
    MetFree l (⟨"com/example/runnel/runnel/apps/AppEnvironment", "of", "(Ljava/lang/String;Ljava/lang/String;Ljava/lang/String;)Lcom/example/runnel/runnel/apps/AppEnvironment;"⟩ : MethodName) (head1 (Jvm.Cond.code (⟨"com/example/runnel/runnel/apps/AppEnvironment", "of", "(Ljava/lang/String;Ljava/lang/String;Ljava/lang/String;)Lcom/example/runnel/runnel/apps/AppEnvironment;"⟩ : MethodName) prog_14_method_2_code 3 (some (.object "com/example/runnel/runnel/apps/AppEnvironment")) :: ws) ({ frames := 3, cells := 1, slots := 6, locals := 43 } : Room)) (fun a U => a = #[(.ref x0), (.ref x1), (.ref x2)] ∧ Z.Warmed39 U.vm ∧ U.heap = h0) (fun _ _ _ _ _ => True) (fun _ U o U' => ∃ v L, o = .returned v ∧ Q_of00 Z x0 x1 x2 h0 n0 v U'.heap L ∧ FrameEnd U o U' L ({ frames := 3, cells := 1, slots := 6, locals := 43 } : Room).cells ({ frames := 3, cells := 1, slots := 6, locals := 43 } : Room).slots) := by
  refine MetFree.of_bodySF (plainFor_of_name own_pn_com_example_runnel_runnel_apps_AppEnvironment) hisR ?_
  intro p e s m args below meth c s₁ Bd hml0 hP hK
  obtain ⟨rfl, hZ, hh⟩ := hP
  have hx := Bd.exec
  have hby := Bd.bytes
  have hml : c.maxLocals = 3 := hml0
  have hown : s.vm.findClass "com/example/runnel/runnel/apps/AppEnvironment" = some m.cls := findClass_of_methodNamed Bd.named
  have hnm := (name_of_methodNamed Bd.named Bd.method).1
  have hlk := Bd.notSynchronized
  obtain ⟨lc, hlc⟩ : ∃ lc : List Loc, lc = [] := ⟨_, rfl⟩
  have X : Stand p l e ({ frames := 3, cells := 1, slots := 6, locals := 43 } : Room) s m #[(.ref x0), (.ref x1), (.ref x2)] below meth c s₁ lc 0 0 := hlc ▸ Stand.of_body Bd
  have eT : s₁.heap = h0 := by rw [← hh, Bd.state]; rfl
  have N : Fr n0 lc := hlc ▸ Fr.nil n0
  refine own_enter (ef_of00 m x0 x1 x2) ?_
  obtain ⟨T, hT⟩ : ∃ T : State, T = s₁ := ⟨_, rfl⟩
  rw [← hT] at X eT ⊢
  show own_W p e below (own_Post s (Q_of00 Z x0 x1 x2 h0 n0) 1 6) T m 0 #[.val (.ref x0), .val (.ref x1), .val (.ref x2)] []
  have Kp : Keep h0 h0 [] := Keep.refl _ _
  refine own_new X hx hZ hown (own_w hw 30 rfl) (own_w hw 31 rfl) (own_w hw 28 rfl) eT (hb hby own_d_prog_14_method_2_code_0) (pc' := 3) rfl (cells' := 1) (slots' := 6) rfl rfl (by decide) (by decide) ?_
  intro T h1 b1 X eT E gb1 E_b1 Db1
  have z_b1 : n0 ≤ b1 := Nat.le_trans Z0 (Nat.le_of_eq gb1.symm)
  have s_b1 : h0.size ≤ b1 := Nat.le_trans Kp.1 (Nat.le_of_eq gb1.symm)
  have Z0 := Nat.le_trans Z0 E.1
  have Kp := Kp.ext E
  have F_brokerUri_b1 : Fld Z h1 b1 "com/example/runnel/runnel/apps/AppEnvironment" "brokerUri" "Ljava/lang/String;" .null := Db1 (Or.inr (own_w hw 42 rfl)) (ty := (.object "java/lang/String")) (by decide)
  have F_input_b1 : Fld Z h1 b1 "com/example/runnel/runnel/apps/AppEnvironment" "input" "Ljava/lang/String;" .null := Db1 (Or.inr (own_w hw 44 rfl)) (ty := (.object "java/lang/String")) (by decide)
  have F_output_b1 : Fld Z h1 b1 "com/example/runnel/runnel/apps/AppEnvironment" "output" "Ljava/lang/String;" .null := Db1 (Or.inr (own_w hw 46 rfl)) (ty := (.object "java/lang/String")) (by decide)
  have F_instance_b1 : Fld Z h1 b1 "com/example/runnel/runnel/apps/AppEnvironment" "instance" "Ljava/lang/String;" .null := Db1 (Or.inr (own_w hw 48 rfl)) (ty := (.object "java/lang/String")) (by decide)
  have F_statusFile_b1 : Fld Z h1 b1 "com/example/runnel/runnel/apps/AppEnvironment" "statusFile" "Ljava/nio/file/Path;" .null := Db1 (Or.inr (own_w hw 50 rfl)) (ty := (.object "java/nio/file/Path")) (by decide)
  have F_positionFile_b1 : Fld Z h1 b1 "com/example/runnel/runnel/apps/AppEnvironment" "positionFile" "Ljava/nio/file/Path;" .null := Db1 (Or.inr (own_w hw 52 rfl)) (ty := (.object "java/nio/file/Path")) (by decide)
  refine own_dup X hx (hb hby own_d_prog_14_method_2_code_3) (pc' := 4) rfl rfl ?_
  refine own_aloadN X hx (hb hby own_d_prog_14_method_2_code_4) (pc' := 5) rfl rfl rfl ?_
  refine own_aloadN X hx (hb hby own_d_prog_14_method_2_code_5) (pc' := 6) rfl rfl rfl ?_
  refine own_aloadN X hx (hb hby own_d_prog_14_method_2_code_6) (pc' := 7) rfl rfl rfl ?_
  refine own_aconst_null X hx (hb hby own_d_prog_14_method_2_code_7) (pc' := 8) rfl ?_
  refine own_aconst_null X hx (hb hby own_d_prog_14_method_2_code_8) (pc' := 9) rfl ?_
  refine own_aconst_null X hx (hb hby own_d_prog_14_method_2_code_9) (pc' := 10) rfl ?_
  refine own_callN X hx hZ b1 [(.ref x0), (.ref x1), (.ref x2), .null, .null, .null] rfl hown (own_w hw 32 rfl) (own_w hw 33 rfl) (own_w hw 28 rfl) (own_w hw 34 rfl) (by decide) (rm_in00 l Z a0 hw [] b1 x0 x1 x2 h1 n0 Z0 _ _ _ _ _ _ E_b1 F_brokerUri_b1 F_input_b1 F_output_b1 F_instance_b1 F_statusFile_b1 F_positionFile_b1 z_b1) eT (W := 1) (by decide) (by decide) (cells' := 1) (slots' := 6) rfl rfl (by decide) (by decide) (by rw [hml]; rfl) (lenOf own_pd_28Ljava2flang2fString3bLjava2flang2fString3bLjava2flang2fString3bLjava2flang2fString3bLjava2fnio2ffile2fPath3bLjava2fnio2ffile2fPath3b29V rfl) rfl (S := [(.ref b1)]) rfl (Nat.le_of_eq rfl) (hb hby own_d_prog_14_method_2_code_10) (pc' := 13) rfl ?_
  intro v T h2 L lc X eT hq fN
  obtain ⟨rfl, Nq, Kq, G_brokerUri, G_input, G_output, G_instance, G_statusFile, G_positionFile⟩ := hq
  have N := fN _ N Nq
  have E_b1 := E_b1.keep Kq
  have Z0 := Nat.le_trans Z0 Kq.1
  have Kp := Kp.trans Kq (allS (P := fun x => x ∈ ([] : List Addr) ∨ h0.size ≤ x) (Or.inr s_b1) all0)
  show own_W p e below (own_Post s (Q_of00 Z x0 x1 x2 h0 n0) 1 6) T m 13 #[.val (.ref x0), .val (.ref x1), .val (.ref x2)] [(.ref b1)]
  refine own_retA X hx hlk Bd.returns (hb hby own_d_prog_14_method_2_code_13) rfl rfl rfl (by decide) (by decide) ?_
  rw [eT]
  exact ⟨b1, rfl, N, Kp, E_b1, G_brokerUri, G_input, G_output, G_instance, G_statusFile, G_positionFile⟩
theorem ef_in01 (m : MethodId) (x0 : Addr) (x1 : Addr) (x2 : Addr) : entryFrame m #[(.ref x0), (.ref x1), (.ref x2), .null, .null, .null, .null] 7 = mkF m 0 #[.val (.ref x0), .val (.ref x1), .val (.ref x2), .val .null, .val .null, .val .null, .val .null] [] := by first | (simp [entryFrame, mkF, argsToLocals, Value.category]; done) | rfl
def Q_in01 (Z : State) (a1 : Addr) (x0 x1 : Addr) (h0 : Heap) (n0 : Nat) (v : Option Value) (h : Heap) (L : List Loc) : Prop := v = none ∧ Fr n0 L ∧ Keep h0 h [a1] ∧ Fld Z h a1 "com/example/runnel/runnel/apps/AppEnvironment" "brokerUri" "Ljava/lang/String;" (.ref x0) ∧ Fld Z h a1 "com/example/runnel/runnel/apps/AppEnvironment" "input" "Ljava/lang/String;" (.ref x1) ∧ Fld Z h a1 "com/example/runnel/runnel/apps/AppEnvironment" "output" "Ljava/lang/String;" .null ∧ Fld Z h a1 "com/example/runnel/runnel/apps/AppEnvironment" "instance" "Ljava/lang/String;" .null ∧ Fld Z h a1 "com/example/runnel/runnel/apps/AppEnvironment" "statusFile" "Ljava/nio/file/Path;" .null ∧ Fld Z h a1 "com/example/runnel/runnel/apps/AppEnvironment" "positionFile" "Ljava/nio/file/Path;" .null
set_option maxRecDepth 65536 in
set_option maxHeartbeats 40000000 in
theorem rm_in01 (l : Launch) (Z : State) (a0 : Array Value) (hw : ∀ d ∈ tables_1, d.before a0 Z = true) (ws : List Jvm.Cond) (a1 : Addr) (x0 x1 : Addr) (h0 : Heap) (n0 : Nat) (Z0 : n0 ≤ h0.size) (u_brokerUri u_input u_output u_instance u_statusFile u_positionFile : Value) (E_a1 : Exa Z h0 a1 "com/example/runnel/runnel/apps/AppEnvironment") (F_brokerUri : Fld Z h0 a1 "com/example/runnel/runnel/apps/AppEnvironment" "brokerUri" "Ljava/lang/String;" u_brokerUri) (F_input : Fld Z h0 a1 "com/example/runnel/runnel/apps/AppEnvironment" "input" "Ljava/lang/String;" u_input) (F_output : Fld Z h0 a1 "com/example/runnel/runnel/apps/AppEnvironment" "output" "Ljava/lang/String;" u_output) (F_instance : Fld Z h0 a1 "com/example/runnel/runnel/apps/AppEnvironment" "instance" "Ljava/lang/String;" u_instance) (F_statusFile : Fld Z h0 a1 "com/example/runnel/runnel/apps/AppEnvironment" "statusFile" "Ljava/nio/file/Path;" u_statusFile) (F_positionFile : Fld Z h0 a1 "com/example/runnel/runnel/apps/AppEnvironment" "positionFile" "Ljava/nio/file/Path;" u_positionFile) (z_a1 : n0 ≤ a1) :
    MetFree l (⟨"com/example/runnel/runnel/apps/AppEnvironment", "<init>", "(Ljava/lang/String;Ljava/lang/String;Ljava/lang/String;Ljava/lang/String;Ljava/nio/file/Path;Ljava/nio/file/Path;)V"⟩ : MethodName) (head1 (Jvm.Cond.code (⟨"com/example/runnel/runnel/apps/AppEnvironment", "<init>", "(Ljava/lang/String;Ljava/lang/String;Ljava/lang/String;Ljava/lang/String;Ljava/nio/file/Path;Ljava/nio/file/Path;)V"⟩ : MethodName) prog_14_method_1_code 7 none :: ws) ({ frames := 2, cells := 0, slots := 0, locals := 24 } : Room)) (fun a U => a = #[(.ref a1), (.ref x0), (.ref x1), .null, .null, .null, .null] ∧ Z.Warmed39 U.vm ∧ U.heap = h0) (fun _ _ _ _ _ => True) (fun _ U o U' => ∃ v L, o = .returned v ∧ Q_in01 Z a1 x0 x1 h0 n0 v U'.heap L ∧ FrameEnd U o U' L ({ frames := 2, cells := 0, slots := 0, locals := 24 } : Room).cells ({ frames := 2, cells := 0, slots := 0, locals := 24 } : Room).slots) := by
  refine MetFree.of_bodySF (plainFor_of_name own_pn_com_example_runnel_runnel_apps_AppEnvironment) hisR ?_
  intro p e s m args below meth c s₁ Bd hml0 hP hK
  obtain ⟨rfl, hZ, hh⟩ := hP
  have hx := Bd.exec
  have hby := Bd.bytes
  have hml : c.maxLocals = 7 := hml0
  have hown : s.vm.findClass "com/example/runnel/runnel/apps/AppEnvironment" = some m.cls := findClass_of_methodNamed Bd.named
  have hnm := (name_of_methodNamed Bd.named Bd.method).1
  have hlk := Bd.notSynchronized
  obtain ⟨lc, hlc⟩ : ∃ lc : List Loc, lc = [] := ⟨_, rfl⟩
  have X : Stand p l e ({ frames := 2, cells := 0, slots := 0, locals := 24 } : Room) s m #[(.ref a1), (.ref x0), (.ref x1), .null, .null, .null, .null] below meth c s₁ lc 0 0 := hlc ▸ Stand.of_body Bd
  have eT : s₁.heap = h0 := by rw [← hh, Bd.state]; rfl
  have N : Fr n0 lc := hlc ▸ Fr.nil n0
  refine own_enter (ef_in01 m a1 x0 x1) ?_
  obtain ⟨T, hT⟩ : ∃ T : State, T = s₁ := ⟨_, rfl⟩
  rw [← hT] at X eT ⊢
  show own_W p e below (own_Post s (Q_in01 Z a1 x0 x1 h0 n0) 0 0) T m 0 #[.val (.ref a1), .val (.ref x0), .val (.ref x1), .val .null, .val .null, .val .null, .val .null] []
  have Kp : Keep h0 h0 [a1] := Keep.refl _ _
  refine own_aloadN X hx (hb hby own_d_prog_14_method_1_code_0) (pc' := 1) rfl rfl rfl ?_
  refine own_callN X hx hZ a1 [] rfl hown (own_w hw 35 rfl) (own_w hw 36 rfl) (own_w hw 38 rfl) (own_w hw 39 rfl) (by decide) (rm_rec l Z a0 hw [] a1 h0 n0 Z0) eT (W := 0) (by decide) (by decide) (cells' := 0) (slots' := 0) rfl rfl (by decide) (by decide) (by rw [hml]; rfl) (lenOf own_pd_2829V rfl) rfl (S := []) rfl (Nat.le_of_eq rfl) (hb hby own_d_prog_14_method_1_code_1) (pc' := 4) rfl ?_
  intro v T h1 L lc X eT hq fN
  obtain ⟨rfl, Nq, hqe⟩ := hq
  have N := fN _ N Nq
  rw [hqe] at eT
  show own_W p e below (own_Post s (Q_in01 Z a1 x0 x1 h0 n0) 0 0) T m 4 #[.val (.ref a1), .val (.ref x0), .val (.ref x1), .val .null, .val .null, .val .null, .val .null] []
  refine own_aloadN X hx (hb hby own_d_prog_14_method_1_code_4) (pc' := 5) rfl rfl rfl ?_
  refine own_aloadN X hx (hb hby own_d_prog_14_method_1_code_5) (pc' := 6) rfl rfl rfl ?_
  refine own_putF X hx hZ hown (own_w hw 41 rfl) Via.refl eT F_brokerUri E_a1 (Or.inr ⟨(own_w hw 42 rfl), rfl, hnm⟩) (own_w hw 31 rfl) (ty := (.object "java/lang/String")) (v' := (.ref x0)) (by decide) rfl rfl (hb hby own_d_prog_14_method_1_code_6) (pc' := 9) rfl ?_
  intro T h2 lc X eT Wq fN
  have F_brokerUri := F_brokerUri.same Wq
  have E_a1 := E_a1.wr Wq
  have F_input := F_input.other Wq (Or.inr (slot_ne (Or.inr (own_w hw 44 rfl)) (Or.inr (own_w hw 42 rfl)) (by decide) (t := (.object "java/lang/String")) (t' := (.object "java/lang/String")) (by decide) (by decide)))
  have F_output := F_output.other Wq (Or.inr (slot_ne (Or.inr (own_w hw 46 rfl)) (Or.inr (own_w hw 42 rfl)) (by decide) (t := (.object "java/lang/String")) (t' := (.object "java/lang/String")) (by decide) (by decide)))
  have F_instance := F_instance.other Wq (Or.inr (slot_ne (Or.inr (own_w hw 48 rfl)) (Or.inr (own_w hw 42 rfl)) (by decide) (t := (.object "java/lang/String")) (t' := (.object "java/lang/String")) (by decide) (by decide)))
  have F_statusFile := F_statusFile.other Wq (Or.inr (slot_ne (Or.inr (own_w hw 50 rfl)) (Or.inr (own_w hw 42 rfl)) (by decide) (t := (.object "java/nio/file/Path")) (t' := (.object "java/lang/String")) (by decide) (by decide)))
  have F_positionFile := F_positionFile.other Wq (Or.inr (slot_ne (Or.inr (own_w hw 52 rfl)) (Or.inr (own_w hw 42 rfl)) (by decide) (t := (.object "java/nio/file/Path")) (t' := (.object "java/lang/String")) (by decide) (by decide)))
  have Z0 := Nat.le_trans Z0 (Keep.of_wr Wq).1
  have N := fN _ z_a1 N
  have Kp := Kp.wr Wq (Or.inl (List.mem_of_getElem? (i := 0) rfl))
  refine own_aloadN X hx (hb hby own_d_prog_14_method_1_code_9) (pc' := 10) rfl rfl rfl ?_
  refine own_aloadN X hx (hb hby own_d_prog_14_method_1_code_10) (pc' := 11) rfl rfl rfl ?_
  refine own_putF X hx hZ hown (own_w hw 43 rfl) Via.refl eT F_input E_a1 (Or.inr ⟨(own_w hw 44 rfl), rfl, hnm⟩) (own_w hw 31 rfl) (ty := (.object "java/lang/String")) (v' := (.ref x1)) (by decide) rfl rfl (hb hby own_d_prog_14_method_1_code_11) (pc' := 14) rfl ?_
  intro T h3 lc X eT Wq fN
  have F_input := F_input.same Wq
  have E_a1 := E_a1.wr Wq
  have F_output := F_output.other Wq (Or.inr (slot_ne (Or.inr (own_w hw 46 rfl)) (Or.inr (own_w hw 44 rfl)) (by decide) (t := (.object "java/lang/String")) (t' := (.object "java/lang/String")) (by decide) (by decide)))
  have F_instance := F_instance.other Wq (Or.inr (slot_ne (Or.inr (own_w hw 48 rfl)) (Or.inr (own_w hw 44 rfl)) (by decide) (t := (.object "java/lang/String")) (t' := (.object "java/lang/String")) (by decide) (by decide)))
  have F_statusFile := F_statusFile.other Wq (Or.inr (slot_ne (Or.inr (own_w hw 50 rfl)) (Or.inr (own_w hw 44 rfl)) (by decide) (t := (.object "java/nio/file/Path")) (t' := (.object "java/lang/String")) (by decide) (by decide)))
  have F_positionFile := F_positionFile.other Wq (Or.inr (slot_ne (Or.inr (own_w hw 52 rfl)) (Or.inr (own_w hw 44 rfl)) (by decide) (t := (.object "java/nio/file/Path")) (t' := (.object "java/lang/String")) (by decide) (by decide)))
  have F_brokerUri := F_brokerUri.other Wq (Or.inr (slot_ne (Or.inr (own_w hw 42 rfl)) (Or.inr (own_w hw 44 rfl)) (by decide) (t := (.object "java/lang/String")) (t' := (.object "java/lang/String")) (by decide) (by decide)))
  have Z0 := Nat.le_trans Z0 (Keep.of_wr Wq).1
  have N := fN _ z_a1 N
  have Kp := Kp.wr Wq (Or.inl (List.mem_of_getElem? (i := 0) rfl))
  refine own_aloadN X hx (hb hby own_d_prog_14_method_1_code_14) (pc' := 15) rfl rfl rfl ?_
  refine own_aloadN X hx (hb hby own_d_prog_14_method_1_code_15) (pc' := 16) rfl rfl rfl ?_
  refine own_putF X hx hZ hown (own_w hw 45 rfl) Via.refl eT F_output E_a1 (Or.inr ⟨(own_w hw 46 rfl), rfl, hnm⟩) (own_w hw 31 rfl) (ty := (.object "java/lang/String")) (v' := .null) (by decide) rfl rfl (hb hby own_d_prog_14_method_1_code_16) (pc' := 19) rfl ?_
  intro T h4 lc X eT Wq fN
  have F_output := F_output.same Wq
  have E_a1 := E_a1.wr Wq
  have F_instance := F_instance.other Wq (Or.inr (slot_ne (Or.inr (own_w hw 48 rfl)) (Or.inr (own_w hw 46 rfl)) (by decide) (t := (.object "java/lang/String")) (t' := (.object "java/lang/String")) (by decide) (by decide)))
  have F_statusFile := F_statusFile.other Wq (Or.inr (slot_ne (Or.inr (own_w hw 50 rfl)) (Or.inr (own_w hw 46 rfl)) (by decide) (t := (.object "java/nio/file/Path")) (t' := (.object "java/lang/String")) (by decide) (by decide)))
  have F_positionFile := F_positionFile.other Wq (Or.inr (slot_ne (Or.inr (own_w hw 52 rfl)) (Or.inr (own_w hw 46 rfl)) (by decide) (t := (.object "java/nio/file/Path")) (t' := (.object "java/lang/String")) (by decide) (by decide)))
  have F_brokerUri := F_brokerUri.other Wq (Or.inr (slot_ne (Or.inr (own_w hw 42 rfl)) (Or.inr (own_w hw 46 rfl)) (by decide) (t := (.object "java/lang/String")) (t' := (.object "java/lang/String")) (by decide) (by decide)))
  have F_input := F_input.other Wq (Or.inr (slot_ne (Or.inr (own_w hw 44 rfl)) (Or.inr (own_w hw 46 rfl)) (by decide) (t := (.object "java/lang/String")) (t' := (.object "java/lang/String")) (by decide) (by decide)))
  have Z0 := Nat.le_trans Z0 (Keep.of_wr Wq).1
  have N := fN _ z_a1 N
  have Kp := Kp.wr Wq (Or.inl (List.mem_of_getElem? (i := 0) rfl))
  refine own_aloadN X hx (hb hby own_d_prog_14_method_1_code_19) (pc' := 20) rfl rfl rfl ?_
  refine own_aload X hx (hb hby own_d_prog_14_method_1_code_20) (pc' := 22) rfl rfl rfl ?_
  refine own_putF X hx hZ hown (own_w hw 47 rfl) Via.refl eT F_instance E_a1 (Or.inr ⟨(own_w hw 48 rfl), rfl, hnm⟩) (own_w hw 31 rfl) (ty := (.object "java/lang/String")) (v' := .null) (by decide) rfl rfl (hb hby own_d_prog_14_method_1_code_22) (pc' := 25) rfl ?_
  intro T h5 lc X eT Wq fN
  have F_instance := F_instance.same Wq
  have E_a1 := E_a1.wr Wq
  have F_statusFile := F_statusFile.other Wq (Or.inr (slot_ne (Or.inr (own_w hw 50 rfl)) (Or.inr (own_w hw 48 rfl)) (by decide) (t := (.object "java/nio/file/Path")) (t' := (.object "java/lang/String")) (by decide) (by decide)))
  have F_positionFile := F_positionFile.other Wq (Or.inr (slot_ne (Or.inr (own_w hw 52 rfl)) (Or.inr (own_w hw 48 rfl)) (by decide) (t := (.object "java/nio/file/Path")) (t' := (.object "java/lang/String")) (by decide) (by decide)))
  have F_brokerUri := F_brokerUri.other Wq (Or.inr (slot_ne (Or.inr (own_w hw 42 rfl)) (Or.inr (own_w hw 48 rfl)) (by decide) (t := (.object "java/lang/String")) (t' := (.object "java/lang/String")) (by decide) (by decide)))
  have F_input := F_input.other Wq (Or.inr (slot_ne (Or.inr (own_w hw 44 rfl)) (Or.inr (own_w hw 48 rfl)) (by decide) (t := (.object "java/lang/String")) (t' := (.object "java/lang/String")) (by decide) (by decide)))
  have F_output := F_output.other Wq (Or.inr (slot_ne (Or.inr (own_w hw 46 rfl)) (Or.inr (own_w hw 48 rfl)) (by decide) (t := (.object "java/lang/String")) (t' := (.object "java/lang/String")) (by decide) (by decide)))
  have Z0 := Nat.le_trans Z0 (Keep.of_wr Wq).1
  have N := fN _ z_a1 N
  have Kp := Kp.wr Wq (Or.inl (List.mem_of_getElem? (i := 0) rfl))
  refine own_aloadN X hx (hb hby own_d_prog_14_method_1_code_25) (pc' := 26) rfl rfl rfl ?_
  refine own_aload X hx (hb hby own_d_prog_14_method_1_code_26) (pc' := 28) rfl rfl rfl ?_
  refine own_putF X hx hZ hown (own_w hw 49 rfl) Via.refl eT F_statusFile E_a1 (Or.inr ⟨(own_w hw 50 rfl), rfl, hnm⟩) (own_w hw 31 rfl) (ty := (.object "java/nio/file/Path")) (v' := .null) (by decide) rfl rfl (hb hby own_d_prog_14_method_1_code_28) (pc' := 31) rfl ?_
  intro T h6 lc X eT Wq fN
  have F_statusFile := F_statusFile.same Wq
  have E_a1 := E_a1.wr Wq
  have F_positionFile := F_positionFile.other Wq (Or.inr (slot_ne (Or.inr (own_w hw 52 rfl)) (Or.inr (own_w hw 50 rfl)) (by decide) (t := (.object "java/nio/file/Path")) (t' := (.object "java/nio/file/Path")) (by decide) (by decide)))
  have F_brokerUri := F_brokerUri.other Wq (Or.inr (slot_ne (Or.inr (own_w hw 42 rfl)) (Or.inr (own_w hw 50 rfl)) (by decide) (t := (.object "java/lang/String")) (t' := (.object "java/nio/file/Path")) (by decide) (by decide)))
  have F_input := F_input.other Wq (Or.inr (slot_ne (Or.inr (own_w hw 44 rfl)) (Or.inr (own_w hw 50 rfl)) (by decide) (t := (.object "java/lang/String")) (t' := (.object "java/nio/file/Path")) (by decide) (by decide)))
  have F_output := F_output.other Wq (Or.inr (slot_ne (Or.inr (own_w hw 46 rfl)) (Or.inr (own_w hw 50 rfl)) (by decide) (t := (.object "java/lang/String")) (t' := (.object "java/nio/file/Path")) (by decide) (by decide)))
  have F_instance := F_instance.other Wq (Or.inr (slot_ne (Or.inr (own_w hw 48 rfl)) (Or.inr (own_w hw 50 rfl)) (by decide) (t := (.object "java/lang/String")) (t' := (.object "java/nio/file/Path")) (by decide) (by decide)))
  have Z0 := Nat.le_trans Z0 (Keep.of_wr Wq).1
  have N := fN _ z_a1 N
  have Kp := Kp.wr Wq (Or.inl (List.mem_of_getElem? (i := 0) rfl))
  refine own_aloadN X hx (hb hby own_d_prog_14_method_1_code_31) (pc' := 32) rfl rfl rfl ?_
  refine own_aload X hx (hb hby own_d_prog_14_method_1_code_32) (pc' := 34) rfl rfl rfl ?_
  refine own_putF X hx hZ hown (own_w hw 51 rfl) Via.refl eT F_positionFile E_a1 (Or.inr ⟨(own_w hw 52 rfl), rfl, hnm⟩) (own_w hw 31 rfl) (ty := (.object "java/nio/file/Path")) (v' := .null) (by decide) rfl rfl (hb hby own_d_prog_14_method_1_code_34) (pc' := 37) rfl ?_
  intro T h7 lc X eT Wq fN
  have F_positionFile := F_positionFile.same Wq
  have E_a1 := E_a1.wr Wq
  have F_brokerUri := F_brokerUri.other Wq (Or.inr (slot_ne (Or.inr (own_w hw 42 rfl)) (Or.inr (own_w hw 52 rfl)) (by decide) (t := (.object "java/lang/String")) (t' := (.object "java/nio/file/Path")) (by decide) (by decide)))
  have F_input := F_input.other Wq (Or.inr (slot_ne (Or.inr (own_w hw 44 rfl)) (Or.inr (own_w hw 52 rfl)) (by decide) (t := (.object "java/lang/String")) (t' := (.object "java/nio/file/Path")) (by decide) (by decide)))
  have F_output := F_output.other Wq (Or.inr (slot_ne (Or.inr (own_w hw 46 rfl)) (Or.inr (own_w hw 52 rfl)) (by decide) (t := (.object "java/lang/String")) (t' := (.object "java/nio/file/Path")) (by decide) (by decide)))
  have F_instance := F_instance.other Wq (Or.inr (slot_ne (Or.inr (own_w hw 48 rfl)) (Or.inr (own_w hw 52 rfl)) (by decide) (t := (.object "java/lang/String")) (t' := (.object "java/nio/file/Path")) (by decide) (by decide)))
  have F_statusFile := F_statusFile.other Wq (Or.inr (slot_ne (Or.inr (own_w hw 50 rfl)) (Or.inr (own_w hw 52 rfl)) (by decide) (t := (.object "java/nio/file/Path")) (t' := (.object "java/nio/file/Path")) (by decide) (by decide)))
  have Z0 := Nat.le_trans Z0 (Keep.of_wr Wq).1
  have N := fN _ z_a1 N
  have Kp := Kp.wr Wq (Or.inl (List.mem_of_getElem? (i := 0) rfl))
  refine own_ret0 X hx hlk Bd.returns (hb hby own_d_prog_14_method_1_code_37) (by decide) (by decide) ?_
  rw [eT]
  exact ⟨rfl, N, Kp, F_brokerUri, F_input, F_output, F_instance, F_statusFile, F_positionFile⟩
theorem ef_of01 (m : MethodId) (x0 : Addr) (x1 : Addr) : entryFrame m #[(.ref x0), (.ref x1), .null] 3 = mkF m 0 #[.val (.ref x0), .val (.ref x1), .val .null] [] := by first | (simp [entryFrame, mkF, argsToLocals, Value.category]; done) | rfl
def Q_of01 (Z : State) (x0 x1 : Addr) (h0 : Heap) (n0 : Nat) (v : Option Value) (h : Heap) (L : List Loc) : Prop := ∃ a : Addr, v = some (.ref a) ∧ Fr n0 L ∧ Keep h0 h [] ∧ Exa Z h a "com/example/runnel/runnel/apps/AppEnvironment" ∧ Fld Z h a "com/example/runnel/runnel/apps/AppEnvironment" "brokerUri" "Ljava/lang/String;" (.ref x0) ∧ Fld Z h a "com/example/runnel/runnel/apps/AppEnvironment" "input" "Ljava/lang/String;" (.ref x1) ∧ Fld Z h a "com/example/runnel/runnel/apps/AppEnvironment" "output" "Ljava/lang/String;" .null ∧ Fld Z h a "com/example/runnel/runnel/apps/AppEnvironment" "instance" "Ljava/lang/String;" .null ∧ Fld Z h a "com/example/runnel/runnel/apps/AppEnvironment" "statusFile" "Ljava/nio/file/Path;" .null ∧ Fld Z h a "com/example/runnel/runnel/apps/AppEnvironment" "positionFile" "Ljava/nio/file/Path;" .null
set_option maxRecDepth 65536 in
set_option maxHeartbeats 40000000 in
theorem rm_of01 (l : Launch) (Z : State) (a0 : Array Value) (hw : ∀ d ∈ tables_1, d.before a0 Z = true) (ws : List Jvm.Cond) (x0 x1 : Addr) (h0 : Heap) (n0 : Nat) (Z0 : n0 ≤ h0.size)  :
    MetFree l (⟨"com/example/runnel/runnel/apps/AppEnvironment", "of", "(Ljava/lang/String;Ljava/lang/String;Ljava/lang/String;)Lcom/example/runnel/runnel/apps/AppEnvironment;"⟩ : MethodName) (head1 (Jvm.Cond.code (⟨"com/example/runnel/runnel/apps/AppEnvironment", "of", "(Ljava/lang/String;Ljava/lang/String;Ljava/lang/String;)Lcom/example/runnel/runnel/apps/AppEnvironment;"⟩ : MethodName) prog_14_method_2_code 3 (some (.object "com/example/runnel/runnel/apps/AppEnvironment")) :: ws) ({ frames := 3, cells := 1, slots := 6, locals := 43 } : Room)) (fun a U => a = #[(.ref x0), (.ref x1), .null] ∧ Z.Warmed39 U.vm ∧ U.heap = h0) (fun _ _ _ _ _ => True) (fun _ U o U' => ∃ v L, o = .returned v ∧ Q_of01 Z x0 x1 h0 n0 v U'.heap L ∧ FrameEnd U o U' L ({ frames := 3, cells := 1, slots := 6, locals := 43 } : Room).cells ({ frames := 3, cells := 1, slots := 6, locals := 43 } : Room).slots) := by
  refine MetFree.of_bodySF (plainFor_of_name own_pn_com_example_runnel_runnel_apps_AppEnvironment) hisR ?_
  intro p e s m args below meth c s₁ Bd hml0 hP hK
  obtain ⟨rfl, hZ, hh⟩ := hP
  have hx := Bd.exec
  have hby := Bd.bytes
  have hml : c.maxLocals = 3 := hml0
  have hown : s.vm.findClass "com/example/runnel/runnel/apps/AppEnvironment" = some m.cls := findClass_of_methodNamed Bd.named
  have hnm := (name_of_methodNamed Bd.named Bd.method).1
  have hlk := Bd.notSynchronized
  obtain ⟨lc, hlc⟩ : ∃ lc : List Loc, lc = [] := ⟨_, rfl⟩
  have X : Stand p l e ({ frames := 3, cells := 1, slots := 6, locals := 43 } : Room) s m #[(.ref x0), (.ref x1), .null] below meth c s₁ lc 0 0 := hlc ▸ Stand.of_body Bd
  have eT : s₁.heap = h0 := by rw [← hh, Bd.state]; rfl
  have N : Fr n0 lc := hlc ▸ Fr.nil n0
  refine own_enter (ef_of01 m x0 x1) ?_
  obtain ⟨T, hT⟩ : ∃ T : State, T = s₁ := ⟨_, rfl⟩
  rw [← hT] at X eT ⊢
  show own_W p e below (own_Post s (Q_of01 Z x0 x1 h0 n0) 1 6) T m 0 #[.val (.ref x0), .val (.ref x1), .val .null] []
  have Kp : Keep h0 h0 [] := Keep.refl _ _
  refine own_new X hx hZ hown (own_w hw 30 rfl) (own_w hw 31 rfl) (own_w hw 28 rfl) eT (hb hby own_d_prog_14_method_2_code_0) (pc' := 3) rfl (cells' := 1) (slots' := 6) rfl rfl (by decide) (by decide) ?_
  intro T h1 b1 X eT E gb1 E_b1 Db1
  have z_b1 : n0 ≤ b1 := Nat.le_trans Z0 (Nat.le_of_eq gb1.symm)
  have s_b1 : h0.size ≤ b1 := Nat.le_trans Kp.1 (Nat.le_of_eq gb1.symm)
  have Z0 := Nat.le_trans Z0 E.1
  have Kp := Kp.ext E
  have F_brokerUri_b1 : Fld Z h1 b1 "com/example/runnel/runnel/apps/AppEnvironment" "brokerUri" "Ljava/lang/String;" .null := Db1 (Or.inr (own_w hw 42 rfl)) (ty := (.object "java/lang/String")) (by decide)
  have F_input_b1 : Fld Z h1 b1 "com/example/runnel/runnel/apps/AppEnvironment" "input" "Ljava/lang/String;" .null := Db1 (Or.inr (own_w hw 44 rfl)) (ty := (.object "java/lang/String")) (by decide)
  have F_output_b1 : Fld Z h1 b1 "com/example/runnel/runnel/apps/AppEnvironment" "output" "Ljava/lang/String;" .null := Db1 (Or.inr (own_w hw 46 rfl)) (ty := (.object "java/lang/String")) (by decide)
  have F_instance_b1 : Fld Z h1 b1 "com/example/runnel/runnel/apps/AppEnvironment" "instance" "Ljava/lang/String;" .null := Db1 (Or.inr (own_w hw 48 rfl)) (ty := (.object "java/lang/String")) (by decide)
  have F_statusFile_b1 : Fld Z h1 b1 "com/example/runnel/runnel/apps/AppEnvironment" "statusFile" "Ljava/nio/file/Path;" .null := Db1 (Or.inr (own_w hw 50 rfl)) (ty := (.object "java/nio/file/Path")) (by decide)
  have F_positionFile_b1 : Fld Z h1 b1 "com/example/runnel/runnel/apps/AppEnvironment" "positionFile" "Ljava/nio/file/Path;" .null := Db1 (Or.inr (own_w hw 52 rfl)) (ty := (.object "java/nio/file/Path")) (by decide)
  refine own_dup X hx (hb hby own_d_prog_14_method_2_code_3) (pc' := 4) rfl rfl ?_
  refine own_aloadN X hx (hb hby own_d_prog_14_method_2_code_4) (pc' := 5) rfl rfl rfl ?_
  refine own_aloadN X hx (hb hby own_d_prog_14_method_2_code_5) (pc' := 6) rfl rfl rfl ?_
  refine own_aloadN X hx (hb hby own_d_prog_14_method_2_code_6) (pc' := 7) rfl rfl rfl ?_
  refine own_aconst_null X hx (hb hby own_d_prog_14_method_2_code_7) (pc' := 8) rfl ?_
  refine own_aconst_null X hx (hb hby own_d_prog_14_method_2_code_8) (pc' := 9) rfl ?_
  refine own_aconst_null X hx (hb hby own_d_prog_14_method_2_code_9) (pc' := 10) rfl ?_
  refine own_callN X hx hZ b1 [(.ref x0), (.ref x1), .null, .null, .null, .null] rfl hown (own_w hw 32 rfl) (own_w hw 33 rfl) (own_w hw 28 rfl) (own_w hw 34 rfl) (by decide) (rm_in01 l Z a0 hw [] b1 x0 x1 h1 n0 Z0 _ _ _ _ _ _ E_b1 F_brokerUri_b1 F_input_b1 F_output_b1 F_instance_b1 F_statusFile_b1 F_positionFile_b1 z_b1) eT (W := 1) (by decide) (by decide) (cells' := 1) (slots' := 6) rfl rfl (by decide) (by decide) (by rw [hml]; rfl) (lenOf own_pd_28Ljava2flang2fString3bLjava2flang2fString3bLjava2flang2fString3bLjava2flang2fString3bLjava2fnio2ffile2fPath3bLjava2fnio2ffile2fPath3b29V rfl) rfl (S := [(.ref b1)]) rfl (Nat.le_of_eq rfl) (hb hby own_d_prog_14_method_2_code_10) (pc' := 13) rfl ?_
  intro v T h2 L lc X eT hq fN
  obtain ⟨rfl, Nq, Kq, G_brokerUri, G_input, G_output, G_instance, G_statusFile, G_positionFile⟩ := hq
  have N := fN _ N Nq
  have E_b1 := E_b1.keep Kq
  have Z0 := Nat.le_trans Z0 Kq.1
  have Kp := Kp.trans Kq (allS (P := fun x => x ∈ ([] : List Addr) ∨ h0.size ≤ x) (Or.inr s_b1) all0)
  show own_W p e below (own_Post s (Q_of01 Z x0 x1 h0 n0) 1 6) T m 13 #[.val (.ref x0), .val (.ref x1), .val .null] [(.ref b1)]
  refine own_retA X hx hlk Bd.returns (hb hby own_d_prog_14_method_2_code_13) rfl rfl rfl (by decide) (by decide) ?_
  rw [eT]
  exact ⟨b1, rfl, N, Kp, E_b1, G_brokerUri, G_input, G_output, G_instance, G_statusFile, G_positionFile⟩
theorem ef_in10 (m : MethodId) (x0 : Addr) (x1 : Addr) (x3 : Addr) : entryFrame m #[(.ref x0), (.ref x1), .null, (.ref x3), .null, .null, .null] 7 = mkF m 0 #[.val (.ref x0), .val (.ref x1), .val .null, .val (.ref x3), .val .null, .val .null, .val .null] [] := by first | (simp [entryFrame, mkF, argsToLocals, Value.category]; done) | rfl
def Q_in10 (Z : State) (a1 : Addr) (x0 x2 : Addr) (h0 : Heap) (n0 : Nat) (v : Option Value) (h : Heap) (L : List Loc) : Prop := v = none ∧ Fr n0 L ∧ Keep h0 h [a1] ∧ Fld Z h a1 "com/example/runnel/runnel/apps/AppEnvironment" "brokerUri" "Ljava/lang/String;" (.ref x0) ∧ Fld Z h a1 "com/example/runnel/runnel/apps/AppEnvironment" "input" "Ljava/lang/String;" .null ∧ Fld Z h a1 "com/example/runnel/runnel/apps/AppEnvironment" "output" "Ljava/lang/String;" (.ref x2) ∧ Fld Z h a1 "com/example/runnel/runnel/apps/AppEnvironment" "instance" "Ljava/lang/String;" .null ∧ Fld Z h a1 "com/example/runnel/runnel/apps/AppEnvironment" "statusFile" "Ljava/nio/file/Path;" .null ∧ Fld Z h a1 "com/example/runnel/runnel/apps/AppEnvironment" "positionFile" "Ljava/nio/file/Path;" .null
set_option maxRecDepth 65536 in
set_option maxHeartbeats 40000000 in
theorem rm_in10 (l : Launch) (Z : State) (a0 : Array Value) (hw : ∀ d ∈ tables_1, d.before a0 Z = true) (ws : List Jvm.Cond) (a1 : Addr) (x0 x2 : Addr) (h0 : Heap) (n0 : Nat) (Z0 : n0 ≤ h0.size) (u_brokerUri u_input u_output u_instance u_statusFile u_positionFile : Value) (E_a1 : Exa Z h0 a1 "com/example/runnel/runnel/apps/AppEnvironment") (F_brokerUri : Fld Z h0 a1 "com/example/runnel/runnel/apps/AppEnvironment" "brokerUri" "Ljava/lang/String;" u_brokerUri) (F_input : Fld Z h0 a1 "com/example/runnel/runnel/apps/AppEnvironment" "input" "Ljava/lang/String;" u_input) (F_output : Fld Z h0 a1 "com/example/runnel/runnel/apps/AppEnvironment" "output" "Ljava/lang/String;" u_output) (F_instance : Fld Z h0 a1 "com/example/runnel/runnel/apps/AppEnvironment" "instance" "Ljava/lang/String;" u_instance) (F_statusFile : Fld Z h0 a1 "com/example/runnel/runnel/apps/AppEnvironment" "statusFile" "Ljava/nio/file/Path;" u_statusFile) (F_positionFile : Fld Z h0 a1 "com/example/runnel/runnel/apps/AppEnvironment" "positionFile" "Ljava/nio/file/Path;" u_positionFile) (z_a1 : n0 ≤ a1) :
    MetFree l (⟨"com/example/runnel/runnel/apps/AppEnvironment", "<init>", "(Ljava/lang/String;Ljava/lang/String;Ljava/lang/String;Ljava/lang/String;Ljava/nio/file/Path;Ljava/nio/file/Path;)V"⟩ : MethodName) (head1 (Jvm.Cond.code (⟨"com/example/runnel/runnel/apps/AppEnvironment", "<init>", "(Ljava/lang/String;Ljava/lang/String;Ljava/lang/String;Ljava/lang/String;Ljava/nio/file/Path;Ljava/nio/file/Path;)V"⟩ : MethodName) prog_14_method_1_code 7 none :: ws) ({ frames := 2, cells := 0, slots := 0, locals := 24 } : Room)) (fun a U => a = #[(.ref a1), (.ref x0), .null, (.ref x2), .null, .null, .null] ∧ Z.Warmed39 U.vm ∧ U.heap = h0) (fun _ _ _ _ _ => True) (fun _ U o U' => ∃ v L, o = .returned v ∧ Q_in10 Z a1 x0 x2 h0 n0 v U'.heap L ∧ FrameEnd U o U' L ({ frames := 2, cells := 0, slots := 0, locals := 24 } : Room).cells ({ frames := 2, cells := 0, slots := 0, locals := 24 } : Room).slots) := by
  refine MetFree.of_bodySF (plainFor_of_name own_pn_com_example_runnel_runnel_apps_AppEnvironment) hisR ?_
  intro p e s m args below meth c s₁ Bd hml0 hP hK
  obtain ⟨rfl, hZ, hh⟩ := hP
  have hx := Bd.exec
  have hby := Bd.bytes
  have hml : c.maxLocals = 7 := hml0
  have hown : s.vm.findClass "com/example/runnel/runnel/apps/AppEnvironment" = some m.cls := findClass_of_methodNamed Bd.named
  have hnm := (name_of_methodNamed Bd.named Bd.method).1
  have hlk := Bd.notSynchronized
  obtain ⟨lc, hlc⟩ : ∃ lc : List Loc, lc = [] := ⟨_, rfl⟩
  have X : Stand p l e ({ frames := 2, cells := 0, slots := 0, locals := 24 } : Room) s m #[(.ref a1), (.ref x0), .null, (.ref x2), .null, .null, .null] below meth c s₁ lc 0 0 := hlc ▸ Stand.of_body Bd
  have eT : s₁.heap = h0 := by rw [← hh, Bd.state]; rfl
  have N : Fr n0 lc := hlc ▸ Fr.nil n0
  refine own_enter (ef_in10 m a1 x0 x2) ?_
  obtain ⟨T, hT⟩ : ∃ T : State, T = s₁ := ⟨_, rfl⟩
  rw [← hT] at X eT ⊢
  show own_W p e below (own_Post s (Q_in10 Z a1 x0 x2 h0 n0) 0 0) T m 0 #[.val (.ref a1), .val (.ref x0), .val .null, .val (.ref x2), .val .null, .val .null, .val .null] []
  have Kp : Keep h0 h0 [a1] := Keep.refl _ _
  refine own_aloadN X hx (hb hby own_d_prog_14_method_1_code_0) (pc' := 1) rfl rfl rfl ?_
  refine own_callN X hx hZ a1 [] rfl hown (own_w hw 35 rfl) (own_w hw 36 rfl) (own_w hw 38 rfl) (own_w hw 39 rfl) (by decide) (rm_rec l Z a0 hw [] a1 h0 n0 Z0) eT (W := 0) (by decide) (by decide) (cells' := 0) (slots' := 0) rfl rfl (by decide) (by decide) (by rw [hml]; rfl) (lenOf own_pd_2829V rfl) rfl (S := []) rfl (Nat.le_of_eq rfl) (hb hby own_d_prog_14_method_1_code_1) (pc' := 4) rfl ?_
  intro v T h1 L lc X eT hq fN
  obtain ⟨rfl, Nq, hqe⟩ := hq
  have N := fN _ N Nq
  rw [hqe] at eT
  show own_W p e below (own_Post s (Q_in10 Z a1 x0 x2 h0 n0) 0 0) T m 4 #[.val (.ref a1), .val (.ref x0), .val .null, .val (.ref x2), .val .null, .val .null, .val .null] []
  refine own_aloadN X hx (hb hby own_d_prog_14_method_1_code_4) (pc' := 5) rfl rfl rfl ?_
  refine own_aloadN X hx (hb hby own_d_prog_14_method_1_code_5) (pc' := 6) rfl rfl rfl ?_
  refine own_putF X hx hZ hown (own_w hw 41 rfl) Via.refl eT F_brokerUri E_a1 (Or.inr ⟨(own_w hw 42 rfl), rfl, hnm⟩) (own_w hw 31 rfl) (ty := (.object "java/lang/String")) (v' := (.ref x0)) (by decide) rfl rfl (hb hby own_d_prog_14_method_1_code_6) (pc' := 9) rfl ?_
  intro T h2 lc X eT Wq fN
  have F_brokerUri := F_brokerUri.same Wq
  have E_a1 := E_a1.wr Wq
  have F_input := F_input.other Wq (Or.inr (slot_ne (Or.inr (own_w hw 44 rfl)) (Or.inr (own_w hw 42 rfl)) (by decide) (t := (.object "java/lang/String")) (t' := (.object "java/lang/String")) (by decide) (by decide)))
  have F_output := F_output.other Wq (Or.inr (slot_ne (Or.inr (own_w hw 46 rfl)) (Or.inr (own_w hw 42 rfl)) (by decide) (t := (.object "java/lang/String")) (t' := (.object "java/lang/String")) (by decide) (by decide)))
  have F_instance := F_instance.other Wq (Or.inr (slot_ne (Or.inr (own_w hw 48 rfl)) (Or.inr (own_w hw 42 rfl)) (by decide) (t := (.object "java/lang/String")) (t' := (.object "java/lang/String")) (by decide) (by decide)))
  have F_statusFile := F_statusFile.other Wq (Or.inr (slot_ne (Or.inr (own_w hw 50 rfl)) (Or.inr (own_w hw 42 rfl)) (by decide) (t := (.object "java/nio/file/Path")) (t' := (.object "java/lang/String")) (by decide) (by decide)))
  have F_positionFile := F_positionFile.other Wq (Or.inr (slot_ne (Or.inr (own_w hw 52 rfl)) (Or.inr (own_w hw 42 rfl)) (by decide) (t := (.object "java/nio/file/Path")) (t' := (.object "java/lang/String")) (by decide) (by decide)))
  have Z0 := Nat.le_trans Z0 (Keep.of_wr Wq).1
  have N := fN _ z_a1 N
  have Kp := Kp.wr Wq (Or.inl (List.mem_of_getElem? (i := 0) rfl))
  refine own_aloadN X hx (hb hby own_d_prog_14_method_1_code_9) (pc' := 10) rfl rfl rfl ?_
  refine own_aloadN X hx (hb hby own_d_prog_14_method_1_code_10) (pc' := 11) rfl rfl rfl ?_
  refine own_putF X hx hZ hown (own_w hw 43 rfl) Via.refl eT F_input E_a1 (Or.inr ⟨(own_w hw 44 rfl), rfl, hnm⟩) (own_w hw 31 rfl) (ty := (.object "java/lang/String")) (v' := .null) (by decide) rfl rfl (hb hby own_d_prog_14_method_1_code_11) (pc' := 14) rfl ?_
  intro T h3 lc X eT Wq fN
  have F_input := F_input.same Wq
  have E_a1 := E_a1.wr Wq
  have F_output := F_output.other Wq (Or.inr (slot_ne (Or.inr (own_w hw 46 rfl)) (Or.inr (own_w hw 44 rfl)) (by decide) (t := (.object "java/lang/String")) (t' := (.object "java/lang/String")) (by decide) (by decide)))
  have F_instance := F_instance.other Wq (Or.inr (slot_ne (Or.inr (own_w hw 48 rfl)) (Or.inr (own_w hw 44 rfl)) (by decide) (t := (.object "java/lang/String")) (t' := (.object "java/lang/String")) (by decide) (by decide)))
  have F_statusFile := F_statusFile.other Wq (Or.inr (slot_ne (Or.inr (own_w hw 50 rfl)) (Or.inr (own_w hw 44 rfl)) (by decide) (t := (.object "java/nio/file/Path")) (t' := (.object "java/lang/String")) (by decide) (by decide)))
  have F_positionFile := F_positionFile.other Wq (Or.inr (slot_ne (Or.inr (own_w hw 52 rfl)) (Or.inr (own_w hw 44 rfl)) (by decide) (t := (.object "java/nio/file/Path")) (t' := (.object "java/lang/String")) (by decide) (by decide)))
  have F_brokerUri := F_brokerUri.other Wq (Or.inr (slot_ne (Or.inr (own_w hw 42 rfl)) (Or.inr (own_w hw 44 rfl)) (by decide) (t := (.object "java/lang/String")) (t' := (.object "java/lang/String")) (by decide) (by decide)))
  have Z0 := Nat.le_trans Z0 (Keep.of_wr Wq).1
  have N := fN _ z_a1 N
  have Kp := Kp.wr Wq (Or.inl (List.mem_of_getElem? (i := 0) rfl))
  refine own_aloadN X hx (hb hby own_d_prog_14_method_1_code_14) (pc' := 15) rfl rfl rfl ?_
  refine own_aloadN X hx (hb hby own_d_prog_14_method_1_code_15) (pc' := 16) rfl rfl rfl ?_
  refine own_putF X hx hZ hown (own_w hw 45 rfl) Via.refl eT F_output E_a1 (Or.inr ⟨(own_w hw 46 rfl), rfl, hnm⟩) (own_w hw 31 rfl) (ty := (.object "java/lang/String")) (v' := (.ref x2)) (by decide) rfl rfl (hb hby own_d_prog_14_method_1_code_16) (pc' := 19) rfl ?_
  intro T h4 lc X eT Wq fN
  have F_output := F_output.same Wq
  have E_a1 := E_a1.wr Wq
  have F_instance := F_instance.other Wq (Or.inr (slot_ne (Or.inr (own_w hw 48 rfl)) (Or.inr (own_w hw 46 rfl)) (by decide) (t := (.object "java/lang/String")) (t' := (.object "java/lang/String")) (by decide) (by decide)))
  have F_statusFile := F_statusFile.other Wq (Or.inr (slot_ne (Or.inr (own_w hw 50 rfl)) (Or.inr (own_w hw 46 rfl)) (by decide) (t := (.object "java/nio/file/Path")) (t' := (.object "java/lang/String")) (by decide) (by decide)))
  have F_positionFile := F_positionFile.other Wq (Or.inr (slot_ne (Or.inr (own_w hw 52 rfl)) (Or.inr (own_w hw 46 rfl)) (by decide) (t := (.object "java/nio/file/Path")) (t' := (.object "java/lang/String")) (by decide) (by decide)))
  have F_brokerUri := F_brokerUri.other Wq (Or.inr (slot_ne (Or.inr (own_w hw 42 rfl)) (Or.inr (own_w hw 46 rfl)) (by decide) (t := (.object "java/lang/String")) (t' := (.object "java/lang/String")) (by decide) (by decide)))
  have F_input := F_input.other Wq (Or.inr (slot_ne (Or.inr (own_w hw 44 rfl)) (Or.inr (own_w hw 46 rfl)) (by decide) (t := (.object "java/lang/String")) (t' := (.object "java/lang/String")) (by decide) (by decide)))
  have Z0 := Nat.le_trans Z0 (Keep.of_wr Wq).1
  have N := fN _ z_a1 N
  have Kp := Kp.wr Wq (Or.inl (List.mem_of_getElem? (i := 0) rfl))
  refine own_aloadN X hx (hb hby own_d_prog_14_method_1_code_19) (pc' := 20) rfl rfl rfl ?_
  refine own_aload X hx (hb hby own_d_prog_14_method_1_code_20) (pc' := 22) rfl rfl rfl ?_
  refine own_putF X hx hZ hown (own_w hw 47 rfl) Via.refl eT F_instance E_a1 (Or.inr ⟨(own_w hw 48 rfl), rfl, hnm⟩) (own_w hw 31 rfl) (ty := (.object "java/lang/String")) (v' := .null) (by decide) rfl rfl (hb hby own_d_prog_14_method_1_code_22) (pc' := 25) rfl ?_
  intro T h5 lc X eT Wq fN
  have F_instance := F_instance.same Wq
  have E_a1 := E_a1.wr Wq
  have F_statusFile := F_statusFile.other Wq (Or.inr (slot_ne (Or.inr (own_w hw 50 rfl)) (Or.inr (own_w hw 48 rfl)) (by decide) (t := (.object "java/nio/file/Path")) (t' := (.object "java/lang/String")) (by decide) (by decide)))
  have F_positionFile := F_positionFile.other Wq (Or.inr (slot_ne (Or.inr (own_w hw 52 rfl)) (Or.inr (own_w hw 48 rfl)) (by decide) (t := (.object "java/nio/file/Path")) (t' := (.object "java/lang/String")) (by decide) (by decide)))
  have F_brokerUri := F_brokerUri.other Wq (Or.inr (slot_ne (Or.inr (own_w hw 42 rfl)) (Or.inr (own_w hw 48 rfl)) (by decide) (t := (.object "java/lang/String")) (t' := (.object "java/lang/String")) (by decide) (by decide)))
  have F_input := F_input.other Wq (Or.inr (slot_ne (Or.inr (own_w hw 44 rfl)) (Or.inr (own_w hw 48 rfl)) (by decide) (t := (.object "java/lang/String")) (t' := (.object "java/lang/String")) (by decide) (by decide)))
  have F_output := F_output.other Wq (Or.inr (slot_ne (Or.inr (own_w hw 46 rfl)) (Or.inr (own_w hw 48 rfl)) (by decide) (t := (.object "java/lang/String")) (t' := (.object "java/lang/String")) (by decide) (by decide)))
  have Z0 := Nat.le_trans Z0 (Keep.of_wr Wq).1
  have N := fN _ z_a1 N
  have Kp := Kp.wr Wq (Or.inl (List.mem_of_getElem? (i := 0) rfl))
  refine own_aloadN X hx (hb hby own_d_prog_14_method_1_code_25) (pc' := 26) rfl rfl rfl ?_
  refine own_aload X hx (hb hby own_d_prog_14_method_1_code_26) (pc' := 28) rfl rfl rfl ?_
  refine own_putF X hx hZ hown (own_w hw 49 rfl) Via.refl eT F_statusFile E_a1 (Or.inr ⟨(own_w hw 50 rfl), rfl, hnm⟩) (own_w hw 31 rfl) (ty := (.object "java/nio/file/Path")) (v' := .null) (by decide) rfl rfl (hb hby own_d_prog_14_method_1_code_28) (pc' := 31) rfl ?_
  intro T h6 lc X eT Wq fN
  have F_statusFile := F_statusFile.same Wq
  have E_a1 := E_a1.wr Wq
  have F_positionFile := F_positionFile.other Wq (Or.inr (slot_ne (Or.inr (own_w hw 52 rfl)) (Or.inr (own_w hw 50 rfl)) (by decide) (t := (.object "java/nio/file/Path")) (t' := (.object "java/nio/file/Path")) (by decide) (by decide)))
  have F_brokerUri := F_brokerUri.other Wq (Or.inr (slot_ne (Or.inr (own_w hw 42 rfl)) (Or.inr (own_w hw 50 rfl)) (by decide) (t := (.object "java/lang/String")) (t' := (.object "java/nio/file/Path")) (by decide) (by decide)))
  have F_input := F_input.other Wq (Or.inr (slot_ne (Or.inr (own_w hw 44 rfl)) (Or.inr (own_w hw 50 rfl)) (by decide) (t := (.object "java/lang/String")) (t' := (.object "java/nio/file/Path")) (by decide) (by decide)))
  have F_output := F_output.other Wq (Or.inr (slot_ne (Or.inr (own_w hw 46 rfl)) (Or.inr (own_w hw 50 rfl)) (by decide) (t := (.object "java/lang/String")) (t' := (.object "java/nio/file/Path")) (by decide) (by decide)))
  have F_instance := F_instance.other Wq (Or.inr (slot_ne (Or.inr (own_w hw 48 rfl)) (Or.inr (own_w hw 50 rfl)) (by decide) (t := (.object "java/lang/String")) (t' := (.object "java/nio/file/Path")) (by decide) (by decide)))
  have Z0 := Nat.le_trans Z0 (Keep.of_wr Wq).1
  have N := fN _ z_a1 N
  have Kp := Kp.wr Wq (Or.inl (List.mem_of_getElem? (i := 0) rfl))
  refine own_aloadN X hx (hb hby own_d_prog_14_method_1_code_31) (pc' := 32) rfl rfl rfl ?_
  refine own_aload X hx (hb hby own_d_prog_14_method_1_code_32) (pc' := 34) rfl rfl rfl ?_
  refine own_putF X hx hZ hown (own_w hw 51 rfl) Via.refl eT F_positionFile E_a1 (Or.inr ⟨(own_w hw 52 rfl), rfl, hnm⟩) (own_w hw 31 rfl) (ty := (.object "java/nio/file/Path")) (v' := .null) (by decide) rfl rfl (hb hby own_d_prog_14_method_1_code_34) (pc' := 37) rfl ?_
  intro T h7 lc X eT Wq fN
  have F_positionFile := F_positionFile.same Wq
  have E_a1 := E_a1.wr Wq
  have F_brokerUri := F_brokerUri.other Wq (Or.inr (slot_ne (Or.inr (own_w hw 42 rfl)) (Or.inr (own_w hw 52 rfl)) (by decide) (t := (.object "java/lang/String")) (t' := (.object "java/nio/file/Path")) (by decide) (by decide)))
  have F_input := F_input.other Wq (Or.inr (slot_ne (Or.inr (own_w hw 44 rfl)) (Or.inr (own_w hw 52 rfl)) (by decide) (t := (.object "java/lang/String")) (t' := (.object "java/nio/file/Path")) (by decide) (by decide)))
  have F_output := F_output.other Wq (Or.inr (slot_ne (Or.inr (own_w hw 46 rfl)) (Or.inr (own_w hw 52 rfl)) (by decide) (t := (.object "java/lang/String")) (t' := (.object "java/nio/file/Path")) (by decide) (by decide)))
  have F_instance := F_instance.other Wq (Or.inr (slot_ne (Or.inr (own_w hw 48 rfl)) (Or.inr (own_w hw 52 rfl)) (by decide) (t := (.object "java/lang/String")) (t' := (.object "java/nio/file/Path")) (by decide) (by decide)))
  have F_statusFile := F_statusFile.other Wq (Or.inr (slot_ne (Or.inr (own_w hw 50 rfl)) (Or.inr (own_w hw 52 rfl)) (by decide) (t := (.object "java/nio/file/Path")) (t' := (.object "java/nio/file/Path")) (by decide) (by decide)))
  have Z0 := Nat.le_trans Z0 (Keep.of_wr Wq).1
  have N := fN _ z_a1 N
  have Kp := Kp.wr Wq (Or.inl (List.mem_of_getElem? (i := 0) rfl))
  refine own_ret0 X hx hlk Bd.returns (hb hby own_d_prog_14_method_1_code_37) (by decide) (by decide) ?_
  rw [eT]
  exact ⟨rfl, N, Kp, F_brokerUri, F_input, F_output, F_instance, F_statusFile, F_positionFile⟩
theorem ef_of10 (m : MethodId) (x0 : Addr) (x2 : Addr) : entryFrame m #[(.ref x0), .null, (.ref x2)] 3 = mkF m 0 #[.val (.ref x0), .val .null, .val (.ref x2)] [] := by first | (simp [entryFrame, mkF, argsToLocals, Value.category]; done) | rfl
def Q_of10 (Z : State) (x0 x2 : Addr) (h0 : Heap) (n0 : Nat) (v : Option Value) (h : Heap) (L : List Loc) : Prop := ∃ a : Addr, v = some (.ref a) ∧ Fr n0 L ∧ Keep h0 h [] ∧ Exa Z h a "com/example/runnel/runnel/apps/AppEnvironment" ∧ Fld Z h a "com/example/runnel/runnel/apps/AppEnvironment" "brokerUri" "Ljava/lang/String;" (.ref x0) ∧ Fld Z h a "com/example/runnel/runnel/apps/AppEnvironment" "input" "Ljava/lang/String;" .null ∧ Fld Z h a "com/example/runnel/runnel/apps/AppEnvironment" "output" "Ljava/lang/String;" (.ref x2) ∧ Fld Z h a "com/example/runnel/runnel/apps/AppEnvironment" "instance" "Ljava/lang/String;" .null ∧ Fld Z h a "com/example/runnel/runnel/apps/AppEnvironment" "statusFile" "Ljava/nio/file/Path;" .null ∧ Fld Z h a "com/example/runnel/runnel/apps/AppEnvironment" "positionFile" "Ljava/nio/file/Path;" .null
set_option maxRecDepth 65536 in
set_option maxHeartbeats 40000000 in
theorem rm_of10 (l : Launch) (Z : State) (a0 : Array Value) (hw : ∀ d ∈ tables_1, d.before a0 Z = true) (ws : List Jvm.Cond) (x0 x2 : Addr) (h0 : Heap) (n0 : Nat) (Z0 : n0 ≤ h0.size)  :
    MetFree l (⟨"com/example/runnel/runnel/apps/AppEnvironment", "of", "(Ljava/lang/String;Ljava/lang/String;Ljava/lang/String;)Lcom/example/runnel/runnel/apps/AppEnvironment;"⟩ : MethodName) (head1 (Jvm.Cond.code (⟨"com/example/runnel/runnel/apps/AppEnvironment", "of", "(Ljava/lang/String;Ljava/lang/String;Ljava/lang/String;)Lcom/example/runnel/runnel/apps/AppEnvironment;"⟩ : MethodName) prog_14_method_2_code 3 (some (.object "com/example/runnel/runnel/apps/AppEnvironment")) :: ws) ({ frames := 3, cells := 1, slots := 6, locals := 43 } : Room)) (fun a U => a = #[(.ref x0), .null, (.ref x2)] ∧ Z.Warmed39 U.vm ∧ U.heap = h0) (fun _ _ _ _ _ => True) (fun _ U o U' => ∃ v L, o = .returned v ∧ Q_of10 Z x0 x2 h0 n0 v U'.heap L ∧ FrameEnd U o U' L ({ frames := 3, cells := 1, slots := 6, locals := 43 } : Room).cells ({ frames := 3, cells := 1, slots := 6, locals := 43 } : Room).slots) := by
  refine MetFree.of_bodySF (plainFor_of_name own_pn_com_example_runnel_runnel_apps_AppEnvironment) hisR ?_
  intro p e s m args below meth c s₁ Bd hml0 hP hK
  obtain ⟨rfl, hZ, hh⟩ := hP
  have hx := Bd.exec
  have hby := Bd.bytes
  have hml : c.maxLocals = 3 := hml0
  have hown : s.vm.findClass "com/example/runnel/runnel/apps/AppEnvironment" = some m.cls := findClass_of_methodNamed Bd.named
  have hnm := (name_of_methodNamed Bd.named Bd.method).1
  have hlk := Bd.notSynchronized
  obtain ⟨lc, hlc⟩ : ∃ lc : List Loc, lc = [] := ⟨_, rfl⟩
  have X : Stand p l e ({ frames := 3, cells := 1, slots := 6, locals := 43 } : Room) s m #[(.ref x0), .null, (.ref x2)] below meth c s₁ lc 0 0 := hlc ▸ Stand.of_body Bd
  have eT : s₁.heap = h0 := by rw [← hh, Bd.state]; rfl
  have N : Fr n0 lc := hlc ▸ Fr.nil n0
  refine own_enter (ef_of10 m x0 x2) ?_
  obtain ⟨T, hT⟩ : ∃ T : State, T = s₁ := ⟨_, rfl⟩
  rw [← hT] at X eT ⊢
  show own_W p e below (own_Post s (Q_of10 Z x0 x2 h0 n0) 1 6) T m 0 #[.val (.ref x0), .val .null, .val (.ref x2)] []
  have Kp : Keep h0 h0 [] := Keep.refl _ _
  refine own_new X hx hZ hown (own_w hw 30 rfl) (own_w hw 31 rfl) (own_w hw 28 rfl) eT (hb hby own_d_prog_14_method_2_code_0) (pc' := 3) rfl (cells' := 1) (slots' := 6) rfl rfl (by decide) (by decide) ?_
  intro T h1 b1 X eT E gb1 E_b1 Db1
  have z_b1 : n0 ≤ b1 := Nat.le_trans Z0 (Nat.le_of_eq gb1.symm)
  have s_b1 : h0.size ≤ b1 := Nat.le_trans Kp.1 (Nat.le_of_eq gb1.symm)
  have Z0 := Nat.le_trans Z0 E.1
  have Kp := Kp.ext E
  have F_brokerUri_b1 : Fld Z h1 b1 "com/example/runnel/runnel/apps/AppEnvironment" "brokerUri" "Ljava/lang/String;" .null := Db1 (Or.inr (own_w hw 42 rfl)) (ty := (.object "java/lang/String")) (by decide)
  have F_input_b1 : Fld Z h1 b1 "com/example/runnel/runnel/apps/AppEnvironment" "input" "Ljava/lang/String;" .null := Db1 (Or.inr (own_w hw 44 rfl)) (ty := (.object "java/lang/String")) (by decide)
  have F_output_b1 : Fld Z h1 b1 "com/example/runnel/runnel/apps/AppEnvironment" "output" "Ljava/lang/String;" .null := Db1 (Or.inr (own_w hw 46 rfl)) (ty := (.object "java/lang/String")) (by decide)
  have F_instance_b1 : Fld Z h1 b1 "com/example/runnel/runnel/apps/AppEnvironment" "instance" "Ljava/lang/String;" .null := Db1 (Or.inr (own_w hw 48 rfl)) (ty := (.object "java/lang/String")) (by decide)
  have F_statusFile_b1 : Fld Z h1 b1 "com/example/runnel/runnel/apps/AppEnvironment" "statusFile" "Ljava/nio/file/Path;" .null := Db1 (Or.inr (own_w hw 50 rfl)) (ty := (.object "java/nio/file/Path")) (by decide)
  have F_positionFile_b1 : Fld Z h1 b1 "com/example/runnel/runnel/apps/AppEnvironment" "positionFile" "Ljava/nio/file/Path;" .null := Db1 (Or.inr (own_w hw 52 rfl)) (ty := (.object "java/nio/file/Path")) (by decide)
  refine own_dup X hx (hb hby own_d_prog_14_method_2_code_3) (pc' := 4) rfl rfl ?_
  refine own_aloadN X hx (hb hby own_d_prog_14_method_2_code_4) (pc' := 5) rfl rfl rfl ?_
  refine own_aloadN X hx (hb hby own_d_prog_14_method_2_code_5) (pc' := 6) rfl rfl rfl ?_
  refine own_aloadN X hx (hb hby own_d_prog_14_method_2_code_6) (pc' := 7) rfl rfl rfl ?_
  refine own_aconst_null X hx (hb hby own_d_prog_14_method_2_code_7) (pc' := 8) rfl ?_
  refine own_aconst_null X hx (hb hby own_d_prog_14_method_2_code_8) (pc' := 9) rfl ?_
  refine own_aconst_null X hx (hb hby own_d_prog_14_method_2_code_9) (pc' := 10) rfl ?_
  refine own_callN X hx hZ b1 [(.ref x0), .null, (.ref x2), .null, .null, .null] rfl hown (own_w hw 32 rfl) (own_w hw 33 rfl) (own_w hw 28 rfl) (own_w hw 34 rfl) (by decide) (rm_in10 l Z a0 hw [] b1 x0 x2 h1 n0 Z0 _ _ _ _ _ _ E_b1 F_brokerUri_b1 F_input_b1 F_output_b1 F_instance_b1 F_statusFile_b1 F_positionFile_b1 z_b1) eT (W := 1) (by decide) (by decide) (cells' := 1) (slots' := 6) rfl rfl (by decide) (by decide) (by rw [hml]; rfl) (lenOf own_pd_28Ljava2flang2fString3bLjava2flang2fString3bLjava2flang2fString3bLjava2flang2fString3bLjava2fnio2ffile2fPath3bLjava2fnio2ffile2fPath3b29V rfl) rfl (S := [(.ref b1)]) rfl (Nat.le_of_eq rfl) (hb hby own_d_prog_14_method_2_code_10) (pc' := 13) rfl ?_
  intro v T h2 L lc X eT hq fN
  obtain ⟨rfl, Nq, Kq, G_brokerUri, G_input, G_output, G_instance, G_statusFile, G_positionFile⟩ := hq
  have N := fN _ N Nq
  have E_b1 := E_b1.keep Kq
  have Z0 := Nat.le_trans Z0 Kq.1
  have Kp := Kp.trans Kq (allS (P := fun x => x ∈ ([] : List Addr) ∨ h0.size ≤ x) (Or.inr s_b1) all0)
  show own_W p e below (own_Post s (Q_of10 Z x0 x2 h0 n0) 1 6) T m 13 #[.val (.ref x0), .val .null, .val (.ref x2)] [(.ref b1)]
  refine own_retA X hx hlk Bd.returns (hb hby own_d_prog_14_method_2_code_13) rfl rfl rfl (by decide) (by decide) ?_
  rw [eT]
  exact ⟨b1, rfl, N, Kp, E_b1, G_brokerUri, G_input, G_output, G_instance, G_statusFile, G_positionFile⟩
theorem ef_in11 (m : MethodId) (x0 : Addr) (x1 : Addr) : entryFrame m #[(.ref x0), (.ref x1), .null, .null, .null, .null, .null] 7 = mkF m 0 #[.val (.ref x0), .val (.ref x1), .val .null, .val .null, .val .null, .val .null, .val .null] [] := by first | (simp [entryFrame, mkF, argsToLocals, Value.category]; done) | rfl
def Q_in11 (Z : State) (a1 : Addr) (x0 : Addr) (h0 : Heap) (n0 : Nat) (v : Option Value) (h : Heap) (L : List Loc) : Prop := v = none ∧ Fr n0 L ∧ Keep h0 h [a1] ∧ Fld Z h a1 "com/example/runnel/runnel/apps/AppEnvironment" "brokerUri" "Ljava/lang/String;" (.ref x0) ∧ Fld Z h a1 "com/example/runnel/runnel/apps/AppEnvironment" "input" "Ljava/lang/String;" .null ∧ Fld Z h a1 "com/example/runnel/runnel/apps/AppEnvironment" "output" "Ljava/lang/String;" .null ∧ Fld Z h a1 "com/example/runnel/runnel/apps/AppEnvironment" "instance" "Ljava/lang/String;" .null ∧ Fld Z h a1 "com/example/runnel/runnel/apps/AppEnvironment" "statusFile" "Ljava/nio/file/Path;" .null ∧ Fld Z h a1 "com/example/runnel/runnel/apps/AppEnvironment" "positionFile" "Ljava/nio/file/Path;" .null
set_option maxRecDepth 65536 in
set_option maxHeartbeats 40000000 in
theorem rm_in11 (l : Launch) (Z : State) (a0 : Array Value) (hw : ∀ d ∈ tables_1, d.before a0 Z = true) (ws : List Jvm.Cond) (a1 : Addr) (x0 : Addr) (h0 : Heap) (n0 : Nat) (Z0 : n0 ≤ h0.size) (u_brokerUri u_input u_output u_instance u_statusFile u_positionFile : Value) (E_a1 : Exa Z h0 a1 "com/example/runnel/runnel/apps/AppEnvironment") (F_brokerUri : Fld Z h0 a1 "com/example/runnel/runnel/apps/AppEnvironment" "brokerUri" "Ljava/lang/String;" u_brokerUri) (F_input : Fld Z h0 a1 "com/example/runnel/runnel/apps/AppEnvironment" "input" "Ljava/lang/String;" u_input) (F_output : Fld Z h0 a1 "com/example/runnel/runnel/apps/AppEnvironment" "output" "Ljava/lang/String;" u_output) (F_instance : Fld Z h0 a1 "com/example/runnel/runnel/apps/AppEnvironment" "instance" "Ljava/lang/String;" u_instance) (F_statusFile : Fld Z h0 a1 "com/example/runnel/runnel/apps/AppEnvironment" "statusFile" "Ljava/nio/file/Path;" u_statusFile) (F_positionFile : Fld Z h0 a1 "com/example/runnel/runnel/apps/AppEnvironment" "positionFile" "Ljava/nio/file/Path;" u_positionFile) (z_a1 : n0 ≤ a1) :
    MetFree l (⟨"com/example/runnel/runnel/apps/AppEnvironment", "<init>", "(Ljava/lang/String;Ljava/lang/String;Ljava/lang/String;Ljava/lang/String;Ljava/nio/file/Path;Ljava/nio/file/Path;)V"⟩ : MethodName) (head1 (Jvm.Cond.code (⟨"com/example/runnel/runnel/apps/AppEnvironment", "<init>", "(Ljava/lang/String;Ljava/lang/String;Ljava/lang/String;Ljava/lang/String;Ljava/nio/file/Path;Ljava/nio/file/Path;)V"⟩ : MethodName) prog_14_method_1_code 7 none :: ws) ({ frames := 2, cells := 0, slots := 0, locals := 24 } : Room)) (fun a U => a = #[(.ref a1), (.ref x0), .null, .null, .null, .null, .null] ∧ Z.Warmed39 U.vm ∧ U.heap = h0) (fun _ _ _ _ _ => True) (fun _ U o U' => ∃ v L, o = .returned v ∧ Q_in11 Z a1 x0 h0 n0 v U'.heap L ∧ FrameEnd U o U' L ({ frames := 2, cells := 0, slots := 0, locals := 24 } : Room).cells ({ frames := 2, cells := 0, slots := 0, locals := 24 } : Room).slots) := by
  refine MetFree.of_bodySF (plainFor_of_name own_pn_com_example_runnel_runnel_apps_AppEnvironment) hisR ?_
  intro p e s m args below meth c s₁ Bd hml0 hP hK
  obtain ⟨rfl, hZ, hh⟩ := hP
  have hx := Bd.exec
  have hby := Bd.bytes
  have hml : c.maxLocals = 7 := hml0
  have hown : s.vm.findClass "com/example/runnel/runnel/apps/AppEnvironment" = some m.cls := findClass_of_methodNamed Bd.named
  have hnm := (name_of_methodNamed Bd.named Bd.method).1
  have hlk := Bd.notSynchronized
  obtain ⟨lc, hlc⟩ : ∃ lc : List Loc, lc = [] := ⟨_, rfl⟩
  have X : Stand p l e ({ frames := 2, cells := 0, slots := 0, locals := 24 } : Room) s m #[(.ref a1), (.ref x0), .null, .null, .null, .null, .null] below meth c s₁ lc 0 0 := hlc ▸ Stand.of_body Bd
  have eT : s₁.heap = h0 := by rw [← hh, Bd.state]; rfl
  have N : Fr n0 lc := hlc ▸ Fr.nil n0
  refine own_enter (ef_in11 m a1 x0) ?_
  obtain ⟨T, hT⟩ : ∃ T : State, T = s₁ := ⟨_, rfl⟩
  rw [← hT] at X eT ⊢
  show own_W p e below (own_Post s (Q_in11 Z a1 x0 h0 n0) 0 0) T m 0 #[.val (.ref a1), .val (.ref x0), .val .null, .val .null, .val .null, .val .null, .val .null] []
  have Kp : Keep h0 h0 [a1] := Keep.refl _ _
  refine own_aloadN X hx (hb hby own_d_prog_14_method_1_code_0) (pc' := 1) rfl rfl rfl ?_
  refine own_callN X hx hZ a1 [] rfl hown (own_w hw 35 rfl) (own_w hw 36 rfl) (own_w hw 38 rfl) (own_w hw 39 rfl) (by decide) (rm_rec l Z a0 hw [] a1 h0 n0 Z0) eT (W := 0) (by decide) (by decide) (cells' := 0) (slots' := 0) rfl rfl (by decide) (by decide) (by rw [hml]; rfl) (lenOf own_pd_2829V rfl) rfl (S := []) rfl (Nat.le_of_eq rfl) (hb hby own_d_prog_14_method_1_code_1) (pc' := 4) rfl ?_
  intro v T h1 L lc X eT hq fN
  obtain ⟨rfl, Nq, hqe⟩ := hq
  have N := fN _ N Nq
  rw [hqe] at eT
  show own_W p e below (own_Post s (Q_in11 Z a1 x0 h0 n0) 0 0) T m 4 #[.val (.ref a1), .val (.ref x0), .val .null, .val .null, .val .null, .val .null, .val .null] []
  refine own_aloadN X hx (hb hby own_d_prog_14_method_1_code_4) (pc' := 5) rfl rfl rfl ?_
  refine own_aloadN X hx (hb hby own_d_prog_14_method_1_code_5) (pc' := 6) rfl rfl rfl ?_
  refine own_putF X hx hZ hown (own_w hw 41 rfl) Via.refl eT F_brokerUri E_a1 (Or.inr ⟨(own_w hw 42 rfl), rfl, hnm⟩) (own_w hw 31 rfl) (ty := (.object "java/lang/String")) (v' := (.ref x0)) (by decide) rfl rfl (hb hby own_d_prog_14_method_1_code_6) (pc' := 9) rfl ?_
  intro T h2 lc X eT Wq fN
  have F_brokerUri := F_brokerUri.same Wq
  have E_a1 := E_a1.wr Wq
  have F_input := F_input.other Wq (Or.inr (slot_ne (Or.inr (own_w hw 44 rfl)) (Or.inr (own_w hw 42 rfl)) (by decide) (t := (.object "java/lang/String")) (t' := (.object "java/lang/String")) (by decide) (by decide)))
  have F_output := F_output.other Wq (Or.inr (slot_ne (Or.inr (own_w hw 46 rfl)) (Or.inr (own_w hw 42 rfl)) (by decide) (t := (.object "java/lang/String")) (t' := (.object "java/lang/String")) (by decide) (by decide)))
  have F_instance := F_instance.other Wq (Or.inr (slot_ne (Or.inr (own_w hw 48 rfl)) (Or.inr (own_w hw 42 rfl)) (by decide) (t := (.object "java/lang/String")) (t' := (.object "java/lang/String")) (by decide) (by decide)))
  have F_statusFile := F_statusFile.other Wq (Or.inr (slot_ne (Or.inr (own_w hw 50 rfl)) (Or.inr (own_w hw 42 rfl)) (by decide) (t := (.object "java/nio/file/Path")) (t' := (.object "java/lang/String")) (by decide) (by decide)))
  have F_positionFile := F_positionFile.other Wq (Or.inr (slot_ne (Or.inr (own_w hw 52 rfl)) (Or.inr (own_w hw 42 rfl)) (by decide) (t := (.object "java/nio/file/Path")) (t' := (.object "java/lang/String")) (by decide) (by decide)))
  have Z0 := Nat.le_trans Z0 (Keep.of_wr Wq).1
  have N := fN _ z_a1 N
  have Kp := Kp.wr Wq (Or.inl (List.mem_of_getElem? (i := 0) rfl))
  refine own_aloadN X hx (hb hby own_d_prog_14_method_1_code_9) (pc' := 10) rfl rfl rfl ?_
  refine own_aloadN X hx (hb hby own_d_prog_14_method_1_code_10) (pc' := 11) rfl rfl rfl ?_
  refine own_putF X hx hZ hown (own_w hw 43 rfl) Via.refl eT F_input E_a1 (Or.inr ⟨(own_w hw 44 rfl), rfl, hnm⟩) (own_w hw 31 rfl) (ty := (.object "java/lang/String")) (v' := .null) (by decide) rfl rfl (hb hby own_d_prog_14_method_1_code_11) (pc' := 14) rfl ?_
  intro T h3 lc X eT Wq fN
  have F_input := F_input.same Wq
  have E_a1 := E_a1.wr Wq
  have F_output := F_output.other Wq (Or.inr (slot_ne (Or.inr (own_w hw 46 rfl)) (Or.inr (own_w hw 44 rfl)) (by decide) (t := (.object "java/lang/String")) (t' := (.object "java/lang/String")) (by decide) (by decide)))
  have F_instance := F_instance.other Wq (Or.inr (slot_ne (Or.inr (own_w hw 48 rfl)) (Or.inr (own_w hw 44 rfl)) (by decide) (t := (.object "java/lang/String")) (t' := (.object "java/lang/String")) (by decide) (by decide)))
  have F_statusFile := F_statusFile.other Wq (Or.inr (slot_ne (Or.inr (own_w hw 50 rfl)) (Or.inr (own_w hw 44 rfl)) (by decide) (t := (.object "java/nio/file/Path")) (t' := (.object "java/lang/String")) (by decide) (by decide)))
  have F_positionFile := F_positionFile.other Wq (Or.inr (slot_ne (Or.inr (own_w hw 52 rfl)) (Or.inr (own_w hw 44 rfl)) (by decide) (t := (.object "java/nio/file/Path")) (t' := (.object "java/lang/String")) (by decide) (by decide)))
  have F_brokerUri := F_brokerUri.other Wq (Or.inr (slot_ne (Or.inr (own_w hw 42 rfl)) (Or.inr (own_w hw 44 rfl)) (by decide) (t := (.object "java/lang/String")) (t' := (.object "java/lang/String")) (by decide) (by decide)))
  have Z0 := Nat.le_trans Z0 (Keep.of_wr Wq).1
  have N := fN _ z_a1 N
  have Kp := Kp.wr Wq (Or.inl (List.mem_of_getElem? (i := 0) rfl))
  refine own_aloadN X hx (hb hby own_d_prog_14_method_1_code_14) (pc' := 15) rfl rfl rfl ?_
  refine own_aloadN X hx (hb hby own_d_prog_14_method_1_code_15) (pc' := 16) rfl rfl rfl ?_
  refine own_putF X hx hZ hown (own_w hw 45 rfl) Via.refl eT F_output E_a1 (Or.inr ⟨(own_w hw 46 rfl), rfl, hnm⟩) (own_w hw 31 rfl) (ty := (.object "java/lang/String")) (v' := .null) (by decide) rfl rfl (hb hby own_d_prog_14_method_1_code_16) (pc' := 19) rfl ?_
  intro T h4 lc X eT Wq fN
  have F_output := F_output.same Wq
  have E_a1 := E_a1.wr Wq
  have F_instance := F_instance.other Wq (Or.inr (slot_ne (Or.inr (own_w hw 48 rfl)) (Or.inr (own_w hw 46 rfl)) (by decide) (t := (.object "java/lang/String")) (t' := (.object "java/lang/String")) (by decide) (by decide)))
  have F_statusFile := F_statusFile.other Wq (Or.inr (slot_ne (Or.inr (own_w hw 50 rfl)) (Or.inr (own_w hw 46 rfl)) (by decide) (t := (.object "java/nio/file/Path")) (t' := (.object "java/lang/String")) (by decide) (by decide)))
  have F_positionFile := F_positionFile.other Wq (Or.inr (slot_ne (Or.inr (own_w hw 52 rfl)) (Or.inr (own_w hw 46 rfl)) (by decide) (t := (.object "java/nio/file/Path")) (t' := (.object "java/lang/String")) (by decide) (by decide)))
  have F_brokerUri := F_brokerUri.other Wq (Or.inr (slot_ne (Or.inr (own_w hw 42 rfl)) (Or.inr (own_w hw 46 rfl)) (by decide) (t := (.object "java/lang/String")) (t' := (.object "java/lang/String")) (by decide) (by decide)))
  have F_input := F_input.other Wq (Or.inr (slot_ne (Or.inr (own_w hw 44 rfl)) (Or.inr (own_w hw 46 rfl)) (by decide) (t := (.object "java/lang/String")) (t' := (.object "java/lang/String")) (by decide) (by decide)))
  have Z0 := Nat.le_trans Z0 (Keep.of_wr Wq).1
  have N := fN _ z_a1 N
  have Kp := Kp.wr Wq (Or.inl (List.mem_of_getElem? (i := 0) rfl))
  refine own_aloadN X hx (hb hby own_d_prog_14_method_1_code_19) (pc' := 20) rfl rfl rfl ?_
  refine own_aload X hx (hb hby own_d_prog_14_method_1_code_20) (pc' := 22) rfl rfl rfl ?_
  refine own_putF X hx hZ hown (own_w hw 47 rfl) Via.refl eT F_instance E_a1 (Or.inr ⟨(own_w hw 48 rfl), rfl, hnm⟩) (own_w hw 31 rfl) (ty := (.object "java/lang/String")) (v' := .null) (by decide) rfl rfl (hb hby own_d_prog_14_method_1_code_22) (pc' := 25) rfl ?_
  intro T h5 lc X eT Wq fN
  have F_instance := F_instance.same Wq
  have E_a1 := E_a1.wr Wq
  have F_statusFile := F_statusFile.other Wq (Or.inr (slot_ne (Or.inr (own_w hw 50 rfl)) (Or.inr (own_w hw 48 rfl)) (by decide) (t := (.object "java/nio/file/Path")) (t' := (.object "java/lang/String")) (by decide) (by decide)))
  have F_positionFile := F_positionFile.other Wq (Or.inr (slot_ne (Or.inr (own_w hw 52 rfl)) (Or.inr (own_w hw 48 rfl)) (by decide) (t := (.object "java/nio/file/Path")) (t' := (.object "java/lang/String")) (by decide) (by decide)))
  have F_brokerUri := F_brokerUri.other Wq (Or.inr (slot_ne (Or.inr (own_w hw 42 rfl)) (Or.inr (own_w hw 48 rfl)) (by decide) (t := (.object "java/lang/String")) (t' := (.object "java/lang/String")) (by decide) (by decide)))
  have F_input := F_input.other Wq (Or.inr (slot_ne (Or.inr (own_w hw 44 rfl)) (Or.inr (own_w hw 48 rfl)) (by decide) (t := (.object "java/lang/String")) (t' := (.object "java/lang/String")) (by decide) (by decide)))
  have F_output := F_output.other Wq (Or.inr (slot_ne (Or.inr (own_w hw 46 rfl)) (Or.inr (own_w hw 48 rfl)) (by decide) (t := (.object "java/lang/String")) (t' := (.object "java/lang/String")) (by decide) (by decide)))
  have Z0 := Nat.le_trans Z0 (Keep.of_wr Wq).1
  have N := fN _ z_a1 N
  have Kp := Kp.wr Wq (Or.inl (List.mem_of_getElem? (i := 0) rfl))
  refine own_aloadN X hx (hb hby own_d_prog_14_method_1_code_25) (pc' := 26) rfl rfl rfl ?_
  refine own_aload X hx (hb hby own_d_prog_14_method_1_code_26) (pc' := 28) rfl rfl rfl ?_
  refine own_putF X hx hZ hown (own_w hw 49 rfl) Via.refl eT F_statusFile E_a1 (Or.inr ⟨(own_w hw 50 rfl), rfl, hnm⟩) (own_w hw 31 rfl) (ty := (.object "java/nio/file/Path")) (v' := .null) (by decide) rfl rfl (hb hby own_d_prog_14_method_1_code_28) (pc' := 31) rfl ?_
  intro T h6 lc X eT Wq fN
  have F_statusFile := F_statusFile.same Wq
  have E_a1 := E_a1.wr Wq
  have F_positionFile := F_positionFile.other Wq (Or.inr (slot_ne (Or.inr (own_w hw 52 rfl)) (Or.inr (own_w hw 50 rfl)) (by decide) (t := (.object "java/nio/file/Path")) (t' := (.object "java/nio/file/Path")) (by decide) (by decide)))
  have F_brokerUri := F_brokerUri.other Wq (Or.inr (slot_ne (Or.inr (own_w hw 42 rfl)) (Or.inr (own_w hw 50 rfl)) (by decide) (t := (.object "java/lang/String")) (t' := (.object "java/nio/file/Path")) (by decide) (by decide)))
  have F_input := F_input.other Wq (Or.inr (slot_ne (Or.inr (own_w hw 44 rfl)) (Or.inr (own_w hw 50 rfl)) (by decide) (t := (.object "java/lang/String")) (t' := (.object "java/nio/file/Path")) (by decide) (by decide)))
  have F_output := F_output.other Wq (Or.inr (slot_ne (Or.inr (own_w hw 46 rfl)) (Or.inr (own_w hw 50 rfl)) (by decide) (t := (.object "java/lang/String")) (t' := (.object "java/nio/file/Path")) (by decide) (by decide)))
  have F_instance := F_instance.other Wq (Or.inr (slot_ne (Or.inr (own_w hw 48 rfl)) (Or.inr (own_w hw 50 rfl)) (by decide) (t := (.object "java/lang/String")) (t' := (.object "java/nio/file/Path")) (by decide) (by decide)))
  have Z0 := Nat.le_trans Z0 (Keep.of_wr Wq).1
  have N := fN _ z_a1 N
  have Kp := Kp.wr Wq (Or.inl (List.mem_of_getElem? (i := 0) rfl))
  refine own_aloadN X hx (hb hby own_d_prog_14_method_1_code_31) (pc' := 32) rfl rfl rfl ?_
  refine own_aload X hx (hb hby own_d_prog_14_method_1_code_32) (pc' := 34) rfl rfl rfl ?_
  refine own_putF X hx hZ hown (own_w hw 51 rfl) Via.refl eT F_positionFile E_a1 (Or.inr ⟨(own_w hw 52 rfl), rfl, hnm⟩) (own_w hw 31 rfl) (ty := (.object "java/nio/file/Path")) (v' := .null) (by decide) rfl rfl (hb hby own_d_prog_14_method_1_code_34) (pc' := 37) rfl ?_
  intro T h7 lc X eT Wq fN
  have F_positionFile := F_positionFile.same Wq
  have E_a1 := E_a1.wr Wq
  have F_brokerUri := F_brokerUri.other Wq (Or.inr (slot_ne (Or.inr (own_w hw 42 rfl)) (Or.inr (own_w hw 52 rfl)) (by decide) (t := (.object "java/lang/String")) (t' := (.object "java/nio/file/Path")) (by decide) (by decide)))
  have F_input := F_input.other Wq (Or.inr (slot_ne (Or.inr (own_w hw 44 rfl)) (Or.inr (own_w hw 52 rfl)) (by decide) (t := (.object "java/lang/String")) (t' := (.object "java/nio/file/Path")) (by decide) (by decide)))
  have F_output := F_output.other Wq (Or.inr (slot_ne (Or.inr (own_w hw 46 rfl)) (Or.inr (own_w hw 52 rfl)) (by decide) (t := (.object "java/lang/String")) (t' := (.object "java/nio/file/Path")) (by decide) (by decide)))
  have F_instance := F_instance.other Wq (Or.inr (slot_ne (Or.inr (own_w hw 48 rfl)) (Or.inr (own_w hw 52 rfl)) (by decide) (t := (.object "java/lang/String")) (t' := (.object "java/nio/file/Path")) (by decide) (by decide)))
  have F_statusFile := F_statusFile.other Wq (Or.inr (slot_ne (Or.inr (own_w hw 50 rfl)) (Or.inr (own_w hw 52 rfl)) (by decide) (t := (.object "java/nio/file/Path")) (t' := (.object "java/nio/file/Path")) (by decide) (by decide)))
  have Z0 := Nat.le_trans Z0 (Keep.of_wr Wq).1
  have N := fN _ z_a1 N
  have Kp := Kp.wr Wq (Or.inl (List.mem_of_getElem? (i := 0) rfl))
  refine own_ret0 X hx hlk Bd.returns (hb hby own_d_prog_14_method_1_code_37) (by decide) (by decide) ?_
  rw [eT]
  exact ⟨rfl, N, Kp, F_brokerUri, F_input, F_output, F_instance, F_statusFile, F_positionFile⟩
theorem ef_of11 (m : MethodId) (x0 : Addr) : entryFrame m #[(.ref x0), .null, .null] 3 = mkF m 0 #[.val (.ref x0), .val .null, .val .null] [] := by first | (simp [entryFrame, mkF, argsToLocals, Value.category]; done) | rfl
def Q_of11 (Z : State) (x0 : Addr) (h0 : Heap) (n0 : Nat) (v : Option Value) (h : Heap) (L : List Loc) : Prop := ∃ a : Addr, v = some (.ref a) ∧ Fr n0 L ∧ Keep h0 h [] ∧ Exa Z h a "com/example/runnel/runnel/apps/AppEnvironment" ∧ Fld Z h a "com/example/runnel/runnel/apps/AppEnvironment" "brokerUri" "Ljava/lang/String;" (.ref x0) ∧ Fld Z h a "com/example/runnel/runnel/apps/AppEnvironment" "input" "Ljava/lang/String;" .null ∧ Fld Z h a "com/example/runnel/runnel/apps/AppEnvironment" "output" "Ljava/lang/String;" .null ∧ Fld Z h a "com/example/runnel/runnel/apps/AppEnvironment" "instance" "Ljava/lang/String;" .null ∧ Fld Z h a "com/example/runnel/runnel/apps/AppEnvironment" "statusFile" "Ljava/nio/file/Path;" .null ∧ Fld Z h a "com/example/runnel/runnel/apps/AppEnvironment" "positionFile" "Ljava/nio/file/Path;" .null
set_option maxRecDepth 65536 in
set_option maxHeartbeats 40000000 in
theorem rm_of11 (l : Launch) (Z : State) (a0 : Array Value) (hw : ∀ d ∈ tables_1, d.before a0 Z = true) (ws : List Jvm.Cond) (x0 : Addr) (h0 : Heap) (n0 : Nat) (Z0 : n0 ≤ h0.size)  :
    MetFree l (⟨"com/example/runnel/runnel/apps/AppEnvironment", "of", "(Ljava/lang/String;Ljava/lang/String;Ljava/lang/String;)Lcom/example/runnel/runnel/apps/AppEnvironment;"⟩ : MethodName) (head1 (Jvm.Cond.code (⟨"com/example/runnel/runnel/apps/AppEnvironment", "of", "(Ljava/lang/String;Ljava/lang/String;Ljava/lang/String;)Lcom/example/runnel/runnel/apps/AppEnvironment;"⟩ : MethodName) prog_14_method_2_code 3 (some (.object "com/example/runnel/runnel/apps/AppEnvironment")) :: ws) ({ frames := 3, cells := 1, slots := 6, locals := 43 } : Room)) (fun a U => a = #[(.ref x0), .null, .null] ∧ Z.Warmed39 U.vm ∧ U.heap = h0) (fun _ _ _ _ _ => True) (fun _ U o U' => ∃ v L, o = .returned v ∧ Q_of11 Z x0 h0 n0 v U'.heap L ∧ FrameEnd U o U' L ({ frames := 3, cells := 1, slots := 6, locals := 43 } : Room).cells ({ frames := 3, cells := 1, slots := 6, locals := 43 } : Room).slots) := by
  refine MetFree.of_bodySF (plainFor_of_name own_pn_com_example_runnel_runnel_apps_AppEnvironment) hisR ?_
  intro p e s m args below meth c s₁ Bd hml0 hP hK
  obtain ⟨rfl, hZ, hh⟩ := hP
  have hx := Bd.exec
  have hby := Bd.bytes
  have hml : c.maxLocals = 3 := hml0
  have hown : s.vm.findClass "com/example/runnel/runnel/apps/AppEnvironment" = some m.cls := findClass_of_methodNamed Bd.named
  have hnm := (name_of_methodNamed Bd.named Bd.method).1
  have hlk := Bd.notSynchronized
  obtain ⟨lc, hlc⟩ : ∃ lc : List Loc, lc = [] := ⟨_, rfl⟩
  have X : Stand p l e ({ frames := 3, cells := 1, slots := 6, locals := 43 } : Room) s m #[(.ref x0), .null, .null] below meth c s₁ lc 0 0 := hlc ▸ Stand.of_body Bd
  have eT : s₁.heap = h0 := by rw [← hh, Bd.state]; rfl
  have N : Fr n0 lc := hlc ▸ Fr.nil n0
  refine own_enter (ef_of11 m x0) ?_
  obtain ⟨T, hT⟩ : ∃ T : State, T = s₁ := ⟨_, rfl⟩
  rw [← hT] at X eT ⊢
  show own_W p e below (own_Post s (Q_of11 Z x0 h0 n0) 1 6) T m 0 #[.val (.ref x0), .val .null, .val .null] []
  have Kp : Keep h0 h0 [] := Keep.refl _ _
  refine own_new X hx hZ hown (own_w hw 30 rfl) (own_w hw 31 rfl) (own_w hw 28 rfl) eT (hb hby own_d_prog_14_method_2_code_0) (pc' := 3) rfl (cells' := 1) (slots' := 6) rfl rfl (by decide) (by decide) ?_
  intro T h1 b1 X eT E gb1 E_b1 Db1
  have z_b1 : n0 ≤ b1 := Nat.le_trans Z0 (Nat.le_of_eq gb1.symm)
  have s_b1 : h0.size ≤ b1 := Nat.le_trans Kp.1 (Nat.le_of_eq gb1.symm)
  have Z0 := Nat.le_trans Z0 E.1
  have Kp := Kp.ext E
  have F_brokerUri_b1 : Fld Z h1 b1 "com/example/runnel/runnel/apps/AppEnvironment" "brokerUri" "Ljava/lang/String;" .null := Db1 (Or.inr (own_w hw 42 rfl)) (ty := (.object "java/lang/String")) (by decide)
  have F_input_b1 : Fld Z h1 b1 "com/example/runnel/runnel/apps/AppEnvironment" "input" "Ljava/lang/String;" .null := Db1 (Or.inr (own_w hw 44 rfl)) (ty := (.object "java/lang/String")) (by decide)
  have F_output_b1 : Fld Z h1 b1 "com/example/runnel/runnel/apps/AppEnvironment" "output" "Ljava/lang/String;" .null := Db1 (Or.inr (own_w hw 46 rfl)) (ty := (.object "java/lang/String")) (by decide)
  have F_instance_b1 : Fld Z h1 b1 "com/example/runnel/runnel/apps/AppEnvironment" "instance" "Ljava/lang/String;" .null := Db1 (Or.inr (own_w hw 48 rfl)) (ty := (.object "java/lang/String")) (by decide)
  have F_statusFile_b1 : Fld Z h1 b1 "com/example/runnel/runnel/apps/AppEnvironment" "statusFile" "Ljava/nio/file/Path;" .null := Db1 (Or.inr (own_w hw 50 rfl)) (ty := (.object "java/nio/file/Path")) (by decide)
  have F_positionFile_b1 : Fld Z h1 b1 "com/example/runnel/runnel/apps/AppEnvironment" "positionFile" "Ljava/nio/file/Path;" .null := Db1 (Or.inr (own_w hw 52 rfl)) (ty := (.object "java/nio/file/Path")) (by decide)
  refine own_dup X hx (hb hby own_d_prog_14_method_2_code_3) (pc' := 4) rfl rfl ?_
  refine own_aloadN X hx (hb hby own_d_prog_14_method_2_code_4) (pc' := 5) rfl rfl rfl ?_
  refine own_aloadN X hx (hb hby own_d_prog_14_method_2_code_5) (pc' := 6) rfl rfl rfl ?_
  refine own_aloadN X hx (hb hby own_d_prog_14_method_2_code_6) (pc' := 7) rfl rfl rfl ?_
  refine own_aconst_null X hx (hb hby own_d_prog_14_method_2_code_7) (pc' := 8) rfl ?_
  refine own_aconst_null X hx (hb hby own_d_prog_14_method_2_code_8) (pc' := 9) rfl ?_
  refine own_aconst_null X hx (hb hby own_d_prog_14_method_2_code_9) (pc' := 10) rfl ?_
  refine own_callN X hx hZ b1 [(.ref x0), .null, .null, .null, .null, .null] rfl hown (own_w hw 32 rfl) (own_w hw 33 rfl) (own_w hw 28 rfl) (own_w hw 34 rfl) (by decide) (rm_in11 l Z a0 hw [] b1 x0 h1 n0 Z0 _ _ _ _ _ _ E_b1 F_brokerUri_b1 F_input_b1 F_output_b1 F_instance_b1 F_statusFile_b1 F_positionFile_b1 z_b1) eT (W := 1) (by decide) (by decide) (cells' := 1) (slots' := 6) rfl rfl (by decide) (by decide) (by rw [hml]; rfl) (lenOf own_pd_28Ljava2flang2fString3bLjava2flang2fString3bLjava2flang2fString3bLjava2flang2fString3bLjava2fnio2ffile2fPath3bLjava2fnio2ffile2fPath3b29V rfl) rfl (S := [(.ref b1)]) rfl (Nat.le_of_eq rfl) (hb hby own_d_prog_14_method_2_code_10) (pc' := 13) rfl ?_
  intro v T h2 L lc X eT hq fN
  obtain ⟨rfl, Nq, Kq, G_brokerUri, G_input, G_output, G_instance, G_statusFile, G_positionFile⟩ := hq
  have N := fN _ N Nq
  have E_b1 := E_b1.keep Kq
  have Z0 := Nat.le_trans Z0 Kq.1
  have Kp := Kp.trans Kq (allS (P := fun x => x ∈ ([] : List Addr) ∨ h0.size ≤ x) (Or.inr s_b1) all0)
  show own_W p e below (own_Post s (Q_of11 Z x0 h0 n0) 1 6) T m 13 #[.val (.ref x0), .val .null, .val .null] [(.ref b1)]
  refine own_retA X hx hlk Bd.returns (hb hby own_d_prog_14_method_2_code_13) rfl rfl rfl (by decide) (by decide) ?_
  rw [eT]
  exact ⟨b1, rfl, N, Kp, E_b1, G_brokerUri, G_input, G_output, G_instance, G_statusFile, G_positionFile⟩
theorem own_d_prog_14_method_13_code_0 : decode prog_14_method_13_code 0 = .ok (.aload_n 0, 1) := by decide +kernel
theorem own_d_prog_14_method_13_code_1 : decode prog_14_method_13_code 1 = .ok (.getfield 7, 3) := by decide +kernel
theorem own_d_prog_14_method_13_code_4 : decode prog_14_method_13_code 4 = .ok (.areturn, 1) := by decide +kernel
theorem ef_brokerUri (m : MethodId) (x0 : Addr) : entryFrame m #[(.ref x0)] 1 = mkF m 0 #[.val (.ref x0)] [] := by first | (simp [entryFrame, mkF, argsToLocals, Value.category]; done) | rfl
def Q_brokerUri (Z : State) (a1 x1 : Addr) (h0 : Heap) (n0 : Nat) (v : Option Value) (h : Heap) (L : List Loc) : Prop := v = some (.ref x1) ∧ Fr n0 L ∧ h = h0
set_option maxRecDepth 65536 in
set_option maxHeartbeats 40000000 in
theorem rm_brokerUri (l : Launch) (Z : State) (a0 : Array Value) (hw : ∀ d ∈ tables_1, d.before a0 Z = true) (ws : List Jvm.Cond) (a1 x1 : Addr) (h0 : Heap) (n0 : Nat) (Z0 : n0 ≤ h0.size) (F : Fld Z h0 a1 "com/example/runnel/runnel/apps/AppEnvironment" "brokerUri" "Ljava/lang/String;" (.ref x1)) :
    MetFree l (⟨"com/example/runnel/runnel/apps/AppEnvironment", "brokerUri", "()Ljava/lang/String;"⟩ : MethodName) (head1 (Jvm.Cond.code (⟨"com/example/runnel/runnel/apps/AppEnvironment", "brokerUri", "()Ljava/lang/String;"⟩ : MethodName) prog_14_method_13_code 1 (some (.object "java/lang/String")) :: ws) ({ frames := 0, cells := 0, slots := 0, locals := 0 } : Room)) (fun a U => a = #[(.ref a1)] ∧ Z.Warmed39 U.vm ∧ U.heap = h0) (fun _ _ _ _ _ => True) (fun _ U o U' => ∃ v L, o = .returned v ∧ Q_brokerUri Z a1 x1 h0 n0 v U'.heap L ∧ FrameEnd U o U' L ({ frames := 0, cells := 0, slots := 0, locals := 0 } : Room).cells ({ frames := 0, cells := 0, slots := 0, locals := 0 } : Room).slots) := by
  refine MetFree.of_bodySF (plainFor_of_name own_pn_com_example_runnel_runnel_apps_AppEnvironment) hisR ?_
  intro p e s m args below meth c s₁ Bd hml0 hP hK
  obtain ⟨rfl, hZ, hh⟩ := hP
  have hx := Bd.exec
  have hby := Bd.bytes
  have hml : c.maxLocals = 1 := hml0
  have hown : s.vm.findClass "com/example/runnel/runnel/apps/AppEnvironment" = some m.cls := findClass_of_methodNamed Bd.named
  have hnm := (name_of_methodNamed Bd.named Bd.method).1
  have hlk := Bd.notSynchronized
  obtain ⟨lc, hlc⟩ : ∃ lc : List Loc, lc = [] := ⟨_, rfl⟩
  have X : Stand p l e ({ frames := 0, cells := 0, slots := 0, locals := 0 } : Room) s m #[(.ref a1)] below meth c s₁ lc 0 0 := hlc ▸ Stand.of_body Bd
  have eT : s₁.heap = h0 := by rw [← hh, Bd.state]; rfl
  have N : Fr n0 lc := hlc ▸ Fr.nil n0
  refine own_enter (ef_brokerUri m a1) ?_
  obtain ⟨T, hT⟩ : ∃ T : State, T = s₁ := ⟨_, rfl⟩
  rw [← hT] at X eT ⊢
  show own_W p e below (own_Post s (Q_brokerUri Z a1 x1 h0 n0) 0 0) T m 0 #[.val (.ref a1)] []
  refine own_aloadN X hx (hb hby own_d_prog_14_method_13_code_0) (pc' := 1) rfl rfl rfl ?_
  refine own_getF X hx hZ hown (host := "") (Or.inl (own_w hw 41 rfl)) Via.refl eT F (hb hby own_d_prog_14_method_13_code_1) (pc' := 4) rfl ?_
  intro T X eT
  refine own_retA X hx hlk Bd.returns (hb hby own_d_prog_14_method_13_code_4) rfl rfl rfl (by decide) (by decide) ?_
  rw [eT]
  exact ⟨rfl, N, rfl⟩
theorem ef_brokerUriN (m : MethodId) (x0 : Addr) : entryFrame m #[(.ref x0)] 1 = mkF m 0 #[.val (.ref x0)] [] := by first | (simp [entryFrame, mkF, argsToLocals, Value.category]; done) | rfl
def Q_brokerUriN (Z : State) (a1 : Addr) (h0 : Heap) (n0 : Nat) (v : Option Value) (h : Heap) (L : List Loc) : Prop := v = some .null ∧ Fr n0 L ∧ h = h0
set_option maxRecDepth 65536 in
set_option maxHeartbeats 40000000 in
theorem rm_brokerUriN (l : Launch) (Z : State) (a0 : Array Value) (hw : ∀ d ∈ tables_1, d.before a0 Z = true) (ws : List Jvm.Cond) (a1 : Addr) (h0 : Heap) (n0 : Nat) (Z0 : n0 ≤ h0.size) (F : Fld Z h0 a1 "com/example/runnel/runnel/apps/AppEnvironment" "brokerUri" "Ljava/lang/String;" .null) :
    MetFree l (⟨"com/example/runnel/runnel/apps/AppEnvironment", "brokerUri", "()Ljava/lang/String;"⟩ : MethodName) (head1 (Jvm.Cond.code (⟨"com/example/runnel/runnel/apps/AppEnvironment", "brokerUri", "()Ljava/lang/String;"⟩ : MethodName) prog_14_method_13_code 1 (some (.object "java/lang/String")) :: ws) ({ frames := 0, cells := 0, slots := 0, locals := 0 } : Room)) (fun a U => a = #[(.ref a1)] ∧ Z.Warmed39 U.vm ∧ U.heap = h0) (fun _ _ _ _ _ => True) (fun _ U o U' => ∃ v L, o = .returned v ∧ Q_brokerUriN Z a1 h0 n0 v U'.heap L ∧ FrameEnd U o U' L ({ frames := 0, cells := 0, slots := 0, locals := 0 } : Room).cells ({ frames := 0, cells := 0, slots := 0, locals := 0 } : Room).slots) := by
  refine MetFree.of_bodySF (plainFor_of_name own_pn_com_example_runnel_runnel_apps_AppEnvironment) hisR ?_
  intro p e s m args below meth c s₁ Bd hml0 hP hK
  obtain ⟨rfl, hZ, hh⟩ := hP
  have hx := Bd.exec
  have hby := Bd.bytes
  have hml : c.maxLocals = 1 := hml0
  have hown : s.vm.findClass "com/example/runnel/runnel/apps/AppEnvironment" = some m.cls := findClass_of_methodNamed Bd.named
  have hnm := (name_of_methodNamed Bd.named Bd.method).1
  have hlk := Bd.notSynchronized
  obtain ⟨lc, hlc⟩ : ∃ lc : List Loc, lc = [] := ⟨_, rfl⟩
  have X : Stand p l e ({ frames := 0, cells := 0, slots := 0, locals := 0 } : Room) s m #[(.ref a1)] below meth c s₁ lc 0 0 := hlc ▸ Stand.of_body Bd
  have eT : s₁.heap = h0 := by rw [← hh, Bd.state]; rfl
  have N : Fr n0 lc := hlc ▸ Fr.nil n0
  refine own_enter (ef_brokerUriN m a1) ?_
  obtain ⟨T, hT⟩ : ∃ T : State, T = s₁ := ⟨_, rfl⟩
  rw [← hT] at X eT ⊢
  show own_W p e below (own_Post s (Q_brokerUriN Z a1 h0 n0) 0 0) T m 0 #[.val (.ref a1)] []
  refine own_aloadN X hx (hb hby own_d_prog_14_method_13_code_0) (pc' := 1) rfl rfl rfl ?_
  refine own_getF X hx hZ hown (host := "") (Or.inl (own_w hw 41 rfl)) Via.refl eT F (hb hby own_d_prog_14_method_13_code_1) (pc' := 4) rfl ?_
  intro T X eT
  refine own_retA X hx hlk Bd.returns (hb hby own_d_prog_14_method_13_code_4) rfl rfl rfl (by decide) (by decide) ?_
  rw [eT]
  exact ⟨rfl, N, rfl⟩
theorem own_d_prog_14_method_14_code_0 : decode prog_14_method_14_code 0 = .ok (.aload_n 0, 1) := by decide +kernel
theorem own_d_prog_14_method_14_code_1 : decode prog_14_method_14_code 1 = .ok (.getfield 13, 3) := by decide +kernel
theorem own_d_prog_14_method_14_code_4 : decode prog_14_method_14_code 4 = .ok (.areturn, 1) := by decide +kernel
theorem ef_input (m : MethodId) (x0 : Addr) : entryFrame m #[(.ref x0)] 1 = mkF m 0 #[.val (.ref x0)] [] := by first | (simp [entryFrame, mkF, argsToLocals, Value.category]; done) | rfl
def Q_input (Z : State) (a1 x1 : Addr) (h0 : Heap) (n0 : Nat) (v : Option Value) (h : Heap) (L : List Loc) : Prop := v = some (.ref x1) ∧ Fr n0 L ∧ h = h0
set_option maxRecDepth 65536 in
set_option maxHeartbeats 40000000 in
theorem rm_input (l : Launch) (Z : State) (a0 : Array Value) (hw : ∀ d ∈ tables_1, d.before a0 Z = true) (ws : List Jvm.Cond) (a1 x1 : Addr) (h0 : Heap) (n0 : Nat) (Z0 : n0 ≤ h0.size) (F : Fld Z h0 a1 "com/example/runnel/runnel/apps/AppEnvironment" "input" "Ljava/lang/String;" (.ref x1)) :
    MetFree l (⟨"com/example/runnel/runnel/apps/AppEnvironment", "input", "()Ljava/lang/String;"⟩ : MethodName) (head1 (Jvm.Cond.code (⟨"com/example/runnel/runnel/apps/AppEnvironment", "input", "()Ljava/lang/String;"⟩ : MethodName) prog_14_method_14_code 1 (some (.object "java/lang/String")) :: ws) ({ frames := 0, cells := 0, slots := 0, locals := 0 } : Room)) (fun a U => a = #[(.ref a1)] ∧ Z.Warmed39 U.vm ∧ U.heap = h0) (fun _ _ _ _ _ => True) (fun _ U o U' => ∃ v L, o = .returned v ∧ Q_input Z a1 x1 h0 n0 v U'.heap L ∧ FrameEnd U o U' L ({ frames := 0, cells := 0, slots := 0, locals := 0 } : Room).cells ({ frames := 0, cells := 0, slots := 0, locals := 0 } : Room).slots) := by
  refine MetFree.of_bodySF (plainFor_of_name own_pn_com_example_runnel_runnel_apps_AppEnvironment) hisR ?_
  intro p e s m args below meth c s₁ Bd hml0 hP hK
  obtain ⟨rfl, hZ, hh⟩ := hP
  have hx := Bd.exec
  have hby := Bd.bytes
  have hml : c.maxLocals = 1 := hml0
  have hown : s.vm.findClass "com/example/runnel/runnel/apps/AppEnvironment" = some m.cls := findClass_of_methodNamed Bd.named
  have hnm := (name_of_methodNamed Bd.named Bd.method).1
  have hlk := Bd.notSynchronized
  obtain ⟨lc, hlc⟩ : ∃ lc : List Loc, lc = [] := ⟨_, rfl⟩
  have X : Stand p l e ({ frames := 0, cells := 0, slots := 0, locals := 0 } : Room) s m #[(.ref a1)] below meth c s₁ lc 0 0 := hlc ▸ Stand.of_body Bd
  have eT : s₁.heap = h0 := by rw [← hh, Bd.state]; rfl
  have N : Fr n0 lc := hlc ▸ Fr.nil n0
  refine own_enter (ef_input m a1) ?_
  obtain ⟨T, hT⟩ : ∃ T : State, T = s₁ := ⟨_, rfl⟩
  rw [← hT] at X eT ⊢
  show own_W p e below (own_Post s (Q_input Z a1 x1 h0 n0) 0 0) T m 0 #[.val (.ref a1)] []
  refine own_aloadN X hx (hb hby own_d_prog_14_method_14_code_0) (pc' := 1) rfl rfl rfl ?_
  refine own_getF X hx hZ hown (host := "") (Or.inl (own_w hw 43 rfl)) Via.refl eT F (hb hby own_d_prog_14_method_14_code_1) (pc' := 4) rfl ?_
  intro T X eT
  refine own_retA X hx hlk Bd.returns (hb hby own_d_prog_14_method_14_code_4) rfl rfl rfl (by decide) (by decide) ?_
  rw [eT]
  exact ⟨rfl, N, rfl⟩
theorem ef_inputN (m : MethodId) (x0 : Addr) : entryFrame m #[(.ref x0)] 1 = mkF m 0 #[.val (.ref x0)] [] := by first | (simp [entryFrame, mkF, argsToLocals, Value.category]; done) | rfl
def Q_inputN (Z : State) (a1 : Addr) (h0 : Heap) (n0 : Nat) (v : Option Value) (h : Heap) (L : List Loc) : Prop := v = some .null ∧ Fr n0 L ∧ h = h0
set_option maxRecDepth 65536 in
set_option maxHeartbeats 40000000 in
theorem rm_inputN (l : Launch) (Z : State) (a0 : Array Value) (hw : ∀ d ∈ tables_1, d.before a0 Z = true) (ws : List Jvm.Cond) (a1 : Addr) (h0 : Heap) (n0 : Nat) (Z0 : n0 ≤ h0.size) (F : Fld Z h0 a1 "com/example/runnel/runnel/apps/AppEnvironment" "input" "Ljava/lang/String;" .null) :
    MetFree l (⟨"com/example/runnel/runnel/apps/AppEnvironment", "input", "()Ljava/lang/String;"⟩ : MethodName) (head1 (Jvm.Cond.code (⟨"com/example/runnel/runnel/apps/AppEnvironment", "input", "()Ljava/lang/String;"⟩ : MethodName) prog_14_method_14_code 1 (some (.object "java/lang/String")) :: ws) ({ frames := 0, cells := 0, slots := 0, locals := 0 } : Room)) (fun a U => a = #[(.ref a1)] ∧ Z.Warmed39 U.vm ∧ U.heap = h0) (fun _ _ _ _ _ => True) (fun _ U o U' => ∃ v L, o = .returned v ∧ Q_inputN Z a1 h0 n0 v U'.heap L ∧ FrameEnd U o U' L ({ frames := 0, cells := 0, slots := 0, locals := 0 } : Room).cells ({ frames := 0, cells := 0, slots := 0, locals := 0 } : Room).slots) := by
  refine MetFree.of_bodySF (plainFor_of_name own_pn_com_example_runnel_runnel_apps_AppEnvironment) hisR ?_
  intro p e s m args below meth c s₁ Bd hml0 hP hK
  obtain ⟨rfl, hZ, hh⟩ := hP
  have hx := Bd.exec
  have hby := Bd.bytes
  have hml : c.maxLocals = 1 := hml0
  have hown : s.vm.findClass "com/example/runnel/runnel/apps/AppEnvironment" = some m.cls := findClass_of_methodNamed Bd.named
  have hnm := (name_of_methodNamed Bd.named Bd.method).1
  have hlk := Bd.notSynchronized
  obtain ⟨lc, hlc⟩ : ∃ lc : List Loc, lc = [] := ⟨_, rfl⟩
  have X : Stand p l e ({ frames := 0, cells := 0, slots := 0, locals := 0 } : Room) s m #[(.ref a1)] below meth c s₁ lc 0 0 := hlc ▸ Stand.of_body Bd
  have eT : s₁.heap = h0 := by rw [← hh, Bd.state]; rfl
  have N : Fr n0 lc := hlc ▸ Fr.nil n0
  refine own_enter (ef_inputN m a1) ?_
  obtain ⟨T, hT⟩ : ∃ T : State, T = s₁ := ⟨_, rfl⟩
  rw [← hT] at X eT ⊢
  show own_W p e below (own_Post s (Q_inputN Z a1 h0 n0) 0 0) T m 0 #[.val (.ref a1)] []
  refine own_aloadN X hx (hb hby own_d_prog_14_method_14_code_0) (pc' := 1) rfl rfl rfl ?_
  refine own_getF X hx hZ hown (host := "") (Or.inl (own_w hw 43 rfl)) Via.refl eT F (hb hby own_d_prog_14_method_14_code_1) (pc' := 4) rfl ?_
  intro T X eT
  refine own_retA X hx hlk Bd.returns (hb hby own_d_prog_14_method_14_code_4) rfl rfl rfl (by decide) (by decide) ?_
  rw [eT]
  exact ⟨rfl, N, rfl⟩
theorem own_d_prog_14_method_15_code_0 : decode prog_14_method_15_code 0 = .ok (.aload_n 0, 1) := by decide +kernel
theorem own_d_prog_14_method_15_code_1 : decode prog_14_method_15_code 1 = .ok (.getfield 16, 3) := by decide +kernel
theorem own_d_prog_14_method_15_code_4 : decode prog_14_method_15_code 4 = .ok (.areturn, 1) := by decide +kernel
theorem ef_output (m : MethodId) (x0 : Addr) : entryFrame m #[(.ref x0)] 1 = mkF m 0 #[.val (.ref x0)] [] := by first | (simp [entryFrame, mkF, argsToLocals, Value.category]; done) | rfl
def Q_output (Z : State) (a1 x1 : Addr) (h0 : Heap) (n0 : Nat) (v : Option Value) (h : Heap) (L : List Loc) : Prop := v = some (.ref x1) ∧ Fr n0 L ∧ h = h0
set_option maxRecDepth 65536 in
set_option maxHeartbeats 40000000 in
theorem rm_output (l : Launch) (Z : State) (a0 : Array Value) (hw : ∀ d ∈ tables_1, d.before a0 Z = true) (ws : List Jvm.Cond) (a1 x1 : Addr) (h0 : Heap) (n0 : Nat) (Z0 : n0 ≤ h0.size) (F : Fld Z h0 a1 "com/example/runnel/runnel/apps/AppEnvironment" "output" "Ljava/lang/String;" (.ref x1)) :
    MetFree l (⟨"com/example/runnel/runnel/apps/AppEnvironment", "output", "()Ljava/lang/String;"⟩ : MethodName) (head1 (Jvm.Cond.code (⟨"com/example/runnel/runnel/apps/AppEnvironment", "output", "()Ljava/lang/String;"⟩ : MethodName) prog_14_method_15_code 1 (some (.object "java/lang/String")) :: ws) ({ frames := 0, cells := 0, slots := 0, locals := 0 } : Room)) (fun a U => a = #[(.ref a1)] ∧ Z.Warmed39 U.vm ∧ U.heap = h0) (fun _ _ _ _ _ => True) (fun _ U o U' => ∃ v L, o = .returned v ∧ Q_output Z a1 x1 h0 n0 v U'.heap L ∧ FrameEnd U o U' L ({ frames := 0, cells := 0, slots := 0, locals := 0 } : Room).cells ({ frames := 0, cells := 0, slots := 0, locals := 0 } : Room).slots) := by
  refine MetFree.of_bodySF (plainFor_of_name own_pn_com_example_runnel_runnel_apps_AppEnvironment) hisR ?_
  intro p e s m args below meth c s₁ Bd hml0 hP hK
  obtain ⟨rfl, hZ, hh⟩ := hP
  have hx := Bd.exec
  have hby := Bd.bytes
  have hml : c.maxLocals = 1 := hml0
  have hown : s.vm.findClass "com/example/runnel/runnel/apps/AppEnvironment" = some m.cls := findClass_of_methodNamed Bd.named
  have hnm := (name_of_methodNamed Bd.named Bd.method).1
  have hlk := Bd.notSynchronized
  obtain ⟨lc, hlc⟩ : ∃ lc : List Loc, lc = [] := ⟨_, rfl⟩
  have X : Stand p l e ({ frames := 0, cells := 0, slots := 0, locals := 0 } : Room) s m #[(.ref a1)] below meth c s₁ lc 0 0 := hlc ▸ Stand.of_body Bd
  have eT : s₁.heap = h0 := by rw [← hh, Bd.state]; rfl
  have N : Fr n0 lc := hlc ▸ Fr.nil n0
  refine own_enter (ef_output m a1) ?_
  obtain ⟨T, hT⟩ : ∃ T : State, T = s₁ := ⟨_, rfl⟩
  rw [← hT] at X eT ⊢
  show own_W p e below (own_Post s (Q_output Z a1 x1 h0 n0) 0 0) T m 0 #[.val (.ref a1)] []
  refine own_aloadN X hx (hb hby own_d_prog_14_method_15_code_0) (pc' := 1) rfl rfl rfl ?_
  refine own_getF X hx hZ hown (host := "") (Or.inl (own_w hw 45 rfl)) Via.refl eT F (hb hby own_d_prog_14_method_15_code_1) (pc' := 4) rfl ?_
  intro T X eT
  refine own_retA X hx hlk Bd.returns (hb hby own_d_prog_14_method_15_code_4) rfl rfl rfl (by decide) (by decide) ?_
  rw [eT]
  exact ⟨rfl, N, rfl⟩
theorem ef_outputN (m : MethodId) (x0 : Addr) : entryFrame m #[(.ref x0)] 1 = mkF m 0 #[.val (.ref x0)] [] := by first | (simp [entryFrame, mkF, argsToLocals, Value.category]; done) | rfl
def Q_outputN (Z : State) (a1 : Addr) (h0 : Heap) (n0 : Nat) (v : Option Value) (h : Heap) (L : List Loc) : Prop := v = some .null ∧ Fr n0 L ∧ h = h0
set_option maxRecDepth 65536 in
set_option maxHeartbeats 40000000 in
theorem rm_outputN (l : Launch) (Z : State) (a0 : Array Value) (hw : ∀ d ∈ tables_1, d.before a0 Z = true) (ws : List Jvm.Cond) (a1 : Addr) (h0 : Heap) (n0 : Nat) (Z0 : n0 ≤ h0.size) (F : Fld Z h0 a1 "com/example/runnel/runnel/apps/AppEnvironment" "output" "Ljava/lang/String;" .null) :
    MetFree l (⟨"com/example/runnel/runnel/apps/AppEnvironment", "output", "()Ljava/lang/String;"⟩ : MethodName) (head1 (Jvm.Cond.code (⟨"com/example/runnel/runnel/apps/AppEnvironment", "output", "()Ljava/lang/String;"⟩ : MethodName) prog_14_method_15_code 1 (some (.object "java/lang/String")) :: ws) ({ frames := 0, cells := 0, slots := 0, locals := 0 } : Room)) (fun a U => a = #[(.ref a1)] ∧ Z.Warmed39 U.vm ∧ U.heap = h0) (fun _ _ _ _ _ => True) (fun _ U o U' => ∃ v L, o = .returned v ∧ Q_outputN Z a1 h0 n0 v U'.heap L ∧ FrameEnd U o U' L ({ frames := 0, cells := 0, slots := 0, locals := 0 } : Room).cells ({ frames := 0, cells := 0, slots := 0, locals := 0 } : Room).slots) := by
  refine MetFree.of_bodySF (plainFor_of_name own_pn_com_example_runnel_runnel_apps_AppEnvironment) hisR ?_
  intro p e s m args below meth c s₁ Bd hml0 hP hK
  obtain ⟨rfl, hZ, hh⟩ := hP
  have hx := Bd.exec
  have hby := Bd.bytes
  have hml : c.maxLocals = 1 := hml0
  have hown : s.vm.findClass "com/example/runnel/runnel/apps/AppEnvironment" = some m.cls := findClass_of_methodNamed Bd.named
  have hnm := (name_of_methodNamed Bd.named Bd.method).1
  have hlk := Bd.notSynchronized
  obtain ⟨lc, hlc⟩ : ∃ lc : List Loc, lc = [] := ⟨_, rfl⟩
  have X : Stand p l e ({ frames := 0, cells := 0, slots := 0, locals := 0 } : Room) s m #[(.ref a1)] below meth c s₁ lc 0 0 := hlc ▸ Stand.of_body Bd
  have eT : s₁.heap = h0 := by rw [← hh, Bd.state]; rfl
  have N : Fr n0 lc := hlc ▸ Fr.nil n0
  refine own_enter (ef_outputN m a1) ?_
  obtain ⟨T, hT⟩ : ∃ T : State, T = s₁ := ⟨_, rfl⟩
  rw [← hT] at X eT ⊢
  show own_W p e below (own_Post s (Q_outputN Z a1 h0 n0) 0 0) T m 0 #[.val (.ref a1)] []
  refine own_aloadN X hx (hb hby own_d_prog_14_method_15_code_0) (pc' := 1) rfl rfl rfl ?_
  refine own_getF X hx hZ hown (host := "") (Or.inl (own_w hw 45 rfl)) Via.refl eT F (hb hby own_d_prog_14_method_15_code_1) (pc' := 4) rfl ?_
  intro T X eT
  refine own_retA X hx hlk Bd.returns (hb hby own_d_prog_14_method_15_code_4) rfl rfl rfl (by decide) (by decide) ?_
  rw [eT]
  exact ⟨rfl, N, rfl⟩
theorem own_d_prog_14_method_16_code_0 : decode prog_14_method_16_code 0 = .ok (.aload_n 0, 1) := by decide +kernel
theorem own_d_prog_14_method_16_code_1 : decode prog_14_method_16_code 1 = .ok (.getfield 19, 3) := by decide +kernel
theorem own_d_prog_14_method_16_code_4 : decode prog_14_method_16_code 4 = .ok (.areturn, 1) := by decide +kernel
theorem ef_instance (m : MethodId) (x0 : Addr) : entryFrame m #[(.ref x0)] 1 = mkF m 0 #[.val (.ref x0)] [] := by first | (simp [entryFrame, mkF, argsToLocals, Value.category]; done) | rfl
def Q_instance (Z : State) (a1 x1 : Addr) (h0 : Heap) (n0 : Nat) (v : Option Value) (h : Heap) (L : List Loc) : Prop := v = some (.ref x1) ∧ Fr n0 L ∧ h = h0
set_option maxRecDepth 65536 in
set_option maxHeartbeats 40000000 in
theorem rm_instance (l : Launch) (Z : State) (a0 : Array Value) (hw : ∀ d ∈ tables_1, d.before a0 Z = true) (ws : List Jvm.Cond) (a1 x1 : Addr) (h0 : Heap) (n0 : Nat) (Z0 : n0 ≤ h0.size) (F : Fld Z h0 a1 "com/example/runnel/runnel/apps/AppEnvironment" "instance" "Ljava/lang/String;" (.ref x1)) :
    MetFree l (⟨"com/example/runnel/runnel/apps/AppEnvironment", "instance", "()Ljava/lang/String;"⟩ : MethodName) (head1 (Jvm.Cond.code (⟨"com/example/runnel/runnel/apps/AppEnvironment", "instance", "()Ljava/lang/String;"⟩ : MethodName) prog_14_method_16_code 1 (some (.object "java/lang/String")) :: ws) ({ frames := 0, cells := 0, slots := 0, locals := 0 } : Room)) (fun a U => a = #[(.ref a1)] ∧ Z.Warmed39 U.vm ∧ U.heap = h0) (fun _ _ _ _ _ => True) (fun _ U o U' => ∃ v L, o = .returned v ∧ Q_instance Z a1 x1 h0 n0 v U'.heap L ∧ FrameEnd U o U' L ({ frames := 0, cells := 0, slots := 0, locals := 0 } : Room).cells ({ frames := 0, cells := 0, slots := 0, locals := 0 } : Room).slots) := by
  refine MetFree.of_bodySF (plainFor_of_name own_pn_com_example_runnel_runnel_apps_AppEnvironment) hisR ?_
  intro p e s m args below meth c s₁ Bd hml0 hP hK
  obtain ⟨rfl, hZ, hh⟩ := hP
  have hx := Bd.exec
  have hby := Bd.bytes
  have hml : c.maxLocals = 1 := hml0
  have hown : s.vm.findClass "com/example/runnel/runnel/apps/AppEnvironment" = some m.cls := findClass_of_methodNamed Bd.named
  have hnm := (name_of_methodNamed Bd.named Bd.method).1
  have hlk := Bd.notSynchronized
  obtain ⟨lc, hlc⟩ : ∃ lc : List Loc, lc = [] := ⟨_, rfl⟩
  have X : Stand p l e ({ frames := 0, cells := 0, slots := 0, locals := 0 } : Room) s m #[(.ref a1)] below meth c s₁ lc 0 0 := hlc ▸ Stand.of_body Bd
  have eT : s₁.heap = h0 := by rw [← hh, Bd.state]; rfl
  have N : Fr n0 lc := hlc ▸ Fr.nil n0
  refine own_enter (ef_instance m a1) ?_
  obtain ⟨T, hT⟩ : ∃ T : State, T = s₁ := ⟨_, rfl⟩
  rw [← hT] at X eT ⊢
  show own_W p e below (own_Post s (Q_instance Z a1 x1 h0 n0) 0 0) T m 0 #[.val (.ref a1)] []
  refine own_aloadN X hx (hb hby own_d_prog_14_method_16_code_0) (pc' := 1) rfl rfl rfl ?_
  refine own_getF X hx hZ hown (host := "") (Or.inl (own_w hw 47 rfl)) Via.refl eT F (hb hby own_d_prog_14_method_16_code_1) (pc' := 4) rfl ?_
  intro T X eT
  refine own_retA X hx hlk Bd.returns (hb hby own_d_prog_14_method_16_code_4) rfl rfl rfl (by decide) (by decide) ?_
  rw [eT]
  exact ⟨rfl, N, rfl⟩
theorem ef_instanceN (m : MethodId) (x0 : Addr) : entryFrame m #[(.ref x0)] 1 = mkF m 0 #[.val (.ref x0)] [] := by first | (simp [entryFrame, mkF, argsToLocals, Value.category]; done) | rfl
def Q_instanceN (Z : State) (a1 : Addr) (h0 : Heap) (n0 : Nat) (v : Option Value) (h : Heap) (L : List Loc) : Prop := v = some .null ∧ Fr n0 L ∧ h = h0
set_option maxRecDepth 65536 in
set_option maxHeartbeats 40000000 in
theorem rm_instanceN (l : Launch) (Z : State) (a0 : Array Value) (hw : ∀ d ∈ tables_1, d.before a0 Z = true) (ws : List Jvm.Cond) (a1 : Addr) (h0 : Heap) (n0 : Nat) (Z0 : n0 ≤ h0.size) (F : Fld Z h0 a1 "com/example/runnel/runnel/apps/AppEnvironment" "instance" "Ljava/lang/String;" .null) :
    MetFree l (⟨"com/example/runnel/runnel/apps/AppEnvironment", "instance", "()Ljava/lang/String;"⟩ : MethodName) (head1 (Jvm.Cond.code (⟨"com/example/runnel/runnel/apps/AppEnvironment", "instance", "()Ljava/lang/String;"⟩ : MethodName) prog_14_method_16_code 1 (some (.object "java/lang/String")) :: ws) ({ frames := 0, cells := 0, slots := 0, locals := 0 } : Room)) (fun a U => a = #[(.ref a1)] ∧ Z.Warmed39 U.vm ∧ U.heap = h0) (fun _ _ _ _ _ => True) (fun _ U o U' => ∃ v L, o = .returned v ∧ Q_instanceN Z a1 h0 n0 v U'.heap L ∧ FrameEnd U o U' L ({ frames := 0, cells := 0, slots := 0, locals := 0 } : Room).cells ({ frames := 0, cells := 0, slots := 0, locals := 0 } : Room).slots) := by
  refine MetFree.of_bodySF (plainFor_of_name own_pn_com_example_runnel_runnel_apps_AppEnvironment) hisR ?_
  intro p e s m args below meth c s₁ Bd hml0 hP hK
  obtain ⟨rfl, hZ, hh⟩ := hP
  have hx := Bd.exec
  have hby := Bd.bytes
  have hml : c.maxLocals = 1 := hml0
  have hown : s.vm.findClass "com/example/runnel/runnel/apps/AppEnvironment" = some m.cls := findClass_of_methodNamed Bd.named
  have hnm := (name_of_methodNamed Bd.named Bd.method).1
  have hlk := Bd.notSynchronized
  obtain ⟨lc, hlc⟩ : ∃ lc : List Loc, lc = [] := ⟨_, rfl⟩
  have X : Stand p l e ({ frames := 0, cells := 0, slots := 0, locals := 0 } : Room) s m #[(.ref a1)] below meth c s₁ lc 0 0 := hlc ▸ Stand.of_body Bd
  have eT : s₁.heap = h0 := by rw [← hh, Bd.state]; rfl
  have N : Fr n0 lc := hlc ▸ Fr.nil n0
  refine own_enter (ef_instanceN m a1) ?_
  obtain ⟨T, hT⟩ : ∃ T : State, T = s₁ := ⟨_, rfl⟩
  rw [← hT] at X eT ⊢
  show own_W p e below (own_Post s (Q_instanceN Z a1 h0 n0) 0 0) T m 0 #[.val (.ref a1)] []
  refine own_aloadN X hx (hb hby own_d_prog_14_method_16_code_0) (pc' := 1) rfl rfl rfl ?_
  refine own_getF X hx hZ hown (host := "") (Or.inl (own_w hw 47 rfl)) Via.refl eT F (hb hby own_d_prog_14_method_16_code_1) (pc' := 4) rfl ?_
  intro T X eT
  refine own_retA X hx hlk Bd.returns (hb hby own_d_prog_14_method_16_code_4) rfl rfl rfl (by decide) (by decide) ?_
  rw [eT]
  exact ⟨rfl, N, rfl⟩
theorem own_d_prog_14_method_17_code_0 : decode prog_14_method_17_code 0 = .ok (.aload_n 0, 1) := by decide +kernel
theorem own_d_prog_14_method_17_code_1 : decode prog_14_method_17_code 1 = .ok (.getfield 22, 3) := by decide +kernel
theorem own_d_prog_14_method_17_code_4 : decode prog_14_method_17_code 4 = .ok (.areturn, 1) := by decide +kernel
theorem ef_statusFile (m : MethodId) (x0 : Addr) : entryFrame m #[(.ref x0)] 1 = mkF m 0 #[.val (.ref x0)] [] := by first | (simp [entryFrame, mkF, argsToLocals, Value.category]; done) | rfl
def Q_statusFile (Z : State) (a1 x1 : Addr) (h0 : Heap) (n0 : Nat) (v : Option Value) (h : Heap) (L : List Loc) : Prop := v = some (.ref x1) ∧ Fr n0 L ∧ h = h0
set_option maxRecDepth 65536 in
set_option maxHeartbeats 40000000 in
theorem rm_statusFile (l : Launch) (Z : State) (a0 : Array Value) (hw : ∀ d ∈ tables_1, d.before a0 Z = true) (ws : List Jvm.Cond) (a1 x1 : Addr) (h0 : Heap) (n0 : Nat) (Z0 : n0 ≤ h0.size) (F : Fld Z h0 a1 "com/example/runnel/runnel/apps/AppEnvironment" "statusFile" "Ljava/nio/file/Path;" (.ref x1)) :
    MetFree l (⟨"com/example/runnel/runnel/apps/AppEnvironment", "statusFile", "()Ljava/nio/file/Path;"⟩ : MethodName) (head1 (Jvm.Cond.code (⟨"com/example/runnel/runnel/apps/AppEnvironment", "statusFile", "()Ljava/nio/file/Path;"⟩ : MethodName) prog_14_method_17_code 1 (some (.object "java/nio/file/Path")) :: ws) ({ frames := 0, cells := 0, slots := 0, locals := 0 } : Room)) (fun a U => a = #[(.ref a1)] ∧ Z.Warmed39 U.vm ∧ U.heap = h0) (fun _ _ _ _ _ => True) (fun _ U o U' => ∃ v L, o = .returned v ∧ Q_statusFile Z a1 x1 h0 n0 v U'.heap L ∧ FrameEnd U o U' L ({ frames := 0, cells := 0, slots := 0, locals := 0 } : Room).cells ({ frames := 0, cells := 0, slots := 0, locals := 0 } : Room).slots) := by
  refine MetFree.of_bodySF (plainFor_of_name own_pn_com_example_runnel_runnel_apps_AppEnvironment) hisR ?_
  intro p e s m args below meth c s₁ Bd hml0 hP hK
  obtain ⟨rfl, hZ, hh⟩ := hP
  have hx := Bd.exec
  have hby := Bd.bytes
  have hml : c.maxLocals = 1 := hml0
  have hown : s.vm.findClass "com/example/runnel/runnel/apps/AppEnvironment" = some m.cls := findClass_of_methodNamed Bd.named
  have hnm := (name_of_methodNamed Bd.named Bd.method).1
  have hlk := Bd.notSynchronized
  obtain ⟨lc, hlc⟩ : ∃ lc : List Loc, lc = [] := ⟨_, rfl⟩
  have X : Stand p l e ({ frames := 0, cells := 0, slots := 0, locals := 0 } : Room) s m #[(.ref a1)] below meth c s₁ lc 0 0 := hlc ▸ Stand.of_body Bd
  have eT : s₁.heap = h0 := by rw [← hh, Bd.state]; rfl
  have N : Fr n0 lc := hlc ▸ Fr.nil n0
  refine own_enter (ef_statusFile m a1) ?_
  obtain ⟨T, hT⟩ : ∃ T : State, T = s₁ := ⟨_, rfl⟩
  rw [← hT] at X eT ⊢
  show own_W p e below (own_Post s (Q_statusFile Z a1 x1 h0 n0) 0 0) T m 0 #[.val (.ref a1)] []
  refine own_aloadN X hx (hb hby own_d_prog_14_method_17_code_0) (pc' := 1) rfl rfl rfl ?_
  refine own_getF X hx hZ hown (host := "") (Or.inl (own_w hw 49 rfl)) Via.refl eT F (hb hby own_d_prog_14_method_17_code_1) (pc' := 4) rfl ?_
  intro T X eT
  refine own_retA X hx hlk Bd.returns (hb hby own_d_prog_14_method_17_code_4) rfl rfl rfl (by decide) (by decide) ?_
  rw [eT]
  exact ⟨rfl, N, rfl⟩
theorem ef_statusFileN (m : MethodId) (x0 : Addr) : entryFrame m #[(.ref x0)] 1 = mkF m 0 #[.val (.ref x0)] [] := by first | (simp [entryFrame, mkF, argsToLocals, Value.category]; done) | rfl
def Q_statusFileN (Z : State) (a1 : Addr) (h0 : Heap) (n0 : Nat) (v : Option Value) (h : Heap) (L : List Loc) : Prop := v = some .null ∧ Fr n0 L ∧ h = h0
set_option maxRecDepth 65536 in
set_option maxHeartbeats 40000000 in
theorem rm_statusFileN (l : Launch) (Z : State) (a0 : Array Value) (hw : ∀ d ∈ tables_1, d.before a0 Z = true) (ws : List Jvm.Cond) (a1 : Addr) (h0 : Heap) (n0 : Nat) (Z0 : n0 ≤ h0.size) (F : Fld Z h0 a1 "com/example/runnel/runnel/apps/AppEnvironment" "statusFile" "Ljava/nio/file/Path;" .null) :
    MetFree l (⟨"com/example/runnel/runnel/apps/AppEnvironment", "statusFile", "()Ljava/nio/file/Path;"⟩ : MethodName) (head1 (Jvm.Cond.code (⟨"com/example/runnel/runnel/apps/AppEnvironment", "statusFile", "()Ljava/nio/file/Path;"⟩ : MethodName) prog_14_method_17_code 1 (some (.object "java/nio/file/Path")) :: ws) ({ frames := 0, cells := 0, slots := 0, locals := 0 } : Room)) (fun a U => a = #[(.ref a1)] ∧ Z.Warmed39 U.vm ∧ U.heap = h0) (fun _ _ _ _ _ => True) (fun _ U o U' => ∃ v L, o = .returned v ∧ Q_statusFileN Z a1 h0 n0 v U'.heap L ∧ FrameEnd U o U' L ({ frames := 0, cells := 0, slots := 0, locals := 0 } : Room).cells ({ frames := 0, cells := 0, slots := 0, locals := 0 } : Room).slots) := by
  refine MetFree.of_bodySF (plainFor_of_name own_pn_com_example_runnel_runnel_apps_AppEnvironment) hisR ?_
  intro p e s m args below meth c s₁ Bd hml0 hP hK
  obtain ⟨rfl, hZ, hh⟩ := hP
  have hx := Bd.exec
  have hby := Bd.bytes
  have hml : c.maxLocals = 1 := hml0
  have hown : s.vm.findClass "com/example/runnel/runnel/apps/AppEnvironment" = some m.cls := findClass_of_methodNamed Bd.named
  have hnm := (name_of_methodNamed Bd.named Bd.method).1
  have hlk := Bd.notSynchronized
  obtain ⟨lc, hlc⟩ : ∃ lc : List Loc, lc = [] := ⟨_, rfl⟩
  have X : Stand p l e ({ frames := 0, cells := 0, slots := 0, locals := 0 } : Room) s m #[(.ref a1)] below meth c s₁ lc 0 0 := hlc ▸ Stand.of_body Bd
  have eT : s₁.heap = h0 := by rw [← hh, Bd.state]; rfl
  have N : Fr n0 lc := hlc ▸ Fr.nil n0
  refine own_enter (ef_statusFileN m a1) ?_
  obtain ⟨T, hT⟩ : ∃ T : State, T = s₁ := ⟨_, rfl⟩
  rw [← hT] at X eT ⊢
  show own_W p e below (own_Post s (Q_statusFileN Z a1 h0 n0) 0 0) T m 0 #[.val (.ref a1)] []
  refine own_aloadN X hx (hb hby own_d_prog_14_method_17_code_0) (pc' := 1) rfl rfl rfl ?_
  refine own_getF X hx hZ hown (host := "") (Or.inl (own_w hw 49 rfl)) Via.refl eT F (hb hby own_d_prog_14_method_17_code_1) (pc' := 4) rfl ?_
  intro T X eT
  refine own_retA X hx hlk Bd.returns (hb hby own_d_prog_14_method_17_code_4) rfl rfl rfl (by decide) (by decide) ?_
  rw [eT]
  exact ⟨rfl, N, rfl⟩
theorem own_d_prog_14_method_18_code_0 : decode prog_14_method_18_code 0 = .ok (.aload_n 0, 1) := by decide +kernel
theorem own_d_prog_14_method_18_code_1 : decode prog_14_method_18_code 1 = .ok (.getfield 26, 3) := by decide +kernel
theorem own_d_prog_14_method_18_code_4 : decode prog_14_method_18_code 4 = .ok (.areturn, 1) := by decide +kernel
theorem ef_positionFile (m : MethodId) (x0 : Addr) : entryFrame m #[(.ref x0)] 1 = mkF m 0 #[.val (.ref x0)] [] := by first | (simp [entryFrame, mkF, argsToLocals, Value.category]; done) | rfl
def Q_positionFile (Z : State) (a1 x1 : Addr) (h0 : Heap) (n0 : Nat) (v : Option Value) (h : Heap) (L : List Loc) : Prop := v = some (.ref x1) ∧ Fr n0 L ∧ h = h0
set_option maxRecDepth 65536 in
set_option maxHeartbeats 40000000 in
theorem rm_positionFile (l : Launch) (Z : State) (a0 : Array Value) (hw : ∀ d ∈ tables_1, d.before a0 Z = true) (ws : List Jvm.Cond) (a1 x1 : Addr) (h0 : Heap) (n0 : Nat) (Z0 : n0 ≤ h0.size) (F : Fld Z h0 a1 "com/example/runnel/runnel/apps/AppEnvironment" "positionFile" "Ljava/nio/file/Path;" (.ref x1)) :
    MetFree l (⟨"com/example/runnel/runnel/apps/AppEnvironment", "positionFile", "()Ljava/nio/file/Path;"⟩ : MethodName) (head1 (Jvm.Cond.code (⟨"com/example/runnel/runnel/apps/AppEnvironment", "positionFile", "()Ljava/nio/file/Path;"⟩ : MethodName) prog_14_method_18_code 1 (some (.object "java/nio/file/Path")) :: ws) ({ frames := 0, cells := 0, slots := 0, locals := 0 } : Room)) (fun a U => a = #[(.ref a1)] ∧ Z.Warmed39 U.vm ∧ U.heap = h0) (fun _ _ _ _ _ => True) (fun _ U o U' => ∃ v L, o = .returned v ∧ Q_positionFile Z a1 x1 h0 n0 v U'.heap L ∧ FrameEnd U o U' L ({ frames := 0, cells := 0, slots := 0, locals := 0 } : Room).cells ({ frames := 0, cells := 0, slots := 0, locals := 0 } : Room).slots) := by
  refine MetFree.of_bodySF (plainFor_of_name own_pn_com_example_runnel_runnel_apps_AppEnvironment) hisR ?_
  intro p e s m args below meth c s₁ Bd hml0 hP hK
  obtain ⟨rfl, hZ, hh⟩ := hP
  have hx := Bd.exec
  have hby := Bd.bytes
  have hml : c.maxLocals = 1 := hml0
  have hown : s.vm.findClass "com/example/runnel/runnel/apps/AppEnvironment" = some m.cls := findClass_of_methodNamed Bd.named
  have hnm := (name_of_methodNamed Bd.named Bd.method).1
  have hlk := Bd.notSynchronized
  obtain ⟨lc, hlc⟩ : ∃ lc : List Loc, lc = [] := ⟨_, rfl⟩
  have X : Stand p l e ({ frames := 0, cells := 0, slots := 0, locals := 0 } : Room) s m #[(.ref a1)] below meth c s₁ lc 0 0 := hlc ▸ Stand.of_body Bd
  have eT : s₁.heap = h0 := by rw [← hh, Bd.state]; rfl
  have N : Fr n0 lc := hlc ▸ Fr.nil n0
  refine own_enter (ef_positionFile m a1) ?_
  obtain ⟨T, hT⟩ : ∃ T : State, T = s₁ := ⟨_, rfl⟩
  rw [← hT] at X eT ⊢
  show own_W p e below (own_Post s (Q_positionFile Z a1 x1 h0 n0) 0 0) T m 0 #[.val (.ref a1)] []
  refine own_aloadN X hx (hb hby own_d_prog_14_method_18_code_0) (pc' := 1) rfl rfl rfl ?_
  refine own_getF X hx hZ hown (host := "") (Or.inl (own_w hw 51 rfl)) Via.refl eT F (hb hby own_d_prog_14_method_18_code_1) (pc' := 4) rfl ?_
  intro T X eT
  refine own_retA X hx hlk Bd.returns (hb hby own_d_prog_14_method_18_code_4) rfl rfl rfl (by decide) (by decide) ?_
  rw [eT]
  exact ⟨rfl, N, rfl⟩
theorem ef_positionFileN (m : MethodId) (x0 : Addr) : entryFrame m #[(.ref x0)] 1 = mkF m 0 #[.val (.ref x0)] [] := by first | (simp [entryFrame, mkF, argsToLocals, Value.category]; done) | rfl
def Q_positionFileN (Z : State) (a1 : Addr) (h0 : Heap) (n0 : Nat) (v : Option Value) (h : Heap) (L : List Loc) : Prop := v = some .null ∧ Fr n0 L ∧ h = h0
set_option maxRecDepth 65536 in
set_option maxHeartbeats 40000000 in
theorem rm_positionFileN (l : Launch) (Z : State) (a0 : Array Value) (hw : ∀ d ∈ tables_1, d.before a0 Z = true) (ws : List Jvm.Cond) (a1 : Addr) (h0 : Heap) (n0 : Nat) (Z0 : n0 ≤ h0.size) (F : Fld Z h0 a1 "com/example/runnel/runnel/apps/AppEnvironment" "positionFile" "Ljava/nio/file/Path;" .null) :
    MetFree l (⟨"com/example/runnel/runnel/apps/AppEnvironment", "positionFile", "()Ljava/nio/file/Path;"⟩ : MethodName) (head1 (Jvm.Cond.code (⟨"com/example/runnel/runnel/apps/AppEnvironment", "positionFile", "()Ljava/nio/file/Path;"⟩ : MethodName) prog_14_method_18_code 1 (some (.object "java/nio/file/Path")) :: ws) ({ frames := 0, cells := 0, slots := 0, locals := 0 } : Room)) (fun a U => a = #[(.ref a1)] ∧ Z.Warmed39 U.vm ∧ U.heap = h0) (fun _ _ _ _ _ => True) (fun _ U o U' => ∃ v L, o = .returned v ∧ Q_positionFileN Z a1 h0 n0 v U'.heap L ∧ FrameEnd U o U' L ({ frames := 0, cells := 0, slots := 0, locals := 0 } : Room).cells ({ frames := 0, cells := 0, slots := 0, locals := 0 } : Room).slots) := by
  refine MetFree.of_bodySF (plainFor_of_name own_pn_com_example_runnel_runnel_apps_AppEnvironment) hisR ?_
  intro p e s m args below meth c s₁ Bd hml0 hP hK
  obtain ⟨rfl, hZ, hh⟩ := hP
  have hx := Bd.exec
  have hby := Bd.bytes
  have hml : c.maxLocals = 1 := hml0
  have hown : s.vm.findClass "com/example/runnel/runnel/apps/AppEnvironment" = some m.cls := findClass_of_methodNamed Bd.named
  have hnm := (name_of_methodNamed Bd.named Bd.method).1
  have hlk := Bd.notSynchronized
  obtain ⟨lc, hlc⟩ : ∃ lc : List Loc, lc = [] := ⟨_, rfl⟩
  have X : Stand p l e ({ frames := 0, cells := 0, slots := 0, locals := 0 } : Room) s m #[(.ref a1)] below meth c s₁ lc 0 0 := hlc ▸ Stand.of_body Bd
  have eT : s₁.heap = h0 := by rw [← hh, Bd.state]; rfl
  have N : Fr n0 lc := hlc ▸ Fr.nil n0
  refine own_enter (ef_positionFileN m a1) ?_
  obtain ⟨T, hT⟩ : ∃ T : State, T = s₁ := ⟨_, rfl⟩
  rw [← hT] at X eT ⊢
  show own_W p e below (own_Post s (Q_positionFileN Z a1 h0 n0) 0 0) T m 0 #[.val (.ref a1)] []
  refine own_aloadN X hx (hb hby own_d_prog_14_method_18_code_0) (pc' := 1) rfl rfl rfl ?_
  refine own_getF X hx hZ hown (host := "") (Or.inl (own_w hw 51 rfl)) Via.refl eT F (hb hby own_d_prog_14_method_18_code_1) (pc' := 4) rfl ?_
  intro T X eT
  refine own_retA X hx hlk Bd.returns (hb hby own_d_prog_14_method_18_code_4) rfl rfl rfl (by decide) (by decide) ?_
  rw [eT]
  exact ⟨rfl, N, rfl⟩
theorem own_d_prog_14_method_5_code_0 : decode prog_14_method_5_code 0 = .ok (.aload_n 0, 1) := by decide +kernel
theorem own_d_prog_14_method_5_code_1 : decode prog_14_method_5_code 1 = .ok (.getfield 26, 3) := by decide +kernel
theorem own_d_prog_14_method_5_code_4 : decode prog_14_method_5_code 4 = .ok (.ifnonnull 7, 3) := by decide +kernel
theorem own_d_prog_14_method_5_code_7 : decode prog_14_method_5_code 7 = .ok (.aconst_null, 1) := by decide +kernel
theorem own_d_prog_14_method_5_code_8 : decode prog_14_method_5_code 8 = .ok (.goto 29, 3) := by decide +kernel
theorem own_d_prog_14_method_5_code_37 : decode prog_14_method_5_code 37 = .ok (.areturn, 1) := by decide +kernel
theorem ef_lockN (m : MethodId) (x0 : Addr) : entryFrame m #[(.ref x0)] 1 = mkF m 0 #[.val (.ref x0)] [] := by first | (simp [entryFrame, mkF, argsToLocals, Value.category]; done) | rfl
def Q_lockN (Z : State) (a1 : Addr) (h0 : Heap) (n0 : Nat) (v : Option Value) (h : Heap) (L : List Loc) : Prop := v = some .null ∧ Fr n0 L ∧ h = h0
set_option maxRecDepth 65536 in
set_option maxHeartbeats 40000000 in
theorem rm_lockN (l : Launch) (Z : State) (a0 : Array Value) (hw : ∀ d ∈ tables_1, d.before a0 Z = true) (ws : List Jvm.Cond) (a1 : Addr) (h0 : Heap) (n0 : Nat) (Z0 : n0 ≤ h0.size) (F : Fld Z h0 a1 "com/example/runnel/runnel/apps/AppEnvironment" "positionFile" "Ljava/nio/file/Path;" .null) :
    MetFree l (⟨"com/example/runnel/runnel/apps/AppEnvironment", "positionLock", "()Ljava/nio/file/Path;"⟩ : MethodName) (head1 (Jvm.Cond.code (⟨"com/example/runnel/runnel/apps/AppEnvironment", "positionLock", "()Ljava/nio/file/Path;"⟩ : MethodName) prog_14_method_5_code 1 (some (.object "java/nio/file/Path")) :: ws) ({ frames := 0, cells := 0, slots := 0, locals := 0 } : Room)) (fun a U => a = #[(.ref a1)] ∧ Z.Warmed39 U.vm ∧ U.heap = h0) (fun _ _ _ _ _ => True) (fun _ U o U' => ∃ v L, o = .returned v ∧ Q_lockN Z a1 h0 n0 v U'.heap L ∧ FrameEnd U o U' L ({ frames := 0, cells := 0, slots := 0, locals := 0 } : Room).cells ({ frames := 0, cells := 0, slots := 0, locals := 0 } : Room).slots) := by
  refine MetFree.of_bodySF (plainFor_of_name own_pn_com_example_runnel_runnel_apps_AppEnvironment) hisR ?_
  intro p e s m args below meth c s₁ Bd hml0 hP hK
  obtain ⟨rfl, hZ, hh⟩ := hP
  have hx := Bd.exec
  have hby := Bd.bytes
  have hml : c.maxLocals = 1 := hml0
  have hown : s.vm.findClass "com/example/runnel/runnel/apps/AppEnvironment" = some m.cls := findClass_of_methodNamed Bd.named
  have hnm := (name_of_methodNamed Bd.named Bd.method).1
  have hlk := Bd.notSynchronized
  obtain ⟨lc, hlc⟩ : ∃ lc : List Loc, lc = [] := ⟨_, rfl⟩
  have X : Stand p l e ({ frames := 0, cells := 0, slots := 0, locals := 0 } : Room) s m #[(.ref a1)] below meth c s₁ lc 0 0 := hlc ▸ Stand.of_body Bd
  have eT : s₁.heap = h0 := by rw [← hh, Bd.state]; rfl
  have N : Fr n0 lc := hlc ▸ Fr.nil n0
  refine own_enter (ef_lockN m a1) ?_
  obtain ⟨T, hT⟩ : ∃ T : State, T = s₁ := ⟨_, rfl⟩
  rw [← hT] at X eT ⊢
  show own_W p e below (own_Post s (Q_lockN Z a1 h0 n0) 0 0) T m 0 #[.val (.ref a1)] []
  refine own_aloadN X hx (hb hby own_d_prog_14_method_5_code_0) (pc' := 1) rfl rfl rfl ?_
  refine own_getF X hx hZ hown (host := "") (Or.inl (own_w hw 51 rfl)) Via.refl eT F (hb hby own_d_prog_14_method_5_code_1) (pc' := 4) rfl ?_
  intro T X eT
  refine own_ifnonnullN X hx (hb hby own_d_prog_14_method_5_code_4) (pc' := 7) rfl ?_
  refine own_aconst_null X hx (hb hby own_d_prog_14_method_5_code_7) (pc' := 8) rfl ?_
  refine own_goto X hx (hb hby own_d_prog_14_method_5_code_8) (by decide) (pc' := 37) rfl ?_
  refine own_retA X hx hlk Bd.returns (hb hby own_d_prog_14_method_5_code_37) rfl rfl rfl (by decide) (by decide) ?_
  rw [eT]
  exact ⟨rfl, N, rfl⟩
theorem own_d_jdk_42_method_66_code_0 : decode jdk_42_method_66_code 0 = .ok (.aload_n 0, 1) := by decide +kernel
theorem own_d_jdk_42_method_66_code_1 : decode jdk_42_method_66_code 1 = .ok (.aload_n 1, 1) := by decide +kernel
theorem own_d_jdk_42_method_66_code_2 : decode jdk_42_method_66_code 2 = .ok (.if_acmp .ne 5, 3) := by decide +kernel
theorem own_d_jdk_42_method_66_code_5 : decode jdk_42_method_66_code 5 = .ok (.iconst 1, 1) := by decide +kernel
theorem own_d_jdk_42_method_66_code_6 : decode jdk_42_method_66_code 6 = .ok (.ireturn, 1) := by decide +kernel
theorem ef_eqs (m : MethodId) (x0 : Addr) (x1 : Addr) : entryFrame m #[(.ref x0), (.ref x1)] 3 = mkF m 0 #[.val (.ref x0), .val (.ref x1), .unset] [] := by first | (simp [entryFrame, mkF, argsToLocals, Value.category]; done) | rfl
def Q_eqs (Z : State) (a1 : Addr) (h0 : Heap) (n0 : Nat) (v : Option Value) (h : Heap) (L : List Loc) : Prop := v = some (.int (1 : Int32)) ∧ Fr n0 L ∧ h = h0
set_option maxRecDepth 65536 in
set_option maxHeartbeats 40000000 in
theorem rm_eqs (l : Launch) (Z : State) (a0 : Array Value) (hw : ∀ d ∈ tables_1, d.before a0 Z = true) (ws : List Jvm.Cond) (a1 : Addr) (h0 : Heap) (n0 : Nat) (Z0 : n0 ≤ h0.size)  :
    MetFree l (⟨"java/lang/String", "equals", "(Ljava/lang/Object;)Z"⟩ : MethodName) (head1 (Jvm.Cond.code (⟨"java/lang/String", "equals", "(Ljava/lang/Object;)Z"⟩ : MethodName) jdk_42_method_66_code 3 (some .boolean) :: ws) ({ frames := 0, cells := 0, slots := 0, locals := 0 } : Room)) (fun a U => a = #[(.ref a1), (.ref a1)] ∧ Z.Warmed39 U.vm ∧ U.heap = h0) (fun _ _ _ _ _ => True) (fun _ U o U' => ∃ v L, o = .returned v ∧ Q_eqs Z a1 h0 n0 v U'.heap L ∧ FrameEnd U o U' L ({ frames := 0, cells := 0, slots := 0, locals := 0 } : Room).cells ({ frames := 0, cells := 0, slots := 0, locals := 0 } : Room).slots) := by
  refine MetFree.of_bodySF (plainFor_of_name own_pn_java_lang_String) hisR ?_
  intro p e s m args below meth c s₁ Bd hml0 hP hK
  obtain ⟨rfl, hZ, hh⟩ := hP
  have hx := Bd.exec
  have hby := Bd.bytes
  have hml : c.maxLocals = 3 := hml0
  have hown : s.vm.findClass "java/lang/String" = some m.cls := findClass_of_methodNamed Bd.named
  have hnm := (name_of_methodNamed Bd.named Bd.method).1
  have hlk := Bd.notSynchronized
  obtain ⟨lc, hlc⟩ : ∃ lc : List Loc, lc = [] := ⟨_, rfl⟩
  have X : Stand p l e ({ frames := 0, cells := 0, slots := 0, locals := 0 } : Room) s m #[(.ref a1), (.ref a1)] below meth c s₁ lc 0 0 := hlc ▸ Stand.of_body Bd
  have eT : s₁.heap = h0 := by rw [← hh, Bd.state]; rfl
  have N : Fr n0 lc := hlc ▸ Fr.nil n0
  refine own_enter (ef_eqs m a1 a1) ?_
  obtain ⟨T, hT⟩ : ∃ T : State, T = s₁ := ⟨_, rfl⟩
  rw [← hT] at X eT ⊢
  show own_W p e below (own_Post s (Q_eqs Z a1 h0 n0) 0 0) T m 0 #[.val (.ref a1), .val (.ref a1), .unset] []
  refine own_aloadN X hx (hb hby own_d_jdk_42_method_66_code_0) (pc' := 1) rfl rfl rfl ?_
  refine own_aloadN X hx (hb hby own_d_jdk_42_method_66_code_1) (pc' := 2) rfl rfl rfl ?_
  refine own_acmpN X hx (hb hby own_d_jdk_42_method_66_code_2) (pc' := 5) rfl rfl rfl (XT.aa_ne_f rfl) ?_
  refine own_iconst X hx (1 : Int32) (hb hby own_d_jdk_42_method_66_code_5) (pc' := 6) rfl rfl ?_
  refine own_retI X hx hlk (t := .boolean) (w' := (.int (1 : Int32))) Bd.returns (hb hby own_d_jdk_42_method_66_code_6) rfl rfl (by simp) (by decide) (by decide) ?_
  rw [eT]
  exact ⟨rfl, N, rfl⟩
theorem own_d_method_4_code_0 : decode method_4_code 0 = .ok (.aload_n 0, 1) := by decide +kernel
theorem own_d_method_4_code_1 : decode method_4_code 1 = .ok (.ifnonnull 15, 3) := by decide +kernel
theorem own_d_method_4_code_16 : decode method_4_code 16 = .ok (.aload_n 0, 1) := by decide +kernel
theorem own_d_method_4_code_17 : decode method_4_code 17 = .ok (.aload_n 1, 1) := by decide +kernel
theorem own_d_method_4_code_18 : decode method_4_code 18 = .ok (.invokevirtual 55, 3) := by decide +kernel
theorem own_pd_28Ljava2flang2fObject3b29Z : parseMethodDescriptor "(Ljava/lang/Object;)Z" = some ⟨[(.object "java/lang/Object")], some .boolean⟩ := by decide +kernel
theorem own_d_method_4_code_21 : decode method_4_code 21 = .ok (.ireturn, 1) := by decide +kernel
theorem ef_sm (m : MethodId) (x0 : Addr) (x1 : Addr) : entryFrame m #[(.ref x0), (.ref x1)] 2 = mkF m 0 #[.val (.ref x0), .val (.ref x1)] [] := by first | (simp [entryFrame, mkF, argsToLocals, Value.category]; done) | rfl
def Q_sm (Z : State) (a1 : Addr) (h0 : Heap) (n0 : Nat) (v : Option Value) (h : Heap) (L : List Loc) : Prop := v = some (.int (1 : Int32)) ∧ Fr n0 L ∧ h = h0
set_option maxRecDepth 65536 in
set_option maxHeartbeats 40000000 in
theorem rm_sm (l : Launch) (Z : State) (a0 : Array Value) (hw : ∀ d ∈ tables_1, d.before a0 Z = true) (ws : List Jvm.Cond) (a1 : Addr) (h0 : Heap) (n0 : Nat) (Z0 : n0 ≤ h0.size) (E_a1 : Exa Z h0 a1 "java/lang/String") :
    MetFree l (⟨"com/example/runnel/runnel/apps/AppEnvironmentOfPinLaw", "same", "(Ljava/lang/String;Ljava/lang/String;)Z"⟩ : MethodName) (head1 (Jvm.Cond.code (⟨"com/example/runnel/runnel/apps/AppEnvironmentOfPinLaw", "same", "(Ljava/lang/String;Ljava/lang/String;)Z"⟩ : MethodName) method_4_code 2 (some .boolean) :: ws) ({ frames := 1, cells := 0, slots := 0, locals := 14 } : Room)) (fun a U => a = #[(.ref a1), (.ref a1)] ∧ Z.Warmed39 U.vm ∧ U.heap = h0) (fun _ _ _ _ _ => True) (fun _ U o U' => ∃ v L, o = .returned v ∧ Q_sm Z a1 h0 n0 v U'.heap L ∧ FrameEnd U o U' L ({ frames := 1, cells := 0, slots := 0, locals := 14 } : Room).cells ({ frames := 1, cells := 0, slots := 0, locals := 14 } : Room).slots) := by
  refine MetFree.of_bodySF (plainFor_of_name own_pn_com_example_runnel_runnel_apps_AppEnvironmentOfPinLaw) hisR ?_
  intro p e s m args below meth c s₁ Bd hml0 hP hK
  obtain ⟨rfl, hZ, hh⟩ := hP
  have hx := Bd.exec
  have hby := Bd.bytes
  have hml : c.maxLocals = 2 := hml0
  have hown : s.vm.findClass "com/example/runnel/runnel/apps/AppEnvironmentOfPinLaw" = some m.cls := findClass_of_methodNamed Bd.named
  have hnm := (name_of_methodNamed Bd.named Bd.method).1
  have hlk := Bd.notSynchronized
  obtain ⟨lc, hlc⟩ : ∃ lc : List Loc, lc = [] := ⟨_, rfl⟩
  have X : Stand p l e ({ frames := 1, cells := 0, slots := 0, locals := 14 } : Room) s m #[(.ref a1), (.ref a1)] below meth c s₁ lc 0 0 := hlc ▸ Stand.of_body Bd
  have eT : s₁.heap = h0 := by rw [← hh, Bd.state]; rfl
  have N : Fr n0 lc := hlc ▸ Fr.nil n0
  refine own_enter (ef_sm m a1 a1) ?_
  obtain ⟨T, hT⟩ : ∃ T : State, T = s₁ := ⟨_, rfl⟩
  rw [← hT] at X eT ⊢
  show own_W p e below (own_Post s (Q_sm Z a1 h0 n0) 0 0) T m 0 #[.val (.ref a1), .val (.ref a1)] []
  refine own_aloadN X hx (hb hby own_d_method_4_code_0) (pc' := 1) rfl rfl rfl ?_
  refine own_ifnonnullY X hx (hb hby own_d_method_4_code_1) (by decide) (pc' := 16) rfl ?_
  refine own_aloadN X hx (hb hby own_d_method_4_code_16) (pc' := 17) rfl rfl rfl ?_
  refine own_aloadN X hx (hb hby own_d_method_4_code_17) (pc' := 18) rfl rfl rfl ?_
  refine own_callV X hx hZ (y := (⟨"java/lang/String", "equals", "(Ljava/lang/Object;)Z"⟩ : MethodName)) a1 [(.ref a1)] hown (own_w hw 61 rfl) (own_w hw 62 rfl) (own_w hw 64 rfl) (own_w hw 63 rfl) (own_w hw 6 rfl) (own_w hw 65 rfl) (by decide) (rm_eqs l Z a0 hw [] a1 h0 n0 Z0) E_a1 eT (W := 0) (by decide) (by decide) (cells' := 0) (slots' := 0) rfl rfl (by decide) (by decide) (by rw [hml]; rfl) (lenOf own_pd_28Ljava2flang2fObject3b29Z rfl) rfl (S := []) rfl (Nat.le_of_eq rfl) (hb hby own_d_method_4_code_18) (pc' := 21) rfl ?_
  intro v T h1 L lc X eT hq fN
  obtain ⟨rfl, Nq, hqe⟩ := hq
  have N := fN _ N Nq
  rw [hqe] at eT
  show own_W p e below (own_Post s (Q_sm Z a1 h0 n0) 0 0) T m 21 #[.val (.ref a1), .val (.ref a1)] [(.int (1 : Int32))]
  refine own_retI X hx hlk (t := .boolean) (w' := (.int (1 : Int32))) Bd.returns (hb hby own_d_method_4_code_21) rfl rfl (by simp) (by decide) (by decide) ?_
  rw [eT]
  exact ⟨rfl, N, rfl⟩
theorem own_d_method_4_code_4 : decode method_4_code 4 = .ok (.aload_n 1, 1) := by decide +kernel
theorem own_d_method_4_code_5 : decode method_4_code 5 = .ok (.ifnonnull 7, 3) := by decide +kernel
theorem own_d_method_4_code_8 : decode method_4_code 8 = .ok (.iconst 1, 1) := by decide +kernel
theorem own_d_method_4_code_9 : decode method_4_code 9 = .ok (.goto 12, 3) := by decide +kernel
theorem ef_smN (m : MethodId)  : entryFrame m #[.null, .null] 2 = mkF m 0 #[.val .null, .val .null] [] := by first | (simp [entryFrame, mkF, argsToLocals, Value.category]; done) | rfl
def Q_smN (Z : State)  (h0 : Heap) (n0 : Nat) (v : Option Value) (h : Heap) (L : List Loc) : Prop := v = some (.int (1 : Int32)) ∧ Fr n0 L ∧ h = h0
set_option maxRecDepth 65536 in
set_option maxHeartbeats 40000000 in
theorem rm_smN (l : Launch) (Z : State) (a0 : Array Value) (hw : ∀ d ∈ tables_1, d.before a0 Z = true) (ws : List Jvm.Cond)  (h0 : Heap) (n0 : Nat) (Z0 : n0 ≤ h0.size)  :
    MetFree l (⟨"com/example/runnel/runnel/apps/AppEnvironmentOfPinLaw", "same", "(Ljava/lang/String;Ljava/lang/String;)Z"⟩ : MethodName) (head1 (Jvm.Cond.code (⟨"com/example/runnel/runnel/apps/AppEnvironmentOfPinLaw", "same", "(Ljava/lang/String;Ljava/lang/String;)Z"⟩ : MethodName) method_4_code 2 (some .boolean) :: ws) ({ frames := 1, cells := 0, slots := 0, locals := 14 } : Room)) (fun a U => a = #[.null, .null] ∧ Z.Warmed39 U.vm ∧ U.heap = h0) (fun _ _ _ _ _ => True) (fun _ U o U' => ∃ v L, o = .returned v ∧ Q_smN Z  h0 n0 v U'.heap L ∧ FrameEnd U o U' L ({ frames := 1, cells := 0, slots := 0, locals := 14 } : Room).cells ({ frames := 1, cells := 0, slots := 0, locals := 14 } : Room).slots) := by
  refine MetFree.of_bodySF (plainFor_of_name own_pn_com_example_runnel_runnel_apps_AppEnvironmentOfPinLaw) hisR ?_
  intro p e s m args below meth c s₁ Bd hml0 hP hK
  obtain ⟨rfl, hZ, hh⟩ := hP
  have hx := Bd.exec
  have hby := Bd.bytes
  have hml : c.maxLocals = 2 := hml0
  have hown : s.vm.findClass "com/example/runnel/runnel/apps/AppEnvironmentOfPinLaw" = some m.cls := findClass_of_methodNamed Bd.named
  have hnm := (name_of_methodNamed Bd.named Bd.method).1
  have hlk := Bd.notSynchronized
  obtain ⟨lc, hlc⟩ : ∃ lc : List Loc, lc = [] := ⟨_, rfl⟩
  have X : Stand p l e ({ frames := 1, cells := 0, slots := 0, locals := 14 } : Room) s m #[.null, .null] below meth c s₁ lc 0 0 := hlc ▸ Stand.of_body Bd
  have eT : s₁.heap = h0 := by rw [← hh, Bd.state]; rfl
  have N : Fr n0 lc := hlc ▸ Fr.nil n0
  refine own_enter (ef_smN m ) ?_
  obtain ⟨T, hT⟩ : ∃ T : State, T = s₁ := ⟨_, rfl⟩
  rw [← hT] at X eT ⊢
  show own_W p e below (own_Post s (Q_smN Z  h0 n0) 0 0) T m 0 #[.val .null, .val .null] []
  refine own_aloadN X hx (hb hby own_d_method_4_code_0) (pc' := 1) rfl rfl rfl ?_
  refine own_ifnonnullN X hx (hb hby own_d_method_4_code_1) (pc' := 4) rfl ?_
  refine own_aloadN X hx (hb hby own_d_method_4_code_4) (pc' := 5) rfl rfl rfl ?_
  refine own_ifnonnullN X hx (hb hby own_d_method_4_code_5) (pc' := 8) rfl ?_
  refine own_iconst X hx (1 : Int32) (hb hby own_d_method_4_code_8) (pc' := 9) rfl rfl ?_
  refine own_goto X hx (hb hby own_d_method_4_code_9) (by decide) (pc' := 21) rfl ?_
  refine own_retI X hx hlk (t := .boolean) (w' := (.int (1 : Int32))) Bd.returns (hb hby own_d_method_4_code_21) rfl rfl (by simp) (by decide) (by decide) ?_
  rw [eT]
  exact ⟨rfl, N, rfl⟩
theorem own_pd_28I29Ljava2flang2fString3b : parseMethodDescriptor "(I)Ljava/lang/String;" = some ⟨[.int], some (.object "java/lang/String")⟩ := by decide +kernel
theorem own_pd_28Ljava2flang2fString3bLjava2flang2fString3bLjava2flang2fString3b29Lcom2fexample2frunnel2frunnel2fapps2fAppEnvironment3b : parseMethodDescriptor "(Ljava/lang/String;Ljava/lang/String;Ljava/lang/String;)Lcom/example/runnel/runnel/apps/AppEnvironment;" = some ⟨[(.object "java/lang/String"), (.object "java/lang/String"), (.object "java/lang/String")], some (.object "com/example/runnel/runnel/apps/AppEnvironment")⟩ := by decide +kernel
theorem own_pd_2829Ljava2flang2fString3b : parseMethodDescriptor "()Ljava/lang/String;" = some ⟨[], some (.object "java/lang/String")⟩ := by decide +kernel
theorem own_pd_28Ljava2flang2fString3bLjava2flang2fString3b29Z : parseMethodDescriptor "(Ljava/lang/String;Ljava/lang/String;)Z" = some ⟨[(.object "java/lang/String"), (.object "java/lang/String")], some .boolean⟩ := by decide +kernel
theorem own_pd_2829Ljava2fnio2ffile2fPath3b : parseMethodDescriptor "()Ljava/nio/file/Path;" = some ⟨[], some (.object "java/nio/file/Path")⟩ := by decide +kernel
theorem ef_law (m : MethodId) (x0 : Int32) (x1 : Int32) (x2 : Int32) (x3 : Int32) : entryFrame m #[(.int x0), (.int x1), (.int x2), (.int x3)] maxLocals = mkF m 0 #[.val (.int x0), .val (.int x1), .val (.int x2), .val (.int x3), .unset, .unset, .unset, .unset] [] := by first | (simp [entryFrame, mkF, argsToLocals, Value.category, maxLocals]; done) | rfl
def Q_law (Z : State) (p0 p1 p2 p3 cs : Int32) (h0 : Heap) (n0 : Nat) (v : Option Value) (h : Heap) (L : List Loc) : Prop := v = some (.int 1) ∧ Fr n0 L
set_option maxRecDepth 65536 in
set_option maxHeartbeats 40000000 in
theorem rm_law (l : Launch) (Z : State) (a0 : Array Value) (hw : ∀ d ∈ tables_1, d.before a0 Z = true) (hEL : EW Z a0 own_EL) (ws : List Jvm.Cond) (p0 p1 p2 p3 cs : Int32) (h0 : Heap) (n0 : Nat) (Z0 : n0 ≤ h0.size) (S_C : Sta Z h0 "java/lang/String" "COMPACT_STRINGS" "Z" (.int cs)) (hcs : ¬ cs = 0) :
    MetFree l x (head1 (Jvm.Cond.code x code maxLocals ret :: ws) room_1) (fun a U => a = #[(.int p0), (.int p1), (.int p2), (.int p3)] ∧ Z.Warmed39 U.vm ∧ U.heap = h0 ∧ CHv Z own_EL U.vm h0) (fun _ _ _ _ _ => True) (fun _ U o U' => ∃ v L, o = .returned v ∧ Q_law Z p0 p1 p2 p3 cs h0 n0 v U'.heap L ∧ CHr Z own_EL U.vm U.heap U'.vm U'.heap ∧ ReturnedEndW U o U' L room_1.cells room_1.slots) := by
  refine MetFree.of_bodySF (plainFor_of_name own_pn_com_example_runnel_runnel_apps_AppEnvironmentOfPinLaw) hisR ?_
  intro p e s m args below meth c s₁ Bd hml0 hP hK
  obtain ⟨rfl, hZ, hh, H⟩ := hP
  have hx := Bd.exec
  have hby := Bd.bytes
  have hml : c.maxLocals = 8 := hml0
  have hown : s.vm.findClass "com/example/runnel/runnel/apps/AppEnvironmentOfPinLaw" = some m.cls := findClass_of_methodNamed Bd.named
  have hnm := (name_of_methodNamed Bd.named Bd.method).1
  have hlk := Bd.notSynchronized
  obtain ⟨lc, hlc⟩ : ∃ lc : List Loc, lc = [] := ⟨_, rfl⟩
  have X : Stand p l e room_1 s m #[(.int p0), (.int p1), (.int p2), (.int p3)] below meth c s₁ lc 0 0 := hlc ▸ Stand.of_body Bd
  have eT : s₁.heap = h0 := by rw [← hh, Bd.state]; rfl
  have N : Fr n0 lc := hlc ▸ Fr.nil n0
  obtain ⟨vm0, hvm⟩ : ∃ v : Vm, v = s.vm := ⟨_, rfl⟩
  have X : Stand p l e room_1 (s.setVm vm0) m #[(.int p0), (.int p1), (.int p2), (.int p3)] below meth c s₁ lc 0 0 := by rw [hvm]; exact X
  have hZ : Z.Warmed39 (s.setVm vm0).vm := by rw [hvm]; exact hZ
  have hown : (s.setVm vm0).vm.findClass "com/example/runnel/runnel/apps/AppEnvironmentOfPinLaw" = some m.cls := by rw [hvm]; exact hown
  have hS : s.Since vm0 h0.size := by rw [hvm]; exact (State.WarmedH.refl s).since _
  have hk : h0.size ≤ h0.size := Nat.le_refl _
  have CR : CHr Z own_EL s.vm h0 vm0 h0 := by rw [hvm]; exact CHr.refl H
  have H : CHv Z own_EL vm0 h0 := by rw [hvm]; exact H
  refine own_enterS (ef_law m p0 p1 p2 p3) ?_
  obtain ⟨T, hT⟩ : ∃ T : State, T = s₁ := ⟨_, rfl⟩
  rw [← hT] at X eT ⊢
  show own_W p e below (own_PostS Z own_EL s (Q_law Z p0 p1 p2 p3 cs h0 n0) 32 1152) T m 0 #[.val (.int p0), .val (.int p1), .val (.int p2), .val (.int p3), .unset, .unset, .unset, .unset] []
  refine own_iloadN X hx (hb hby at_0) (pc' := 1) rfl rfl ?_
  refine own_callSS X hx hZ [(.int p0)] hown (own_w hw 0 rfl) (own_w hw 1 rfl) (own_w hw 2 rfl) (own_w hw 3 rfl) (by decide) (rm_str l Z a0 hw hEL [] p0 cs h0 n0 Z0 S_C hcs) eT hS hk hEL H (W := 0) (by decide) (by decide) (cells' := 6) (slots' := 12) rfl rfl (by decide) (by decide) (by rw [hml]; rfl) (lenOf own_pd_28I29Ljava2flang2fString3b rfl) rfl (S := []) rfl (Nat.le_of_eq rfl) (hb hby at_1) (pc' := 4) rfl ?_
  intro v T h1 L lc vm0 k1 X eT hS hk hZ hown CQ hq fN
  obtain ⟨s0, rfl, Nq, Kq, E_s0⟩ := hq
  have N := fN _ N Nq
  have CR := CR.trans CQ
  have H := CQ.1
  have S_C := own_sta_keep S_C Kq ns0
  have Z0 := Nat.le_trans Z0 Kq.1
  show own_W p e below (own_PostS Z own_EL s (Q_law Z p0 p1 p2 p3 cs h0 n0) 32 1152) T m 4 #[.val (.int p0), .val (.int p1), .val (.int p2), .val (.int p3), .unset, .unset, .unset, .unset] [(.ref s0)]
  refine own_astore X hx (hb hby at_4) (pc' := 6) rfl rfl (Ls' := #[.val (.int p0), .val (.int p1), .val (.int p2), .val (.int p3), .val (.ref s0), .unset, .unset, .unset]) rfl ?_
  refine own_iloadN X hx (hb hby at_6) (pc' := 7) rfl rfl ?_
  refine own_iconst X hx (1 : Int32) (hb hby at_7) (pc' := 8) rfl rfl ?_
  refine own_iand X hx (hb hby at_8) (pc' := 9) rfl ?_
  refine own_if X hx (hb hby at_9) (by decide) (pcY := 16) (pcN := 12) rfl rfl (fun (hc9 : (p3 &&& (1 : Int32)) = (0 : Int32)) => ?_) (fun (hc9 : ¬ ((p3 &&& (1 : Int32)) = (0 : Int32))) => ?_)
  · refine own_iloadN X hx (hb hby at_16) (pc' := 17) rfl rfl ?_
    refine own_callSS X hx hZ [(.int p1)] hown (own_w hw 0 rfl) (own_w hw 1 rfl) (own_w hw 2 rfl) (own_w hw 3 rfl) (by decide) (rm_str l Z a0 hw hEL [] p1 cs h1 n0 Z0 S_C hcs) eT hS hk hEL H (W := 0) (by decide) (by decide) (cells' := 12) (slots' := 24) rfl rfl (by decide) (by decide) (by rw [hml]; rfl) (lenOf own_pd_28I29Ljava2flang2fString3b rfl) rfl (S := []) rfl (Nat.le_of_eq rfl) (hb hby at_17) (pc' := 20) rfl ?_
    intro v T h2 L lc vm0 k1 X eT hS hk hZ hown CQ hq fN
    obtain ⟨s1, rfl, Nq, Kq, E_s1⟩ := hq
    have N := fN _ N Nq
    have CR := CR.trans CQ
    have H := CQ.1
    have S_C := own_sta_keep S_C Kq ns0
    have E_s0 := E_s0.keep Kq
    have Z0 := Nat.le_trans Z0 Kq.1
    show own_W p e below (own_PostS Z own_EL s (Q_law Z p0 p1 p2 p3 cs h0 n0) 32 1152) T m 20 #[.val (.int p0), .val (.int p1), .val (.int p2), .val (.int p3), .val (.ref s0), .unset, .unset, .unset] [(.ref s1)]
    refine own_astore X hx (hb hby at_20) (pc' := 22) rfl rfl (Ls' := #[.val (.int p0), .val (.int p1), .val (.int p2), .val (.int p3), .val (.ref s0), .val (.ref s1), .unset, .unset]) rfl ?_
    refine own_iloadN X hx (hb hby at_22) (pc' := 23) rfl rfl ?_
    refine own_iconst X hx (2 : Int32) (hb hby at_23) (pc' := 24) rfl rfl ?_
    refine own_iand X hx (hb hby at_24) (pc' := 25) rfl ?_
    refine own_if X hx (hb hby at_25) (by decide) (pcY := 32) (pcN := 28) rfl rfl (fun (hc25 : (p3 &&& (2 : Int32)) = (0 : Int32)) => ?_) (fun (hc25 : ¬ ((p3 &&& (2 : Int32)) = (0 : Int32))) => ?_)
    · refine own_iloadN X hx (hb hby at_32) (pc' := 33) rfl rfl ?_
      refine own_callSS X hx hZ [(.int p2)] hown (own_w hw 0 rfl) (own_w hw 1 rfl) (own_w hw 2 rfl) (own_w hw 3 rfl) (by decide) (rm_str l Z a0 hw hEL [] p2 cs h2 n0 Z0 S_C hcs) eT hS hk hEL H (W := 0) (by decide) (by decide) (cells' := 18) (slots' := 36) rfl rfl (by decide) (by decide) (by rw [hml]; rfl) (lenOf own_pd_28I29Ljava2flang2fString3b rfl) rfl (S := []) rfl (Nat.le_of_eq rfl) (hb hby at_33) (pc' := 36) rfl ?_
      intro v T h3 L lc vm0 k1 X eT hS hk hZ hown CQ hq fN
      obtain ⟨s2, rfl, Nq, Kq, E_s2⟩ := hq
      have N := fN _ N Nq
      have CR := CR.trans CQ
      have H := CQ.1
      have S_C := own_sta_keep S_C Kq ns0
      have E_s0 := E_s0.keep Kq
      have E_s1 := E_s1.keep Kq
      have Z0 := Nat.le_trans Z0 Kq.1
      show own_W p e below (own_PostS Z own_EL s (Q_law Z p0 p1 p2 p3 cs h0 n0) 32 1152) T m 36 #[.val (.int p0), .val (.int p1), .val (.int p2), .val (.int p3), .val (.ref s0), .val (.ref s1), .unset, .unset] [(.ref s2)]
      refine own_astore X hx (hb hby at_36) (pc' := 38) rfl rfl (Ls' := #[.val (.int p0), .val (.int p1), .val (.int p2), .val (.int p3), .val (.ref s0), .val (.ref s1), .val (.ref s2), .unset]) rfl ?_
      refine own_aload X hx (hb hby at_38) (pc' := 40) rfl rfl rfl ?_
      refine own_aload X hx (hb hby at_40) (pc' := 42) rfl rfl rfl ?_
      refine own_aload X hx (hb hby at_42) (pc' := 44) rfl rfl rfl ?_
      refine own_callS X hx hZ [(.ref s0), (.ref s1), (.ref s2)] hown (own_w hw 26 rfl) (own_w hw 27 rfl) (own_w hw 28 rfl) (own_w hw 29 rfl) (by decide) (rm_of00 l Z a0 hw [] s0 s1 s2 h3 n0 Z0) eT (W := 0) (by decide) (by decide) (cells' := 19) (slots' := 42) rfl rfl (by decide) (by decide) (by rw [hml]; rfl) (lenOf own_pd_28Ljava2flang2fString3bLjava2flang2fString3bLjava2flang2fString3b29Lcom2fexample2frunnel2frunnel2fapps2fAppEnvironment3b rfl) rfl (S := []) rfl (Nat.le_of_eq rfl) (hb hby at_44) (pc' := 47) rfl ?_
      intro v T h4 L lc X eT hq fN
      obtain ⟨ev, rfl, Nq, Kq, E_ev, G_brokerUri, G_input, G_output, G_instance, G_statusFile, G_positionFile⟩ := hq
      have N := fN _ N Nq
      have hsf : ∀ x ∈ ([] : List Addr), Safe Z own_EL vm0 h3 x := sf0
      have CR := CR.trans (CHr.keep Kq hsf H)
      have H := H.keep Kq hsf
      have hk := Nat.le_trans hk Kq.1
      have S_C := own_sta_keep S_C Kq ns0
      have E_s0 := E_s0.keep Kq
      have E_s1 := E_s1.keep Kq
      have E_s2 := E_s2.keep Kq
      have Z0 := Nat.le_trans Z0 Kq.1
      show own_W p e below (own_PostS Z own_EL s (Q_law Z p0 p1 p2 p3 cs h0 n0) 32 1152) T m 47 #[.val (.int p0), .val (.int p1), .val (.int p2), .val (.int p3), .val (.ref s0), .val (.ref s1), .val (.ref s2), .unset] [(.ref ev)]
      refine own_astore X hx (hb hby at_47) (pc' := 49) rfl rfl (Ls' := #[.val (.int p0), .val (.int p1), .val (.int p2), .val (.int p3), .val (.ref s0), .val (.ref s1), .val (.ref s2), .val (.ref ev)]) rfl ?_
      refine own_aload X hx (hb hby at_49) (pc' := 51) rfl rfl rfl ?_
      refine own_ifnonnullY X hx (hb hby at_51) (by decide) (pc' := 56) rfl ?_
      refine own_aload X hx (hb hby at_56) (pc' := 58) rfl rfl rfl ?_
      refine own_callV X hx hZ (y := (⟨"com/example/runnel/runnel/apps/AppEnvironment", "brokerUri", "()Ljava/lang/String;"⟩ : MethodName)) ev [] hown (own_w hw 53 rfl) (own_w hw 54 rfl) (own_w hw 56 rfl) (own_w hw 55 rfl) (own_w hw 28 rfl) (own_w hw 57 rfl) (by decide) (rm_brokerUri l Z a0 hw [] ev s0 h4 n0 Z0 G_brokerUri) E_ev eT (W := 0) (by decide) (by decide) (cells' := 19) (slots' := 42) rfl rfl (by decide) (by decide) (by rw [hml]; rfl) (lenOf own_pd_2829Ljava2flang2fString3b rfl) rfl (S := []) rfl (Nat.le_of_eq rfl) (hb hby at_58) (pc' := 61) rfl ?_
      intro v T h5 L lc X eT hq fN
      obtain ⟨rfl, Nq, hqe⟩ := hq
      have N := fN _ N Nq
      rw [hqe] at eT
      show own_W p e below (own_PostS Z own_EL s (Q_law Z p0 p1 p2 p3 cs h0 n0) 32 1152) T m 61 #[.val (.int p0), .val (.int p1), .val (.int p2), .val (.int p3), .val (.ref s0), .val (.ref s1), .val (.ref s2), .val (.ref ev)] [(.ref s0)]
      refine own_aload X hx (hb hby at_61) (pc' := 63) rfl rfl rfl ?_
      refine own_callS X hx hZ [(.ref s0), (.ref s0)] hown (own_w hw 58 rfl) (own_w hw 59 rfl) (own_w hw 2 rfl) (own_w hw 60 rfl) (by decide) (rm_sm l Z a0 hw [] s0 h4 n0 Z0 E_s0) eT (W := 0) (by decide) (by decide) (cells' := 19) (slots' := 42) rfl rfl (by decide) (by decide) (by rw [hml]; rfl) (lenOf own_pd_28Ljava2flang2fString3bLjava2flang2fString3b29Z rfl) rfl (S := []) rfl (Nat.le_of_eq rfl) (hb hby at_63) (pc' := 66) rfl ?_
      intro v T h6 L lc X eT hq fN
      obtain ⟨rfl, Nq, hqe⟩ := hq
      have N := fN _ N Nq
      rw [hqe] at eT
      show own_W p e below (own_PostS Z own_EL s (Q_law Z p0 p1 p2 p3 cs h0 n0) 32 1152) T m 66 #[.val (.int p0), .val (.int p1), .val (.int p2), .val (.int p3), .val (.ref s0), .val (.ref s1), .val (.ref s2), .val (.ref ev)] [(.int (1 : Int32))]
      refine own_ifN X hx (hb hby at_66) (pc' := 69) rfl (show ¬ ((1 : Int32) = (0 : Int32)) from (by decide)) ?_
      refine own_aload X hx (hb hby at_69) (pc' := 71) rfl rfl rfl ?_
      refine own_callV X hx hZ (y := (⟨"com/example/runnel/runnel/apps/AppEnvironment", "input", "()Ljava/lang/String;"⟩ : MethodName)) ev [] hown (own_w hw 66 rfl) (own_w hw 67 rfl) (own_w hw 69 rfl) (own_w hw 68 rfl) (own_w hw 28 rfl) (own_w hw 70 rfl) (by decide) (rm_input l Z a0 hw [] ev s1 h4 n0 Z0 G_input) E_ev eT (W := 0) (by decide) (by decide) (cells' := 19) (slots' := 42) rfl rfl (by decide) (by decide) (by rw [hml]; rfl) (lenOf own_pd_2829Ljava2flang2fString3b rfl) rfl (S := []) rfl (Nat.le_of_eq rfl) (hb hby at_71) (pc' := 74) rfl ?_
      intro v T h7 L lc X eT hq fN
      obtain ⟨rfl, Nq, hqe⟩ := hq
      have N := fN _ N Nq
      rw [hqe] at eT
      show own_W p e below (own_PostS Z own_EL s (Q_law Z p0 p1 p2 p3 cs h0 n0) 32 1152) T m 74 #[.val (.int p0), .val (.int p1), .val (.int p2), .val (.int p3), .val (.ref s0), .val (.ref s1), .val (.ref s2), .val (.ref ev)] [(.ref s1)]
      refine own_aload X hx (hb hby at_74) (pc' := 76) rfl rfl rfl ?_
      refine own_callS X hx hZ [(.ref s1), (.ref s1)] hown (own_w hw 58 rfl) (own_w hw 59 rfl) (own_w hw 2 rfl) (own_w hw 60 rfl) (by decide) (rm_sm l Z a0 hw [] s1 h4 n0 Z0 E_s1) eT (W := 0) (by decide) (by decide) (cells' := 19) (slots' := 42) rfl rfl (by decide) (by decide) (by rw [hml]; rfl) (lenOf own_pd_28Ljava2flang2fString3bLjava2flang2fString3b29Z rfl) rfl (S := []) rfl (Nat.le_of_eq rfl) (hb hby at_76) (pc' := 79) rfl ?_
      intro v T h8 L lc X eT hq fN
      obtain ⟨rfl, Nq, hqe⟩ := hq
      have N := fN _ N Nq
      rw [hqe] at eT
      show own_W p e below (own_PostS Z own_EL s (Q_law Z p0 p1 p2 p3 cs h0 n0) 32 1152) T m 79 #[.val (.int p0), .val (.int p1), .val (.int p2), .val (.int p3), .val (.ref s0), .val (.ref s1), .val (.ref s2), .val (.ref ev)] [(.int (1 : Int32))]
      refine own_ifN X hx (hb hby at_79) (pc' := 82) rfl (show ¬ ((1 : Int32) = (0 : Int32)) from (by decide)) ?_
      refine own_aload X hx (hb hby at_82) (pc' := 84) rfl rfl rfl ?_
      refine own_callV X hx hZ (y := (⟨"com/example/runnel/runnel/apps/AppEnvironment", "output", "()Ljava/lang/String;"⟩ : MethodName)) ev [] hown (own_w hw 71 rfl) (own_w hw 72 rfl) (own_w hw 74 rfl) (own_w hw 73 rfl) (own_w hw 28 rfl) (own_w hw 75 rfl) (by decide) (rm_output l Z a0 hw [] ev s2 h4 n0 Z0 G_output) E_ev eT (W := 0) (by decide) (by decide) (cells' := 19) (slots' := 42) rfl rfl (by decide) (by decide) (by rw [hml]; rfl) (lenOf own_pd_2829Ljava2flang2fString3b rfl) rfl (S := []) rfl (Nat.le_of_eq rfl) (hb hby at_84) (pc' := 87) rfl ?_
      intro v T h9 L lc X eT hq fN
      obtain ⟨rfl, Nq, hqe⟩ := hq
      have N := fN _ N Nq
      rw [hqe] at eT
      show own_W p e below (own_PostS Z own_EL s (Q_law Z p0 p1 p2 p3 cs h0 n0) 32 1152) T m 87 #[.val (.int p0), .val (.int p1), .val (.int p2), .val (.int p3), .val (.ref s0), .val (.ref s1), .val (.ref s2), .val (.ref ev)] [(.ref s2)]
      refine own_aload X hx (hb hby at_87) (pc' := 89) rfl rfl rfl ?_
      refine own_callS X hx hZ [(.ref s2), (.ref s2)] hown (own_w hw 58 rfl) (own_w hw 59 rfl) (own_w hw 2 rfl) (own_w hw 60 rfl) (by decide) (rm_sm l Z a0 hw [] s2 h4 n0 Z0 E_s2) eT (W := 0) (by decide) (by decide) (cells' := 19) (slots' := 42) rfl rfl (by decide) (by decide) (by rw [hml]; rfl) (lenOf own_pd_28Ljava2flang2fString3bLjava2flang2fString3b29Z rfl) rfl (S := []) rfl (Nat.le_of_eq rfl) (hb hby at_89) (pc' := 92) rfl ?_
      intro v T h10 L lc X eT hq fN
      obtain ⟨rfl, Nq, hqe⟩ := hq
      have N := fN _ N Nq
      rw [hqe] at eT
      show own_W p e below (own_PostS Z own_EL s (Q_law Z p0 p1 p2 p3 cs h0 n0) 32 1152) T m 92 #[.val (.int p0), .val (.int p1), .val (.int p2), .val (.int p3), .val (.ref s0), .val (.ref s1), .val (.ref s2), .val (.ref ev)] [(.int (1 : Int32))]
      refine own_ifN X hx (hb hby at_92) (pc' := 95) rfl (show ¬ ((1 : Int32) = (0 : Int32)) from (by decide)) ?_
      refine own_aload X hx (hb hby at_95) (pc' := 97) rfl rfl rfl ?_
      refine own_callV X hx hZ (y := (⟨"com/example/runnel/runnel/apps/AppEnvironment", "instance", "()Ljava/lang/String;"⟩ : MethodName)) ev [] hown (own_w hw 76 rfl) (own_w hw 77 rfl) (own_w hw 79 rfl) (own_w hw 78 rfl) (own_w hw 28 rfl) (own_w hw 80 rfl) (by decide) (rm_instanceN l Z a0 hw [] ev  h4 n0 Z0 G_instance) E_ev eT (W := 0) (by decide) (by decide) (cells' := 19) (slots' := 42) rfl rfl (by decide) (by decide) (by rw [hml]; rfl) (lenOf own_pd_2829Ljava2flang2fString3b rfl) rfl (S := []) rfl (Nat.le_of_eq rfl) (hb hby at_97) (pc' := 100) rfl ?_
      intro v T h11 L lc X eT hq fN
      obtain ⟨rfl, Nq, hqe⟩ := hq
      have N := fN _ N Nq
      rw [hqe] at eT
      show own_W p e below (own_PostS Z own_EL s (Q_law Z p0 p1 p2 p3 cs h0 n0) 32 1152) T m 100 #[.val (.int p0), .val (.int p1), .val (.int p2), .val (.int p3), .val (.ref s0), .val (.ref s1), .val (.ref s2), .val (.ref ev)] [.null]
      refine own_ifnonnullN X hx (hb hby at_100) (pc' := 103) rfl ?_
      refine own_aload X hx (hb hby at_103) (pc' := 105) rfl rfl rfl ?_
      refine own_callV X hx hZ (y := (⟨"com/example/runnel/runnel/apps/AppEnvironment", "statusFile", "()Ljava/nio/file/Path;"⟩ : MethodName)) ev [] hown (own_w hw 81 rfl) (own_w hw 82 rfl) (own_w hw 84 rfl) (own_w hw 83 rfl) (own_w hw 28 rfl) (own_w hw 85 rfl) (by decide) (rm_statusFileN l Z a0 hw [] ev  h4 n0 Z0 G_statusFile) E_ev eT (W := 0) (by decide) (by decide) (cells' := 19) (slots' := 42) rfl rfl (by decide) (by decide) (by rw [hml]; rfl) (lenOf own_pd_2829Ljava2fnio2ffile2fPath3b rfl) rfl (S := []) rfl (Nat.le_of_eq rfl) (hb hby at_105) (pc' := 108) rfl ?_
      intro v T h12 L lc X eT hq fN
      obtain ⟨rfl, Nq, hqe⟩ := hq
      have N := fN _ N Nq
      rw [hqe] at eT
      show own_W p e below (own_PostS Z own_EL s (Q_law Z p0 p1 p2 p3 cs h0 n0) 32 1152) T m 108 #[.val (.int p0), .val (.int p1), .val (.int p2), .val (.int p3), .val (.ref s0), .val (.ref s1), .val (.ref s2), .val (.ref ev)] [.null]
      refine own_ifnonnullN X hx (hb hby at_108) (pc' := 111) rfl ?_
      refine own_aload X hx (hb hby at_111) (pc' := 113) rfl rfl rfl ?_
      refine own_callV X hx hZ (y := (⟨"com/example/runnel/runnel/apps/AppEnvironment", "positionFile", "()Ljava/nio/file/Path;"⟩ : MethodName)) ev [] hown (own_w hw 86 rfl) (own_w hw 87 rfl) (own_w hw 89 rfl) (own_w hw 88 rfl) (own_w hw 28 rfl) (own_w hw 90 rfl) (by decide) (rm_positionFileN l Z a0 hw [] ev  h4 n0 Z0 G_positionFile) E_ev eT (W := 0) (by decide) (by decide) (cells' := 19) (slots' := 42) rfl rfl (by decide) (by decide) (by rw [hml]; rfl) (lenOf own_pd_2829Ljava2fnio2ffile2fPath3b rfl) rfl (S := []) rfl (Nat.le_of_eq rfl) (hb hby at_113) (pc' := 116) rfl ?_
      intro v T h13 L lc X eT hq fN
      obtain ⟨rfl, Nq, hqe⟩ := hq
      have N := fN _ N Nq
      rw [hqe] at eT
      show own_W p e below (own_PostS Z own_EL s (Q_law Z p0 p1 p2 p3 cs h0 n0) 32 1152) T m 116 #[.val (.int p0), .val (.int p1), .val (.int p2), .val (.int p3), .val (.ref s0), .val (.ref s1), .val (.ref s2), .val (.ref ev)] [.null]
      refine own_ifnonnullN X hx (hb hby at_116) (pc' := 119) rfl ?_
      refine own_aload X hx (hb hby at_119) (pc' := 121) rfl rfl rfl ?_
      refine own_callV X hx hZ (y := (⟨"com/example/runnel/runnel/apps/AppEnvironment", "positionLock", "()Ljava/nio/file/Path;"⟩ : MethodName)) ev [] hown (own_w hw 91 rfl) (own_w hw 92 rfl) (own_w hw 94 rfl) (own_w hw 93 rfl) (own_w hw 28 rfl) (own_w hw 95 rfl) (by decide) (rm_lockN l Z a0 hw [] ev h4 n0 Z0 G_positionFile) E_ev eT (W := 0) (by decide) (by decide) (cells' := 19) (slots' := 42) rfl rfl (by decide) (by decide) (by rw [hml]; rfl) (lenOf own_pd_2829Ljava2fnio2ffile2fPath3b rfl) rfl (S := []) rfl (Nat.le_of_eq rfl) (hb hby at_121) (pc' := 124) rfl ?_
      intro v T h14 L lc X eT hq fN
      obtain ⟨rfl, Nq, hqe⟩ := hq
      have N := fN _ N Nq
      rw [hqe] at eT
      show own_W p e below (own_PostS Z own_EL s (Q_law Z p0 p1 p2 p3 cs h0 n0) 32 1152) T m 124 #[.val (.int p0), .val (.int p1), .val (.int p2), .val (.int p3), .val (.ref s0), .val (.ref s1), .val (.ref s2), .val (.ref ev)] [.null]
      refine own_ifnonnullN X hx (hb hby at_124) (pc' := 127) rfl ?_
      refine own_iconst X hx (1 : Int32) (hb hby at_127) (pc' := 128) rfl rfl ?_
      refine own_goto X hx (hb hby at_128) (by decide) (pc' := 132) rfl ?_
      refine own_retIS X hx hlk hZ eT hh hS hk hEL H CR (t := .boolean) (w' := (.int (1 : Int32))) Bd.returns (hb hby at_132) rfl rfl (by simp) (by decide) (by decide) ?_
      rw [eT]
      exact ⟨rfl, N⟩
    · refine own_aconst_null X hx (hb hby at_28) (pc' := 29) rfl ?_
      refine own_goto X hx (hb hby at_29) (by decide) (pc' := 36) rfl ?_
      refine own_astore X hx (hb hby at_36) (pc' := 38) rfl rfl (Ls' := #[.val (.int p0), .val (.int p1), .val (.int p2), .val (.int p3), .val (.ref s0), .val (.ref s1), .val .null, .unset]) rfl ?_
      refine own_aload X hx (hb hby at_38) (pc' := 40) rfl rfl rfl ?_
      refine own_aload X hx (hb hby at_40) (pc' := 42) rfl rfl rfl ?_
      refine own_aload X hx (hb hby at_42) (pc' := 44) rfl rfl rfl ?_
      refine own_callS X hx hZ [(.ref s0), (.ref s1), .null] hown (own_w hw 26 rfl) (own_w hw 27 rfl) (own_w hw 28 rfl) (own_w hw 29 rfl) (by decide) (rm_of01 l Z a0 hw [] s0 s1 h2 n0 Z0) eT (W := 0) (by decide) (by decide) (cells' := 13) (slots' := 30) rfl rfl (by decide) (by decide) (by rw [hml]; rfl) (lenOf own_pd_28Ljava2flang2fString3bLjava2flang2fString3bLjava2flang2fString3b29Lcom2fexample2frunnel2frunnel2fapps2fAppEnvironment3b rfl) rfl (S := []) rfl (Nat.le_of_eq rfl) (hb hby at_44) (pc' := 47) rfl ?_
      intro v T h15 L lc X eT hq fN
      obtain ⟨ev, rfl, Nq, Kq, E_ev, G_brokerUri, G_input, G_output, G_instance, G_statusFile, G_positionFile⟩ := hq
      have N := fN _ N Nq
      have hsf : ∀ x ∈ ([] : List Addr), Safe Z own_EL vm0 h2 x := sf0
      have CR := CR.trans (CHr.keep Kq hsf H)
      have H := H.keep Kq hsf
      have hk := Nat.le_trans hk Kq.1
      have S_C := own_sta_keep S_C Kq ns0
      have E_s0 := E_s0.keep Kq
      have E_s1 := E_s1.keep Kq
      have Z0 := Nat.le_trans Z0 Kq.1
      show own_W p e below (own_PostS Z own_EL s (Q_law Z p0 p1 p2 p3 cs h0 n0) 32 1152) T m 47 #[.val (.int p0), .val (.int p1), .val (.int p2), .val (.int p3), .val (.ref s0), .val (.ref s1), .val .null, .unset] [(.ref ev)]
      refine own_astore X hx (hb hby at_47) (pc' := 49) rfl rfl (Ls' := #[.val (.int p0), .val (.int p1), .val (.int p2), .val (.int p3), .val (.ref s0), .val (.ref s1), .val .null, .val (.ref ev)]) rfl ?_
      refine own_aload X hx (hb hby at_49) (pc' := 51) rfl rfl rfl ?_
      refine own_ifnonnullY X hx (hb hby at_51) (by decide) (pc' := 56) rfl ?_
      refine own_aload X hx (hb hby at_56) (pc' := 58) rfl rfl rfl ?_
      refine own_callV X hx hZ (y := (⟨"com/example/runnel/runnel/apps/AppEnvironment", "brokerUri", "()Ljava/lang/String;"⟩ : MethodName)) ev [] hown (own_w hw 53 rfl) (own_w hw 54 rfl) (own_w hw 56 rfl) (own_w hw 55 rfl) (own_w hw 28 rfl) (own_w hw 57 rfl) (by decide) (rm_brokerUri l Z a0 hw [] ev s0 h15 n0 Z0 G_brokerUri) E_ev eT (W := 0) (by decide) (by decide) (cells' := 13) (slots' := 30) rfl rfl (by decide) (by decide) (by rw [hml]; rfl) (lenOf own_pd_2829Ljava2flang2fString3b rfl) rfl (S := []) rfl (Nat.le_of_eq rfl) (hb hby at_58) (pc' := 61) rfl ?_
      intro v T h16 L lc X eT hq fN
      obtain ⟨rfl, Nq, hqe⟩ := hq
      have N := fN _ N Nq
      rw [hqe] at eT
      show own_W p e below (own_PostS Z own_EL s (Q_law Z p0 p1 p2 p3 cs h0 n0) 32 1152) T m 61 #[.val (.int p0), .val (.int p1), .val (.int p2), .val (.int p3), .val (.ref s0), .val (.ref s1), .val .null, .val (.ref ev)] [(.ref s0)]
      refine own_aload X hx (hb hby at_61) (pc' := 63) rfl rfl rfl ?_
      refine own_callS X hx hZ [(.ref s0), (.ref s0)] hown (own_w hw 58 rfl) (own_w hw 59 rfl) (own_w hw 2 rfl) (own_w hw 60 rfl) (by decide) (rm_sm l Z a0 hw [] s0 h15 n0 Z0 E_s0) eT (W := 0) (by decide) (by decide) (cells' := 13) (slots' := 30) rfl rfl (by decide) (by decide) (by rw [hml]; rfl) (lenOf own_pd_28Ljava2flang2fString3bLjava2flang2fString3b29Z rfl) rfl (S := []) rfl (Nat.le_of_eq rfl) (hb hby at_63) (pc' := 66) rfl ?_
      intro v T h17 L lc X eT hq fN
      obtain ⟨rfl, Nq, hqe⟩ := hq
      have N := fN _ N Nq
      rw [hqe] at eT
      show own_W p e below (own_PostS Z own_EL s (Q_law Z p0 p1 p2 p3 cs h0 n0) 32 1152) T m 66 #[.val (.int p0), .val (.int p1), .val (.int p2), .val (.int p3), .val (.ref s0), .val (.ref s1), .val .null, .val (.ref ev)] [(.int (1 : Int32))]
      refine own_ifN X hx (hb hby at_66) (pc' := 69) rfl (show ¬ ((1 : Int32) = (0 : Int32)) from (by decide)) ?_
      refine own_aload X hx (hb hby at_69) (pc' := 71) rfl rfl rfl ?_
      refine own_callV X hx hZ (y := (⟨"com/example/runnel/runnel/apps/AppEnvironment", "input", "()Ljava/lang/String;"⟩ : MethodName)) ev [] hown (own_w hw 66 rfl) (own_w hw 67 rfl) (own_w hw 69 rfl) (own_w hw 68 rfl) (own_w hw 28 rfl) (own_w hw 70 rfl) (by decide) (rm_input l Z a0 hw [] ev s1 h15 n0 Z0 G_input) E_ev eT (W := 0) (by decide) (by decide) (cells' := 13) (slots' := 30) rfl rfl (by decide) (by decide) (by rw [hml]; rfl) (lenOf own_pd_2829Ljava2flang2fString3b rfl) rfl (S := []) rfl (Nat.le_of_eq rfl) (hb hby at_71) (pc' := 74) rfl ?_
      intro v T h18 L lc X eT hq fN
      obtain ⟨rfl, Nq, hqe⟩ := hq
      have N := fN _ N Nq
      rw [hqe] at eT
      show own_W p e below (own_PostS Z own_EL s (Q_law Z p0 p1 p2 p3 cs h0 n0) 32 1152) T m 74 #[.val (.int p0), .val (.int p1), .val (.int p2), .val (.int p3), .val (.ref s0), .val (.ref s1), .val .null, .val (.ref ev)] [(.ref s1)]
      refine own_aload X hx (hb hby at_74) (pc' := 76) rfl rfl rfl ?_
      refine own_callS X hx hZ [(.ref s1), (.ref s1)] hown (own_w hw 58 rfl) (own_w hw 59 rfl) (own_w hw 2 rfl) (own_w hw 60 rfl) (by decide) (rm_sm l Z a0 hw [] s1 h15 n0 Z0 E_s1) eT (W := 0) (by decide) (by decide) (cells' := 13) (slots' := 30) rfl rfl (by decide) (by decide) (by rw [hml]; rfl) (lenOf own_pd_28Ljava2flang2fString3bLjava2flang2fString3b29Z rfl) rfl (S := []) rfl (Nat.le_of_eq rfl) (hb hby at_76) (pc' := 79) rfl ?_
      intro v T h19 L lc X eT hq fN
      obtain ⟨rfl, Nq, hqe⟩ := hq
      have N := fN _ N Nq
      rw [hqe] at eT
      show own_W p e below (own_PostS Z own_EL s (Q_law Z p0 p1 p2 p3 cs h0 n0) 32 1152) T m 79 #[.val (.int p0), .val (.int p1), .val (.int p2), .val (.int p3), .val (.ref s0), .val (.ref s1), .val .null, .val (.ref ev)] [(.int (1 : Int32))]
      refine own_ifN X hx (hb hby at_79) (pc' := 82) rfl (show ¬ ((1 : Int32) = (0 : Int32)) from (by decide)) ?_
      refine own_aload X hx (hb hby at_82) (pc' := 84) rfl rfl rfl ?_
      refine own_callV X hx hZ (y := (⟨"com/example/runnel/runnel/apps/AppEnvironment", "output", "()Ljava/lang/String;"⟩ : MethodName)) ev [] hown (own_w hw 71 rfl) (own_w hw 72 rfl) (own_w hw 74 rfl) (own_w hw 73 rfl) (own_w hw 28 rfl) (own_w hw 75 rfl) (by decide) (rm_outputN l Z a0 hw [] ev  h15 n0 Z0 G_output) E_ev eT (W := 0) (by decide) (by decide) (cells' := 13) (slots' := 30) rfl rfl (by decide) (by decide) (by rw [hml]; rfl) (lenOf own_pd_2829Ljava2flang2fString3b rfl) rfl (S := []) rfl (Nat.le_of_eq rfl) (hb hby at_84) (pc' := 87) rfl ?_
      intro v T h20 L lc X eT hq fN
      obtain ⟨rfl, Nq, hqe⟩ := hq
      have N := fN _ N Nq
      rw [hqe] at eT
      show own_W p e below (own_PostS Z own_EL s (Q_law Z p0 p1 p2 p3 cs h0 n0) 32 1152) T m 87 #[.val (.int p0), .val (.int p1), .val (.int p2), .val (.int p3), .val (.ref s0), .val (.ref s1), .val .null, .val (.ref ev)] [.null]
      refine own_aload X hx (hb hby at_87) (pc' := 89) rfl rfl rfl ?_
      refine own_callS X hx hZ [.null, .null] hown (own_w hw 58 rfl) (own_w hw 59 rfl) (own_w hw 2 rfl) (own_w hw 60 rfl) (by decide) (rm_smN l Z a0 hw [] h15 n0 Z0) eT (W := 0) (by decide) (by decide) (cells' := 13) (slots' := 30) rfl rfl (by decide) (by decide) (by rw [hml]; rfl) (lenOf own_pd_28Ljava2flang2fString3bLjava2flang2fString3b29Z rfl) rfl (S := []) rfl (Nat.le_of_eq rfl) (hb hby at_89) (pc' := 92) rfl ?_
      intro v T h21 L lc X eT hq fN
      obtain ⟨rfl, Nq, hqe⟩ := hq
      have N := fN _ N Nq
      rw [hqe] at eT
      show own_W p e below (own_PostS Z own_EL s (Q_law Z p0 p1 p2 p3 cs h0 n0) 32 1152) T m 92 #[.val (.int p0), .val (.int p1), .val (.int p2), .val (.int p3), .val (.ref s0), .val (.ref s1), .val .null, .val (.ref ev)] [(.int (1 : Int32))]
      refine own_ifN X hx (hb hby at_92) (pc' := 95) rfl (show ¬ ((1 : Int32) = (0 : Int32)) from (by decide)) ?_
      refine own_aload X hx (hb hby at_95) (pc' := 97) rfl rfl rfl ?_
      refine own_callV X hx hZ (y := (⟨"com/example/runnel/runnel/apps/AppEnvironment", "instance", "()Ljava/lang/String;"⟩ : MethodName)) ev [] hown (own_w hw 76 rfl) (own_w hw 77 rfl) (own_w hw 79 rfl) (own_w hw 78 rfl) (own_w hw 28 rfl) (own_w hw 80 rfl) (by decide) (rm_instanceN l Z a0 hw [] ev  h15 n0 Z0 G_instance) E_ev eT (W := 0) (by decide) (by decide) (cells' := 13) (slots' := 30) rfl rfl (by decide) (by decide) (by rw [hml]; rfl) (lenOf own_pd_2829Ljava2flang2fString3b rfl) rfl (S := []) rfl (Nat.le_of_eq rfl) (hb hby at_97) (pc' := 100) rfl ?_
      intro v T h22 L lc X eT hq fN
      obtain ⟨rfl, Nq, hqe⟩ := hq
      have N := fN _ N Nq
      rw [hqe] at eT
      show own_W p e below (own_PostS Z own_EL s (Q_law Z p0 p1 p2 p3 cs h0 n0) 32 1152) T m 100 #[.val (.int p0), .val (.int p1), .val (.int p2), .val (.int p3), .val (.ref s0), .val (.ref s1), .val .null, .val (.ref ev)] [.null]
      refine own_ifnonnullN X hx (hb hby at_100) (pc' := 103) rfl ?_
      refine own_aload X hx (hb hby at_103) (pc' := 105) rfl rfl rfl ?_
      refine own_callV X hx hZ (y := (⟨"com/example/runnel/runnel/apps/AppEnvironment", "statusFile", "()Ljava/nio/file/Path;"⟩ : MethodName)) ev [] hown (own_w hw 81 rfl) (own_w hw 82 rfl) (own_w hw 84 rfl) (own_w hw 83 rfl) (own_w hw 28 rfl) (own_w hw 85 rfl) (by decide) (rm_statusFileN l Z a0 hw [] ev  h15 n0 Z0 G_statusFile) E_ev eT (W := 0) (by decide) (by decide) (cells' := 13) (slots' := 30) rfl rfl (by decide) (by decide) (by rw [hml]; rfl) (lenOf own_pd_2829Ljava2fnio2ffile2fPath3b rfl) rfl (S := []) rfl (Nat.le_of_eq rfl) (hb hby at_105) (pc' := 108) rfl ?_
      intro v T h23 L lc X eT hq fN
      obtain ⟨rfl, Nq, hqe⟩ := hq
      have N := fN _ N Nq
      rw [hqe] at eT
      show own_W p e below (own_PostS Z own_EL s (Q_law Z p0 p1 p2 p3 cs h0 n0) 32 1152) T m 108 #[.val (.int p0), .val (.int p1), .val (.int p2), .val (.int p3), .val (.ref s0), .val (.ref s1), .val .null, .val (.ref ev)] [.null]
      refine own_ifnonnullN X hx (hb hby at_108) (pc' := 111) rfl ?_
      refine own_aload X hx (hb hby at_111) (pc' := 113) rfl rfl rfl ?_
      refine own_callV X hx hZ (y := (⟨"com/example/runnel/runnel/apps/AppEnvironment", "positionFile", "()Ljava/nio/file/Path;"⟩ : MethodName)) ev [] hown (own_w hw 86 rfl) (own_w hw 87 rfl) (own_w hw 89 rfl) (own_w hw 88 rfl) (own_w hw 28 rfl) (own_w hw 90 rfl) (by decide) (rm_positionFileN l Z a0 hw [] ev  h15 n0 Z0 G_positionFile) E_ev eT (W := 0) (by decide) (by decide) (cells' := 13) (slots' := 30) rfl rfl (by decide) (by decide) (by rw [hml]; rfl) (lenOf own_pd_2829Ljava2fnio2ffile2fPath3b rfl) rfl (S := []) rfl (Nat.le_of_eq rfl) (hb hby at_113) (pc' := 116) rfl ?_
      intro v T h24 L lc X eT hq fN
      obtain ⟨rfl, Nq, hqe⟩ := hq
      have N := fN _ N Nq
      rw [hqe] at eT
      show own_W p e below (own_PostS Z own_EL s (Q_law Z p0 p1 p2 p3 cs h0 n0) 32 1152) T m 116 #[.val (.int p0), .val (.int p1), .val (.int p2), .val (.int p3), .val (.ref s0), .val (.ref s1), .val .null, .val (.ref ev)] [.null]
      refine own_ifnonnullN X hx (hb hby at_116) (pc' := 119) rfl ?_
      refine own_aload X hx (hb hby at_119) (pc' := 121) rfl rfl rfl ?_
      refine own_callV X hx hZ (y := (⟨"com/example/runnel/runnel/apps/AppEnvironment", "positionLock", "()Ljava/nio/file/Path;"⟩ : MethodName)) ev [] hown (own_w hw 91 rfl) (own_w hw 92 rfl) (own_w hw 94 rfl) (own_w hw 93 rfl) (own_w hw 28 rfl) (own_w hw 95 rfl) (by decide) (rm_lockN l Z a0 hw [] ev h15 n0 Z0 G_positionFile) E_ev eT (W := 0) (by decide) (by decide) (cells' := 13) (slots' := 30) rfl rfl (by decide) (by decide) (by rw [hml]; rfl) (lenOf own_pd_2829Ljava2fnio2ffile2fPath3b rfl) rfl (S := []) rfl (Nat.le_of_eq rfl) (hb hby at_121) (pc' := 124) rfl ?_
      intro v T h25 L lc X eT hq fN
      obtain ⟨rfl, Nq, hqe⟩ := hq
      have N := fN _ N Nq
      rw [hqe] at eT
      show own_W p e below (own_PostS Z own_EL s (Q_law Z p0 p1 p2 p3 cs h0 n0) 32 1152) T m 124 #[.val (.int p0), .val (.int p1), .val (.int p2), .val (.int p3), .val (.ref s0), .val (.ref s1), .val .null, .val (.ref ev)] [.null]
      refine own_ifnonnullN X hx (hb hby at_124) (pc' := 127) rfl ?_
      refine own_iconst X hx (1 : Int32) (hb hby at_127) (pc' := 128) rfl rfl ?_
      refine own_goto X hx (hb hby at_128) (by decide) (pc' := 132) rfl ?_
      refine own_retIS X hx hlk hZ eT hh hS hk hEL H CR (t := .boolean) (w' := (.int (1 : Int32))) Bd.returns (hb hby at_132) rfl rfl (by simp) (by decide) (by decide) ?_
      rw [eT]
      exact ⟨rfl, N⟩
  · refine own_aconst_null X hx (hb hby at_12) (pc' := 13) rfl ?_
    refine own_goto X hx (hb hby at_13) (by decide) (pc' := 20) rfl ?_
    refine own_astore X hx (hb hby at_20) (pc' := 22) rfl rfl (Ls' := #[.val (.int p0), .val (.int p1), .val (.int p2), .val (.int p3), .val (.ref s0), .val .null, .unset, .unset]) rfl ?_
    refine own_iloadN X hx (hb hby at_22) (pc' := 23) rfl rfl ?_
    refine own_iconst X hx (2 : Int32) (hb hby at_23) (pc' := 24) rfl rfl ?_
    refine own_iand X hx (hb hby at_24) (pc' := 25) rfl ?_
    refine own_if X hx (hb hby at_25) (by decide) (pcY := 32) (pcN := 28) rfl rfl (fun (hc25 : (p3 &&& (2 : Int32)) = (0 : Int32)) => ?_) (fun (hc25 : ¬ ((p3 &&& (2 : Int32)) = (0 : Int32))) => ?_)
    · refine own_iloadN X hx (hb hby at_32) (pc' := 33) rfl rfl ?_
      refine own_callSS X hx hZ [(.int p2)] hown (own_w hw 0 rfl) (own_w hw 1 rfl) (own_w hw 2 rfl) (own_w hw 3 rfl) (by decide) (rm_str l Z a0 hw hEL [] p2 cs h1 n0 Z0 S_C hcs) eT hS hk hEL H (W := 0) (by decide) (by decide) (cells' := 12) (slots' := 24) rfl rfl (by decide) (by decide) (by rw [hml]; rfl) (lenOf own_pd_28I29Ljava2flang2fString3b rfl) rfl (S := []) rfl (Nat.le_of_eq rfl) (hb hby at_33) (pc' := 36) rfl ?_
      intro v T h26 L lc vm0 k1 X eT hS hk hZ hown CQ hq fN
      obtain ⟨s2, rfl, Nq, Kq, E_s2⟩ := hq
      have N := fN _ N Nq
      have CR := CR.trans CQ
      have H := CQ.1
      have S_C := own_sta_keep S_C Kq ns0
      have E_s0 := E_s0.keep Kq
      have Z0 := Nat.le_trans Z0 Kq.1
      show own_W p e below (own_PostS Z own_EL s (Q_law Z p0 p1 p2 p3 cs h0 n0) 32 1152) T m 36 #[.val (.int p0), .val (.int p1), .val (.int p2), .val (.int p3), .val (.ref s0), .val .null, .unset, .unset] [(.ref s2)]
      refine own_astore X hx (hb hby at_36) (pc' := 38) rfl rfl (Ls' := #[.val (.int p0), .val (.int p1), .val (.int p2), .val (.int p3), .val (.ref s0), .val .null, .val (.ref s2), .unset]) rfl ?_
      refine own_aload X hx (hb hby at_38) (pc' := 40) rfl rfl rfl ?_
      refine own_aload X hx (hb hby at_40) (pc' := 42) rfl rfl rfl ?_
      refine own_aload X hx (hb hby at_42) (pc' := 44) rfl rfl rfl ?_
      refine own_callS X hx hZ [(.ref s0), .null, (.ref s2)] hown (own_w hw 26 rfl) (own_w hw 27 rfl) (own_w hw 28 rfl) (own_w hw 29 rfl) (by decide) (rm_of10 l Z a0 hw [] s0 s2 h26 n0 Z0) eT (W := 0) (by decide) (by decide) (cells' := 13) (slots' := 30) rfl rfl (by decide) (by decide) (by rw [hml]; rfl) (lenOf own_pd_28Ljava2flang2fString3bLjava2flang2fString3bLjava2flang2fString3b29Lcom2fexample2frunnel2frunnel2fapps2fAppEnvironment3b rfl) rfl (S := []) rfl (Nat.le_of_eq rfl) (hb hby at_44) (pc' := 47) rfl ?_
      intro v T h27 L lc X eT hq fN
      obtain ⟨ev, rfl, Nq, Kq, E_ev, G_brokerUri, G_input, G_output, G_instance, G_statusFile, G_positionFile⟩ := hq
      have N := fN _ N Nq
      have hsf : ∀ x ∈ ([] : List Addr), Safe Z own_EL vm0 h26 x := sf0
      have CR := CR.trans (CHr.keep Kq hsf H)
      have H := H.keep Kq hsf
      have hk := Nat.le_trans hk Kq.1
      have S_C := own_sta_keep S_C Kq ns0
      have E_s0 := E_s0.keep Kq
      have E_s2 := E_s2.keep Kq
      have Z0 := Nat.le_trans Z0 Kq.1
      show own_W p e below (own_PostS Z own_EL s (Q_law Z p0 p1 p2 p3 cs h0 n0) 32 1152) T m 47 #[.val (.int p0), .val (.int p1), .val (.int p2), .val (.int p3), .val (.ref s0), .val .null, .val (.ref s2), .unset] [(.ref ev)]
      refine own_astore X hx (hb hby at_47) (pc' := 49) rfl rfl (Ls' := #[.val (.int p0), .val (.int p1), .val (.int p2), .val (.int p3), .val (.ref s0), .val .null, .val (.ref s2), .val (.ref ev)]) rfl ?_
      refine own_aload X hx (hb hby at_49) (pc' := 51) rfl rfl rfl ?_
      refine own_ifnonnullY X hx (hb hby at_51) (by decide) (pc' := 56) rfl ?_
      refine own_aload X hx (hb hby at_56) (pc' := 58) rfl rfl rfl ?_
      refine own_callV X hx hZ (y := (⟨"com/example/runnel/runnel/apps/AppEnvironment", "brokerUri", "()Ljava/lang/String;"⟩ : MethodName)) ev [] hown (own_w hw 53 rfl) (own_w hw 54 rfl) (own_w hw 56 rfl) (own_w hw 55 rfl) (own_w hw 28 rfl) (own_w hw 57 rfl) (by decide) (rm_brokerUri l Z a0 hw [] ev s0 h27 n0 Z0 G_brokerUri) E_ev eT (W := 0) (by decide) (by decide) (cells' := 13) (slots' := 30) rfl rfl (by decide) (by decide) (by rw [hml]; rfl) (lenOf own_pd_2829Ljava2flang2fString3b rfl) rfl (S := []) rfl (Nat.le_of_eq rfl) (hb hby at_58) (pc' := 61) rfl ?_
      intro v T h28 L lc X eT hq fN
      obtain ⟨rfl, Nq, hqe⟩ := hq
      have N := fN _ N Nq
      rw [hqe] at eT
      show own_W p e below (own_PostS Z own_EL s (Q_law Z p0 p1 p2 p3 cs h0 n0) 32 1152) T m 61 #[.val (.int p0), .val (.int p1), .val (.int p2), .val (.int p3), .val (.ref s0), .val .null, .val (.ref s2), .val (.ref ev)] [(.ref s0)]
      refine own_aload X hx (hb hby at_61) (pc' := 63) rfl rfl rfl ?_
      refine own_callS X hx hZ [(.ref s0), (.ref s0)] hown (own_w hw 58 rfl) (own_w hw 59 rfl) (own_w hw 2 rfl) (own_w hw 60 rfl) (by decide) (rm_sm l Z a0 hw [] s0 h27 n0 Z0 E_s0) eT (W := 0) (by decide) (by decide) (cells' := 13) (slots' := 30) rfl rfl (by decide) (by decide) (by rw [hml]; rfl) (lenOf own_pd_28Ljava2flang2fString3bLjava2flang2fString3b29Z rfl) rfl (S := []) rfl (Nat.le_of_eq rfl) (hb hby at_63) (pc' := 66) rfl ?_
      intro v T h29 L lc X eT hq fN
      obtain ⟨rfl, Nq, hqe⟩ := hq
      have N := fN _ N Nq
      rw [hqe] at eT
      show own_W p e below (own_PostS Z own_EL s (Q_law Z p0 p1 p2 p3 cs h0 n0) 32 1152) T m 66 #[.val (.int p0), .val (.int p1), .val (.int p2), .val (.int p3), .val (.ref s0), .val .null, .val (.ref s2), .val (.ref ev)] [(.int (1 : Int32))]
      refine own_ifN X hx (hb hby at_66) (pc' := 69) rfl (show ¬ ((1 : Int32) = (0 : Int32)) from (by decide)) ?_
      refine own_aload X hx (hb hby at_69) (pc' := 71) rfl rfl rfl ?_
      refine own_callV X hx hZ (y := (⟨"com/example/runnel/runnel/apps/AppEnvironment", "input", "()Ljava/lang/String;"⟩ : MethodName)) ev [] hown (own_w hw 66 rfl) (own_w hw 67 rfl) (own_w hw 69 rfl) (own_w hw 68 rfl) (own_w hw 28 rfl) (own_w hw 70 rfl) (by decide) (rm_inputN l Z a0 hw [] ev  h27 n0 Z0 G_input) E_ev eT (W := 0) (by decide) (by decide) (cells' := 13) (slots' := 30) rfl rfl (by decide) (by decide) (by rw [hml]; rfl) (lenOf own_pd_2829Ljava2flang2fString3b rfl) rfl (S := []) rfl (Nat.le_of_eq rfl) (hb hby at_71) (pc' := 74) rfl ?_
      intro v T h30 L lc X eT hq fN
      obtain ⟨rfl, Nq, hqe⟩ := hq
      have N := fN _ N Nq
      rw [hqe] at eT
      show own_W p e below (own_PostS Z own_EL s (Q_law Z p0 p1 p2 p3 cs h0 n0) 32 1152) T m 74 #[.val (.int p0), .val (.int p1), .val (.int p2), .val (.int p3), .val (.ref s0), .val .null, .val (.ref s2), .val (.ref ev)] [.null]
      refine own_aload X hx (hb hby at_74) (pc' := 76) rfl rfl rfl ?_
      refine own_callS X hx hZ [.null, .null] hown (own_w hw 58 rfl) (own_w hw 59 rfl) (own_w hw 2 rfl) (own_w hw 60 rfl) (by decide) (rm_smN l Z a0 hw [] h27 n0 Z0) eT (W := 0) (by decide) (by decide) (cells' := 13) (slots' := 30) rfl rfl (by decide) (by decide) (by rw [hml]; rfl) (lenOf own_pd_28Ljava2flang2fString3bLjava2flang2fString3b29Z rfl) rfl (S := []) rfl (Nat.le_of_eq rfl) (hb hby at_76) (pc' := 79) rfl ?_
      intro v T h31 L lc X eT hq fN
      obtain ⟨rfl, Nq, hqe⟩ := hq
      have N := fN _ N Nq
      rw [hqe] at eT
      show own_W p e below (own_PostS Z own_EL s (Q_law Z p0 p1 p2 p3 cs h0 n0) 32 1152) T m 79 #[.val (.int p0), .val (.int p1), .val (.int p2), .val (.int p3), .val (.ref s0), .val .null, .val (.ref s2), .val (.ref ev)] [(.int (1 : Int32))]
      refine own_ifN X hx (hb hby at_79) (pc' := 82) rfl (show ¬ ((1 : Int32) = (0 : Int32)) from (by decide)) ?_
      refine own_aload X hx (hb hby at_82) (pc' := 84) rfl rfl rfl ?_
      refine own_callV X hx hZ (y := (⟨"com/example/runnel/runnel/apps/AppEnvironment", "output", "()Ljava/lang/String;"⟩ : MethodName)) ev [] hown (own_w hw 71 rfl) (own_w hw 72 rfl) (own_w hw 74 rfl) (own_w hw 73 rfl) (own_w hw 28 rfl) (own_w hw 75 rfl) (by decide) (rm_output l Z a0 hw [] ev s2 h27 n0 Z0 G_output) E_ev eT (W := 0) (by decide) (by decide) (cells' := 13) (slots' := 30) rfl rfl (by decide) (by decide) (by rw [hml]; rfl) (lenOf own_pd_2829Ljava2flang2fString3b rfl) rfl (S := []) rfl (Nat.le_of_eq rfl) (hb hby at_84) (pc' := 87) rfl ?_
      intro v T h32 L lc X eT hq fN
      obtain ⟨rfl, Nq, hqe⟩ := hq
      have N := fN _ N Nq
      rw [hqe] at eT
      show own_W p e below (own_PostS Z own_EL s (Q_law Z p0 p1 p2 p3 cs h0 n0) 32 1152) T m 87 #[.val (.int p0), .val (.int p1), .val (.int p2), .val (.int p3), .val (.ref s0), .val .null, .val (.ref s2), .val (.ref ev)] [(.ref s2)]
      refine own_aload X hx (hb hby at_87) (pc' := 89) rfl rfl rfl ?_
      refine own_callS X hx hZ [(.ref s2), (.ref s2)] hown (own_w hw 58 rfl) (own_w hw 59 rfl) (own_w hw 2 rfl) (own_w hw 60 rfl) (by decide) (rm_sm l Z a0 hw [] s2 h27 n0 Z0 E_s2) eT (W := 0) (by decide) (by decide) (cells' := 13) (slots' := 30) rfl rfl (by decide) (by decide) (by rw [hml]; rfl) (lenOf own_pd_28Ljava2flang2fString3bLjava2flang2fString3b29Z rfl) rfl (S := []) rfl (Nat.le_of_eq rfl) (hb hby at_89) (pc' := 92) rfl ?_
      intro v T h33 L lc X eT hq fN
      obtain ⟨rfl, Nq, hqe⟩ := hq
      have N := fN _ N Nq
      rw [hqe] at eT
      show own_W p e below (own_PostS Z own_EL s (Q_law Z p0 p1 p2 p3 cs h0 n0) 32 1152) T m 92 #[.val (.int p0), .val (.int p1), .val (.int p2), .val (.int p3), .val (.ref s0), .val .null, .val (.ref s2), .val (.ref ev)] [(.int (1 : Int32))]
      refine own_ifN X hx (hb hby at_92) (pc' := 95) rfl (show ¬ ((1 : Int32) = (0 : Int32)) from (by decide)) ?_
      refine own_aload X hx (hb hby at_95) (pc' := 97) rfl rfl rfl ?_
      refine own_callV X hx hZ (y := (⟨"com/example/runnel/runnel/apps/AppEnvironment", "instance", "()Ljava/lang/String;"⟩ : MethodName)) ev [] hown (own_w hw 76 rfl) (own_w hw 77 rfl) (own_w hw 79 rfl) (own_w hw 78 rfl) (own_w hw 28 rfl) (own_w hw 80 rfl) (by decide) (rm_instanceN l Z a0 hw [] ev  h27 n0 Z0 G_instance) E_ev eT (W := 0) (by decide) (by decide) (cells' := 13) (slots' := 30) rfl rfl (by decide) (by decide) (by rw [hml]; rfl) (lenOf own_pd_2829Ljava2flang2fString3b rfl) rfl (S := []) rfl (Nat.le_of_eq rfl) (hb hby at_97) (pc' := 100) rfl ?_
      intro v T h34 L lc X eT hq fN
      obtain ⟨rfl, Nq, hqe⟩ := hq
      have N := fN _ N Nq
      rw [hqe] at eT
      show own_W p e below (own_PostS Z own_EL s (Q_law Z p0 p1 p2 p3 cs h0 n0) 32 1152) T m 100 #[.val (.int p0), .val (.int p1), .val (.int p2), .val (.int p3), .val (.ref s0), .val .null, .val (.ref s2), .val (.ref ev)] [.null]
      refine own_ifnonnullN X hx (hb hby at_100) (pc' := 103) rfl ?_
      refine own_aload X hx (hb hby at_103) (pc' := 105) rfl rfl rfl ?_
      refine own_callV X hx hZ (y := (⟨"com/example/runnel/runnel/apps/AppEnvironment", "statusFile", "()Ljava/nio/file/Path;"⟩ : MethodName)) ev [] hown (own_w hw 81 rfl) (own_w hw 82 rfl) (own_w hw 84 rfl) (own_w hw 83 rfl) (own_w hw 28 rfl) (own_w hw 85 rfl) (by decide) (rm_statusFileN l Z a0 hw [] ev  h27 n0 Z0 G_statusFile) E_ev eT (W := 0) (by decide) (by decide) (cells' := 13) (slots' := 30) rfl rfl (by decide) (by decide) (by rw [hml]; rfl) (lenOf own_pd_2829Ljava2fnio2ffile2fPath3b rfl) rfl (S := []) rfl (Nat.le_of_eq rfl) (hb hby at_105) (pc' := 108) rfl ?_
      intro v T h35 L lc X eT hq fN
      obtain ⟨rfl, Nq, hqe⟩ := hq
      have N := fN _ N Nq
      rw [hqe] at eT
      show own_W p e below (own_PostS Z own_EL s (Q_law Z p0 p1 p2 p3 cs h0 n0) 32 1152) T m 108 #[.val (.int p0), .val (.int p1), .val (.int p2), .val (.int p3), .val (.ref s0), .val .null, .val (.ref s2), .val (.ref ev)] [.null]
      refine own_ifnonnullN X hx (hb hby at_108) (pc' := 111) rfl ?_
      refine own_aload X hx (hb hby at_111) (pc' := 113) rfl rfl rfl ?_
      refine own_callV X hx hZ (y := (⟨"com/example/runnel/runnel/apps/AppEnvironment", "positionFile", "()Ljava/nio/file/Path;"⟩ : MethodName)) ev [] hown (own_w hw 86 rfl) (own_w hw 87 rfl) (own_w hw 89 rfl) (own_w hw 88 rfl) (own_w hw 28 rfl) (own_w hw 90 rfl) (by decide) (rm_positionFileN l Z a0 hw [] ev  h27 n0 Z0 G_positionFile) E_ev eT (W := 0) (by decide) (by decide) (cells' := 13) (slots' := 30) rfl rfl (by decide) (by decide) (by rw [hml]; rfl) (lenOf own_pd_2829Ljava2fnio2ffile2fPath3b rfl) rfl (S := []) rfl (Nat.le_of_eq rfl) (hb hby at_113) (pc' := 116) rfl ?_
      intro v T h36 L lc X eT hq fN
      obtain ⟨rfl, Nq, hqe⟩ := hq
      have N := fN _ N Nq
      rw [hqe] at eT
      show own_W p e below (own_PostS Z own_EL s (Q_law Z p0 p1 p2 p3 cs h0 n0) 32 1152) T m 116 #[.val (.int p0), .val (.int p1), .val (.int p2), .val (.int p3), .val (.ref s0), .val .null, .val (.ref s2), .val (.ref ev)] [.null]
      refine own_ifnonnullN X hx (hb hby at_116) (pc' := 119) rfl ?_
      refine own_aload X hx (hb hby at_119) (pc' := 121) rfl rfl rfl ?_
      refine own_callV X hx hZ (y := (⟨"com/example/runnel/runnel/apps/AppEnvironment", "positionLock", "()Ljava/nio/file/Path;"⟩ : MethodName)) ev [] hown (own_w hw 91 rfl) (own_w hw 92 rfl) (own_w hw 94 rfl) (own_w hw 93 rfl) (own_w hw 28 rfl) (own_w hw 95 rfl) (by decide) (rm_lockN l Z a0 hw [] ev h27 n0 Z0 G_positionFile) E_ev eT (W := 0) (by decide) (by decide) (cells' := 13) (slots' := 30) rfl rfl (by decide) (by decide) (by rw [hml]; rfl) (lenOf own_pd_2829Ljava2fnio2ffile2fPath3b rfl) rfl (S := []) rfl (Nat.le_of_eq rfl) (hb hby at_121) (pc' := 124) rfl ?_
      intro v T h37 L lc X eT hq fN
      obtain ⟨rfl, Nq, hqe⟩ := hq
      have N := fN _ N Nq
      rw [hqe] at eT
      show own_W p e below (own_PostS Z own_EL s (Q_law Z p0 p1 p2 p3 cs h0 n0) 32 1152) T m 124 #[.val (.int p0), .val (.int p1), .val (.int p2), .val (.int p3), .val (.ref s0), .val .null, .val (.ref s2), .val (.ref ev)] [.null]
      refine own_ifnonnullN X hx (hb hby at_124) (pc' := 127) rfl ?_
      refine own_iconst X hx (1 : Int32) (hb hby at_127) (pc' := 128) rfl rfl ?_
      refine own_goto X hx (hb hby at_128) (by decide) (pc' := 132) rfl ?_
      refine own_retIS X hx hlk hZ eT hh hS hk hEL H CR (t := .boolean) (w' := (.int (1 : Int32))) Bd.returns (hb hby at_132) rfl rfl (by simp) (by decide) (by decide) ?_
      rw [eT]
      exact ⟨rfl, N⟩
    · refine own_aconst_null X hx (hb hby at_28) (pc' := 29) rfl ?_
      refine own_goto X hx (hb hby at_29) (by decide) (pc' := 36) rfl ?_
      refine own_astore X hx (hb hby at_36) (pc' := 38) rfl rfl (Ls' := #[.val (.int p0), .val (.int p1), .val (.int p2), .val (.int p3), .val (.ref s0), .val .null, .val .null, .unset]) rfl ?_
      refine own_aload X hx (hb hby at_38) (pc' := 40) rfl rfl rfl ?_
      refine own_aload X hx (hb hby at_40) (pc' := 42) rfl rfl rfl ?_
      refine own_aload X hx (hb hby at_42) (pc' := 44) rfl rfl rfl ?_
      refine own_callS X hx hZ [(.ref s0), .null, .null] hown (own_w hw 26 rfl) (own_w hw 27 rfl) (own_w hw 28 rfl) (own_w hw 29 rfl) (by decide) (rm_of11 l Z a0 hw [] s0 h1 n0 Z0) eT (W := 0) (by decide) (by decide) (cells' := 7) (slots' := 18) rfl rfl (by decide) (by decide) (by rw [hml]; rfl) (lenOf own_pd_28Ljava2flang2fString3bLjava2flang2fString3bLjava2flang2fString3b29Lcom2fexample2frunnel2frunnel2fapps2fAppEnvironment3b rfl) rfl (S := []) rfl (Nat.le_of_eq rfl) (hb hby at_44) (pc' := 47) rfl ?_
      intro v T h38 L lc X eT hq fN
      obtain ⟨ev, rfl, Nq, Kq, E_ev, G_brokerUri, G_input, G_output, G_instance, G_statusFile, G_positionFile⟩ := hq
      have N := fN _ N Nq
      have hsf : ∀ x ∈ ([] : List Addr), Safe Z own_EL vm0 h1 x := sf0
      have CR := CR.trans (CHr.keep Kq hsf H)
      have H := H.keep Kq hsf
      have hk := Nat.le_trans hk Kq.1
      have S_C := own_sta_keep S_C Kq ns0
      have E_s0 := E_s0.keep Kq
      have Z0 := Nat.le_trans Z0 Kq.1
      show own_W p e below (own_PostS Z own_EL s (Q_law Z p0 p1 p2 p3 cs h0 n0) 32 1152) T m 47 #[.val (.int p0), .val (.int p1), .val (.int p2), .val (.int p3), .val (.ref s0), .val .null, .val .null, .unset] [(.ref ev)]
      refine own_astore X hx (hb hby at_47) (pc' := 49) rfl rfl (Ls' := #[.val (.int p0), .val (.int p1), .val (.int p2), .val (.int p3), .val (.ref s0), .val .null, .val .null, .val (.ref ev)]) rfl ?_
      refine own_aload X hx (hb hby at_49) (pc' := 51) rfl rfl rfl ?_
      refine own_ifnonnullY X hx (hb hby at_51) (by decide) (pc' := 56) rfl ?_
      refine own_aload X hx (hb hby at_56) (pc' := 58) rfl rfl rfl ?_
      refine own_callV X hx hZ (y := (⟨"com/example/runnel/runnel/apps/AppEnvironment", "brokerUri", "()Ljava/lang/String;"⟩ : MethodName)) ev [] hown (own_w hw 53 rfl) (own_w hw 54 rfl) (own_w hw 56 rfl) (own_w hw 55 rfl) (own_w hw 28 rfl) (own_w hw 57 rfl) (by decide) (rm_brokerUri l Z a0 hw [] ev s0 h38 n0 Z0 G_brokerUri) E_ev eT (W := 0) (by decide) (by decide) (cells' := 7) (slots' := 18) rfl rfl (by decide) (by decide) (by rw [hml]; rfl) (lenOf own_pd_2829Ljava2flang2fString3b rfl) rfl (S := []) rfl (Nat.le_of_eq rfl) (hb hby at_58) (pc' := 61) rfl ?_
      intro v T h39 L lc X eT hq fN
      obtain ⟨rfl, Nq, hqe⟩ := hq
      have N := fN _ N Nq
      rw [hqe] at eT
      show own_W p e below (own_PostS Z own_EL s (Q_law Z p0 p1 p2 p3 cs h0 n0) 32 1152) T m 61 #[.val (.int p0), .val (.int p1), .val (.int p2), .val (.int p3), .val (.ref s0), .val .null, .val .null, .val (.ref ev)] [(.ref s0)]
      refine own_aload X hx (hb hby at_61) (pc' := 63) rfl rfl rfl ?_
      refine own_callS X hx hZ [(.ref s0), (.ref s0)] hown (own_w hw 58 rfl) (own_w hw 59 rfl) (own_w hw 2 rfl) (own_w hw 60 rfl) (by decide) (rm_sm l Z a0 hw [] s0 h38 n0 Z0 E_s0) eT (W := 0) (by decide) (by decide) (cells' := 7) (slots' := 18) rfl rfl (by decide) (by decide) (by rw [hml]; rfl) (lenOf own_pd_28Ljava2flang2fString3bLjava2flang2fString3b29Z rfl) rfl (S := []) rfl (Nat.le_of_eq rfl) (hb hby at_63) (pc' := 66) rfl ?_
      intro v T h40 L lc X eT hq fN
      obtain ⟨rfl, Nq, hqe⟩ := hq
      have N := fN _ N Nq
      rw [hqe] at eT
      show own_W p e below (own_PostS Z own_EL s (Q_law Z p0 p1 p2 p3 cs h0 n0) 32 1152) T m 66 #[.val (.int p0), .val (.int p1), .val (.int p2), .val (.int p3), .val (.ref s0), .val .null, .val .null, .val (.ref ev)] [(.int (1 : Int32))]
      refine own_ifN X hx (hb hby at_66) (pc' := 69) rfl (show ¬ ((1 : Int32) = (0 : Int32)) from (by decide)) ?_
      refine own_aload X hx (hb hby at_69) (pc' := 71) rfl rfl rfl ?_
      refine own_callV X hx hZ (y := (⟨"com/example/runnel/runnel/apps/AppEnvironment", "input", "()Ljava/lang/String;"⟩ : MethodName)) ev [] hown (own_w hw 66 rfl) (own_w hw 67 rfl) (own_w hw 69 rfl) (own_w hw 68 rfl) (own_w hw 28 rfl) (own_w hw 70 rfl) (by decide) (rm_inputN l Z a0 hw [] ev  h38 n0 Z0 G_input) E_ev eT (W := 0) (by decide) (by decide) (cells' := 7) (slots' := 18) rfl rfl (by decide) (by decide) (by rw [hml]; rfl) (lenOf own_pd_2829Ljava2flang2fString3b rfl) rfl (S := []) rfl (Nat.le_of_eq rfl) (hb hby at_71) (pc' := 74) rfl ?_
      intro v T h41 L lc X eT hq fN
      obtain ⟨rfl, Nq, hqe⟩ := hq
      have N := fN _ N Nq
      rw [hqe] at eT
      show own_W p e below (own_PostS Z own_EL s (Q_law Z p0 p1 p2 p3 cs h0 n0) 32 1152) T m 74 #[.val (.int p0), .val (.int p1), .val (.int p2), .val (.int p3), .val (.ref s0), .val .null, .val .null, .val (.ref ev)] [.null]
      refine own_aload X hx (hb hby at_74) (pc' := 76) rfl rfl rfl ?_
      refine own_callS X hx hZ [.null, .null] hown (own_w hw 58 rfl) (own_w hw 59 rfl) (own_w hw 2 rfl) (own_w hw 60 rfl) (by decide) (rm_smN l Z a0 hw [] h38 n0 Z0) eT (W := 0) (by decide) (by decide) (cells' := 7) (slots' := 18) rfl rfl (by decide) (by decide) (by rw [hml]; rfl) (lenOf own_pd_28Ljava2flang2fString3bLjava2flang2fString3b29Z rfl) rfl (S := []) rfl (Nat.le_of_eq rfl) (hb hby at_76) (pc' := 79) rfl ?_
      intro v T h42 L lc X eT hq fN
      obtain ⟨rfl, Nq, hqe⟩ := hq
      have N := fN _ N Nq
      rw [hqe] at eT
      show own_W p e below (own_PostS Z own_EL s (Q_law Z p0 p1 p2 p3 cs h0 n0) 32 1152) T m 79 #[.val (.int p0), .val (.int p1), .val (.int p2), .val (.int p3), .val (.ref s0), .val .null, .val .null, .val (.ref ev)] [(.int (1 : Int32))]
      refine own_ifN X hx (hb hby at_79) (pc' := 82) rfl (show ¬ ((1 : Int32) = (0 : Int32)) from (by decide)) ?_
      refine own_aload X hx (hb hby at_82) (pc' := 84) rfl rfl rfl ?_
      refine own_callV X hx hZ (y := (⟨"com/example/runnel/runnel/apps/AppEnvironment", "output", "()Ljava/lang/String;"⟩ : MethodName)) ev [] hown (own_w hw 71 rfl) (own_w hw 72 rfl) (own_w hw 74 rfl) (own_w hw 73 rfl) (own_w hw 28 rfl) (own_w hw 75 rfl) (by decide) (rm_outputN l Z a0 hw [] ev  h38 n0 Z0 G_output) E_ev eT (W := 0) (by decide) (by decide) (cells' := 7) (slots' := 18) rfl rfl (by decide) (by decide) (by rw [hml]; rfl) (lenOf own_pd_2829Ljava2flang2fString3b rfl) rfl (S := []) rfl (Nat.le_of_eq rfl) (hb hby at_84) (pc' := 87) rfl ?_
      intro v T h43 L lc X eT hq fN
      obtain ⟨rfl, Nq, hqe⟩ := hq
      have N := fN _ N Nq
      rw [hqe] at eT
      show own_W p e below (own_PostS Z own_EL s (Q_law Z p0 p1 p2 p3 cs h0 n0) 32 1152) T m 87 #[.val (.int p0), .val (.int p1), .val (.int p2), .val (.int p3), .val (.ref s0), .val .null, .val .null, .val (.ref ev)] [.null]
      refine own_aload X hx (hb hby at_87) (pc' := 89) rfl rfl rfl ?_
      refine own_callS X hx hZ [.null, .null] hown (own_w hw 58 rfl) (own_w hw 59 rfl) (own_w hw 2 rfl) (own_w hw 60 rfl) (by decide) (rm_smN l Z a0 hw [] h38 n0 Z0) eT (W := 0) (by decide) (by decide) (cells' := 7) (slots' := 18) rfl rfl (by decide) (by decide) (by rw [hml]; rfl) (lenOf own_pd_28Ljava2flang2fString3bLjava2flang2fString3b29Z rfl) rfl (S := []) rfl (Nat.le_of_eq rfl) (hb hby at_89) (pc' := 92) rfl ?_
      intro v T h44 L lc X eT hq fN
      obtain ⟨rfl, Nq, hqe⟩ := hq
      have N := fN _ N Nq
      rw [hqe] at eT
      show own_W p e below (own_PostS Z own_EL s (Q_law Z p0 p1 p2 p3 cs h0 n0) 32 1152) T m 92 #[.val (.int p0), .val (.int p1), .val (.int p2), .val (.int p3), .val (.ref s0), .val .null, .val .null, .val (.ref ev)] [(.int (1 : Int32))]
      refine own_ifN X hx (hb hby at_92) (pc' := 95) rfl (show ¬ ((1 : Int32) = (0 : Int32)) from (by decide)) ?_
      refine own_aload X hx (hb hby at_95) (pc' := 97) rfl rfl rfl ?_
      refine own_callV X hx hZ (y := (⟨"com/example/runnel/runnel/apps/AppEnvironment", "instance", "()Ljava/lang/String;"⟩ : MethodName)) ev [] hown (own_w hw 76 rfl) (own_w hw 77 rfl) (own_w hw 79 rfl) (own_w hw 78 rfl) (own_w hw 28 rfl) (own_w hw 80 rfl) (by decide) (rm_instanceN l Z a0 hw [] ev  h38 n0 Z0 G_instance) E_ev eT (W := 0) (by decide) (by decide) (cells' := 7) (slots' := 18) rfl rfl (by decide) (by decide) (by rw [hml]; rfl) (lenOf own_pd_2829Ljava2flang2fString3b rfl) rfl (S := []) rfl (Nat.le_of_eq rfl) (hb hby at_97) (pc' := 100) rfl ?_
      intro v T h45 L lc X eT hq fN
      obtain ⟨rfl, Nq, hqe⟩ := hq
      have N := fN _ N Nq
      rw [hqe] at eT
      show own_W p e below (own_PostS Z own_EL s (Q_law Z p0 p1 p2 p3 cs h0 n0) 32 1152) T m 100 #[.val (.int p0), .val (.int p1), .val (.int p2), .val (.int p3), .val (.ref s0), .val .null, .val .null, .val (.ref ev)] [.null]
      refine own_ifnonnullN X hx (hb hby at_100) (pc' := 103) rfl ?_
      refine own_aload X hx (hb hby at_103) (pc' := 105) rfl rfl rfl ?_
      refine own_callV X hx hZ (y := (⟨"com/example/runnel/runnel/apps/AppEnvironment", "statusFile", "()Ljava/nio/file/Path;"⟩ : MethodName)) ev [] hown (own_w hw 81 rfl) (own_w hw 82 rfl) (own_w hw 84 rfl) (own_w hw 83 rfl) (own_w hw 28 rfl) (own_w hw 85 rfl) (by decide) (rm_statusFileN l Z a0 hw [] ev  h38 n0 Z0 G_statusFile) E_ev eT (W := 0) (by decide) (by decide) (cells' := 7) (slots' := 18) rfl rfl (by decide) (by decide) (by rw [hml]; rfl) (lenOf own_pd_2829Ljava2fnio2ffile2fPath3b rfl) rfl (S := []) rfl (Nat.le_of_eq rfl) (hb hby at_105) (pc' := 108) rfl ?_
      intro v T h46 L lc X eT hq fN
      obtain ⟨rfl, Nq, hqe⟩ := hq
      have N := fN _ N Nq
      rw [hqe] at eT
      show own_W p e below (own_PostS Z own_EL s (Q_law Z p0 p1 p2 p3 cs h0 n0) 32 1152) T m 108 #[.val (.int p0), .val (.int p1), .val (.int p2), .val (.int p3), .val (.ref s0), .val .null, .val .null, .val (.ref ev)] [.null]
      refine own_ifnonnullN X hx (hb hby at_108) (pc' := 111) rfl ?_
      refine own_aload X hx (hb hby at_111) (pc' := 113) rfl rfl rfl ?_
      refine own_callV X hx hZ (y := (⟨"com/example/runnel/runnel/apps/AppEnvironment", "positionFile", "()Ljava/nio/file/Path;"⟩ : MethodName)) ev [] hown (own_w hw 86 rfl) (own_w hw 87 rfl) (own_w hw 89 rfl) (own_w hw 88 rfl) (own_w hw 28 rfl) (own_w hw 90 rfl) (by decide) (rm_positionFileN l Z a0 hw [] ev  h38 n0 Z0 G_positionFile) E_ev eT (W := 0) (by decide) (by decide) (cells' := 7) (slots' := 18) rfl rfl (by decide) (by decide) (by rw [hml]; rfl) (lenOf own_pd_2829Ljava2fnio2ffile2fPath3b rfl) rfl (S := []) rfl (Nat.le_of_eq rfl) (hb hby at_113) (pc' := 116) rfl ?_
      intro v T h47 L lc X eT hq fN
      obtain ⟨rfl, Nq, hqe⟩ := hq
      have N := fN _ N Nq
      rw [hqe] at eT
      show own_W p e below (own_PostS Z own_EL s (Q_law Z p0 p1 p2 p3 cs h0 n0) 32 1152) T m 116 #[.val (.int p0), .val (.int p1), .val (.int p2), .val (.int p3), .val (.ref s0), .val .null, .val .null, .val (.ref ev)] [.null]
      refine own_ifnonnullN X hx (hb hby at_116) (pc' := 119) rfl ?_
      refine own_aload X hx (hb hby at_119) (pc' := 121) rfl rfl rfl ?_
      refine own_callV X hx hZ (y := (⟨"com/example/runnel/runnel/apps/AppEnvironment", "positionLock", "()Ljava/nio/file/Path;"⟩ : MethodName)) ev [] hown (own_w hw 91 rfl) (own_w hw 92 rfl) (own_w hw 94 rfl) (own_w hw 93 rfl) (own_w hw 28 rfl) (own_w hw 95 rfl) (by decide) (rm_lockN l Z a0 hw [] ev h38 n0 Z0 G_positionFile) E_ev eT (W := 0) (by decide) (by decide) (cells' := 7) (slots' := 18) rfl rfl (by decide) (by decide) (by rw [hml]; rfl) (lenOf own_pd_2829Ljava2fnio2ffile2fPath3b rfl) rfl (S := []) rfl (Nat.le_of_eq rfl) (hb hby at_121) (pc' := 124) rfl ?_
      intro v T h48 L lc X eT hq fN
      obtain ⟨rfl, Nq, hqe⟩ := hq
      have N := fN _ N Nq
      rw [hqe] at eT
      show own_W p e below (own_PostS Z own_EL s (Q_law Z p0 p1 p2 p3 cs h0 n0) 32 1152) T m 124 #[.val (.int p0), .val (.int p1), .val (.int p2), .val (.int p3), .val (.ref s0), .val .null, .val .null, .val (.ref ev)] [.null]
      refine own_ifnonnullN X hx (hb hby at_124) (pc' := 127) rfl ?_
      refine own_iconst X hx (1 : Int32) (hb hby at_127) (pc' := 128) rfl rfl ?_
      refine own_goto X hx (hb hby at_128) (by decide) (pc' := 132) rfl ?_
      refine own_retIS X hx hlk hZ eT hh hS hk hEL H CR (t := .boolean) (w' := (.int (1 : Int32))) Bd.returns (hb hby at_132) rfl rfl (by simp) (by decide) (by decide) ?_
      rw [eT]
      exact ⟨rfl, N⟩
set_option maxRecDepth 65536 in
set_option maxHeartbeats 40000000 in
theorem comes_1 {Post : Tables → Env → Array Value → State → Outcome → State → Prop} (hpost : ∀ tb e args s v u, (limb_1_1.after args s (.returned v) u = true ∧ limb_1_2.after args s (.returned v) u = true ∧ True) → ReturnedEndW s (.returned v) u (Jvm.fieldLocs frame_1_writes args s ++ Jvm.arrayLocs frame_1_arrays args s ++ Jvm.staticLocs frame_1_statics s) 32 1152 → Post tb e args s (.returned v) u) :
    ArmFor flags0 classFile x code maxLocals ret World_1 tables_1 room_1 Calls_1 rest_1 Pre_1 Post := by
  intro l hfl _ _ p e ha hc hk s m args below hf hA hF happ hP
  obtain ⟨hcalls, hrest, hpre⟩ := hP
  obtain ⟨-, -, -, hnamed, -, -, -, hat⟩ := (Spec.applies_iff hf).mp happ
  obtain ⟨hg, hn⟩ := and_e (Cond.before_iff.mp (show (Jvm.Cond.and given_1 narrow_1).before args s = true from hpre))
  obtain ⟨gc, gr0⟩ := and_e hg
  obtain ⟨ga0, gr1⟩ := and_e gr0
  obtain ⟨ga1, gr2⟩ := and_e gr1
  obtain ⟨ga2, gr3⟩ := and_e gr2
  obtain ⟨w0, w1, w2, w3, rfl⟩ : ∃ w0 w1 w2 w3 : Value, args = #[w0, w1, w2, w3] := by
    have hs : args.size = 4 := by simpa [Cond.value, given_1] using gc
    obtain ⟨L⟩ := args
    match L, hs with
    | [w0, w1, w2, w3], _ => exact ⟨w0, w1, w2, w3, rfl⟩
  have hw := fun d (hd : d ∈ tables_1) => atoms_spec (ws := Jvm.Cond.code x code maxLocals ret :: tables_1) hat d (List.mem_cons_of_mem _ hd)
  obtain ⟨i0, ei0⟩ := is_v ga0
  obtain rfl : w0 = (.int i0) := Option.some.inj ei0
  obtain ⟨i1, ei1⟩ := is_v ga1
  obtain rfl : w1 = (.int i1) := Option.some.inj ei1
  obtain ⟨i2, ei2⟩ := is_v ga2
  obtain rfl : w2 = (.int i2) := Option.some.inj ei2
  obtain ⟨i3, ei3⟩ := is_v gr3
  obtain rfl : w3 = (.int i3) := Option.some.inj ei3
  obtain ⟨hsets, hown0⟩ := atoms_of _ (rest_1_c_eq ▸ (show rest_1_c.before _ s = true from hrest))
  obtain ⟨cs, ecs⟩ := is_v (Cond.before_iff.mp (hsets _ (List.mem_of_getElem? (i := 1) rfl)))
  have SC := Sta.start ecs (Or.inl (hsets _ (List.mem_of_getElem? (i := 0) rfl)))
  have hcs : ¬ cs = 0 := fun q => by
      have z := not_v (Cond.before_iff.mp (hsets _ (List.mem_of_getElem? (i := 2) rfl)))
      rw [q] at ecs
      have u := eq_i ecs (Term.int_eval (0)) rfl
      rw [u] at z; cases z
  obtain ⟨fm, efm, hfm⟩ := isR_v (Cond.before_iff.mp (hsets _ (List.mem_of_getElem? (i := 8) rfl)))
  have SM := Sta.start efm (Or.inl (hsets _ (List.mem_of_getElem? (i := 7) rfl)))
  have hEL : EW s _ own_EL := (EW.cons (own_w hw 18 rfl) own_txt_18.1 EW.nil)
  have H0 : CHv s own_EL s.vm s.heap := CHv.start hEL (fun p hp => hcalls.1 p hp) (hsets _ (List.mem_of_getElem? (i := 2) rfl)) (own_w hw 19 rfl) (own_w hw 5 rfl)
  obtain ⟨n, o, h1, h2, h3, _, L, rfl, ⟨rfl, N⟩, -, hq⟩ := rm_law l s _ hw hEL tables_1 i0 i1 i2 i3 cs s.heap s.heap.size (Nat.le_refl _) SC hcs p e ha hc hk s m _ below hf ((Spec.applies_iff_loose hf).mp happ).1 ⟨rfl, State.Warmed39.refl s, rfl, H0⟩ trivial
  refine ⟨n, _, h1, h2, h3, hpost _ _ _ _ _ _ ⟨Cond.after_iff.mpr rfl, Cond.after_iff.mpr (eq_i res_at (Term.int_eval (1)) rfl), trivial⟩ ⟨hq.1, hq.2.1, hq.2.2.1, (hq.2.2.2.sift fun y hy => Or.inr (N y hy)).mono (by decide) (by decide)⟩⟩
theorem main_1_1 : Claimed_1_1 := comes_1 fun _ _ _ _ _ _ h hF => ⟨h.1, hF⟩
theorem main_1_2 : Claimed_1_2 := comes_1 fun _ _ _ _ _ _ h hF => ⟨h.2.1, hF⟩
end Jvm.Pilot.@@N@@
namespace Jvm.Pilot.@@N@@
open Jvm Jvm.ClassFile Sem Op Lib Jvm.Free Jvm.Stand Jvm.Pilot.@@N@@.Jvm.D
/-! MADE BY PROGRAM (witnessworld.py) out of the Statement's table words and the real class files: 21 classes; the members and pool entries that the words name. The judged class is class 1, her method 1. -/
namespace start1
open Jvm.ClassFile
def u (s : String) : CpInfo := .utf8 (stringToUtf16 s)
/-- a pool by its gaps: so many unusable entries, then the entry; so many at the end -/
def gap : Nat → List CpInfo → List CpInfo
  | 0, r => r
  | n + 1, r => .unusable :: gap n r
def poolList (es : List (Nat × CpInfo)) (last : Nat) : List CpInfo := es.foldr (fun e r => gap e.1 (e.2 :: r)) (gap last [])
def pool (es : List (Nat × CpInfo)) (last : Nat) : Array CpInfo := ⟨poolList es last⟩
def fileOf (pool : Array CpInfo) (this : Nat) (attrs : Array Attribute := #[]) (ms : Array MethodInfo := #[]) (fl : Nat := 33) (sup : Nat := 0) (ifs : Array Nat := #[]) (fds : Array FieldInfo := #[]) : ClassFile where
  minorVersion := 0
  majorVersion := 65
  constantPool := pool
  accessFlags := fl
  thisClass := this
  superClass := sup
  interfaces := ifs
  fields := fds
  methods := ms
  attributes := attrs
def plain (name : String) (sup : Option ClassId) : Class where
  name := name
  kind := .ordinary
  loader := none
  accessFlags := 33
  super := sup
  interfaces := #[]
  cf := none
  fields := #[]
  methods := #[]
  instanceTypes := #[]
  staticTypes := #[]
  resolved := #[]
  callSites := []
  init := .initialized
  statics := none
  mirror := none

def pool0 : Array CpInfo := pool [(5, u "<init>"), (0, u "()V"), (1, .class_ 10), (1, u "java/lang/Object")] 113

def k0c0 : Code := { maxStack := 0, maxLocals := 1, code := object_method_1_code, exceptionTable := #[], attributes := #[] }
def k0m0 : Method := { name := "<init>", desc := "()V", sig := { parameters := [], returnType := none }, accessFlags := 1, code := some k0c0 }
/-- java/lang/Object -/
def k0 : Class := { plain "java/lang/Object" none with
  accessFlags := 33
  interfaces := #[]
  cf := some (fileOf pool0 8 #[] #[{ accessFlags := 1, nameIndex := 5, descriptorIndex := 6, attributes := #[] }] 33 0 #[] #[])
  fields := #[]
  methods := #[k0m0]
  instanceTypes := #[]
  staticTypes := #[]
  resolved := Array.replicate 124 none
  statics := none }

def pool1 : Array CpInfo := pool [(2, .class_ 4), (1, u "java/lang/Object"), (0, u "<init>"), (0, u "()V"), (0, .methodref 8 9), (0, .class_ 10), (0, .nameAndType 11 12), (0, u "com/example/runnel/runnel/apps/AppEnvironmentOfPinLaw"), (0, u "str"), (0, u "(I)Ljava/lang/String;"), (0, .methodref 14 15), (0, .class_ 16), (0, .nameAndType 17 18), (0, u "com/example/runnel/runnel/apps/AppEnvironment"), (0, u "of"), (0, u "(Ljava/lang/String;Ljava/lang/String;Ljava/lang/String;)Lcom/example/runnel/runnel/apps/AppEnvironment;"), (0, .methodref 14 20), (0, .nameAndType 21 22), (0, u "brokerUri"), (0, u "()Ljava/lang/String;"), (0, .methodref 8 24), (0, .nameAndType 25 26), (0, u "same"), (0, u "(Ljava/lang/String;Ljava/lang/String;)Z"), (0, .methodref 14 28), (0, .nameAndType 29 22), (0, u "input"), (0, .methodref 14 31), (0, .nameAndType 32 22), (0, u "output"), (0, .methodref 14 34), (0, .nameAndType 35 22), (0, u "instance"), (0, .methodref 14 37), (0, .nameAndType 38 39), (0, u "statusFile"), (0, u "()Ljava/nio/file/Path;"), (0, .methodref 14 41), (0, .nameAndType 42 39), (0, u "positionFile"), (0, .methodref 14 44), (0, .nameAndType 45 39), (0, u "positionLock"), (0, .class_ 47), (0, u "java/lang/String"), (0, .methodref 46 49), (0, .nameAndType 5 50), (0, u "([C)V"), (0, .methodref 46 52), (0, .nameAndType 53 54), (0, u "valueOf"), (0, u "(C)Ljava/lang/String;"), (0, .methodref 46 56), (0, .nameAndType 57 58), (0, u "equals"), (0, u "(Ljava/lang/Object;)Z"), (2, u "law"), (0, u "(IIII)Z")] 3

def k1m0 : Method := { name := "<init>", desc := "()V", sig := { parameters := [], returnType := none }, accessFlags := 1, code := none }
def k1c1 : Code := { maxStack := 3, maxLocals := 8, code := code, exceptionTable := #[], attributes := #[] }
def k1m1 : Method := { name := "law", desc := "(IIII)Z", sig := { parameters := [.int, .int, .int, .int], returnType := some .boolean }, accessFlags := 9, code := some k1c1 }
def k1c2 : Code := { maxStack := 6, maxLocals := 4, code := method_3_code, exceptionTable := #[], attributes := #[] }
def k1m2 : Method := { name := "str", desc := "(I)Ljava/lang/String;", sig := { parameters := [.int], returnType := some (.object "java/lang/String") }, accessFlags := 10, code := some k1c2 }
def k1c3 : Code := { maxStack := 2, maxLocals := 2, code := method_4_code, exceptionTable := #[], attributes := #[] }
def k1m3 : Method := { name := "same", desc := "(Ljava/lang/String;Ljava/lang/String;)Z", sig := { parameters := [(.object "java/lang/String"), (.object "java/lang/String")], returnType := some .boolean }, accessFlags := 10, code := some k1c3 }
/-- com/example/runnel/runnel/apps/AppEnvironmentOfPinLaw -/
def k1 : Class := { plain "com/example/runnel/runnel/apps/AppEnvironmentOfPinLaw" (some 0) with
  accessFlags := 49
  interfaces := #[]
  cf := some (fileOf pool1 8 #[] #[{ accessFlags := 1, nameIndex := 5, descriptorIndex := 6, attributes := #[] }, { accessFlags := 9, nameIndex := 61, descriptorIndex := 62, attributes := #[] }, { accessFlags := 10, nameIndex := 11, descriptorIndex := 12, attributes := #[] }, { accessFlags := 10, nameIndex := 25, descriptorIndex := 26, attributes := #[] }] 49 2 #[] #[])
  fields := #[]
  methods := #[k1m0, k1m1, k1m2, k1m3]
  instanceTypes := #[]
  staticTypes := #[]
  resolved := Array.replicate 66 none
  statics := none }

def pool2 : Array CpInfo := pool [(1, .class_ 2), (0, u "java/io/Serializable"), (0, .class_ 4), (0, u "java/lang/Object")] 2

/-- java/io/Serializable -/
def k2 : Class := { plain "java/io/Serializable" (some 0) with
  accessFlags := 1537
  interfaces := #[]
  cf := some (fileOf pool2 1 #[] #[] 1537 3 #[] #[])
  fields := #[]
  methods := #[]
  instanceTypes := #[]
  staticTypes := #[]
  resolved := Array.replicate 7 none
  statics := none }

def pool3 : Array CpInfo := pool [(1, .class_ 2), (0, u "java/lang/Comparable"), (0, .class_ 4), (0, u "java/lang/Object")] 7

/-- java/lang/Comparable -/
def k3 : Class := { plain "java/lang/Comparable" (some 0) with
  accessFlags := 1537
  interfaces := #[]
  cf := some (fileOf pool3 1 #[] #[] 1537 3 #[] #[])
  fields := #[]
  methods := #[]
  instanceTypes := #[]
  staticTypes := #[]
  resolved := Array.replicate 12 none
  statics := none }

def pool4 : Array CpInfo := pool [(2, .class_ 4), (1, u "java/lang/CharSequence"), (42, .class_ 48), (0, u "java/lang/CharSequence$1CodePointIterator"), (10, .class_ 60), (0, u "java/lang/CharSequence$1CharIterator"), (5, .class_ 67), (0, u "java/lang/Object")] 63

/-- java/lang/CharSequence -/
def k4 : Class := { plain "java/lang/CharSequence" (some 0) with
  accessFlags := 1537
  interfaces := #[]
  cf := some (fileOf pool4 2 #[.nestMembers #[47, 59]] #[] 1537 66 #[] #[])
  fields := #[]
  methods := #[]
  instanceTypes := #[]
  staticTypes := #[]
  resolved := Array.replicate 131 none
  statics := none }

def pool5 : Array CpInfo := pool [(1, .class_ 2), (0, u "java/lang/constant/Constable"), (0, .class_ 4), (0, u "java/lang/Object")] 6

/-- java/lang/constant/Constable -/
def k5 : Class := { plain "java/lang/constant/Constable" (some 0) with
  accessFlags := 1537
  interfaces := #[]
  cf := some (fileOf pool5 1 #[] #[] 1537 3 #[] #[])
  fields := #[]
  methods := #[]
  instanceTypes := #[]
  staticTypes := #[]
  resolved := Array.replicate 11 none
  statics := none }

def pool6 : Array CpInfo := pool [(1, .class_ 2), (0, u "java/lang/constant/ConstantDesc"), (0, .class_ 4), (0, u "java/lang/Object")] 32

/-- java/lang/constant/ConstantDesc -/
def k6 : Class := { plain "java/lang/constant/ConstantDesc" (some 0) with
  accessFlags := 1537
  interfaces := #[]
  cf := some (fileOf pool6 1 #[] #[] 1537 3 #[] #[])
  fields := #[]
  methods := #[]
  instanceTypes := #[]
  staticTypes := #[]
  resolved := Array.replicate 37 none
  statics := none }

def pool7 : Array CpInfo := pool [(1, .methodref 2 3), (0, .class_ 4), (0, .nameAndType 5 6), (0, u "java/lang/Object"), (0, u "<init>"), (0, u "()V"), (0, .string 8), (0, u ""), (0, .fieldref 10 11), (0, .class_ 12), (0, .nameAndType 13 14), (0, u "java/lang/String"), (0, u "value"), (0, u "[B"), (0, .fieldref 10 16), (0, .nameAndType 17 18), (0, u "coder"), (0, u "B"), (2, u "hash"), (0, u "I"), (2, u "hashIsZero"), (0, u "Z"), (0, .methodref 10 28), (0, .nameAndType 5 29), (0, u "([CIILjava/lang/Void;)V"), (8, .fieldref 10 39), (0, .nameAndType 40 26), (0, u "COMPACT_STRINGS"), (1, .class_ 44), (1, u "java/lang/StringUTF16"), (0, u "compress"), (1, .methodref 42 48), (0, .nameAndType 49 50), (0, u "coderFromArrayLen"), (0, u "([BI)B"), (2, u "toBytes"), (53, .class_ 109), (1, u "java/lang/StringLatin1"), (67, .methodref 42 178), (0, .nameAndType 45 179), (0, u "([CII)[B"), (29, .methodref 10 210), (0, .nameAndType 5 211), (0, u "([BB)V"), (157, u "(C)Z"), (173, u "equals"), (29, u "(Ljava/lang/Object;)Z"), (1, .class_ 576), (0, u "java/lang/CharSequence"), (22, u "CASE_INSENSITIVE_ORDER"), (0, u "Ljava/util/Comparator;"), (181, u "valueOf"), (0, u "(C)Ljava/lang/String;"), (226, u "([C)V"), (4, .methodref 107 1016), (0, .nameAndType 1017 369), (0, u "canEncode"), (0, .methodref 107 1019), (0, .nameAndType 53 1020), (0, u "(C)[B"), (80, u "serialPersistentFields"), (0, u "[Ljava/io/ObjectStreamField;"), (0, .class_ 1104), (0, u "java/lang/String$CaseInsensitiveComparator"), (1, .class_ 1107), (0, u "java/io/Serializable"), (0, .class_ 1109), (0, u "java/lang/Comparable"), (0, .class_ 1111), (0, u "java/lang/constant/Constable"), (0, .class_ 1113), (0, u "java/lang/constant/ConstantDesc"), (2, u "serialVersionUID"), (0, u "J"), (3, u "REPL"), (0, u "C"), (2, u "LATIN1"), (1, u "UTF16")] 323

def k7m0 : Method := { name := "<init>", desc := "()V", sig := { parameters := [], returnType := none }, accessFlags := 1, code := none }
def k7c1 : Code := { maxStack := 5, maxLocals := 2, code := jdk_42_method_3_code, exceptionTable := #[], attributes := #[] }
def k7m1 : Method := { name := "<init>", desc := "([C)V", sig := { parameters := [(.array .char)], returnType := none }, accessFlags := 1, code := some k7c1 }
def k7c2 : Code := { maxStack := 2, maxLocals := 3, code := jdk_42_method_66_code, exceptionTable := #[], attributes := #[] }
def k7m2 : Method := { name := "equals", desc := "(Ljava/lang/Object;)Z", sig := { parameters := [(.object "java/lang/Object")], returnType := some .boolean }, accessFlags := 1, code := some k7c2 }
def k7c3 : Code := { maxStack := 4, maxLocals := 1, code := jdk_42_method_139_code, exceptionTable := #[], attributes := #[] }
def k7m3 : Method := { name := "valueOf", desc := "(C)Ljava/lang/String;", sig := { parameters := [.char], returnType := some (.object "java/lang/String") }, accessFlags := 9, code := some k7c3 }
def k7c4 : Code := { maxStack := 4, maxLocals := 6, code := jdk_42_method_149_code, exceptionTable := #[], attributes := #[] }
def k7m4 : Method := { name := "<init>", desc := "([CIILjava/lang/Void;)V", sig := { parameters := [(.array .char), .int, .int, (.object "java/lang/Void")], returnType := none }, accessFlags := 2, code := some k7c4 }
def k7c5 : Code := { maxStack := 2, maxLocals := 3, code := jdk_42_method_151_code, exceptionTable := #[], attributes := #[] }
def k7m5 : Method := { name := "<init>", desc := "([BB)V", sig := { parameters := [(.array .byte), .byte], returnType := none }, accessFlags := 0, code := some k7c5 }
/-- java/lang/String -/
def k7 : Class := { plain "java/lang/String" (some 0) with
  accessFlags := 49
  interfaces := #[2, 3, 4, 5, 6]
  cf := some (fileOf pool7 10 #[.nestMembers #[1103]] #[{ accessFlags := 1, nameIndex := 5, descriptorIndex := 6, attributes := #[] }, { accessFlags := 1, nameIndex := 5, descriptorIndex := 1010, attributes := #[] }, { accessFlags := 1, nameIndex := 543, descriptorIndex := 573, attributes := #[] }, { accessFlags := 9, nameIndex := 782, descriptorIndex := 783, attributes := #[] }, { accessFlags := 2, nameIndex := 5, descriptorIndex := 29, attributes := #[] }, { accessFlags := 0, nameIndex := 5, descriptorIndex := 211, attributes := #[] }] 49 2 #[1106, 1108, 575, 1110, 1112] #[{ accessFlags := 18, nameIndex := 13, descriptorIndex := 14, attributes := #[] }, { accessFlags := 18, nameIndex := 17, descriptorIndex := 18, attributes := #[] }, { accessFlags := 2, nameIndex := 21, descriptorIndex := 22, attributes := #[] }, { accessFlags := 2, nameIndex := 25, descriptorIndex := 26, attributes := #[] }, { accessFlags := 26, nameIndex := 1116, descriptorIndex := 1117, attributes := #[] }, { accessFlags := 24, nameIndex := 40, descriptorIndex := 26, attributes := #[] }, { accessFlags := 26, nameIndex := 1101, descriptorIndex := 1102, attributes := #[] }, { accessFlags := 26, nameIndex := 1121, descriptorIndex := 1122, attributes := #[] }, { accessFlags := 25, nameIndex := 599, descriptorIndex := 600, attributes := #[] }, { accessFlags := 24, nameIndex := 1125, descriptorIndex := 18, attributes := #[] }, { accessFlags := 24, nameIndex := 1127, descriptorIndex := 18, attributes := #[] }])
  fields := #[{ name := "value", type := (.array .byte), accessFlags := 18, slot := 0, constantValue := 0 }, { name := "coder", type := .byte, accessFlags := 18, slot := 1, constantValue := 0 }, { name := "hash", type := .int, accessFlags := 2, slot := 2, constantValue := 0 }, { name := "hashIsZero", type := .boolean, accessFlags := 2, slot := 3, constantValue := 0 }, { name := "serialVersionUID", type := .long, accessFlags := 26, slot := 0, constantValue := 0 }, { name := "COMPACT_STRINGS", type := .boolean, accessFlags := 24, slot := 1, constantValue := 0 }, { name := "serialPersistentFields", type := (.array (.object "java/io/ObjectStreamField")), accessFlags := 26, slot := 2, constantValue := 0 }, { name := "REPL", type := .char, accessFlags := 26, slot := 3, constantValue := 0 }, { name := "CASE_INSENSITIVE_ORDER", type := (.object "java/util/Comparator"), accessFlags := 25, slot := 4, constantValue := 0 }, { name := "LATIN1", type := .byte, accessFlags := 24, slot := 5, constantValue := 0 }, { name := "UTF16", type := .byte, accessFlags := 24, slot := 6, constantValue := 0 }]
  methods := #[k7m0, k7m1, k7m2, k7m3, k7m4, k7m5]
  instanceTypes := #[(.array .byte), .byte, .int, .boolean]
  staticTypes := #[.long, .boolean, (.array (.object "java/io/ObjectStreamField")), .char, (.object "java/util/Comparator"), .byte, .byte]
  resolved := Array.replicate 1451 none
  statics := some 0 }

def pool8 : Array CpInfo := pool [(1, .methodref 2 3), (0, .class_ 4), (0, .nameAndType 5 6), (0, u "java/lang/Object"), (0, u "<init>"), (0, u "()V"), (0, .class_ 8), (0, u "java/lang/Record")] 13

def k8c0 : Code := { maxStack := 1, maxLocals := 1, code := jdk_30_method_1_code, exceptionTable := #[], attributes := #[] }
def k8m0 : Method := { name := "<init>", desc := "()V", sig := { parameters := [], returnType := none }, accessFlags := 4, code := some k8c0 }
/-- java/lang/Record -/
def k8 : Class := { plain "java/lang/Record" (some 0) with
  accessFlags := 1057
  interfaces := #[]
  cf := some (fileOf pool8 7 #[] #[{ accessFlags := 4, nameIndex := 5, descriptorIndex := 6, attributes := #[] }] 1057 2 #[] #[])
  fields := #[]
  methods := #[k8m0]
  instanceTypes := #[]
  staticTypes := #[]
  resolved := Array.replicate 22 none
  statics := none }

def pool9 : Array CpInfo := pool [(1, .methodref 2 3), (0, .class_ 4), (0, .nameAndType 5 6), (0, u "java/lang/Record"), (0, u "<init>"), (0, u "()V"), (0, .fieldref 8 9), (0, .class_ 10), (0, .nameAndType 11 12), (0, u "com/example/runnel/runnel/apps/AppEnvironment"), (0, u "brokerUri"), (0, u "Ljava/lang/String;"), (0, .fieldref 8 14), (0, .nameAndType 15 12), (0, u "input"), (0, .fieldref 8 17), (0, .nameAndType 18 12), (0, u "output"), (0, .fieldref 8 20), (0, .nameAndType 21 12), (0, u "instance"), (0, .fieldref 8 23), (0, .nameAndType 24 25), (0, u "statusFile"), (0, u "Ljava/nio/file/Path;"), (0, .fieldref 8 27), (0, .nameAndType 28 25), (0, u "positionFile"), (0, .methodref 8 30), (0, .nameAndType 5 31), (0, u "(Ljava/lang/String;Ljava/lang/String;Ljava/lang/String;Ljava/lang/String;Ljava/nio/file/Path;Ljava/nio/file/Path;)V"), (42, u "()Ljava/nio/file/Path;"), (21, u "()Ljava/lang/String;"), (2, u "of"), (15, u "BROKER_URI"), (1, u "INPUT"), (0, u "OUTPUT"), (0, u "INSTANCE"), (0, u "STATUS_FILE"), (0, u "POSITION_FILE"), (0, u "LOCK_SUFFIX"), (5, u "(Ljava/lang/String;Ljava/lang/String;Ljava/lang/String;)Lcom/example/runnel/runnel/apps/AppEnvironment;"), (8, u "positionLock")] 41

def k9c0 : Code := { maxStack := 2, maxLocals := 7, code := prog_14_method_1_code, exceptionTable := #[], attributes := #[] }
def k9m0 : Method := { name := "<init>", desc := "(Ljava/lang/String;Ljava/lang/String;Ljava/lang/String;Ljava/lang/String;Ljava/nio/file/Path;Ljava/nio/file/Path;)V", sig := { parameters := [(.object "java/lang/String"), (.object "java/lang/String"), (.object "java/lang/String"), (.object "java/lang/String"), (.object "java/nio/file/Path"), (.object "java/nio/file/Path")], returnType := none }, accessFlags := 1, code := some k9c0 }
def k9c1 : Code := { maxStack := 8, maxLocals := 3, code := prog_14_method_2_code, exceptionTable := #[], attributes := #[] }
def k9m1 : Method := { name := "of", desc := "(Ljava/lang/String;Ljava/lang/String;Ljava/lang/String;)Lcom/example/runnel/runnel/apps/AppEnvironment;", sig := { parameters := [(.object "java/lang/String"), (.object "java/lang/String"), (.object "java/lang/String")], returnType := some (.object "com/example/runnel/runnel/apps/AppEnvironment") }, accessFlags := 9, code := some k9c1 }
def k9c2 : Code := { maxStack := 2, maxLocals := 1, code := prog_14_method_5_code, exceptionTable := #[], attributes := #[] }
def k9m2 : Method := { name := "positionLock", desc := "()Ljava/nio/file/Path;", sig := { parameters := [], returnType := some (.object "java/nio/file/Path") }, accessFlags := 1, code := some k9c2 }
def k9c3 : Code := { maxStack := 1, maxLocals := 1, code := prog_14_method_13_code, exceptionTable := #[], attributes := #[] }
def k9m3 : Method := { name := "brokerUri", desc := "()Ljava/lang/String;", sig := { parameters := [], returnType := some (.object "java/lang/String") }, accessFlags := 1, code := some k9c3 }
def k9c4 : Code := { maxStack := 1, maxLocals := 1, code := prog_14_method_14_code, exceptionTable := #[], attributes := #[] }
def k9m4 : Method := { name := "input", desc := "()Ljava/lang/String;", sig := { parameters := [], returnType := some (.object "java/lang/String") }, accessFlags := 1, code := some k9c4 }
def k9c5 : Code := { maxStack := 1, maxLocals := 1, code := prog_14_method_15_code, exceptionTable := #[], attributes := #[] }
def k9m5 : Method := { name := "output", desc := "()Ljava/lang/String;", sig := { parameters := [], returnType := some (.object "java/lang/String") }, accessFlags := 1, code := some k9c5 }
def k9c6 : Code := { maxStack := 1, maxLocals := 1, code := prog_14_method_16_code, exceptionTable := #[], attributes := #[] }
def k9m6 : Method := { name := "instance", desc := "()Ljava/lang/String;", sig := { parameters := [], returnType := some (.object "java/lang/String") }, accessFlags := 1, code := some k9c6 }
def k9c7 : Code := { maxStack := 1, maxLocals := 1, code := prog_14_method_17_code, exceptionTable := #[], attributes := #[] }
def k9m7 : Method := { name := "statusFile", desc := "()Ljava/nio/file/Path;", sig := { parameters := [], returnType := some (.object "java/nio/file/Path") }, accessFlags := 1, code := some k9c7 }
def k9c8 : Code := { maxStack := 1, maxLocals := 1, code := prog_14_method_18_code, exceptionTable := #[], attributes := #[] }
def k9m8 : Method := { name := "positionFile", desc := "()Ljava/nio/file/Path;", sig := { parameters := [], returnType := some (.object "java/nio/file/Path") }, accessFlags := 1, code := some k9c8 }
/-- com/example/runnel/runnel/apps/AppEnvironment -/
def k9 : Class := { plain "com/example/runnel/runnel/apps/AppEnvironment" (some 8) with
  accessFlags := 49
  interfaces := #[]
  cf := some (fileOf pool9 8 #[] #[{ accessFlags := 1, nameIndex := 5, descriptorIndex := 31, attributes := #[] }, { accessFlags := 9, nameIndex := 99, descriptorIndex := 128, attributes := #[] }, { accessFlags := 1, nameIndex := 137, descriptorIndex := 74, attributes := #[] }, { accessFlags := 1, nameIndex := 11, descriptorIndex := 96, attributes := #[] }, { accessFlags := 1, nameIndex := 15, descriptorIndex := 96, attributes := #[] }, { accessFlags := 1, nameIndex := 18, descriptorIndex := 96, attributes := #[] }, { accessFlags := 1, nameIndex := 21, descriptorIndex := 96, attributes := #[] }, { accessFlags := 1, nameIndex := 24, descriptorIndex := 74, attributes := #[] }, { accessFlags := 1, nameIndex := 28, descriptorIndex := 74, attributes := #[] }] 49 2 #[] #[{ accessFlags := 18, nameIndex := 11, descriptorIndex := 12, attributes := #[] }, { accessFlags := 18, nameIndex := 15, descriptorIndex := 12, attributes := #[] }, { accessFlags := 18, nameIndex := 18, descriptorIndex := 12, attributes := #[] }, { accessFlags := 18, nameIndex := 21, descriptorIndex := 12, attributes := #[] }, { accessFlags := 18, nameIndex := 24, descriptorIndex := 25, attributes := #[] }, { accessFlags := 18, nameIndex := 28, descriptorIndex := 25, attributes := #[] }, { accessFlags := 26, nameIndex := 115, descriptorIndex := 12, attributes := #[] }, { accessFlags := 26, nameIndex := 117, descriptorIndex := 12, attributes := #[] }, { accessFlags := 26, nameIndex := 118, descriptorIndex := 12, attributes := #[] }, { accessFlags := 26, nameIndex := 119, descriptorIndex := 12, attributes := #[] }, { accessFlags := 26, nameIndex := 120, descriptorIndex := 12, attributes := #[] }, { accessFlags := 26, nameIndex := 121, descriptorIndex := 12, attributes := #[] }, { accessFlags := 25, nameIndex := 122, descriptorIndex := 12, attributes := #[] }])
  fields := #[{ name := "brokerUri", type := (.object "java/lang/String"), accessFlags := 18, slot := 0, constantValue := 0 }, { name := "input", type := (.object "java/lang/String"), accessFlags := 18, slot := 1, constantValue := 0 }, { name := "output", type := (.object "java/lang/String"), accessFlags := 18, slot := 2, constantValue := 0 }, { name := "instance", type := (.object "java/lang/String"), accessFlags := 18, slot := 3, constantValue := 0 }, { name := "statusFile", type := (.object "java/nio/file/Path"), accessFlags := 18, slot := 4, constantValue := 0 }, { name := "positionFile", type := (.object "java/nio/file/Path"), accessFlags := 18, slot := 5, constantValue := 0 }, { name := "BROKER_URI", type := (.object "java/lang/String"), accessFlags := 26, slot := 0, constantValue := 0 }, { name := "INPUT", type := (.object "java/lang/String"), accessFlags := 26, slot := 1, constantValue := 0 }, { name := "OUTPUT", type := (.object "java/lang/String"), accessFlags := 26, slot := 2, constantValue := 0 }, { name := "INSTANCE", type := (.object "java/lang/String"), accessFlags := 26, slot := 3, constantValue := 0 }, { name := "STATUS_FILE", type := (.object "java/lang/String"), accessFlags := 26, slot := 4, constantValue := 0 }, { name := "POSITION_FILE", type := (.object "java/lang/String"), accessFlags := 26, slot := 5, constantValue := 0 }, { name := "LOCK_SUFFIX", type := (.object "java/lang/String"), accessFlags := 25, slot := 6, constantValue := 0 }]
  methods := #[k9m0, k9m1, k9m2, k9m3, k9m4, k9m5, k9m6, k9m7, k9m8]
  instanceTypes := #[(.object "java/lang/String"), (.object "java/lang/String"), (.object "java/lang/String"), (.object "java/lang/String"), (.object "java/nio/file/Path"), (.object "java/nio/file/Path")]
  staticTypes := #[(.object "java/lang/String"), (.object "java/lang/String"), (.object "java/lang/String"), (.object "java/lang/String"), (.object "java/lang/String"), (.object "java/lang/String"), (.object "java/lang/String")]
  resolved := Array.replicate 179 none
  statics := none }

def pool10 : Array CpInfo := pool [(6, .class_ 8), (1, u "java/lang/Object"), (0, u "<init>"), (0, u "()V"), (1, .class_ 14), (1, u "java/lang/StringUTF16"), (31, u "$assertionsDisabled"), (0, u "Z"), (13, u "HI_BYTE_SHIFT"), (0, u "I"), (2, u "LO_BYTE_SHIFT"), (49, .methodref 12 116), (0, .nameAndType 117 118), (0, u "compress"), (0, u "([CI[BII)I"), (3, u "([CII)[B"), (138, u "coderFromArrayLen"), (0, u "([BI)B"), (106, .class_ 371), (1, u "java/lang/StringUTF16$LinesSpliterator"), (58, u "MAX_LENGTH"), (196, .class_ 628), (0, u "java/lang/StringUTF16$CodePointsSpliterator"), (0, .class_ 630), (0, u "java/lang/StringUTF16$CharsSpliterator")] 4

def k10m0 : Method := { name := "<init>", desc := "()V", sig := { parameters := [], returnType := none }, accessFlags := 0, code := none }
def k10c1 : Code := { maxStack := 2, maxLocals := 2, code := jdk_52_method_15_code, exceptionTable := #[], attributes := #[] }
def k10m1 : Method := { name := "coderFromArrayLen", desc := "([BI)B", sig := { parameters := [(.array .byte), .int], returnType := some .byte }, accessFlags := 8, code := some k10c1 }
def k10c2 : Code := { maxStack := 5, maxLocals := 6, code := jdk_52_method_16_code, exceptionTable := #[], attributes := #[] }
def k10m2 : Method := { name := "compress", desc := "([CII)[B", sig := { parameters := [(.array .char), .int, .int], returnType := some (.array .byte) }, accessFlags := 9, code := some k10c2 }
def k10c3 : Code := { maxStack := 3, maxLocals := 7, code := jdk_52_method_21_code, exceptionTable := #[], attributes := #[] }
def k10m3 : Method := { name := "compress", desc := "([CI[BII)I", sig := { parameters := [(.array .char), .int, (.array .byte), .int, .int], returnType := some .int }, accessFlags := 9, code := some k10c3 }
/-- java/lang/StringUTF16 -/
def k10 : Class := { plain "java/lang/StringUTF16" (some 0) with
  accessFlags := 48
  interfaces := #[]
  cf := some (fileOf pool10 12 #[.nestMembers #[627, 629, 369]] #[{ accessFlags := 0, nameIndex := 9, descriptorIndex := 10, attributes := #[] }, { accessFlags := 8, nameIndex := 261, descriptorIndex := 262, attributes := #[] }, { accessFlags := 9, nameIndex := 117, descriptorIndex := 122, attributes := #[] }, { accessFlags := 9, nameIndex := 117, descriptorIndex := 118, attributes := #[] }] 48 6 #[] #[{ accessFlags := 26, nameIndex := 61, descriptorIndex := 62, attributes := #[] }, { accessFlags := 26, nameIndex := 65, descriptorIndex := 62, attributes := #[] }, { accessFlags := 24, nameIndex := 430, descriptorIndex := 62, attributes := #[] }, { accessFlags := 4120, nameIndex := 46, descriptorIndex := 47, attributes := #[] }])
  fields := #[{ name := "HI_BYTE_SHIFT", type := .int, accessFlags := 26, slot := 0, constantValue := 0 }, { name := "LO_BYTE_SHIFT", type := .int, accessFlags := 26, slot := 1, constantValue := 0 }, { name := "MAX_LENGTH", type := .int, accessFlags := 24, slot := 2, constantValue := 0 }, { name := "$assertionsDisabled", type := .boolean, accessFlags := 4120, slot := 3, constantValue := 0 }]
  methods := #[k10m0, k10m1, k10m2, k10m3]
  instanceTypes := #[]
  staticTypes := #[.int, .int, .int, .boolean]
  resolved := Array.replicate 635 none
  statics := none }

def pool11 : Array CpInfo := pool [(4, .class_ 6), (1, u "java/lang/Object"), (0, u "<init>"), (0, u "()V"), (5, .class_ 16), (1, u "java/lang/StringLatin1"), (73, u "canEncode"), (14, u "(C)Z"), (15, u "$assertionsDisabled"), (0, u "Z"), (98, .class_ 223), (1, u "java/lang/StringLatin1$LinesSpliterator"), (156, u "toBytes"), (1, u "(C)[B"), (7, .class_ 391), (0, u "java/lang/StringLatin1$CharsSpliterator")] 3

def k11m0 : Method := { name := "<init>", desc := "()V", sig := { parameters := [], returnType := none }, accessFlags := 0, code := none }
def k11c1 : Code := { maxStack := 2, maxLocals := 1, code := jdk_43_method_3_code, exceptionTable := #[], attributes := #[] }
def k11m1 : Method := { name := "canEncode", desc := "(C)Z", sig := { parameters := [.char], returnType := some .boolean }, accessFlags := 9, code := some k11c1 }
def k11c2 : Code := { maxStack := 4, maxLocals := 1, code := jdk_43_method_46_code, exceptionTable := #[], attributes := #[] }
def k11m2 : Method := { name := "toBytes", desc := "(C)[B", sig := { parameters := [.char], returnType := some (.array .byte) }, accessFlags := 9, code := some k11c2 }
/-- java/lang/StringLatin1 -/
def k11 : Class := { plain "java/lang/StringLatin1" (some 0) with
  accessFlags := 48
  interfaces := #[]
  cf := some (fileOf pool11 14 #[.nestMembers #[390, 221]] #[{ accessFlags := 0, nameIndex := 7, descriptorIndex := 8, attributes := #[] }, { accessFlags := 9, nameIndex := 90, descriptorIndex := 105, attributes := #[] }, { accessFlags := 9, nameIndex := 380, descriptorIndex := 382, attributes := #[] }] 48 4 #[] #[{ accessFlags := 4120, nameIndex := 121, descriptorIndex := 122, attributes := #[] }])
  fields := #[{ name := "$assertionsDisabled", type := .boolean, accessFlags := 4120, slot := 0, constantValue := 0 }]
  methods := #[k11m0, k11m1, k11m2]
  instanceTypes := #[]
  staticTypes := #[.boolean]
  resolved := Array.replicate 395 none
  statics := none }

def pool12 : Array CpInfo := pool [(2, .class_ 4), (1, u "java/lang/Object"), (0, u "<init>"), (0, u "()V"), (17, .class_ 26), (1, u "jdk/internal/util/Preconditions"), (28, .class_ 56), (0, u "jdk/internal/util/Preconditions$4"), (57, .class_ 115), (0, u "jdk/internal/util/Preconditions$1"), (7, u "SIOOBE_FORMATTER"), (0, u "Ljava/util/function/BiFunction;"), (0, .class_ 126), (0, u "jdk/internal/util/Preconditions$2"), (3, u "AIOOBE_FORMATTER"), (0, .class_ 132), (0, u "jdk/internal/util/Preconditions$3"), (3, u "IOOBE_FORMATTER")] 57

def k12m0 : Method := { name := "<init>", desc := "()V", sig := { parameters := [], returnType := none }, accessFlags := 1, code := none }
/-- jdk/internal/util/Preconditions -/
def k12 : Class := { plain "jdk/internal/util/Preconditions" (some 0) with
  accessFlags := 33
  interfaces := #[]
  cf := some (fileOf pool12 24 #[.nestMembers #[55, 131, 125, 114]] #[{ accessFlags := 1, nameIndex := 5, descriptorIndex := 6, attributes := #[] }] 33 2 #[] #[{ accessFlags := 25, nameIndex := 123, descriptorIndex := 124, attributes := #[] }, { accessFlags := 25, nameIndex := 130, descriptorIndex := 124, attributes := #[] }, { accessFlags := 25, nameIndex := 136, descriptorIndex := 124, attributes := #[] }])
  fields := #[{ name := "SIOOBE_FORMATTER", type := (.object "java/util/function/BiFunction"), accessFlags := 25, slot := 0, constantValue := 0 }, { name := "AIOOBE_FORMATTER", type := (.object "java/util/function/BiFunction"), accessFlags := 25, slot := 1, constantValue := 0 }, { name := "IOOBE_FORMATTER", type := (.object "java/util/function/BiFunction"), accessFlags := 25, slot := 2, constantValue := 0 }]
  methods := #[k12m0]
  instanceTypes := #[]
  staticTypes := #[(.object "java/util/function/BiFunction"), (.object "java/util/function/BiFunction"), (.object "java/util/function/BiFunction")]
  resolved := Array.replicate 194 none
  statics := some 1 }

def pool13 : Array CpInfo := pool [(9, u "<init>"), (6, .class_ 18), (1, u "java/lang/Object"), (0, u "()V"), (1, .class_ 23), (1, u "jdk/internal/util/ArraysSupport"), (0, u "LOG2_ARRAY_LONG_INDEX_SCALE"), (0, u "I"), (2, u "U"), (0, u "Ljdk/internal/misc/Unsafe;"), (8, u "BIG_ENDIAN"), (0, u "Z"), (8, u "LOG2_BYTE_BIT_SIZE"), (4, u "LOG2_ARRAY_INT_INDEX_SCALE"), (54, u "JLA"), (0, u "Ljdk/internal/access/JavaLangAccess;"), (11, u "LOG2_ARRAY_BOOLEAN_INDEX_SCALE"), (9, u "LOG2_ARRAY_BYTE_INDEX_SCALE"), (5, u "LOG2_ARRAY_CHAR_INDEX_SCALE"), (5, u "LOG2_ARRAY_SHORT_INDEX_SCALE"), (18, u "LOG2_ARRAY_FLOAT_INDEX_SCALE"), (24, u "LOG2_ARRAY_DOUBLE_INDEX_SCALE"), (89, u "T_BOOLEAN"), (2, u "T_CHAR"), (1, u "T_FLOAT"), (1, u "T_DOUBLE"), (1, u "T_BYTE"), (1, u "T_SHORT"), (1, u "T_INT"), (1, u "T_LONG"), (1, u "SOFT_MAX_ARRAY_LENGTH")] 83

def k13m0 : Method := { name := "<init>", desc := "()V", sig := { parameters := [], returnType := none }, accessFlags := 2, code := none }
/-- jdk/internal/util/ArraysSupport -/
def k13 : Class := { plain "jdk/internal/util/ArraysSupport" (some 0) with
  accessFlags := 33
  interfaces := #[]
  cf := some (fileOf pool13 21 #[] #[{ accessFlags := 2, nameIndex := 9, descriptorIndex := 19, attributes := #[] }] 33 16 #[] #[{ accessFlags := 24, nameIndex := 28, descriptorIndex := 29, attributes := #[] }, { accessFlags := 26, nameIndex := 38, descriptorIndex := 39, attributes := #[] }, { accessFlags := 25, nameIndex := 121, descriptorIndex := 25, attributes := #[] }, { accessFlags := 25, nameIndex := 131, descriptorIndex := 25, attributes := #[] }, { accessFlags := 25, nameIndex := 137, descriptorIndex := 25, attributes := #[] }, { accessFlags := 25, nameIndex := 143, descriptorIndex := 25, attributes := #[] }, { accessFlags := 25, nameIndex := 53, descriptorIndex := 25, attributes := #[] }, { accessFlags := 25, nameIndex := 24, descriptorIndex := 25, attributes := #[] }, { accessFlags := 25, nameIndex := 162, descriptorIndex := 25, attributes := #[] }, { accessFlags := 25, nameIndex := 187, descriptorIndex := 25, attributes := #[] }, { accessFlags := 26, nameIndex := 48, descriptorIndex := 25, attributes := #[] }, { accessFlags := 25, nameIndex := 277, descriptorIndex := 25, attributes := #[] }, { accessFlags := 25, nameIndex := 280, descriptorIndex := 25, attributes := #[] }, { accessFlags := 25, nameIndex := 282, descriptorIndex := 25, attributes := #[] }, { accessFlags := 25, nameIndex := 284, descriptorIndex := 25, attributes := #[] }, { accessFlags := 25, nameIndex := 286, descriptorIndex := 25, attributes := #[] }, { accessFlags := 25, nameIndex := 288, descriptorIndex := 25, attributes := #[] }, { accessFlags := 25, nameIndex := 290, descriptorIndex := 25, attributes := #[] }, { accessFlags := 25, nameIndex := 292, descriptorIndex := 25, attributes := #[] }, { accessFlags := 26, nameIndex := 108, descriptorIndex := 109, attributes := #[] }, { accessFlags := 25, nameIndex := 294, descriptorIndex := 25, attributes := #[] }])
  fields := #[{ name := "U", type := (.object "jdk/internal/misc/Unsafe"), accessFlags := 24, slot := 0, constantValue := 0 }, { name := "BIG_ENDIAN", type := .boolean, accessFlags := 26, slot := 1, constantValue := 0 }, { name := "LOG2_ARRAY_BOOLEAN_INDEX_SCALE", type := .int, accessFlags := 25, slot := 2, constantValue := 0 }, { name := "LOG2_ARRAY_BYTE_INDEX_SCALE", type := .int, accessFlags := 25, slot := 3, constantValue := 0 }, { name := "LOG2_ARRAY_CHAR_INDEX_SCALE", type := .int, accessFlags := 25, slot := 4, constantValue := 0 }, { name := "LOG2_ARRAY_SHORT_INDEX_SCALE", type := .int, accessFlags := 25, slot := 5, constantValue := 0 }, { name := "LOG2_ARRAY_INT_INDEX_SCALE", type := .int, accessFlags := 25, slot := 6, constantValue := 0 }, { name := "LOG2_ARRAY_LONG_INDEX_SCALE", type := .int, accessFlags := 25, slot := 7, constantValue := 0 }, { name := "LOG2_ARRAY_FLOAT_INDEX_SCALE", type := .int, accessFlags := 25, slot := 8, constantValue := 0 }, { name := "LOG2_ARRAY_DOUBLE_INDEX_SCALE", type := .int, accessFlags := 25, slot := 9, constantValue := 0 }, { name := "LOG2_BYTE_BIT_SIZE", type := .int, accessFlags := 26, slot := 10, constantValue := 0 }, { name := "T_BOOLEAN", type := .int, accessFlags := 25, slot := 11, constantValue := 0 }, { name := "T_CHAR", type := .int, accessFlags := 25, slot := 12, constantValue := 0 }, { name := "T_FLOAT", type := .int, accessFlags := 25, slot := 13, constantValue := 0 }, { name := "T_DOUBLE", type := .int, accessFlags := 25, slot := 14, constantValue := 0 }, { name := "T_BYTE", type := .int, accessFlags := 25, slot := 15, constantValue := 0 }, { name := "T_SHORT", type := .int, accessFlags := 25, slot := 16, constantValue := 0 }, { name := "T_INT", type := .int, accessFlags := 25, slot := 17, constantValue := 0 }, { name := "T_LONG", type := .int, accessFlags := 25, slot := 18, constantValue := 0 }, { name := "JLA", type := (.object "jdk/internal/access/JavaLangAccess"), accessFlags := 26, slot := 19, constantValue := 0 }, { name := "SOFT_MAX_ARRAY_LENGTH", type := .int, accessFlags := 25, slot := 20, constantValue := 0 }]
  methods := #[k13m0]
  instanceTypes := #[]
  staticTypes := #[(.object "jdk/internal/misc/Unsafe"), .boolean, .int, .int, .int, .int, .int, .int, .int, .int, .int, .int, .int, .int, .int, .int, .int, .int, .int, (.object "jdk/internal/access/JavaLangAccess"), .int]
  resolved := Array.replicate 378 none
  statics := none }

def pool14 : Array CpInfo := pool [(1, u "java/lang/Cloneable"), (0, .class_ 1), (0, u "java/lang/Object"), (0, .class_ 3)] 3

/-- java/lang/Cloneable -/
def k14 : Class := { plain "java/lang/Cloneable" (some 0) with
  accessFlags := 1537
  interfaces := #[]
  cf := some (fileOf pool14 2 #[] #[] 1537 4 #[] #[])
  fields := #[]
  methods := #[]
  instanceTypes := #[]
  staticTypes := #[]
  resolved := Array.replicate 8 none
  statics := none }

/-- the primitive byte -/
def k15 : Class := { plain "byte" none with kind := .primitive 'B', accessFlags := 0x411 }
/-- [B -/
def k16 : Class := { plain "[B" (some 0) with kind := .array 15 .byte, interfaces := #[14, 2], accessFlags := 1041 }

/-- the primitive char -/
def k17 : Class := { plain "char" none with kind := .primitive 'C', accessFlags := 0x411 }
/-- [C -/
def k18 : Class := { plain "[C" (some 0) with kind := .array 17 .char, interfaces := #[14, 2], accessFlags := 1041 }

/-- the primitive int -/
def k19 : Class := { plain "int" none with kind := .primitive 'I', accessFlags := 0x411 }
/-- [I -/
def k20 : Class := { plain "[I" (some 0) with kind := .array 19 .int, interfaces := #[14, 2], accessFlags := 1041 }

def heap : Heap := #[{ cls := 7, slots := #[.long 0, .int 1, .null, .int 0, .null, .int 0, .int 0], vm := .statics 7 },
  { cls := 12, slots := #[.null, .null, .null], vm := .statics 12 }]
def classes : Array Class := #[k0, k1, k2, k3, k4, k5, k6, k7, k8, k9, k10, k11, k12, k13, k14, k15, k16, k17, k18, k19, k20]
def interned : List (Array UInt16 × Addr) := []
def slotsUsed : Nat := 10
def theMethod : MethodId := ⟨1, 1⟩
def args0 : Array Value := #[.int 1, .int 1, .int 1, .int 1]
def aboutOver (below : List Frame) : State where
  vm := { classes := classes, interned := interned.toArray }
  heap := heap
  slotsUsed := slotsUsed
  threads := #[{ frames := .invoking theMethod args0 :: below }]
def below0 : List Frame := [.native { method := ⟨0, 0⟩, args := #[] }]
def about1 : State := aboutOver below0
def p0 : Program := .bare "" "" ""
def e0 : Env := launch0.env 0 0 0
theorem w_frames : about1.frames = Frame.invoking theMethod args0 :: below0 := rfl
set_option maxRecDepth 65536 in
theorem w_args : argsFit about1.vm theMethod args0 = true := by decide +kernel
set_option maxRecDepth 65536 in
theorem w_heap : heapFits about1 = true := by decide +kernel
set_option maxRecDepth 65536 in
theorem w_runnable : about1.curStatus? = some .runnable := by decide +kernel
set_option maxRecDepth 65536 in
theorem w_alone : about1.alone = true := by decide +kernel
set_option maxRecDepth 65536 in
theorem w_named : about1.methodNamed? x = some theMethod := by decide +kernel
set_option maxRecDepth 65536 in
theorem w_hears : about1.hears theMethod below0 = true := by decide +kernel
set_option maxRecDepth 65536 in
theorem w_ripe : about1.ripe theMethod args0 below0 = true := by decide +kernel
theorem w_running : about1.status = .running := rfl
set_option maxRecDepth 65536 in
theorem w_room : about1.hasRoom e0.platform room_1 = true :=
  launch0.hasRoom_least _ room_1 (by decide +kernel) (by decide +kernel) (by decide +kernel) (by decide +kernel) (by decide +kernel) (by decide +kernel)
theorem allAtoms_all (ts : List Jvm.Cond) (a : Array Jvm.Value) (st : Jvm.State) : (allAtoms ts).before a st = ts.all (fun c => c.before a st) := by
  induction ts with
  | nil => rfl
  | cons c t ih =>
    show (Jvm.Cond.and c (allAtoms t)).before a st = _
    rw [Jvm.Cond.before_and, ih, List.all_cons]
def words1 : List Jvm.Cond := Jvm.Cond.code x code maxLocals ret :: tables_1
/-- a 'code' word, met by the world's own term for the bytes: nothing is compared byte by byte -/
theorem code_word {y : MethodName} {bytes : ByteArray} {mx : Nat} {rt : Option FieldType} {a : Array Value} {s : State} {m : MethodId} {meth : Method} {c : Code} (h1 : s.methodNamed? y = some m) (h2 : s.vm.method? m = some meth) (h3 : meth.code = some c) (h4 : c.code = bytes)
    (h5 : (c.maxLocals == mx && c.exceptionTable.isEmpty && decide (c.maxStack ≤ mostOperands) && decide (meth.sig.returnType = rt) && !meth.locks && decide (parseMethodDescriptor y.desc = some meth.sig)) = true) : (Jvm.Cond.code y bytes mx rt).before a s = true := by
  simp only [Bool.and_eq_true, beq_iff_eq, Bool.not_eq_true', decide_eq_true_eq] at h5
  obtain ⟨⟨⟨⟨⟨g1, g2⟩, g3⟩, g4⟩, g5⟩, g6⟩ := h5
  simp [Cond.before, Cond.holds, Cond.value, h1, h2, h3, h4, g1, g2, g3, g4, g5, g6]
def isCode : Jvm.Cond → Bool
  | .code _ _ _ _ => true
  | _ => false
theorem all_split {L : List Jvm.Cond} {P : Jvm.Cond → Bool} (h1 : L.all (fun c => isCode c || P c) = true) (h2 : ∀ c ∈ L.filter isCode, P c = true) : L.all P = true := by
  refine List.all_eq_true.mpr fun c hc => ?_
  have h := List.all_eq_true.mp h1 c hc
  rcases Bool.eq_false_or_eq_true (isCode c) with hi | hi
  · exact h2 c (List.mem_filter.mpr ⟨hc, hi⟩)
  · simpa [hi] using h
set_option maxRecDepth 65536 in
theorem w_c0 : (Jvm.Cond.code x code maxLocals ret).before args0 about1 = true := code_word (m := ⟨1, 1⟩) (meth := k1m1) (c := k1c1) (by decide +kernel) rfl rfl rfl (by decide +kernel)
set_option maxRecDepth 65536 in
theorem w_c1 : (Jvm.Cond.code ({ cls := "com/example/runnel/runnel/apps/AppEnvironmentOfPinLaw", name := "str", desc := "(I)Ljava/lang/String;" } : Jvm.MethodName) method_3_code (4 : Nat) (Option.some (Jvm.ClassFile.FieldType.object "java/lang/String"))).before args0 about1 = true := code_word (m := ⟨1, 2⟩) (meth := k1m2) (c := k1c2) (by decide +kernel) rfl rfl rfl (by decide +kernel)
set_option maxRecDepth 65536 in
theorem w_c2 : (Jvm.Cond.code ({ cls := "java/lang/String", name := "<init>", desc := "([C)V" } : Jvm.MethodName) jdk_42_method_3_code (2 : Nat) (Option.none : Option Jvm.ClassFile.FieldType)).before args0 about1 = true := code_word (m := ⟨7, 1⟩) (meth := k7m1) (c := k7c1) (by decide +kernel) rfl rfl rfl (by decide +kernel)
set_option maxRecDepth 65536 in
theorem w_c3 : (Jvm.Cond.code ({ cls := "java/lang/String", name := "<init>", desc := "([CIILjava/lang/Void;)V" } : Jvm.MethodName) jdk_42_method_149_code (6 : Nat) (Option.none : Option Jvm.ClassFile.FieldType)).before args0 about1 = true := code_word (m := ⟨7, 4⟩) (meth := k7m4) (c := k7c4) (by decide +kernel) rfl rfl rfl (by decide +kernel)
set_option maxRecDepth 65536 in
theorem w_c4 : (Jvm.Cond.code ({ cls := "java/lang/Object", name := "<init>", desc := "()V" } : Jvm.MethodName) object_method_1_code (1 : Nat) (Option.none : Option Jvm.ClassFile.FieldType)).before args0 about1 = true := code_word (m := ⟨0, 0⟩) (meth := k0m0) (c := k0c0) (by decide +kernel) rfl rfl rfl (by decide +kernel)
set_option maxRecDepth 65536 in
theorem w_c5 : (Jvm.Cond.code ({ cls := "com/example/runnel/runnel/apps/AppEnvironment", name := "of", desc := "(Ljava/lang/String;Ljava/lang/String;Ljava/lang/String;)Lcom/example/runnel/runnel/apps/AppEnvironment;" } : Jvm.MethodName) prog_14_method_2_code (3 : Nat) (Option.some (Jvm.ClassFile.FieldType.object "com/example/runnel/runnel/apps/AppEnvironment"))).before args0 about1 = true := code_word (m := ⟨9, 1⟩) (meth := k9m1) (c := k9c1) (by decide +kernel) rfl rfl rfl (by decide +kernel)
set_option maxRecDepth 65536 in
theorem w_c6 : (Jvm.Cond.code ({ cls := "com/example/runnel/runnel/apps/AppEnvironment", name := "<init>", desc := "(Ljava/lang/String;Ljava/lang/String;Ljava/lang/String;Ljava/lang/String;Ljava/nio/file/Path;Ljava/nio/file/Path;)V" } : Jvm.MethodName) prog_14_method_1_code (7 : Nat) (Option.none : Option Jvm.ClassFile.FieldType)).before args0 about1 = true := code_word (m := ⟨9, 0⟩) (meth := k9m0) (c := k9c0) (by decide +kernel) rfl rfl rfl (by decide +kernel)
set_option maxRecDepth 65536 in
theorem w_c7 : (Jvm.Cond.code ({ cls := "java/lang/Record", name := "<init>", desc := "()V" } : Jvm.MethodName) jdk_30_method_1_code (1 : Nat) (Option.none : Option Jvm.ClassFile.FieldType)).before args0 about1 = true := code_word (m := ⟨8, 0⟩) (meth := k8m0) (c := k8c0) (by decide +kernel) rfl rfl rfl (by decide +kernel)
set_option maxRecDepth 65536 in
theorem w_c8 : (Jvm.Cond.code ({ cls := "com/example/runnel/runnel/apps/AppEnvironment", name := "brokerUri", desc := "()Ljava/lang/String;" } : Jvm.MethodName) prog_14_method_13_code (1 : Nat) (Option.some (Jvm.ClassFile.FieldType.object "java/lang/String"))).before args0 about1 = true := code_word (m := ⟨9, 3⟩) (meth := k9m3) (c := k9c3) (by decide +kernel) rfl rfl rfl (by decide +kernel)
set_option maxRecDepth 65536 in
theorem w_c9 : (Jvm.Cond.code ({ cls := "com/example/runnel/runnel/apps/AppEnvironmentOfPinLaw", name := "same", desc := "(Ljava/lang/String;Ljava/lang/String;)Z" } : Jvm.MethodName) method_4_code (2 : Nat) (Option.some Jvm.ClassFile.FieldType.boolean)).before args0 about1 = true := code_word (m := ⟨1, 3⟩) (meth := k1m3) (c := k1c3) (by decide +kernel) rfl rfl rfl (by decide +kernel)
set_option maxRecDepth 65536 in
theorem w_c10 : (Jvm.Cond.code ({ cls := "java/lang/String", name := "equals", desc := "(Ljava/lang/Object;)Z" } : Jvm.MethodName) jdk_42_method_66_code (3 : Nat) (Option.some Jvm.ClassFile.FieldType.boolean)).before args0 about1 = true := code_word (m := ⟨7, 2⟩) (meth := k7m2) (c := k7c2) (by decide +kernel) rfl rfl rfl (by decide +kernel)
set_option maxRecDepth 65536 in
theorem w_c11 : (Jvm.Cond.code ({ cls := "com/example/runnel/runnel/apps/AppEnvironment", name := "input", desc := "()Ljava/lang/String;" } : Jvm.MethodName) prog_14_method_14_code (1 : Nat) (Option.some (Jvm.ClassFile.FieldType.object "java/lang/String"))).before args0 about1 = true := code_word (m := ⟨9, 4⟩) (meth := k9m4) (c := k9c4) (by decide +kernel) rfl rfl rfl (by decide +kernel)
set_option maxRecDepth 65536 in
theorem w_c12 : (Jvm.Cond.code ({ cls := "com/example/runnel/runnel/apps/AppEnvironment", name := "output", desc := "()Ljava/lang/String;" } : Jvm.MethodName) prog_14_method_15_code (1 : Nat) (Option.some (Jvm.ClassFile.FieldType.object "java/lang/String"))).before args0 about1 = true := code_word (m := ⟨9, 5⟩) (meth := k9m5) (c := k9c5) (by decide +kernel) rfl rfl rfl (by decide +kernel)
set_option maxRecDepth 65536 in
theorem w_c13 : (Jvm.Cond.code ({ cls := "com/example/runnel/runnel/apps/AppEnvironment", name := "instance", desc := "()Ljava/lang/String;" } : Jvm.MethodName) prog_14_method_16_code (1 : Nat) (Option.some (Jvm.ClassFile.FieldType.object "java/lang/String"))).before args0 about1 = true := code_word (m := ⟨9, 6⟩) (meth := k9m6) (c := k9c6) (by decide +kernel) rfl rfl rfl (by decide +kernel)
set_option maxRecDepth 65536 in
theorem w_c14 : (Jvm.Cond.code ({ cls := "com/example/runnel/runnel/apps/AppEnvironment", name := "statusFile", desc := "()Ljava/nio/file/Path;" } : Jvm.MethodName) prog_14_method_17_code (1 : Nat) (Option.some (Jvm.ClassFile.FieldType.object "java/nio/file/Path"))).before args0 about1 = true := code_word (m := ⟨9, 7⟩) (meth := k9m7) (c := k9c7) (by decide +kernel) rfl rfl rfl (by decide +kernel)
set_option maxRecDepth 65536 in
theorem w_c15 : (Jvm.Cond.code ({ cls := "com/example/runnel/runnel/apps/AppEnvironment", name := "positionFile", desc := "()Ljava/nio/file/Path;" } : Jvm.MethodName) prog_14_method_18_code (1 : Nat) (Option.some (Jvm.ClassFile.FieldType.object "java/nio/file/Path"))).before args0 about1 = true := code_word (m := ⟨9, 8⟩) (meth := k9m8) (c := k9c8) (by decide +kernel) rfl rfl rfl (by decide +kernel)
set_option maxRecDepth 65536 in
theorem w_c16 : (Jvm.Cond.code ({ cls := "com/example/runnel/runnel/apps/AppEnvironment", name := "positionLock", desc := "()Ljava/nio/file/Path;" } : Jvm.MethodName) prog_14_method_5_code (1 : Nat) (Option.some (Jvm.ClassFile.FieldType.object "java/nio/file/Path"))).before args0 about1 = true := code_word (m := ⟨9, 2⟩) (meth := k9m2) (c := k9c2) (by decide +kernel) rfl rfl rfl (by decide +kernel)
set_option maxRecDepth 65536 in
theorem w_c17 : (Jvm.Cond.code ({ cls := "java/lang/StringUTF16", name := "compress", desc := "([CII)[B" } : Jvm.MethodName) jdk_52_method_16_code (6 : Nat) (Option.some (Jvm.ClassFile.FieldType.array Jvm.ClassFile.FieldType.byte))).before args0 about1 = true := code_word (m := ⟨10, 2⟩) (meth := k10m2) (c := k10c2) (by decide +kernel) rfl rfl rfl (by decide +kernel)
set_option maxRecDepth 65536 in
theorem w_c18 : (Jvm.Cond.code ({ cls := "java/lang/StringUTF16", name := "compress", desc := "([CI[BII)I" } : Jvm.MethodName) jdk_52_method_21_code (7 : Nat) (Option.some Jvm.ClassFile.FieldType.int)).before args0 about1 = true := code_word (m := ⟨10, 3⟩) (meth := k10m3) (c := k10c3) (by decide +kernel) rfl rfl rfl (by decide +kernel)
set_option maxRecDepth 65536 in
theorem w_c19 : (Jvm.Cond.code ({ cls := "java/lang/StringUTF16", name := "coderFromArrayLen", desc := "([BI)B" } : Jvm.MethodName) jdk_52_method_15_code (2 : Nat) (Option.some Jvm.ClassFile.FieldType.byte)).before args0 about1 = true := code_word (m := ⟨10, 1⟩) (meth := k10m1) (c := k10c1) (by decide +kernel) rfl rfl rfl (by decide +kernel)
set_option maxRecDepth 65536 in
theorem w_c20 : (Jvm.Cond.code ({ cls := "java/lang/String", name := "valueOf", desc := "(C)Ljava/lang/String;" } : Jvm.MethodName) jdk_42_method_139_code (1 : Nat) (Option.some (Jvm.ClassFile.FieldType.object "java/lang/String"))).before args0 about1 = true := code_word (m := ⟨7, 3⟩) (meth := k7m3) (c := k7c3) (by decide +kernel) rfl rfl rfl (by decide +kernel)
set_option maxRecDepth 65536 in
theorem w_c21 : (Jvm.Cond.code ({ cls := "java/lang/StringLatin1", name := "canEncode", desc := "(C)Z" } : Jvm.MethodName) jdk_43_method_3_code (1 : Nat) (Option.some Jvm.ClassFile.FieldType.boolean)).before args0 about1 = true := code_word (m := ⟨11, 1⟩) (meth := k11m1) (c := k11c1) (by decide +kernel) rfl rfl rfl (by decide +kernel)
set_option maxRecDepth 65536 in
theorem w_c22 : (Jvm.Cond.code ({ cls := "java/lang/StringLatin1", name := "toBytes", desc := "(C)[B" } : Jvm.MethodName) jdk_43_method_46_code (1 : Nat) (Option.some (Jvm.ClassFile.FieldType.array Jvm.ClassFile.FieldType.byte))).before args0 about1 = true := code_word (m := ⟨11, 2⟩) (meth := k11m2) (c := k11c2) (by decide +kernel) rfl rfl rfl (by decide +kernel)
set_option maxRecDepth 65536 in
theorem w_c23 : (Jvm.Cond.code ({ cls := "java/lang/String", name := "<init>", desc := "([BB)V" } : Jvm.MethodName) jdk_42_method_151_code (3 : Nat) (Option.none : Option Jvm.ClassFile.FieldType)).before args0 about1 = true := code_word (m := ⟨7, 5⟩) (meth := k7m5) (c := k7c5) (by decide +kernel) rfl rfl rfl (by decide +kernel)
def codes1 : List Jvm.Cond := [Jvm.Cond.code x code maxLocals ret, Jvm.Cond.code ({ cls := "com/example/runnel/runnel/apps/AppEnvironmentOfPinLaw", name := "str", desc := "(I)Ljava/lang/String;" } : Jvm.MethodName) method_3_code (4 : Nat) (Option.some (Jvm.ClassFile.FieldType.object "java/lang/String")), Jvm.Cond.code ({ cls := "java/lang/String", name := "<init>", desc := "([C)V" } : Jvm.MethodName) jdk_42_method_3_code (2 : Nat) (Option.none : Option Jvm.ClassFile.FieldType), Jvm.Cond.code ({ cls := "java/lang/String", name := "<init>", desc := "([CIILjava/lang/Void;)V" } : Jvm.MethodName) jdk_42_method_149_code (6 : Nat) (Option.none : Option Jvm.ClassFile.FieldType), Jvm.Cond.code ({ cls := "java/lang/Object", name := "<init>", desc := "()V" } : Jvm.MethodName) object_method_1_code (1 : Nat) (Option.none : Option Jvm.ClassFile.FieldType), Jvm.Cond.code ({ cls := "com/example/runnel/runnel/apps/AppEnvironment", name := "of", desc := "(Ljava/lang/String;Ljava/lang/String;Ljava/lang/String;)Lcom/example/runnel/runnel/apps/AppEnvironment;" } : Jvm.MethodName) prog_14_method_2_code (3 : Nat) (Option.some (Jvm.ClassFile.FieldType.object "com/example/runnel/runnel/apps/AppEnvironment")), Jvm.Cond.code ({ cls := "com/example/runnel/runnel/apps/AppEnvironment", name := "<init>", desc := "(Ljava/lang/String;Ljava/lang/String;Ljava/lang/String;Ljava/lang/String;Ljava/nio/file/Path;Ljava/nio/file/Path;)V" } : Jvm.MethodName) prog_14_method_1_code (7 : Nat) (Option.none : Option Jvm.ClassFile.FieldType), Jvm.Cond.code ({ cls := "java/lang/Record", name := "<init>", desc := "()V" } : Jvm.MethodName) jdk_30_method_1_code (1 : Nat) (Option.none : Option Jvm.ClassFile.FieldType), Jvm.Cond.code ({ cls := "com/example/runnel/runnel/apps/AppEnvironment", name := "brokerUri", desc := "()Ljava/lang/String;" } : Jvm.MethodName) prog_14_method_13_code (1 : Nat) (Option.some (Jvm.ClassFile.FieldType.object "java/lang/String")), Jvm.Cond.code ({ cls := "com/example/runnel/runnel/apps/AppEnvironmentOfPinLaw", name := "same", desc := "(Ljava/lang/String;Ljava/lang/String;)Z" } : Jvm.MethodName) method_4_code (2 : Nat) (Option.some Jvm.ClassFile.FieldType.boolean), Jvm.Cond.code ({ cls := "java/lang/String", name := "equals", desc := "(Ljava/lang/Object;)Z" } : Jvm.MethodName) jdk_42_method_66_code (3 : Nat) (Option.some Jvm.ClassFile.FieldType.boolean), Jvm.Cond.code ({ cls := "com/example/runnel/runnel/apps/AppEnvironment", name := "input", desc := "()Ljava/lang/String;" } : Jvm.MethodName) prog_14_method_14_code (1 : Nat) (Option.some (Jvm.ClassFile.FieldType.object "java/lang/String")), Jvm.Cond.code ({ cls := "com/example/runnel/runnel/apps/AppEnvironment", name := "output", desc := "()Ljava/lang/String;" } : Jvm.MethodName) prog_14_method_15_code (1 : Nat) (Option.some (Jvm.ClassFile.FieldType.object "java/lang/String")), Jvm.Cond.code ({ cls := "com/example/runnel/runnel/apps/AppEnvironment", name := "instance", desc := "()Ljava/lang/String;" } : Jvm.MethodName) prog_14_method_16_code (1 : Nat) (Option.some (Jvm.ClassFile.FieldType.object "java/lang/String")), Jvm.Cond.code ({ cls := "com/example/runnel/runnel/apps/AppEnvironment", name := "statusFile", desc := "()Ljava/nio/file/Path;" } : Jvm.MethodName) prog_14_method_17_code (1 : Nat) (Option.some (Jvm.ClassFile.FieldType.object "java/nio/file/Path")), Jvm.Cond.code ({ cls := "com/example/runnel/runnel/apps/AppEnvironment", name := "positionFile", desc := "()Ljava/nio/file/Path;" } : Jvm.MethodName) prog_14_method_18_code (1 : Nat) (Option.some (Jvm.ClassFile.FieldType.object "java/nio/file/Path")), Jvm.Cond.code ({ cls := "com/example/runnel/runnel/apps/AppEnvironment", name := "positionLock", desc := "()Ljava/nio/file/Path;" } : Jvm.MethodName) prog_14_method_5_code (1 : Nat) (Option.some (Jvm.ClassFile.FieldType.object "java/nio/file/Path")), Jvm.Cond.code ({ cls := "java/lang/StringUTF16", name := "compress", desc := "([CII)[B" } : Jvm.MethodName) jdk_52_method_16_code (6 : Nat) (Option.some (Jvm.ClassFile.FieldType.array Jvm.ClassFile.FieldType.byte)), Jvm.Cond.code ({ cls := "java/lang/StringUTF16", name := "compress", desc := "([CI[BII)I" } : Jvm.MethodName) jdk_52_method_21_code (7 : Nat) (Option.some Jvm.ClassFile.FieldType.int), Jvm.Cond.code ({ cls := "java/lang/StringUTF16", name := "coderFromArrayLen", desc := "([BI)B" } : Jvm.MethodName) jdk_52_method_15_code (2 : Nat) (Option.some Jvm.ClassFile.FieldType.byte), Jvm.Cond.code ({ cls := "java/lang/String", name := "valueOf", desc := "(C)Ljava/lang/String;" } : Jvm.MethodName) jdk_42_method_139_code (1 : Nat) (Option.some (Jvm.ClassFile.FieldType.object "java/lang/String")), Jvm.Cond.code ({ cls := "java/lang/StringLatin1", name := "canEncode", desc := "(C)Z" } : Jvm.MethodName) jdk_43_method_3_code (1 : Nat) (Option.some Jvm.ClassFile.FieldType.boolean), Jvm.Cond.code ({ cls := "java/lang/StringLatin1", name := "toBytes", desc := "(C)[B" } : Jvm.MethodName) jdk_43_method_46_code (1 : Nat) (Option.some (Jvm.ClassFile.FieldType.array Jvm.ClassFile.FieldType.byte)), Jvm.Cond.code ({ cls := "java/lang/String", name := "<init>", desc := "([BB)V" } : Jvm.MethodName) jdk_42_method_151_code (3 : Nat) (Option.none : Option Jvm.ClassFile.FieldType)]
set_option maxRecDepth 65536 in
theorem codes_eq : words1.filter isCode = codes1 := rfl
theorem w_codes : ∀ c ∈ words1.filter isCode, c.before args0 about1 = true := by
  rw [codes_eq]
  intro c hc
  simp only [codes1, List.mem_cons, List.not_mem_nil, or_false] at hc
  rcases hc with rfl | rfl | rfl | rfl | rfl | rfl | rfl | rfl | rfl | rfl | rfl | rfl | rfl | rfl | rfl | rfl | rfl | rfl | rfl | rfl | rfl | rfl | rfl | rfl
  · exact w_c0
  · exact w_c1
  · exact w_c2
  · exact w_c3
  · exact w_c4
  · exact w_c5
  · exact w_c6
  · exact w_c7
  · exact w_c8
  · exact w_c9
  · exact w_c10
  · exact w_c11
  · exact w_c12
  · exact w_c13
  · exact w_c14
  · exact w_c15
  · exact w_c16
  · exact w_c17
  · exact w_c18
  · exact w_c19
  · exact w_c20
  · exact w_c21
  · exact w_c22
  · exact w_c23
set_option maxRecDepth 65536 in
theorem w_t1 : (words1.take 24).all (fun c => isCode c || c.before args0 about1) = true := by decide +kernel
set_option maxRecDepth 65536 in
theorem w_t2 : ((words1.drop 24).take 24).all (fun c => isCode c || c.before args0 about1) = true := by decide +kernel
set_option maxRecDepth 65536 in
theorem w_t3 : (((words1.drop 24).drop 24).take 24).all (fun c => isCode c || c.before args0 about1) = true := by decide +kernel
set_option maxRecDepth 65536 in
theorem w_t4 : ((((words1.drop 24).drop 24).drop 24).take 24).all (fun c => isCode c || c.before args0 about1) = true := by decide +kernel
set_option maxRecDepth 65536 in
theorem w_t5 : (((((words1.drop 24).drop 24).drop 24).drop 24).take 24).all (fun c => isCode c || c.before args0 about1) = true := by decide +kernel
set_option maxRecDepth 65536 in
theorem w_t6 : (((((words1.drop 24).drop 24).drop 24).drop 24).drop 24).all (fun c => isCode c || c.before args0 about1) = true := by decide +kernel
theorem w_tables : (allAtoms (Jvm.Cond.code x code maxLocals ret :: tables_1)).before args0 about1 = true := by
  rw [allAtoms_all]
  show words1.all (fun c => c.before args0 about1) = true
  refine all_split ?_ w_codes
  rw [← List.take_append_drop 24 words1, List.all_append, w_t1, ← List.take_append_drop 24 (words1.drop 24), List.all_append, w_t2, ← List.take_append_drop 24 ((words1.drop 24).drop 24), List.all_append, w_t3, ← List.take_append_drop 24 (((words1.drop 24).drop 24).drop 24), List.all_append, w_t4, ← List.take_append_drop 24 ((((words1.drop 24).drop 24).drop 24).drop 24), List.all_append, w_t5, w_t6]
  rfl
set_option maxRecDepth 65536 in
theorem w_rest : rest_1_c.before args0 about1 = true := by decide +kernel
set_option maxRecDepth 65536 in
theorem w_case : (Jvm.Cond.and given_1 narrow_1).before args0 about1 = true := by decide +kernel
set_option maxRecDepth 65536 in
theorem w_consts : constsHeld consts_1 about1 := Jvm.Lit.constsHeldB_iff.mp (by decide +kernel)
theorem w_applies : (headSpec (Jvm.Cond.code x code maxLocals ret :: tables_1) room_1).applies x e0.platform about1 = true :=
  (Spec.applies_iff w_frames).mpr ⟨w_running, w_runnable, w_alone, w_named, w_hears, w_ripe, w_room, w_tables⟩
theorem atStart : AtStart classFile x code maxLocals ret World_1 tables_1 room_1 Calls_1 rest_1 Pre_1 launch0 p0 e0 about1 theMethod args0 below0 :=
  ⟨lists_1, trivial, launch0.admits_env _ _ _, launch0.least_env, fairChoices_fair.cas, fairChoices_fair.clock, w_frames, w_args, w_heap, w_applies, ⟨w_consts, trivial⟩, w_rest, w_case⟩
end start1
theorem witness_1 : WitnessClaimed_1 := ⟨start1.p0, start1.e0, start1.about1, start1.theMethod, start1.args0, start1.below0, start1.atStart⟩
end Jvm.Pilot.@@N@@
