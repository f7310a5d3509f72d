import JvmDerived
import JvmDerived.Pilot.@@N@@Statement
import JvmDerived.Pilot.@@N@@Code
set_option linter.unusedVariables false
set_option linter.unusedSimpArgs false
namespace Jvm.Pilot.@@N@@
open Jvm Jvm.ClassFile Sem Op Lib Jvm.Free Jvm.Stand Jvm.LawKit Jvm.RoadKit Bundle Jvm.Pilot.@@N@@.Jvm.D
/-! ## The walk goes forward from its goal: own_W says that the run from here ends as Q asks. -/
def own_Post (s : State) (Q : Option Value → Heap → List Loc → Prop) (kc ks : Nat) (o : Outcome) (s₂ : State) : Prop := ∃ v L, o = .returned v ∧ Q v s₂.heap L ∧ FrameEnd s o s₂ L kc ks
def own_Fin (p : Program) (e : Env) (below : List Frame) (P : Outcome → State → Prop) (A : State) : Prop :=
  ∃ s₂ o, Steps p.tables e below A s₂ ∧ s₂.status = .running ∧ Ended s₂ below o ∧ P o s₂
def own_W (p : Program) (e : Env) (below : List Frame) (P : Outcome → State → Prop) (T : State) (m : MethodId) (pc : Nat) (Ls : Array Slot) (S : List Value) : Prop :=
  own_Fin p e below P (T.setTop (mkF m pc Ls S))
theorem own_w {Z : State} {a0 : Array Value} (hw : ∀ d ∈ tables_1, d.before a0 Z = true) (i : Nat) {d : Jvm.Cond} (h : tables_1[i]? = some d) : d.before a0 Z = true := hw d (List.mem_of_getElem? h)
section OwnKit
variable {p : Program} {l : Launch} {e : Env} {R : Room} {s : State} {m : MethodId} {args : Array Value} {below : List Frame} {meth : Method} {c : Code} {T : State} {locs : List Loc} {cells slots : Nat} {Z : State} {a0 : Array Value} {h : Heap}
  {P : Outcome → State → Prop} {Q : Option Value → Heap → List Loc → Prop} {kc ks : Nat} {pc pc' : Nat} {Ls Ls' : Array Slot} {S : List Value}
theorem own_go {A B : State} (st : ∀ t, Steps p.tables e below B t → Steps p.tables e below A t) (K : own_Fin p e below P B) : own_Fin p e below P A :=
  let ⟨s₂, o, h1, r⟩ := K; ⟨s₂, o, st _ h1, r⟩
theorem own_enter {ml : Nat} (q : entryFrame m args ml = mkF m 0 Ls []) (K : own_W p e below (own_Post s Q kc ks) T m 0 Ls []) :
    ∃ s₂ o, Steps p.tables e below (T.setTop (entryFrame m args ml)) s₂ ∧ s₂.status = .running ∧ Ended s₂ below o ∧ ∃ v L, o = .returned v ∧ Q v s₂.heap L ∧ FrameEnd s o s₂ L kc ks := by
  rw [q]; exact K
theorem own_iloadN (X : Stand p l e R s m args below meth c T locs cells slots) (hx : p.tables.exec = Jvm.exec) {k : Fin 4} {v : Int32} (hd : decode c.code pc = .ok (.iload_n k, 1)) (hp : pc + 1 = pc') (hl : Ls[k.val]? = some (.val (.int v))) (K : own_W p e below P T m pc' Ls (.int v :: S)) : own_W p e below P T m pc Ls S := by
  subst hp; exact own_go (fun t => XS.iloadN (g := mkF m pc Ls S) X.here hx rfl hd hl) K
theorem own_iload (X : Stand p l e R s m args below meth c T locs cells slots) (hx : p.tables.exec = Jvm.exec) {k : Nat} {v : Int32} (hd : decode c.code pc = .ok (.iload k, 2)) (hp : pc + 2 = pc') (hl : Ls[k]? = some (.val (.int v))) (K : own_W p e below P T m pc' Ls (.int v :: S)) : own_W p e below P T m pc Ls S := by
  subst hp; exact own_go (fun t => XS.iload (g := mkF m pc Ls S) X.here hx rfl hd hl) K
theorem own_lloadN (X : Stand p l e R s m args below meth c T locs cells slots) (hx : p.tables.exec = Jvm.exec) {k : Fin 4} {v : Int64} (hd : decode c.code pc = .ok (.lload_n k, 1)) (hp : pc + 1 = pc') (hl : Ls[k.val]? = some (.val (.long v))) (K : own_W p e below P T m pc' Ls (.long v :: S)) : own_W p e below P T m pc Ls S := by
  subst hp; exact own_go (fun t => XT.lloadN (g := mkF m pc Ls S) X.here hx rfl hd hl) K
theorem own_lload (X : Stand p l e R s m args below meth c T locs cells slots) (hx : p.tables.exec = Jvm.exec) {k : Nat} {v : Int64} (hd : decode c.code pc = .ok (.lload k, 2)) (hp : pc + 2 = pc') (hl : Ls[k]? = some (.val (.long v))) (K : own_W p e below P T m pc' Ls (.long v :: S)) : own_W p e below P T m pc Ls S := by
  subst hp; exact own_go (fun t => XT.lload (g := mkF m pc Ls S) X.here hx rfl hd hl) K
theorem own_aloadN (X : Stand p l e R s m args below meth c T locs cells slots) (hx : p.tables.exec = Jvm.exec) {k : Fin 4} {v : Value} (hd : decode c.code pc = .ok (.aload_n k, 1)) (hp : pc + 1 = pc') (hl : Ls[k.val]? = some (.val v)) (hv : v.isRef = true) (K : own_W p e below P T m pc' Ls (v :: S)) : own_W p e below P T m pc Ls S := by
  subst hp; exact own_go (fun t => XS.aloadN (g := mkF m pc Ls S) X.here hx rfl hd hl hv) K
theorem own_aload (X : Stand p l e R s m args below meth c T locs cells slots) (hx : p.tables.exec = Jvm.exec) {k : Nat} {v : Value} (hd : decode c.code pc = .ok (.aload k, 2)) (hp : pc + 2 = pc') (hl : Ls[k]? = some (.val v)) (hv : v.isRef = true) (K : own_W p e below P T m pc' Ls (v :: S)) : own_W p e below P T m pc Ls S := by
  subst hp; exact own_go (fun t => XS.aload (g := mkF m pc Ls S) X.here hx rfl hd hl hv) K
theorem own_istoreN (X : Stand p l e R s m args below meth c T locs cells slots) (hx : p.tables.exec = Jvm.exec) {k : Fin 4} {v : Int32} (hd : decode c.code pc = .ok (.istore_n k, 1)) (hp : pc + 1 = pc') (hl : storeLocals Ls k.val (.int v) = some Ls') (K : own_W p e below P T m pc' Ls' S) : own_W p e below P T m pc Ls (.int v :: S) := by
  subst hp; exact own_go (fun t => XS.istoreN (g := mkF m pc Ls (.int v :: S)) X.here hx rfl hd rfl hl) K
theorem own_istore (X : Stand p l e R s m args below meth c T locs cells slots) (hx : p.tables.exec = Jvm.exec) {k : Nat} {v : Int32} (hd : decode c.code pc = .ok (.istore k, 2)) (hp : pc + 2 = pc') (hl : storeLocals Ls k (.int v) = some Ls') (K : own_W p e below P T m pc' Ls' S) : own_W p e below P T m pc Ls (.int v :: S) := by
  subst hp; exact own_go (fun t => XS.istore (g := mkF m pc Ls (.int v :: S)) X.here hx rfl hd rfl hl) K
theorem own_lstoreN (X : Stand p l e R s m args below meth c T locs cells slots) (hx : p.tables.exec = Jvm.exec) {k : Fin 4} {v : Int64} (hd : decode c.code pc = .ok (.lstore_n k, 1)) (hp : pc + 1 = pc') (hl : storeLocals Ls k.val (.long v) = some Ls') (K : own_W p e below P T m pc' Ls' S) : own_W p e below P T m pc Ls (.long v :: S) := by
  subst hp; exact own_go (fun t => XT.lstoreN (g := mkF m pc Ls (.long v :: S)) X.here hx rfl hd rfl hl) K
theorem own_lstore (X : Stand p l e R s m args below meth c T locs cells slots) (hx : p.tables.exec = Jvm.exec) {k : Nat} {v : Int64} (hd : decode c.code pc = .ok (.lstore k, 2)) (hp : pc + 2 = pc') (hl : storeLocals Ls k (.long v) = some Ls') (K : own_W p e below P T m pc' Ls' S) : own_W p e below P T m pc Ls (.long v :: S) := by
  subst hp; exact own_go (fun t => XT.lstore (g := mkF m pc Ls (.long v :: S)) X.here hx rfl hd rfl hl) K
theorem own_astoreN (X : Stand p l e R s m args below meth c T locs cells slots) (hx : p.tables.exec = Jvm.exec) {k : Fin 4} {v : Value} (hd : decode c.code pc = .ok (.astore_n k, 1)) (hp : pc + 1 = pc') (hv : v.isRef = true) (hl : storeLocals Ls k.val v = some Ls') (K : own_W p e below P T m pc' Ls' S) : own_W p e below P T m pc Ls (v :: S) := by
  subst hp; exact own_go (fun t => XS.astoreN (g := mkF m pc Ls (v :: S)) X.here hx rfl hd rfl hv hl) K
theorem own_astore (X : Stand p l e R s m args below meth c T locs cells slots) (hx : p.tables.exec = Jvm.exec) {k : Nat} {v : Value} (hd : decode c.code pc = .ok (.astore k, 2)) (hp : pc + 2 = pc') (hv : v.isRef = true) (hl : storeLocals Ls k v = some Ls') (K : own_W p e below P T m pc' Ls' S) : own_W p e below P T m pc Ls (v :: S) := by
  subst hp; exact own_go (fun t => XS.astore (g := mkF m pc Ls (v :: S)) X.here hx rfl hd rfl hv hl) K
theorem own_iconst (X : Stand p l e R s m args below meth c T locs cells slots) (hx : p.tables.exec = Jvm.exec) {i : Int} (v : Int32) (hd : decode c.code pc = .ok (.iconst i, 1)) (hp : pc + 1 = pc') (hv : Int32.ofInt i = v) (K : own_W p e below P T m pc' Ls (.int v :: S)) : own_W p e below P T m pc Ls S := by
  subst hp hv; exact own_go (fun t => XS.iconst (g := mkF m pc Ls S) X.here hx rfl hd) K
theorem own_bipush (X : Stand p l e R s m args below meth c T locs cells slots) (hx : p.tables.exec = Jvm.exec) {i : Int} (v : Int32) (hd : decode c.code pc = .ok (.bipush i, 2)) (hp : pc + 2 = pc') (hv : (Int8.ofInt i).toInt32 = v) (K : own_W p e below P T m pc' Ls (.int v :: S)) : own_W p e below P T m pc Ls S := by
  subst hp; exact own_go (fun t => XT.bipushV (g := mkF m pc Ls S) X.here hx rfl v hd hv) K
theorem own_sipush (X : Stand p l e R s m args below meth c T locs cells slots) (hx : p.tables.exec = Jvm.exec) {i : Int} (v : Int32) (hd : decode c.code pc = .ok (.sipush i, 3)) (hp : pc + 3 = pc') (hv : (Int16.ofInt i).toInt32 = v) (K : own_W p e below P T m pc' Ls (.int v :: S)) : own_W p e below P T m pc Ls S := by
  subst hp; exact own_go (fun t => XT.sipushV (g := mkF m pc Ls S) X.here hx rfl v hd hv) K
theorem own_lconst (X : Stand p l e R s m args below meth c T locs cells slots) (hx : p.tables.exec = Jvm.exec) {k : Fin 2} (v : Int64) (hd : decode c.code pc = .ok (.lconst k, 1)) (hp : pc + 1 = pc') (hv : Int64.ofNat k = v) (K : own_W p e below P T m pc' Ls (.long v :: S)) : own_W p e below P T m pc Ls S := by
  subst hp; exact own_go (fun t => XT.lconstV (g := mkF m pc Ls S) X.here hx rfl v hd hv) K
theorem own_aconst_null (X : Stand p l e R s m args below meth c T locs cells slots) (hx : p.tables.exec = Jvm.exec) (hd : decode c.code pc = .ok (.aconst_null, 1)) (hp : pc + 1 = pc') (K : own_W p e below P T m pc' Ls (.null :: S)) : own_W p e below P T m pc Ls S := by
  subst hp; exact own_go (fun t => XS.aconstNull (g := mkF m pc Ls S) X.here hx rfl hd) K
theorem own_ldc (X : Stand p l e R s m args below meth c T locs cells slots) (hx : p.tables.exec = Jvm.exec) (hZ : Z.Warmed39 s.vm) {own : String} {index : Nat} {v : Int32} (hown : s.vm.findClass own = some m.cls) (w : (Cond.constant own index v).before a0 Z = true) (hd : decode c.code pc = .ok (.ldc index, 2)) (hp : pc + 2 = pc') (K : own_W p e below P T m pc' Ls (.int v :: S)) : own_W p e below P T m pc Ls S := by
  subst hp; exact own_go (fun t => X.ldcI (g := mkF m pc Ls S) hx hown (mvT hZ w) rfl hd) K
theorem own_ldc2 (X : Stand p l e R s m args below meth c T locs cells slots) (hx : p.tables.exec = Jvm.exec) (hZ : Z.Warmed39 s.vm) {own : String} {index : Nat} {v : Int64} (hown : s.vm.findClass own = some m.cls) (w : (Cond.constantLong own index v).before a0 Z = true) (hd : decode c.code pc = .ok (.ldc2_w index, 3)) (hp : pc + 3 = pc') (K : own_W p e below P T m pc' Ls (.long v :: S)) : own_W p e below P T m pc Ls S := by
  subst hp; exact own_go (fun t => X.ldc2J (g := mkF m pc Ls S) hx hown (mvT hZ w) rfl hd) K
theorem own_iadd (X : Stand p l e R s m args below meth c T locs cells slots) (hx : p.tables.exec = Jvm.exec) {x y : Int32} (hd : decode c.code pc = .ok (.iadd, 1)) (hp : pc + 1 = pc') (K : own_W p e below P T m pc' Ls (.int (x + y) :: S)) : own_W p e below P T m pc Ls (.int y :: .int x :: S) := by
  subst hp; exact own_go (fun t => XS.iadd (g := mkF m pc Ls (.int y :: .int x :: S)) X.here hx rfl hd rfl) K
theorem own_isub (X : Stand p l e R s m args below meth c T locs cells slots) (hx : p.tables.exec = Jvm.exec) {x y : Int32} (hd : decode c.code pc = .ok (.isub, 1)) (hp : pc + 1 = pc') (K : own_W p e below P T m pc' Ls (.int (x - y) :: S)) : own_W p e below P T m pc Ls (.int y :: .int x :: S) := by
  subst hp; exact own_go (fun t => XS.isub (g := mkF m pc Ls (.int y :: .int x :: S)) X.here hx rfl hd rfl) K
theorem own_imul (X : Stand p l e R s m args below meth c T locs cells slots) (hx : p.tables.exec = Jvm.exec) {x y : Int32} (hd : decode c.code pc = .ok (.imul, 1)) (hp : pc + 1 = pc') (K : own_W p e below P T m pc' Ls (.int (x * y) :: S)) : own_W p e below P T m pc Ls (.int y :: .int x :: S) := by
  subst hp; exact own_go (fun t => XS.imul (g := mkF m pc Ls (.int y :: .int x :: S)) X.here hx rfl hd rfl) K
theorem own_iand (X : Stand p l e R s m args below meth c T locs cells slots) (hx : p.tables.exec = Jvm.exec) {x y : Int32} (hd : decode c.code pc = .ok (.iand, 1)) (hp : pc + 1 = pc') (K : own_W p e below P T m pc' Ls (.int (x &&& y) :: S)) : own_W p e below P T m pc Ls (.int y :: .int x :: S) := by
  subst hp; exact own_go (fun t => XS.iand (g := mkF m pc Ls (.int y :: .int x :: S)) X.here hx rfl hd rfl) K
theorem own_ior (X : Stand p l e R s m args below meth c T locs cells slots) (hx : p.tables.exec = Jvm.exec) {x y : Int32} (hd : decode c.code pc = .ok (.ior, 1)) (hp : pc + 1 = pc') (K : own_W p e below P T m pc' Ls (.int (x ||| y) :: S)) : own_W p e below P T m pc Ls (.int y :: .int x :: S) := by
  subst hp; exact own_go (fun t => XT.ior (g := mkF m pc Ls (.int y :: .int x :: S)) X.here hx rfl hd rfl) K
theorem own_ixor (X : Stand p l e R s m args below meth c T locs cells slots) (hx : p.tables.exec = Jvm.exec) {x y : Int32} (hd : decode c.code pc = .ok (.ixor, 1)) (hp : pc + 1 = pc') (K : own_W p e below P T m pc' Ls (.int (x ^^^ y) :: S)) : own_W p e below P T m pc Ls (.int y :: .int x :: S) := by
  subst hp; exact own_go (fun t => XT.ixor (g := mkF m pc Ls (.int y :: .int x :: S)) X.here hx rfl hd rfl) K
theorem own_ishl (X : Stand p l e R s m args below meth c T locs cells slots) (hx : p.tables.exec = Jvm.exec) {x y : Int32} (hd : decode c.code pc = .ok (.ishl, 1)) (hp : pc + 1 = pc') (K : own_W p e below P T m pc' Ls (.int (x <<< (y &&& 31)) :: S)) : own_W p e below P T m pc Ls (.int y :: .int x :: S) := by
  subst hp; exact own_go (fun t => XT.ishl (g := mkF m pc Ls (.int y :: .int x :: S)) X.here hx rfl hd rfl) K
theorem own_ishr (X : Stand p l e R s m args below meth c T locs cells slots) (hx : p.tables.exec = Jvm.exec) {x y : Int32} (hd : decode c.code pc = .ok (.ishr, 1)) (hp : pc + 1 = pc') (K : own_W p e below P T m pc' Ls (.int (x >>> (y &&& 31)) :: S)) : own_W p e below P T m pc Ls (.int y :: .int x :: S) := by
  subst hp; exact own_go (fun t => XT.ishr (g := mkF m pc Ls (.int y :: .int x :: S)) X.here hx rfl hd rfl) K
theorem own_iushr (X : Stand p l e R s m args below meth c T locs cells slots) (hx : p.tables.exec = Jvm.exec) {x y : Int32} (hd : decode c.code pc = .ok (.iushr, 1)) (hp : pc + 1 = pc') (K : own_W p e below P T m pc' Ls (.int (XT.ushr x y) :: S)) : own_W p e below P T m pc Ls (.int y :: .int x :: S) := by
  subst hp; exact own_go (fun t => XT.iushr (g := mkF m pc Ls (.int y :: .int x :: S)) X.here hx rfl hd rfl) K
theorem own_ladd (X : Stand p l e R s m args below meth c T locs cells slots) (hx : p.tables.exec = Jvm.exec) {x y : Int64} (hd : decode c.code pc = .ok (.ladd, 1)) (hp : pc + 1 = pc') (K : own_W p e below P T m pc' Ls (.long (x + y) :: S)) : own_W p e below P T m pc Ls (.long y :: .long x :: S) := by
  subst hp; exact own_go (fun t => XT.ladd (g := mkF m pc Ls (.long y :: .long x :: S)) X.here hx rfl hd rfl) K
theorem own_lsub (X : Stand p l e R s m args below meth c T locs cells slots) (hx : p.tables.exec = Jvm.exec) {x y : Int64} (hd : decode c.code pc = .ok (.lsub, 1)) (hp : pc + 1 = pc') (K : own_W p e below P T m pc' Ls (.long (x - y) :: S)) : own_W p e below P T m pc Ls (.long y :: .long x :: S) := by
  subst hp; exact own_go (fun t => XT.lsub (g := mkF m pc Ls (.long y :: .long x :: S)) X.here hx rfl hd rfl) K
theorem own_lmul (X : Stand p l e R s m args below meth c T locs cells slots) (hx : p.tables.exec = Jvm.exec) {x y : Int64} (hd : decode c.code pc = .ok (.lmul, 1)) (hp : pc + 1 = pc') (K : own_W p e below P T m pc' Ls (.long (x * y) :: S)) : own_W p e below P T m pc Ls (.long y :: .long x :: S) := by
  subst hp; exact own_go (fun t => XT.lmul (g := mkF m pc Ls (.long y :: .long x :: S)) X.here hx rfl hd rfl) K
theorem own_land (X : Stand p l e R s m args below meth c T locs cells slots) (hx : p.tables.exec = Jvm.exec) {x y : Int64} (hd : decode c.code pc = .ok (.land, 1)) (hp : pc + 1 = pc') (K : own_W p e below P T m pc' Ls (.long (x &&& y) :: S)) : own_W p e below P T m pc Ls (.long y :: .long x :: S) := by
  subst hp; exact own_go (fun t => XT.land (g := mkF m pc Ls (.long y :: .long x :: S)) X.here hx rfl hd rfl) K
theorem own_lor (X : Stand p l e R s m args below meth c T locs cells slots) (hx : p.tables.exec = Jvm.exec) {x y : Int64} (hd : decode c.code pc = .ok (.lor, 1)) (hp : pc + 1 = pc') (K : own_W p e below P T m pc' Ls (.long (x ||| y) :: S)) : own_W p e below P T m pc Ls (.long y :: .long x :: S) := by
  subst hp; exact own_go (fun t => XT.lor (g := mkF m pc Ls (.long y :: .long x :: S)) X.here hx rfl hd rfl) K
theorem own_lxor (X : Stand p l e R s m args below meth c T locs cells slots) (hx : p.tables.exec = Jvm.exec) {x y : Int64} (hd : decode c.code pc = .ok (.lxor, 1)) (hp : pc + 1 = pc') (K : own_W p e below P T m pc' Ls (.long (x ^^^ y) :: S)) : own_W p e below P T m pc Ls (.long y :: .long x :: S) := by
  subst hp; exact own_go (fun t => XT.lxor (g := mkF m pc Ls (.long y :: .long x :: S)) X.here hx rfl hd rfl) K
theorem own_lshl (X : Stand p l e R s m args below meth c T locs cells slots) (hx : p.tables.exec = Jvm.exec) {x : Int64} {y : Int32} (hd : decode c.code pc = .ok (.lshl, 1)) (hp : pc + 1 = pc') (K : own_W p e below P T m pc' Ls (.long (x <<< (y.toInt64 &&& 63)) :: S)) : own_W p e below P T m pc Ls (.int y :: .long x :: S) := by
  subst hp; exact own_go (fun t => XT.lshl (g := mkF m pc Ls (.int y :: .long x :: S)) X.here hx rfl hd rfl) K
theorem own_lshr (X : Stand p l e R s m args below meth c T locs cells slots) (hx : p.tables.exec = Jvm.exec) {x : Int64} {y : Int32} (hd : decode c.code pc = .ok (.lshr, 1)) (hp : pc + 1 = pc') (K : own_W p e below P T m pc' Ls (.long (x >>> (y.toInt64 &&& 63)) :: S)) : own_W p e below P T m pc Ls (.int y :: .long x :: S) := by
  subst hp; exact own_go (fun t => XT.lshr (g := mkF m pc Ls (.int y :: .long x :: S)) X.here hx rfl hd rfl) K
theorem own_lushr (X : Stand p l e R s m args below meth c T locs cells slots) (hx : p.tables.exec = Jvm.exec) {x : Int64} {y : Int32} (hd : decode c.code pc = .ok (.lushr, 1)) (hp : pc + 1 = pc') (K : own_W p e below P T m pc' Ls (.long (XT.ushrL x y) :: S)) : own_W p e below P T m pc Ls (.int y :: .long x :: S) := by
  subst hp; exact own_go (fun t => XT.lushr (g := mkF m pc Ls (.int y :: .long x :: S)) X.here hx rfl hd rfl) K
theorem own_idiv (X : Stand p l e R s m args below meth c T locs cells slots) (hx : p.tables.exec = Jvm.exec) {x y : Int32} (hd : decode c.code pc = .ok (.idiv, 1)) (hp : pc + 1 = pc') (hy : y ≠ 0) (K : own_W p e below P T m pc' Ls (.int (x / y) :: S)) : own_W p e below P T m pc Ls (.int y :: .int x :: S) := by
  subst hp; exact own_go (fun t => XS.idiv (g := mkF m pc Ls (.int y :: .int x :: S)) X.here hx rfl hd rfl hy) K
theorem own_irem (X : Stand p l e R s m args below meth c T locs cells slots) (hx : p.tables.exec = Jvm.exec) {x y : Int32} (hd : decode c.code pc = .ok (.irem, 1)) (hp : pc + 1 = pc') (hy : y ≠ 0) (K : own_W p e below P T m pc' Ls (.int (x % y) :: S)) : own_W p e below P T m pc Ls (.int y :: .int x :: S) := by
  subst hp; exact own_go (fun t => iremM (g := mkF m pc Ls (.int y :: .int x :: S)) X hx rfl hd rfl hy) K
theorem own_ldiv (X : Stand p l e R s m args below meth c T locs cells slots) (hx : p.tables.exec = Jvm.exec) {x y : Int64} (hd : decode c.code pc = .ok (.ldiv, 1)) (hp : pc + 1 = pc') (hy : y ≠ 0) (K : own_W p e below P T m pc' Ls (.long (x / y) :: S)) : own_W p e below P T m pc Ls (.long y :: .long x :: S) := by
  subst hp; exact own_go (fun t => XT.ldiv (g := mkF m pc Ls (.long y :: .long x :: S)) X.here hx rfl hd rfl hy) K
theorem own_lrem (X : Stand p l e R s m args below meth c T locs cells slots) (hx : p.tables.exec = Jvm.exec) {x y : Int64} (hd : decode c.code pc = .ok (.lrem, 1)) (hp : pc + 1 = pc') (hy : y ≠ 0) (K : own_W p e below P T m pc' Ls (.long (x % y) :: S)) : own_W p e below P T m pc Ls (.long y :: .long x :: S) := by
  subst hp; rw [← lrem_mod] at K; exact own_go (fun t => XT.lrem (g := mkF m pc Ls (.long y :: .long x :: S)) X.here hx rfl hd rfl hy) K
theorem own_ineg (X : Stand p l e R s m args below meth c T locs cells slots) (hx : p.tables.exec = Jvm.exec) {x : Int32} (hd : decode c.code pc = .ok (.ineg, 1)) (hp : pc + 1 = pc') (K : own_W p e below P T m pc' Ls (.int (-x) :: S)) : own_W p e below P T m pc Ls (.int x :: S) := by
  subst hp; exact own_go (fun t => XS.ineg (g := mkF m pc Ls (.int x :: S)) X.here hx rfl hd rfl) K
theorem own_lneg (X : Stand p l e R s m args below meth c T locs cells slots) (hx : p.tables.exec = Jvm.exec) {x : Int64} (hd : decode c.code pc = .ok (.lneg, 1)) (hp : pc + 1 = pc') (K : own_W p e below P T m pc' Ls (.long (-x) :: S)) : own_W p e below P T m pc Ls (.long x :: S) := by
  subst hp; exact own_go (fun t => XT.lneg (g := mkF m pc Ls (.long x :: S)) X.here hx rfl hd rfl) K
theorem own_i2l (X : Stand p l e R s m args below meth c T locs cells slots) (hx : p.tables.exec = Jvm.exec) {x : Int32} (hd : decode c.code pc = .ok (.i2l, 1)) (hp : pc + 1 = pc') (K : own_W p e below P T m pc' Ls (.long (x.toInt64) :: S)) : own_W p e below P T m pc Ls (.int x :: S) := by
  subst hp; exact own_go (fun t => XT.i2l (g := mkF m pc Ls (.int x :: S)) X.here hx rfl hd rfl) K
theorem own_l2i (X : Stand p l e R s m args below meth c T locs cells slots) (hx : p.tables.exec = Jvm.exec) {x : Int64} (hd : decode c.code pc = .ok (.l2i, 1)) (hp : pc + 1 = pc') (K : own_W p e below P T m pc' Ls (.int (x.toInt32) :: S)) : own_W p e below P T m pc Ls (.long x :: S) := by
  subst hp; exact own_go (fun t => XT.l2i (g := mkF m pc Ls (.long x :: S)) X.here hx rfl hd rfl) K
theorem own_i2b (X : Stand p l e R s m args below meth c T locs cells slots) (hx : p.tables.exec = Jvm.exec) {x : Int32} (hd : decode c.code pc = .ok (.i2b, 1)) (hp : pc + 1 = pc') (K : own_W p e below P T m pc' Ls (.int (x.toInt8.toInt32) :: S)) : own_W p e below P T m pc Ls (.int x :: S) := by
  subst hp; exact own_go (fun t => XT.i2b (g := mkF m pc Ls (.int x :: S)) X.here hx rfl hd rfl) K
theorem own_i2c (X : Stand p l e R s m args below meth c T locs cells slots) (hx : p.tables.exec = Jvm.exec) {x : Int32} (hd : decode c.code pc = .ok (.i2c, 1)) (hp : pc + 1 = pc') (K : own_W p e below P T m pc' Ls (.int (x.toUInt32.toUInt16.toUInt32.toInt32) :: S)) : own_W p e below P T m pc Ls (.int x :: S) := by
  subst hp; exact own_go (fun t => XT.i2c (g := mkF m pc Ls (.int x :: S)) X.here hx rfl hd rfl) K
theorem own_i2s (X : Stand p l e R s m args below meth c T locs cells slots) (hx : p.tables.exec = Jvm.exec) {x : Int32} (hd : decode c.code pc = .ok (.i2s, 1)) (hp : pc + 1 = pc') (K : own_W p e below P T m pc' Ls (.int (x.toInt16.toInt32) :: S)) : own_W p e below P T m pc Ls (.int x :: S) := by
  subst hp; exact own_go (fun t => XT.i2s (g := mkF m pc Ls (.int x :: S)) X.here hx rfl hd rfl) K
theorem own_iinc (X : Stand p l e R s m args below meth c T locs cells slots) (hx : p.tables.exec = Jvm.exec) {k : Nat} {cst : Int} {x : Int32} (v : Int32) (hd : decode c.code pc = .ok (.iinc k cst, 3)) (hp : pc + 3 = pc') (hv : Int32.ofInt cst = v) (hl : Ls[k]? = some (.val (.int x))) (hl' : storeLocals Ls k (.int (x + v)) = some Ls') (K : own_W p e below P T m pc' Ls' S) : own_W p e below P T m pc Ls S := by
  subst hp; exact own_go (fun t => XT.iincV (g := mkF m pc Ls S) X.here hx rfl v hd hv hl hl') K
theorem own_dup (X : Stand p l e R s m args below meth c T locs cells slots) (hx : p.tables.exec = Jvm.exec) {x : Value} (hd : decode c.code pc = .ok (.dup, 1)) (hp : pc + 1 = pc') (hc : x.category = 1) (K : own_W p e below P T m pc' Ls (x :: x :: S)) : own_W p e below P T m pc Ls (x :: S) := by
  subst hp; exact own_go (fun t => XS.dup (g := mkF m pc Ls (x :: S)) X.here hx rfl hd rfl hc) K
theorem own_pop (X : Stand p l e R s m args below meth c T locs cells slots) (hx : p.tables.exec = Jvm.exec) {x : Value} (hd : decode c.code pc = .ok (.pop, 1)) (hp : pc + 1 = pc') (hc : x.category = 1) (K : own_W p e below P T m pc' Ls S) : own_W p e below P T m pc Ls (x :: S) := by
  subst hp; exact own_go (fun t => XT.pop (g := mkF m pc Ls (x :: S)) X.here hx rfl hd rfl hc) K
theorem own_dup2 (X : Stand p l e R s m args below meth c T locs cells slots) (hx : p.tables.exec = Jvm.exec) {x y : Value} (hd : decode c.code pc = .ok (.dup2, 1)) (hp : pc + 1 = pc') (hc : x.category = 1) (hc' : y.category = 1) (K : own_W p e below P T m pc' Ls (x :: y :: x :: y :: S)) : own_W p e below P T m pc Ls (x :: y :: S) := by
  subst hp; exact own_go (fun t => XT.dup2 (g := mkF m pc Ls (x :: y :: S)) X.here hx rfl hd rfl hc hc') K
theorem own_goto (X : Stand p l e R s m args below meth c T locs cells slots) (hx : p.tables.exec = Jvm.exec) {o : Int} (hd : decode c.code pc = .ok (.goto o, 3)) (ho : 0 ≤ (pc : Int) + o) (hp : ((pc : Int) + o).toNat = pc') (K : own_W p e below P T m pc' Ls S) : own_W p e below P T m pc Ls S :=
  own_go (fun t => XS.goto (g := mkF m pc Ls S) X.here hx rfl (pc0 := pc) (pc' := pc') rfl hd ho hp) K
/-- what a taken branch tells (own_P), what one that isn't taken tells (own_N) -/
def own_P : ClassFile.Cond → Int32 → Int32 → Prop
  | .eq, x, y => x = y
  | .ne, x, y => ¬ x = y
  | .lt, x, y => x < y
  | .ge, x, y => ¬ x < y
  | .gt, x, y => y < x
  | .le, x, y => ¬ y < x
def own_N : ClassFile.Cond → Int32 → Int32 → Prop
  | .eq, x, y => ¬ x = y
  | .ne, x, y => x = y
  | .lt, x, y => ¬ x < y
  | .ge, x, y => x < y
  | .gt, x, y => ¬ y < x
  | .le, x, y => y < x
theorem own_holdsT {cd : ClassFile.Cond} {x y : Int32} (q : own_P cd x y) : if_icmp.holds cd x y = true := by
  cases cd <;> first | exact (teq q).1 | exact (feq q).2 | exact (tlt q).1 | exact (flt q).2.1 | exact (tlt q).2.2.1 | exact (flt q).2.2.2
theorem own_holdsF {cd : ClassFile.Cond} {x y : Int32} (q : own_N cd x y) : if_icmp.holds cd x y = false := by
  cases cd <;> first | exact (feq q).1 | exact (teq q).2 | exact (flt q).1 | exact (tlt q).2.1 | exact (flt q).2.2.1 | exact (tlt q).2.2.2
theorem own_or (cd : ClassFile.Cond) (x y : Int32) : own_P cd x y ∨ own_N cd x y := by
  cases cd
  · exact Classical.em (x = y)
  · exact (Classical.em (x = y)).symm
  · exact Classical.em (x < y)
  · exact (Classical.em (x < y)).symm
  · exact Classical.em (y < x)
  · exact (Classical.em (y < x)).symm
theorem own_icmpY (X : Stand p l e R s m args below meth c T locs cells slots) (hx : p.tables.exec = Jvm.exec) {cd : ClassFile.Cond} {x y : Int32} {o : Int} (hd : decode c.code pc = .ok (.if_icmp cd o, 3)) (ho : 0 ≤ (pc : Int) + o) (hp : ((pc : Int) + o).toNat = pc') (q : own_P cd x y) (K : own_W p e below P T m pc' Ls S) : own_W p e below P T m pc Ls (.int y :: .int x :: S) :=
  own_go (fun t => XS.icmpYes (g := mkF m pc Ls (.int y :: .int x :: S)) X.here hx rfl (pc0 := pc) (pc' := pc') rfl hd rfl (own_holdsT q) ho hp) K
theorem own_icmpN (X : Stand p l e R s m args below meth c T locs cells slots) (hx : p.tables.exec = Jvm.exec) {cd : ClassFile.Cond} {x y : Int32} {o : Int} (hd : decode c.code pc = .ok (.if_icmp cd o, 3)) (hp : pc + 3 = pc') (q : own_N cd x y) (K : own_W p e below P T m pc' Ls S) : own_W p e below P T m pc Ls (.int y :: .int x :: S) := by
  subst hp; exact own_go (fun t => XS.icmpNo (g := mkF m pc Ls (.int y :: .int x :: S)) X.here hx rfl hd rfl (own_holdsF q)) K
theorem own_icmp (X : Stand p l e R s m args below meth c T locs cells slots) (hx : p.tables.exec = Jvm.exec) {cd : ClassFile.Cond} {x y : Int32} {o : Int} {pcY pcN : Nat} (hd : decode c.code pc = .ok (.if_icmp cd o, 3)) (ho : 0 ≤ (pc : Int) + o) (hY : ((pc : Int) + o).toNat = pcY) (hN : pc + 3 = pcN) (KY : own_P cd x y → own_W p e below P T m pcY Ls S) (KN : own_N cd x y → own_W p e below P T m pcN Ls S) : own_W p e below P T m pc Ls (.int y :: .int x :: S) :=
  (own_or cd x y).elim (fun q => own_icmpY X hx hd ho hY q (KY q)) (fun q => own_icmpN X hx hd hN q (KN q))
theorem own_ifY (X : Stand p l e R s m args below meth c T locs cells slots) (hx : p.tables.exec = Jvm.exec) {cd : ClassFile.Cond} {x : Int32} {o : Int} (hd : decode c.code pc = .ok (.ifCond cd o, 3)) (ho : 0 ≤ (pc : Int) + o) (hp : ((pc : Int) + o).toNat = pc') (q : own_P cd x 0) (K : own_W p e below P T m pc' Ls S) : own_W p e below P T m pc Ls (.int x :: S) :=
  own_go (fun t => XS.ifYes (g := mkF m pc Ls (.int x :: S)) X.here hx rfl (pc0 := pc) (pc' := pc') rfl hd rfl ((if0 _ _).trans (own_holdsT q)) ho hp) K
theorem own_ifN (X : Stand p l e R s m args below meth c T locs cells slots) (hx : p.tables.exec = Jvm.exec) {cd : ClassFile.Cond} {x : Int32} {o : Int} (hd : decode c.code pc = .ok (.ifCond cd o, 3)) (hp : pc + 3 = pc') (q : own_N cd x 0) (K : own_W p e below P T m pc' Ls S) : own_W p e below P T m pc Ls (.int x :: S) := by
  subst hp; exact own_go (fun t => XS.ifNo (g := mkF m pc Ls (.int x :: S)) X.here hx rfl hd rfl ((if0 _ _).trans (own_holdsF q))) K
theorem own_if (X : Stand p l e R s m args below meth c T locs cells slots) (hx : p.tables.exec = Jvm.exec) {cd : ClassFile.Cond} {x : Int32} {o : Int} {pcY pcN : Nat} (hd : decode c.code pc = .ok (.ifCond cd o, 3)) (ho : 0 ≤ (pc : Int) + o) (hY : ((pc : Int) + o).toNat = pcY) (hN : pc + 3 = pcN) (KY : own_P cd x 0 → own_W p e below P T m pcY Ls S) (KN : own_N cd x 0 → own_W p e below P T m pcN Ls S) : own_W p e below P T m pc Ls (.int x :: S) :=
  (own_or cd x 0).elim (fun q => own_ifY X hx hd ho hY q (KY q)) (fun q => own_ifN X hx hd hN q (KN q))
/-- the same of two longs: lcmp and the branch behind it, in one -/
def own_PL : ClassFile.Cond → Int64 → Int64 → Prop
  | .eq, x, y => x = y
  | .ne, x, y => ¬ x = y
  | .lt, x, y => x < y
  | .ge, x, y => ¬ x < y
  | .gt, x, y => y < x
  | .le, x, y => ¬ y < x
def own_NL : ClassFile.Cond → Int64 → Int64 → Prop
  | .eq, x, y => ¬ x = y
  | .ne, x, y => x = y
  | .lt, x, y => ¬ x < y
  | .ge, x, y => x < y
  | .gt, x, y => ¬ y < x
  | .le, x, y => y < x
theorem own_holdsLT {cd : ClassFile.Cond} {x y : Int64} (q : own_PL cd x y) : ifCond.holds cd (XT.cmpL x y) = true := by
  cases cd
  · exact XT.ll_eq_t q
  · exact XT.ll_ne_t q
  · exact XT.ll_lt_t q
  · exact XT.ll_ge_t q
  · exact XT.ll_gt_t q
  · exact XT.ll_le_t q
theorem own_holdsLF {cd : ClassFile.Cond} {x y : Int64} (q : own_NL cd x y) : ifCond.holds cd (XT.cmpL x y) = false := by
  cases cd
  · exact XT.ll_eq_f q
  · exact XT.ll_ne_f q
  · exact XT.ll_lt_f q
  · exact XT.ll_ge_f q
  · exact XT.ll_gt_f q
  · exact XT.ll_le_f q
theorem own_orL (cd : ClassFile.Cond) (x y : Int64) : own_PL cd x y ∨ own_NL cd x y := by
  cases cd
  · exact Classical.em (x = y)
  · exact (Classical.em (x = y)).symm
  · exact Classical.em (x < y)
  · exact (Classical.em (x < y)).symm
  · exact Classical.em (y < x)
  · exact (Classical.em (y < x)).symm
theorem own_lcY (X : Stand p l e R s m args below meth c T locs cells slots) (hx : p.tables.exec = Jvm.exec) {cd : ClassFile.Cond} {x y : Int64} {o : Int} (hd1 : decode c.code pc = .ok (.lcmp, 1)) (hd : decode c.code (pc + 1) = .ok (.ifCond cd o, 3)) (ho : 0 ≤ ((pc + 1 : Nat) : Int) + o) (hp : (((pc + 1 : Nat) : Int) + o).toNat = pc') (q : own_PL cd x y) (K : own_W p e below P T m pc' Ls S) : own_W p e below P T m pc Ls (.long y :: .long x :: S) :=
  own_go (fun t => XT.lcmp (g := mkF m pc Ls (.long y :: .long x :: S)) X.here hx rfl hd1 rfl) (own_go (fun t => XS.ifYes (g := mkF m (pc + 1) Ls (.int (XT.cmpL x y) :: S)) X.here hx rfl (pc0 := pc + 1) (pc' := pc') rfl hd rfl (own_holdsLT q) ho hp) K)
theorem own_lcN (X : Stand p l e R s m args below meth c T locs cells slots) (hx : p.tables.exec = Jvm.exec) {cd : ClassFile.Cond} {x y : Int64} {o : Int} (hd1 : decode c.code pc = .ok (.lcmp, 1)) (hd : decode c.code (pc + 1) = .ok (.ifCond cd o, 3)) (hp : pc + 4 = pc') (q : own_NL cd x y) (K : own_W p e below P T m pc' Ls S) : own_W p e below P T m pc Ls (.long y :: .long x :: S) := by
  subst hp; exact own_go (fun t => XT.lcmp (g := mkF m pc Ls (.long y :: .long x :: S)) X.here hx rfl hd1 rfl) (own_go (fun t => XS.ifNo (g := mkF m (pc + 1) Ls (.int (XT.cmpL x y) :: S)) X.here hx rfl hd rfl (own_holdsLF q)) K)
theorem own_lc (X : Stand p l e R s m args below meth c T locs cells slots) (hx : p.tables.exec = Jvm.exec) {cd : ClassFile.Cond} {x y : Int64} {o : Int} {pcY pcN : Nat} (hd1 : decode c.code pc = .ok (.lcmp, 1)) (hd : decode c.code (pc + 1) = .ok (.ifCond cd o, 3)) (ho : 0 ≤ ((pc + 1 : Nat) : Int) + o) (hY : (((pc + 1 : Nat) : Int) + o).toNat = pcY) (hN : pc + 4 = pcN) (KY : own_PL cd x y → own_W p e below P T m pcY Ls S) (KN : own_NL cd x y → own_W p e below P T m pcN Ls S) : own_W p e below P T m pc Ls (.long y :: .long x :: S) :=
  (own_orL cd x y).elim (fun q => own_lcY X hx hd1 hd ho hY q (KY q)) (fun q => own_lcN X hx hd1 hd hN q (KN q))
theorem own_ifnullY (X : Stand p l e R s m args below meth c T locs cells slots) (hx : p.tables.exec = Jvm.exec) {o : Int} (hd : decode c.code pc = .ok (.ifnull o, 3)) (ho : 0 ≤ (pc : Int) + o) (hp : ((pc : Int) + o).toNat = pc') (K : own_W p e below P T m pc' Ls S) : own_W p e below P T m pc Ls (.null :: S) :=
  own_go (fun t => XS.ifnullYes (g := mkF m pc Ls (.null :: S)) X.here hx rfl (pc0 := pc) (pc' := pc') rfl hd rfl ho hp) K
theorem own_ifnullN (X : Stand p l e R s m args below meth c T locs cells slots) (hx : p.tables.exec = Jvm.exec) {o : Int} {a : Addr} (hd : decode c.code pc = .ok (.ifnull o, 3)) (hp : pc + 3 = pc') (K : own_W p e below P T m pc' Ls S) : own_W p e below P T m pc Ls (.ref a :: S) := by
  subst hp; exact own_go (fun t => XS.ifnullNo (g := mkF m pc Ls (.ref a :: S)) X.here hx rfl hd rfl) K
theorem own_ifnonnullY (X : Stand p l e R s m args below meth c T locs cells slots) (hx : p.tables.exec = Jvm.exec) {o : Int} {a : Addr} (hd : decode c.code pc = .ok (.ifnonnull o, 3)) (ho : 0 ≤ (pc : Int) + o) (hp : ((pc : Int) + o).toNat = pc') (K : own_W p e below P T m pc' Ls S) : own_W p e below P T m pc Ls (.ref a :: S) :=
  own_go (fun t => XT.ifnonnullYes (g := mkF m pc Ls (.ref a :: S)) X.here hx rfl (pc0 := pc) (pc' := pc') rfl hd rfl ho hp) K
theorem own_ifnonnullN (X : Stand p l e R s m args below meth c T locs cells slots) (hx : p.tables.exec = Jvm.exec) {o : Int} (hd : decode c.code pc = .ok (.ifnonnull o, 3)) (hp : pc + 3 = pc') (K : own_W p e below P T m pc' Ls S) : own_W p e below P T m pc Ls (.null :: S) := by
  subst hp; exact own_go (fun t => XT.ifnonnullNo (g := mkF m pc Ls (.null :: S)) X.here hx rfl hd rfl) K
theorem own_acmpY (X : Stand p l e R s m args below meth c T locs cells slots) (hx : p.tables.exec = Jvm.exec) {cd : ClassFile.ACond} {x y : Value} {o : Int} (hd : decode c.code pc = .ok (.if_acmp cd o, 3)) (ho : 0 ≤ (pc : Int) + o) (hp : ((pc : Int) + o).toNat = pc') (hx' : x.isRef = true) (hy' : y.isRef = true) (q : XT.acmp cd x y = true) (K : own_W p e below P T m pc' Ls S) : own_W p e below P T m pc Ls (y :: x :: S) :=
  own_go (fun t => XT.acmpYes (g := mkF m pc Ls (y :: x :: S)) X.here hx rfl (pc0 := pc) (pc' := pc') rfl hd rfl hx' hy' q ho hp) K
theorem own_acmpN (X : Stand p l e R s m args below meth c T locs cells slots) (hx : p.tables.exec = Jvm.exec) {cd : ClassFile.ACond} {x y : Value} {o : Int} (hd : decode c.code pc = .ok (.if_acmp cd o, 3)) (hp : pc + 3 = pc') (hx' : x.isRef = true) (hy' : y.isRef = true) (q : XT.acmp cd x y = false) (K : own_W p e below P T m pc' Ls S) : own_W p e below P T m pc Ls (y :: x :: S) := by
  subst hp; exact own_go (fun t => XT.acmpNo (g := mkF m pc Ls (y :: x :: S)) X.here hx rfl hd rfl hx' hy' q) K
/-! heap -/
theorem own_getF (X : Stand p l e R s m args below meth c T locs cells slots) (hx : p.tables.exec = Jvm.exec) (hZ : Z.Warmed39 s.vm) {own R0 O n d host : String} {index : Nat} (hown : s.vm.findClass own = some m.cls) (w : (Cond.fieldLink own index R0 n d).before a0 Z = true ∨ (Cond.fieldLinkNest own index R0 n d host).before a0 Z = true) (via : Via Z R0 O n d)
    (eT : T.heap = h) {a : Addr} {v : Value} (F : Fld Z h a O n d v) (hd : decode c.code pc = .ok (.getfield index, 3)) (hp : pc + 3 = pc')
    (K : ∀ T', Stand p l e R s m args below meth c T' locs cells slots → T'.heap = h → own_W p e below P T' m pc' Ls (v :: S)) : own_W p e below P T m pc Ls (.ref a :: S) := by
  subst hp
  obtain ⟨T', X', e', st⟩ := getF X hx hZ hown w via eT F (g := mkF m pc Ls (.ref a :: S)) rfl rfl hd
  exact own_go st (K T' X' e')
theorem own_getS (X : Stand p l e R s m args below meth c T locs cells slots) (hx : p.tables.exec = Jvm.exec) (hZ : Z.Warmed39 s.vm) {own R0 O n d host : String} {index : Nat} (hown : s.vm.findClass own = some m.cls) (w : (Cond.fieldLink own index R0 n d).before a0 Z = true ∨ (Cond.fieldLinkNest own index R0 n d host).before a0 Z = true) (via : Via Z R0 O n d)
    (eT : T.heap = h) {v : Value} (F : Sta Z h O n d v) (hd : decode c.code pc = .ok (.getstatic index, 3)) (hp : pc + 3 = pc')
    (K : ∀ T', Stand p l e R s m args below meth c T' locs cells slots → T'.heap = h → own_W p e below P T' m pc' Ls (v :: S)) : own_W p e below P T m pc Ls S := by
  subst hp
  obtain ⟨T', X', e', st⟩ := getS2 X hx hZ hown w via eT F (g := mkF m pc Ls S) rfl hd
  exact own_go st (K T' X' e')
theorem own_putF (X : Stand p l e R s m args below meth c T locs cells slots) (hx : p.tables.exec = Jvm.exec) (hZ : Z.Warmed39 s.vm) {own R0 O n d C : String} {index kk : Nat} {ty : FieldType} (hown : s.vm.findClass own = some m.cls) (w : (Cond.fieldLink own index R0 n d).before a0 Z = true) (via : Via Z R0 O n d)
    (eT : T.heap = h) {a : Addr} {v v' old : Value} (F : Fld Z h a O n d old) (E : Exa Z h a C) (L : (Cond.lays C O n d).before a0 Z = true ∨ ((Cond.laysFinal C O n d).before a0 Z = true ∧ own = O ∧ meth.name = "<init>")) (wi : (Cond.instantiable C kk).before a0 Z = true)
    (hty : parseFieldDescriptor d = some ty) (hn : narrow ty v = v') (hf : fits ty v' = true) (hd : decode c.code pc = .ok (.putfield index, 3)) (hp : pc + 3 = pc')
    (K : ∀ T' h' lc, Stand p l e R s m args below meth c T' lc cells slots → T'.heap = h' → Wr h h' a (Jvm.RoadKit.slotOf Z O n d) v' → (∀ n0, n0 ≤ a → Fr n0 locs → Fr n0 lc) → own_W p e below P T' m pc' Ls S) : own_W p e below P T m pc Ls (v :: .ref a :: S) := by
  subst hp
  obtain ⟨T', h', X', e', W', st⟩ := putFN X hx hZ hown w via eT F E L wi hty hn hf (g := mkF m pc Ls (v :: .ref a :: S)) rfl rfl hd
  exact own_go st (K T' h' _ X' e' W' fun _ q N => Fr.snoc X' N q)
theorem own_new (X : Stand p l e R s m args below meth c T locs cells slots) (hx : p.tables.exec = Jvm.exec) (hZ : Z.Warmed39 s.vm) {own C : String} {index n : Nat} (hown : s.vm.findClass own = some m.cls) (w : (Cond.classLink own index C).before a0 Z = true) (wi : (Cond.instantiable C n).before a0 Z = true) (wz : (Cond.initialized C).before a0 Z = true) (eT : T.heap = h)
    (hd : decode c.code pc = .ok (.new index, 3)) (hp : pc + 3 = pc') {cells' slots' : Nat} (hc' : cells + 1 = cells') (hs' : slots + n = slots') (hc : cells' ≤ R.cells) (hl : slots' ≤ R.slots)
    (K : ∀ T' h' a, Stand p l e R s m args below meth c T' locs cells' slots' → T'.heap = h' → Ext h h' → a = h.size → Exa Z h' a C → (∀ {O nm d : String} {ty : FieldType}, Laid Z a0 C O nm d → parseFieldDescriptor d = some ty → Fld Z h' a O nm d (defaultValue ty)) → own_W p e below P T' m pc' Ls (.ref a :: S)) : own_W p e below P T m pc Ls S := by
  subst hp hc' hs'
  obtain ⟨T', h', X', e', E', A', D', -, st⟩ := newO X hx hZ hown w wi wz eT (g := mkF m pc Ls S) rfl hd hc hl
  exact own_go st (K T' h' _ X' e' E' rfl A' D')
theorem own_newarr (X : Stand p l e R s m args below meth c T locs cells slots) (hx : p.tables.exec = Jvm.exec) (hZ : Z.Warmed39 s.vm) {aty : ArrayType} (w : (Cond.arrayClass (newarray.typeOf aty)).before a0 Z = true) (eT : T.heap = h) (hd : decode c.code pc = .ok (.newarray aty, 2)) (hp : pc + 2 = pc') {n : Int32}
    (hn : ¬ n < 0) (cap : Nat) (hcap : n.toNatClampNeg ≤ cap) (hb : cap * 8 ≤ 536870912) {cells' slots' : Nat} (hc' : cells + 1 = cells') (hs' : slots + cap = slots') (hc : cells' ≤ R.cells) (hl : slots' ≤ R.slots)
    (K : ∀ T' h' cA a, Stand p l e R s m args below meth c T' locs cells' slots' → T'.heap = h' → Ext h h' → a = h.size → Arv Z h' a cA (newarray.typeOf aty) n [] (defaultValue (newarray.typeOf aty)) → own_W p e below P T' m pc' Ls (.ref a :: S)) : own_W p e below P T m pc Ls (.int n :: S) := by
  subst hp hc' hs'
  obtain ⟨T', h', cA, X', e', E', A', st⟩ := newP X hx hZ w eT (g := mkF m pc Ls (.int n :: S)) rfl hd rfl hn hcap hb hc hl
  exact own_go st (K T' h' cA _ X' e' E' rfl (Arv.new A' hn))
theorem own_arrlen (X : Stand p l e R s m args below meth c T locs cells slots) (hx : p.tables.exec = Jvm.exec) (hZ : Z.Warmed39 s.vm) (eT : T.heap = h) {a : Addr} {k : ClassId} {ty : FieldType} {n : Int32} {vs : List Value} {dv : Value} (A : Arv Z h a k ty n vs dv) (hd : decode c.code pc = .ok (.arraylength, 1)) (hp : pc + 1 = pc')
    (K : own_W p e below P T m pc' Ls (.int n :: S)) : own_W p e below P T m pc Ls (.ref a :: S) := by
  subst hp
  obtain ⟨cl, Ar, -, Sz, M, -⟩ := A
  have q := len_of Sz M
  rw [← q] at K
  exact own_go (fun t => X.arraylength hx (cell := cl) (by rw [eT]; exact Ar.1) (State.isArrayOf_alike hZ.alike Ar.2.1) (g := mkF m pc Ls (.ref a :: S)) rfl rfl hd t) K
theorem own_iaload (X : Stand p l e R s m args below meth c T locs cells slots) (hx : p.tables.exec = Jvm.exec) (hZ : Z.Warmed39 s.vm) (eT : T.heap = h) {a : Addr} {k : ClassId} {n : Int32} {vs : List Value} {dv : Value} (A : Arv Z h a k .int n vs dv) {j : Int32} {v : Value} (hj : ¬ j < 0 ∧ j < n) (hv : vs.getD j.toNatClampNeg dv = v) (hd : decode c.code pc = .ok (.iaload, 1)) (hp : pc + 1 = pc')
    (K : own_W p e below P T m pc' Ls (v :: S)) : own_W p e below P T m pc Ls (.int j :: .ref a :: S) := by
  subst hp
  obtain ⟨cl, Ar, -, Sz, M, H, -⟩ := A
  have hin := inb_of Sz hj
  exact own_go (fun t => X.iaload hx (cell := cl) (j := j) (v := v) (by rw [eT]; exact Ar.1) (State.isArrayOf_alike hZ.alike Ar.2.1) Ar.2.2 hin (H.at hin hv) (g := mkF m pc Ls (.int j :: .ref a :: S)) rfl rfl hd t) K
theorem own_laload (X : Stand p l e R s m args below meth c T locs cells slots) (hx : p.tables.exec = Jvm.exec) (hZ : Z.Warmed39 s.vm) (eT : T.heap = h) {a : Addr} {k : ClassId} {n : Int32} {vs : List Value} {dv : Value} (A : Arv Z h a k .long n vs dv) {j : Int32} {v : Value} (hj : ¬ j < 0 ∧ j < n) (hv : vs.getD j.toNatClampNeg dv = v) (hd : decode c.code pc = .ok (.laload, 1)) (hp : pc + 1 = pc')
    (K : own_W p e below P T m pc' Ls (v :: S)) : own_W p e below P T m pc Ls (.int j :: .ref a :: S) := by
  subst hp
  obtain ⟨cl, Ar, -, Sz, M, H, -⟩ := A
  have hin := inb_of Sz hj
  exact own_go (fun t => X.laload hx (cell := cl) (j := j) (v := v) (by rw [eT]; exact Ar.1) (State.isArrayOf_alike hZ.alike Ar.2.1) Ar.2.2 hin (H.at hin hv) (g := mkF m pc Ls (.int j :: .ref a :: S)) rfl rfl hd t) K
theorem own_caload (X : Stand p l e R s m args below meth c T locs cells slots) (hx : p.tables.exec = Jvm.exec) (hZ : Z.Warmed39 s.vm) (eT : T.heap = h) {a : Addr} {k : ClassId} {n : Int32} {vs : List Value} {dv : Value} (A : Arv Z h a k .char n vs dv) {j : Int32} {v : Value} (hj : ¬ j < 0 ∧ j < n) (hv : vs.getD j.toNatClampNeg dv = v) (hd : decode c.code pc = .ok (.caload, 1)) (hp : pc + 1 = pc')
    (K : own_W p e below P T m pc' Ls (v :: S)) : own_W p e below P T m pc Ls (.int j :: .ref a :: S) := by
  subst hp
  obtain ⟨cl, Ar, -, Sz, M, H, -⟩ := A
  have hin := inb_of Sz hj
  exact own_go (fun t => X.caload hx (cell := cl) (j := j) (v := v) (by rw [eT]; exact Ar.1) (State.isArrayOf_alike hZ.alike Ar.2.1) Ar.2.2 hin (H.at hin hv) (g := mkF m pc Ls (.int j :: .ref a :: S)) rfl rfl hd t) K
theorem own_baloadB (X : Stand p l e R s m args below meth c T locs cells slots) (hx : p.tables.exec = Jvm.exec) (hZ : Z.Warmed39 s.vm) (eT : T.heap = h) {a : Addr} {k : ClassId} {n : Int32} {vs : List Value} {dv : Value} (A : Arv Z h a k .byte n vs dv) {j : Int32} {v : Value} (hj : ¬ j < 0 ∧ j < n) (hv : vs.getD j.toNatClampNeg dv = v) (hd : decode c.code pc = .ok (.baload, 1)) (hp : pc + 1 = pc')
    (K : own_W p e below P T m pc' Ls (v :: S)) : own_W p e below P T m pc Ls (.int j :: .ref a :: S) := by
  subst hp
  obtain ⟨cl, Ar, -, Sz, M, H, -⟩ := A
  have hin := inb_of Sz hj
  exact own_go (fun t => X.baloadBytes hx (cell := cl) (j := j) (v := v) (by rw [eT]; exact Ar.1) (State.isArrayOf_alike hZ.alike Ar.2.1) Ar.2.2 hin (H.at hin hv) (g := mkF m pc Ls (.int j :: .ref a :: S)) rfl rfl hd t) K
theorem own_baloadZ (X : Stand p l e R s m args below meth c T locs cells slots) (hx : p.tables.exec = Jvm.exec) (hZ : Z.Warmed39 s.vm) (eT : T.heap = h) {a : Addr} {k : ClassId} {n : Int32} {vs : List Value} {dv : Value} (A : Arv Z h a k .boolean n vs dv) {j : Int32} {v : Value} (hj : ¬ j < 0 ∧ j < n) (hv : vs.getD j.toNatClampNeg dv = v) (hd : decode c.code pc = .ok (.baload, 1)) (hp : pc + 1 = pc')
    (K : own_W p e below P T m pc' Ls (v :: S)) : own_W p e below P T m pc Ls (.int j :: .ref a :: S) := by
  subst hp
  obtain ⟨cl, Ar, -, Sz, M, H, -⟩ := A
  have hin := inb_of Sz hj
  exact own_go (fun t => X.baloadBooleans hx (cell := cl) (j := j) (v := v) (by rw [eT]; exact Ar.1) (State.isArrayOf_alike hZ.alike Ar.2.1) Ar.2.2 hin (H.at hin hv) (g := mkF m pc Ls (.int j :: .ref a :: S)) rfl rfl hd t) K
theorem own_aaload (X : Stand p l e R s m args below meth c T locs cells slots) (hx : p.tables.exec = Jvm.exec) (hZ : Z.Warmed39 s.vm) (eT : T.heap = h) {a : Addr} {k : ClassId} {ty : FieldType} (hty : ty.isReference = true) {n : Int32} {vs : List Value} {dv : Value} (A : Arv Z h a k ty n vs dv) {j : Int32} {v : Value} (hj : ¬ j < 0 ∧ j < n) (hv : vs.getD j.toNatClampNeg dv = v) (hd : decode c.code pc = .ok (.aaload, 1)) (hp : pc + 1 = pc')
    (K : own_W p e below P T m pc' Ls (v :: S)) : own_W p e below P T m pc Ls (.int j :: .ref a :: S) := by
  subst hp
  obtain ⟨cl, Ar, -, Sz, M, H, -⟩ := A
  have hin := inb_of Sz hj
  exact own_go (fun t => X.aaload hx (cell := cl) (j := j) (v := v) (by rw [eT]; exact Ar.1) (State.isArrayOf_alike hZ.alike Ar.2.1) hty Ar.2.2 hin (H.at hin hv) (g := mkF m pc Ls (.int j :: .ref a :: S)) rfl rfl hd t) K
theorem own_iastore (X : Stand p l e R s m args below meth c T locs cells slots) (hx : p.tables.exec = Jvm.exec) (hZ : Z.Warmed39 s.vm) (eT : T.heap = h) {a : Addr} {k : ClassId} {n : Int32} {vs : List Value} {dv : Value} (A : Arv Z h a k .int n vs dv) {j : Int32} {x : Int32} (hj : ¬ j < 0 ∧ j < n) (i : Nat) (hi : j.toNatClampNeg = i) (hlen : i < vs.length) (hd : decode c.code pc = .ok (.iastore, 1)) (hp : pc + 1 = pc')
    (K : ∀ T' h' lc, Stand p l e R s m args below meth c T' lc cells slots → T'.heap = h' → Keep h h' [a] → Arv Z h' a k .int n (vs.set i (.int x)) dv → (∀ n0, n0 ≤ a → Fr n0 locs → Fr n0 lc) → own_W p e below P T' m pc' Ls S) : own_W p e below P T m pc Ls (.int x :: .int j :: .ref a :: S) := by
  subst hp
  obtain ⟨cl, Ar, q1, Sz, M, H, G⟩ := A
  obtain ⟨T', h', X', e', W', st⟩ := stI X hx hZ eT Ar (inb_of Sz hj) (g := mkF m pc Ls (.int x :: .int j :: .ref a :: S)) rfl rfl hd
  exact own_go st (K T' h' _ X' e' (Keep.of_wr W') (Arv.set Ar q1 Sz M H G rfl W' i hi hlen) fun _ q N => Fr.snoc X' N q)
theorem own_lastore (X : Stand p l e R s m args below meth c T locs cells slots) (hx : p.tables.exec = Jvm.exec) (hZ : Z.Warmed39 s.vm) (eT : T.heap = h) {a : Addr} {k : ClassId} {n : Int32} {vs : List Value} {dv : Value} (A : Arv Z h a k .long n vs dv) {j : Int32} {x : Int64} (hj : ¬ j < 0 ∧ j < n) (i : Nat) (hi : j.toNatClampNeg = i) (hlen : i < vs.length) (hd : decode c.code pc = .ok (.lastore, 1)) (hp : pc + 1 = pc')
    (K : ∀ T' h' lc, Stand p l e R s m args below meth c T' lc cells slots → T'.heap = h' → Keep h h' [a] → Arv Z h' a k .long n (vs.set i (.long x)) dv → (∀ n0, n0 ≤ a → Fr n0 locs → Fr n0 lc) → own_W p e below P T' m pc' Ls S) : own_W p e below P T m pc Ls (.long x :: .int j :: .ref a :: S) := by
  subst hp
  obtain ⟨cl, Ar, q1, Sz, M, H, G⟩ := A
  obtain ⟨T', h', X', e', W', st⟩ := stJ X hx hZ eT Ar (inb_of Sz hj) (g := mkF m pc Ls (.long x :: .int j :: .ref a :: S)) rfl rfl hd
  exact own_go st (K T' h' _ X' e' (Keep.of_wr W') (Arv.set Ar q1 Sz M H G rfl W' i hi hlen) fun _ q N => Fr.snoc X' N q)
theorem own_castore (X : Stand p l e R s m args below meth c T locs cells slots) (hx : p.tables.exec = Jvm.exec) (hZ : Z.Warmed39 s.vm) (eT : T.heap = h) {a : Addr} {k : ClassId} {n : Int32} {vs : List Value} {dv : Value} (A : Arv Z h a k .char n vs dv) {j : Int32} {x : Int32} (hj : ¬ j < 0 ∧ j < n) (i : Nat) (hi : j.toNatClampNeg = i) (hlen : i < vs.length) (hd : decode c.code pc = .ok (.castore, 1)) (hp : pc + 1 = pc')
    (K : ∀ T' h' lc, Stand p l e R s m args below meth c T' lc cells slots → T'.heap = h' → Keep h h' [a] → Arv Z h' a k .char n (vs.set i (.int (nar .char x))) dv → (∀ n0, n0 ≤ a → Fr n0 locs → Fr n0 lc) → own_W p e below P T' m pc' Ls S) : own_W p e below P T m pc Ls (.int x :: .int j :: .ref a :: S) := by
  subst hp
  obtain ⟨cl, Ar, q1, Sz, M, H, G⟩ := A
  obtain ⟨T', h', X', e', W', st⟩ := stC X hx hZ eT Ar (inb_of Sz hj) (g := mkF m pc Ls (.int x :: .int j :: .ref a :: S)) rfl rfl hd
  exact own_go st (K T' h' _ X' e' (Keep.of_wr W') (Arv.set Ar q1 Sz M H G (fits_nar_char x) W' i hi hlen) fun _ q N => Fr.snoc X' N q)
theorem own_bastoreZ (X : Stand p l e R s m args below meth c T locs cells slots) (hx : p.tables.exec = Jvm.exec) (hZ : Z.Warmed39 s.vm) (eT : T.heap = h) {a : Addr} {k : ClassId} {n : Int32} {vs : List Value} {dv : Value} (A : Arv Z h a k .boolean n vs dv) {j : Int32} {x : Int32} (hj : ¬ j < 0 ∧ j < n) (i : Nat) (hi : j.toNatClampNeg = i) (hlen : i < vs.length) (hd : decode c.code pc = .ok (.bastore, 1)) (hp : pc + 1 = pc')
    (K : ∀ T' h' lc, Stand p l e R s m args below meth c T' lc cells slots → T'.heap = h' → Keep h h' [a] → Arv Z h' a k .boolean n (vs.set i (.int (nar .boolean x))) dv → (∀ n0, n0 ≤ a → Fr n0 locs → Fr n0 lc) → own_W p e below P T' m pc' Ls S) : own_W p e below P T m pc Ls (.int x :: .int j :: .ref a :: S) := by
  subst hp
  obtain ⟨cl, Ar, q1, Sz, M, H, G⟩ := A
  obtain ⟨T', h', X', e', W', st⟩ := stZ X hx hZ eT Ar (inb_of Sz hj) (g := mkF m pc Ls (.int x :: .int j :: .ref a :: S)) rfl rfl hd
  exact own_go st (K T' h' _ X' e' (Keep.of_wr W') (Arv.set Ar q1 Sz M H G (fits_nar_bool x) W' i hi hlen) fun _ q N => Fr.snoc X' N q)
theorem own_bastoreB (X : Stand p l e R s m args below meth c T locs cells slots) (hx : p.tables.exec = Jvm.exec) (hZ : Z.Warmed39 s.vm) (eT : T.heap = h) {a : Addr} {k : ClassId} {n : Int32} {vs : List Value} {dv : Value} (A : Arv Z h a k .byte n vs dv) {j : Int32} {x : Int32} (hj : ¬ j < 0 ∧ j < n) (i : Nat) (hi : j.toNatClampNeg = i) (hlen : i < vs.length) (hd : decode c.code pc = .ok (.bastore, 1)) (hp : pc + 1 = pc')
    (K : ∀ T' h' lc, Stand p l e R s m args below meth c T' lc cells slots → T'.heap = h' → Keep h h' [a] → Arv Z h' a k .byte n (vs.set i (.int (nar .byte x))) dv → (∀ n0, n0 ≤ a → Fr n0 locs → Fr n0 lc) → own_W p e below P T' m pc' Ls S) : own_W p e below P T m pc Ls (.int x :: .int j :: .ref a :: S) := by
  subst hp
  obtain ⟨cl, Ar, q1, Sz, M, H, G⟩ := A
  obtain ⟨T', h', X', e', W', st⟩ := stB X hx hZ eT Ar (inb_of Sz hj) (g := mkF m pc Ls (.int x :: .int j :: .ref a :: S)) rfl rfl hd
  exact own_go st (K T' h' _ X' e' (Keep.of_wr W') (Arv.set Ar q1 Sz M H G (fits_nar_byte x) W' i hi hlen) fun _ q N => Fr.snoc X' N q)
theorem own_cast (X : Stand p l e R s m args below meth c T locs cells slots) (hx : p.tables.exec = Jvm.exec) (hZ : Z.Warmed39 s.vm) {own C : String} {index : Nat} (hown : s.vm.findClass own = some m.cls) (w : (Cond.classLink own index C).before a0 Z = true) (eT : T.heap = h) {a : Addr} (E : Exa Z h a C) (hd : decode c.code pc = .ok (.checkcast index, 3)) (hp : pc + 3 = pc')
    (K : ∀ T', Stand p l e R s m args below meth c T' locs cells slots → T'.heap = h → own_W p e below P T' m pc' Ls (.ref a :: S)) : own_W p e below P T m pc Ls (.ref a :: S) := by
  subst hp
  obtain ⟨T', X', e', st⟩ := castY X hx hZ hown w eT (Ins.self E) (g := mkF m pc Ls (.ref a :: S)) rfl rfl hd
  exact own_go st (K T' X' e')
theorem own_inst (X : Stand p l e R s m args below meth c T locs cells slots) (hx : p.tables.exec = Jvm.exec) (hZ : Z.Warmed39 s.vm) {own C : String} {index : Nat} (hown : s.vm.findClass own = some m.cls) (w : (Cond.classLink own index C).before a0 Z = true) (eT : T.heap = h) {a : Addr} (E : Exa Z h a C) (hd : decode c.code pc = .ok (.instanceof index, 3)) (hp : pc + 3 = pc')
    (K : ∀ T', Stand p l e R s m args below meth c T' locs cells slots → T'.heap = h → own_W p e below P T' m pc' Ls (.int 1 :: S)) : own_W p e below P T m pc Ls (.ref a :: S) := by
  subst hp
  obtain ⟨T', X', e', st⟩ := instY X hx hZ hown w eT (Ins.self E) (g := mkF m pc Ls (.ref a :: S)) rfl rfl hd
  exact own_go st (K T' X' e')
theorem own_acmpne (X : Stand p l e R s m args below meth c T locs cells slots) (hx : p.tables.exec = Jvm.exec) {x y : Addr} {o : Int} {pcY pcN : Nat} (hd : decode c.code pc = .ok (.if_acmp .ne o, 3)) (ho : 0 ≤ (pc : Int) + o) (hY : ((pc : Int) + o).toNat = pcY) (hN : pc + 3 = pcN) (KY : ¬ x = y → own_W p e below P T m pcY Ls S) (KN : x = y → own_W p e below P T m pcN Ls S) : own_W p e below P T m pc Ls (.ref y :: .ref x :: S) :=
  (Classical.em (x = y)).elim (fun q => own_acmpN X hx hd hN rfl rfl (XT.aa_ne_f (congrArg Value.ref q)) (KN q)) (fun q => own_acmpY X hx hd ho hY rfl rfl (XT.aa_ne_t fun z => q (Value.ref.inj z)) (KY q))
theorem own_sta_keep {h' : Heap} {ws : List Addr} {C n d : String} {v : Value} (F : Sta Z h C n d v) (K : Keep h h' ws) (hn : ∀ x ∈ ws, ∀ cell : Cell, h[x]? = some cell → cell.vm.isStatics = false) : Sta Z h' C n d v := by
  obtain ⟨cf, i, k, f, st, cell, h1, h2, h3, h4, h5, h6, h7⟩ := F
  exact ⟨cf, i, k, f, st, cell, h1, h2, h3, h4, K.2.1 _ _ h5 (fun q => by rw [hn _ q _ h5] at h6; cases h6), h6, h7⟩
theorem own_ns_exa {a : Addr} {C : String} (E : Exa Z h a C) : ∀ cell : Cell, h[a]? = some cell → cell.vm.isStatics = false := fun cell hc => by
  obtain ⟨c', k, h1, h2, h3, h4, h5⟩ := E
  cases h1.symm.trans hc; exact h4
theorem own_ns_arv {a : Addr} {k : ClassId} {ty : FieldType} {z : Int32} {vs : List Value} {dv : Value} (A : Arv Z h a k ty z vs dv) : ∀ cell : Cell, h[a]? = some cell → cell.vm.isStatics = false := fun cell hc => by
  obtain ⟨c', Ar, -⟩ := A
  cases Ar.1.symm.trans hc; exact Ar.plain
theorem own_callS (X : Stand p l e R s m args below meth c T locs cells slots) (hx : p.tables.exec = Jvm.exec) (hZ : Z.Warmed39 s.vm) {own : String} {index : Nat} {y : MethodName} {bytes : ByteArray} {maxL : Nat} {ret : Option FieldType} {rm : Room} {Qc : Option Value → Heap → List Loc → Prop} {as' : Array Value} {S' : List Value} (argsL : List Value)
    (hown : s.vm.findClass own = some m.cls) (w1 : (Cond.methodLink own index y).before a0 Z = true) (w2 : (Cond.static y).before a0 Z = true) (w3 : (Cond.initialized y.cls).before a0 Z = true) (w4 : (Cond.code y bytes maxL ret).before a0 Z = true) (hy : y.cls ≠ "java/lang/invoke/MethodHandle" ∧ y.cls ≠ "java/lang/invoke/VarHandle")
    (hM : MetFree l y (head1 [Cond.code y bytes maxL ret] rm) (fun a U => a = as' ∧ Z.Warmed39 U.vm ∧ U.heap = h) (fun _ _ _ _ _ => True) (fun _ U o U' => ∃ v L, o = .returned v ∧ Qc v U'.heap L ∧ FrameEnd U o U' L rm.cells rm.slots))
    (eT : T.heap = h) {W cells' slots' : Nat} (hf : rm.frames + 1 ≤ R.frames) (hl : W + (maxL + 11) + rm.locals ≤ R.locals) (hc' : cells + rm.cells = cells') (hs' : slots + rm.slots = slots') (hc : cells' ≤ R.cells) (hs : slots' ≤ R.slots) (hsize : Ls.size = c.maxLocals) (hlen : ∀ sig, parseMethodDescriptor y.desc = some sig → argsL.length = sig.parameters.length) (has : argsL.toArray = as') (hstk : S' = argsL.reverse ++ S) (hW : 2 * 0 + (S.map fun v => v.category).sum ≤ W) (hd : decode c.code pc = .ok (.invokestatic index, 3)) (hp : pc + 3 = pc')
    (K : ∀ v T' h' L lc, Stand p l e R s m args below meth c T' lc cells' slots' → T'.heap = h' → Qc v h' L → (∀ n0, Fr n0 locs → Fr n0 L → Fr n0 lc) → own_W p e below P T' m pc' Ls (v.toList ++ S)) : own_W p e below P T m pc Ls S' := by
  subst hp hc' hs'
  obtain ⟨v, vm₁, ⟨T1, L1, k1, n1⟩, -, X1, ⟨Lc1, hQ1, l1, y1, z1⟩, st1⟩ := Jvm.LawKit.callS X hx hown (mvT hZ w1) (mvT hZ w2) (mvT hZ w3) (mvT hZ w4) hy (backOf hM hZ w4 w3 hf hl) (g := mkF m pc Ls S') rfl hsize (argsL := argsL) (rest := S) hlen hstk hW hd (fun _ _ => ⟨has, eT, hc, hs⟩)
  dsimp only [Pt.U, Pt.locs, Pt.cells, Pt.slots] at X1 l1 y1 z1 st1 hQ1
  subst l1 y1 z1
  exact own_go st1 (K v T1 _ Lc1 _ X1 rfl hQ1 fun _ a b => Fr.app a b)
theorem own_callN (X : Stand p l e R s m args below meth c T locs cells slots) (hx : p.tables.exec = Jvm.exec) (hZ : Z.Warmed39 s.vm) {own : String} {index : Nat} {y : MethodName} {bytes : ByteArray} {maxL : Nat} {rm : Room} {Qc : Option Value → Heap → List Loc → Prop} {as' : Array Value} {S' : List Value} (a : Addr) (argsL : List Value) (hy1 : y.name = "<init>")
    (hown : s.vm.findClass own = some m.cls) (w1 : (Cond.methodLink own index y).before a0 Z = true) (w2 : (Cond.instanceMethod y).before a0 Z = true) (w3 : (Cond.initialized y.cls).before a0 Z = true) (w4 : (Cond.code y bytes maxL none).before a0 Z = true) (hy : y.cls ≠ "java/lang/invoke/MethodHandle" ∧ y.cls ≠ "java/lang/invoke/VarHandle")
    (hM : MetFree l y (head1 [Cond.code y bytes maxL none] rm) (fun a U => a = as' ∧ Z.Warmed39 U.vm ∧ U.heap = h) (fun _ _ _ _ _ => True) (fun _ U o U' => ∃ v L, o = .returned v ∧ Qc v U'.heap L ∧ FrameEnd U o U' L rm.cells rm.slots))
    (eT : T.heap = h) {W cells' slots' : Nat} (hf : rm.frames + 1 ≤ R.frames) (hl : W + (maxL + 11) + rm.locals ≤ R.locals) (hc' : cells + rm.cells = cells') (hs' : slots + rm.slots = slots') (hc : cells' ≤ R.cells) (hs : slots' ≤ R.slots) (hsize : Ls.size = c.maxLocals) (hlen : ∀ sig, parseMethodDescriptor y.desc = some sig → argsL.length = sig.parameters.length) (has : (.ref a :: argsL).toArray = as') (hstk : S' = argsL.reverse ++ .ref a :: S) (hW : 2 * 0 + (S.map fun v => v.category).sum ≤ W) (hd : decode c.code pc = .ok (.invokespecial index, 3)) (hp : pc + 3 = pc')
    (K : ∀ v T' h' L lc, Stand p l e R s m args below meth c T' lc cells' slots' → T'.heap = h' → Qc v h' L → (∀ n0, Fr n0 locs → Fr n0 L → Fr n0 lc) → own_W p e below P T' m pc' Ls (v.toList ++ S)) : own_W p e below P T m pc Ls S' := by
  subst hp hc' hs'
  obtain ⟨v, vm₁, ⟨T1, L1, k1, n1⟩, -, X1, ⟨Lc1, hQ1, l1, y1, z1⟩, st1⟩ := X.specialBack hx hy1 hown (mvT hZ w1) (mvT hZ w2) (mvT hZ w4) hy (backOf hM hZ w4 w3 hf hl) (g := mkF m pc Ls S') rfl hsize (Steps.refl _) (a := a) (argsL := argsL) (rest := S) hlen hstk hW hd (fun _ _ => ⟨has, eT, hc, hs⟩)
  dsimp only [Pt.U, Pt.locs, Pt.cells, Pt.slots] at X1 l1 y1 z1 st1 hQ1
  subst l1 y1 z1
  exact own_go (fun t k => st1.trans k) (K v T1 _ Lc1 _ X1 rfl hQ1 fun _ a b => Fr.app a b)
theorem own_callV (X : Stand p l e R s m args below meth c T locs cells slots) (hx : p.tables.exec = Jvm.exec) (hZ : Z.Warmed39 s.vm) {own C : String} {index : Nat} {y : MethodName} {bytes : ByteArray} {maxL : Nat} {ret : Option FieldType} {rm : Room} {Qc : Option Value → Heap → List Loc → Prop} {as' : Array Value} {S' : List Value} (a : Addr) (argsL : List Value)
    (hown : s.vm.findClass own = some m.cls) (w1 : (Cond.methodLink own index y).before a0 Z = true) (w2 : (Cond.declares y).before a0 Z = true) (w5 : (Cond.selects C y y).before a0 Z = true) (w6 : (Cond.instanceMethod y).before a0 Z = true) (w3 : (Cond.initialized y.cls).before a0 Z = true) (w4 : (Cond.code y bytes maxL ret).before a0 Z = true) (hy : y.cls ≠ "java/lang/invoke/MethodHandle" ∧ y.cls ≠ "java/lang/invoke/VarHandle")
    (hM : MetFree l y (head1 [Cond.code y bytes maxL ret] rm) (fun a U => a = as' ∧ Z.Warmed39 U.vm ∧ U.heap = h) (fun _ _ _ _ _ => True) (fun _ U o U' => ∃ v L, o = .returned v ∧ Qc v U'.heap L ∧ FrameEnd U o U' L rm.cells rm.slots))
    (E : Exa Z h a C) (eT : T.heap = h) {W cells' slots' : Nat} (hf : rm.frames + 1 ≤ R.frames) (hl : W + (maxL + 11) + rm.locals ≤ R.locals) (hc' : cells + rm.cells = cells') (hs' : slots + rm.slots = slots') (hc : cells' ≤ R.cells) (hs : slots' ≤ R.slots) (hsize : Ls.size = c.maxLocals) (hlen : ∀ sig, parseMethodDescriptor y.desc = some sig → argsL.length = sig.parameters.length) (has : (.ref a :: argsL).toArray = as') (hstk : S' = argsL.reverse ++ .ref a :: S) (hW : 2 * 0 + (S.map fun v => v.category).sum ≤ W) (hd : decode c.code pc = .ok (.invokevirtual index, 3)) (hp : pc + 3 = pc')
    (K : ∀ v T' h' L lc, Stand p l e R s m args below meth c T' lc cells' slots' → T'.heap = h' → Qc v h' L → (∀ n0, Fr n0 locs → Fr n0 L → Fr n0 lc) → own_W p e below P T' m pc' Ls (v.toList ++ S)) : own_W p e below P T m pc Ls S' := by
  subst hp hc' hs'
  obtain ⟨cq, kq, qa, qb, qc⟩ := isOf hZ eT E
  obtain ⟨v, vm₁, ⟨T1, L1, k1, n1⟩, -, X1, ⟨Lc1, hQ1, l1, y1, z1⟩, st1⟩ := X.virtualBack hx hown (mvT hZ w1) (mvT hZ w2) (notFace_of_selects (args := #[]) (mvT hZ w5)) (mvT hZ w5) (mvT hZ w6) hy (backOf hM hZ w4 w3 hf hl) qa qc (g := mkF m pc Ls S') rfl hsize (Steps.refl _) (argsL := argsL) (rest := S) hlen hstk hW hd (fun _ _ => ⟨has, eT, hc, hs⟩)
  dsimp only [Pt.U, Pt.locs, Pt.cells, Pt.slots] at X1 l1 y1 z1 st1 hQ1
  subst l1 y1 z1
  exact own_go (fun t k => st1.trans k) (K v T1 _ Lc1 _ X1 rfl hQ1 fun _ a b => Fr.app a b)
theorem own_initO (X : Stand p l e R s m args below meth c T locs cells slots) (hx : p.tables.exec = Jvm.exec) (hZ : Z.Warmed39 s.vm) {own : String} {idx : Nat} (hown : s.vm.findClass own = some m.cls) (w1 : (Cond.methodLink own idx Lib.objectInit).before a0 Z = true) (w2 : (Cond.instanceMethod Lib.objectInit).before a0 Z = true) (w3 : (Cond.code Lib.objectInit ⟨#[0xb1]⟩ 1 none).before a0 Z = true) (eT : T.heap = h)
    (hsize : Ls.size = c.maxLocals) {a : Addr} (hd : decode c.code pc = .ok (.invokespecial idx, 3)) (hp : pc + 3 = pc') (hf : 1 ≤ R.frames) {W : Nat} (hW : 2 * 0 + (S.map fun v => v.category).sum ≤ W) (hl : W + 12 ≤ R.locals)
    (K : ∀ T', Stand p l e R s m args below meth c T' locs cells slots → T'.heap = h → own_W p e below P T' m pc' Ls S) : own_W p e below P T m pc Ls (.ref a :: S) := by
  subst hp
  obtain ⟨T', X', e', st⟩ := initO X hx hZ hown w1 w2 w3 eT (g := mkF m pc Ls (.ref a :: S)) rfl hsize rfl hd hf (W := W) hW hl
  exact own_go st (K T' X' e')
/-! returns -/
theorem own_retI (X : Stand p l e R s m args below meth c T locs cells slots) (hx : p.tables.exec = Jvm.exec) (hlk : meth.locks = false) {t : FieldType} {w w' : Value} (hret : meth.sig.returnType = some t) (hd : decode c.code pc = .ok (.ireturn, 1)) {z : Int32} (hw : w = .int z) (hn : narrow t w = w') (ht : t = .int ∨ t = .boolean ∨ t = .byte ∨ t = .char ∨ t = .short) (hc : cells ≤ kc) (hs : slots ≤ ks) (hq : Q (some w') T.heap locs) : own_W p e below (own_Post s Q kc ks) T m pc Ls (w :: S) := by
  subst hw
  obtain ⟨fs, hr, hrun, hended, hW, hsame⟩ := X.leave (v := some w') (fun h => by rw [hret] at h; cases h) hlk
  refine ⟨_, _, ?_, hrun, hended, _, _, rfl, hq, ⟨_, rfl⟩, hW, hsame.mono hc hs⟩
  have hm' : T.vm.method? m = some meth := X.method'
  show Steps p.tables e below (T.setTop { method := m, pc := pc, locals := Ls, stack := _ :: S, locked := none }) _
  rcases ht with rfl | rfl | rfl | rfl | rfl
  all_goals
    jvm_step X.here [X.here.top, hx, hd, hm', hret, hn]
    first | (intro acts; rw [hr _ acts rfl rfl rfl]) | rw [hr _ _ rfl rfl rfl]
    exact Steps.refl _
theorem own_retJ (X : Stand p l e R s m args below meth c T locs cells slots) (hx : p.tables.exec = Jvm.exec) (hlk : meth.locks = false) {z : Int64} (hret : meth.sig.returnType = some .long) (hd : decode c.code pc = .ok (.lreturn, 1)) (hc : cells ≤ kc) (hs : slots ≤ ks) (hq : Q (some (.long z)) T.heap locs) : own_W p e below (own_Post s Q kc ks) T m pc Ls (.long z :: S) := by
  obtain ⟨fs, hr, hrun, hended, hW, hsame⟩ := X.leave (v := some (.long z)) (fun h => by rw [hret] at h; cases h) hlk
  exact ⟨_, _, retOut X hx hret rfl (Or.inr (Or.inl ⟨rfl, rfl, z, rfl⟩)) hd hr, hrun, hended, _, _, rfl, hq, ⟨_, rfl⟩, hW, hsame.mono hc hs⟩
theorem own_retA (X : Stand p l e R s m args below meth c T locs cells slots) (hx : p.tables.exec = Jvm.exec) (hlk : meth.locks = false) {t : FieldType} {w : Value} (hret : meth.sig.returnType = some t) (hd : decode c.code pc = .ok (.areturn, 1)) (ht : t.isReference = true) (hw : w.isRef = true) (hn : narrow t w = w) (hc : cells ≤ kc) (hs : slots ≤ ks) (hq : Q (some w) T.heap locs) : own_W p e below (own_Post s Q kc ks) T m pc Ls (w :: S) := by
  obtain ⟨fs, hr, hrun, hended, hW, hsame⟩ := X.leave (v := some w) (fun h => by rw [hret] at h; cases h) hlk
  exact ⟨_, _, retOut X hx hret hn (Or.inr (Or.inr (Or.inr (Or.inr ⟨rfl, ht, hw⟩)))) hd hr, hrun, hended, _, _, rfl, hq, ⟨_, rfl⟩, hW, hsame.mono hc hs⟩
theorem own_ret0 (X : Stand p l e R s m args below meth c T locs cells slots) (hx : p.tables.exec = Jvm.exec) (hlk : meth.locks = false) (hret : meth.sig.returnType = none) (hd : decode c.code pc = .ok (.return_, 1)) (hc : cells ≤ kc) (hs : slots ≤ ks) (hq : Q none T.heap locs) : own_W p e below (own_Post s Q kc ks) T m pc Ls [] := by
  obtain ⟨fs, hr, hrun, hended, hW, hsame⟩ := X.leave (v := none) (fun _ => rfl) hlk
  exact ⟨_, _, X.returnOut hx hret hd hr, hrun, hended, _, _, rfl, hq, ⟨_, rfl⟩, hW, hsame.mono hc hs⟩
end OwnKit
/-! ## the wide walk: String constants may be loaded; the Stand is over the start with the tables at hand (s.setVm vm0) -/
def own_PostS (Z : State) (EL : List (String × Nat)) (s : State) (Q : Option Value → Heap → List Loc → Prop) (kc ks : Nat) (o : Outcome) (s₂ : State) : Prop := ∃ v L, o = .returned v ∧ Q v s₂.heap L ∧ CHr Z EL s.vm s.heap s₂.vm s₂.heap ∧ ReturnedEndW s o s₂ L kc ks
theorem own_endW {s t : State} {o : Outcome} {L : List Loc} {k n k' n' : Nat} (h : ReturnedEndW s o t L k n) (hk : k ≤ k') (hn : n ≤ n') : ReturnedEndW s o t L k' n' := ⟨h.1, h.2.1, h.2.2.1, h.2.2.2.mono hk hn⟩
section OwnKit3
variable {p : Program} {l : Launch} {e : Env} {R : Room} {s : State} {m : MethodId} {args : Array Value} {below : List Frame} {meth : Method} {c : Code} {T : State} {locs : List Loc} {cells slots : Nat} {Z : State} {a0 : Array Value} {h h0 : Heap}
  {P : Outcome → State → Prop} {Q : Option Value → Heap → List Loc → Prop} {kc ks : Nat} {pc pc' : Nat} {Ls Ls' : Array Slot} {S : List Value} {EL : List (String × Nat)} {vm0 : Vm} {k0 : Nat}
theorem own_enterS {ml : Nat} (q : entryFrame m args ml = mkF m 0 Ls []) (K : own_W p e below (own_PostS Z EL s Q kc ks) T m 0 Ls []) :
    ∃ s₂ o, Steps p.tables e below (T.setTop (entryFrame m args ml)) s₂ ∧ s₂.status = .running ∧ Ended s₂ below o ∧ ∃ v L, o = .returned v ∧ Q v s₂.heap L ∧ CHr Z EL s.vm s.heap s₂.vm s₂.heap ∧ ReturnedEndW s o s₂ L kc ks := by
  rw [q]; exact K
theorem own_ldcS (X : Stand p l e R (s.setVm vm0) m args below meth c T locs cells slots) (hx : p.tables.exec = Jvm.exec) (hZ : Z.Warmed39 (s.setVm vm0).vm) {own text : String} {index : Nat} (hown : (s.setVm vm0).vm.findClass own = some m.cls) (w : (Cond.stringLink own index text).before a0 Z = true) (wS : ∀ a ∈ Bundle.stringAtoms, a.before a0 Z = true)
    (eT : T.heap = h) (hS : s.Since vm0 k0) (hk : k0 ≤ h.size) (hEL : EW Z a0 EL) (hmem : (own, index) ∈ EL) (H : CHv Z EL vm0 h) (vs : List Value) (z : Int32) (ht : (∀ c ∈ text.toList, c.toNat < 256) ∧ text.toList.map (fun c => Value.int (Jvm.Lit.byteI c.toNat.toUInt16)) = vs) (hz : ¬ z < 0) (hl : z.toNatClampNeg = vs.length)
    (hd : decode c.code pc = .ok (.ldc index, 2)) (hp : pc + 2 = pc') (n : Nat) (hn : 4 * text.toList.length ≤ n) (hbig : n ≤ 536870912) {cells' slots' : Nat} (hc' : cells + 2 = cells') (hs' : slots + (n + 4) = slots') (hc : cells' ≤ R.cells) (hl' : slots' ≤ R.slots)
    (K : ∀ a T' h' k1 b k vm1, Stand p l e R (s.setVm vm1) m args below meth c T' locs cells' slots' → T'.heap = h' → Ext h h' → s.Since vm1 k1 → k1 ≤ h'.size → Z.Warmed39 (s.setVm vm1).vm → (s.setVm vm1).vm.findClass own = some m.cls →
      Exa Z h' a "java/lang/String" → Fld Z h' a "java/lang/String" "coder" "B" (.int 0) → Fld Z h' a "java/lang/String" "value" "[B" (.ref b) → Arv Z h' b k .byte z vs (.int 0) → CHr Z EL vm0 h vm1 h' → (∀ x, Safe Z EL vm1 h' x → x ≠ a ∧ x ≠ b) → own_W p e below P T' m pc' Ls (.ref a :: S)) : own_W p e below P T m pc Ls S := by
  subst hp hc' hs'
  obtain ⟨a, T', h', k1, b, k, X', e', E', S', hk', hZ', ho', Ea, Fc, Fv, Av, -, -, C', -, hne, st⟩ := ldcCH X hx hZ hown w wS eT hS hk hEL hmem H ht hz hl (g := mkF m pc Ls S) rfl hd hn hbig hc hl'
  exact own_go st (K a T' h' k1 b k T'.vm X' e' E' S' hk' hZ' ho' Ea Fc Fv Av C' hne)
theorem own_callSS (X : Stand p l e R (s.setVm vm0) m args below meth c T locs cells slots) (hx : p.tables.exec = Jvm.exec) (hZ : Z.Warmed39 (s.setVm vm0).vm) {own : String} {index : Nat} {y : MethodName} {bytes : ByteArray} {maxL : Nat} {ret : Option FieldType} {rm : Room} {Qc : Option Value → Heap → List Loc → Prop} {as' : Array Value} {S' : List Value} (argsL : List Value)
    (hown : (s.setVm vm0).vm.findClass own = some m.cls) (w1 : (Cond.methodLink own index y).before a0 Z = true) (w2 : (Cond.static y).before a0 Z = true) (w3 : (Cond.initialized y.cls).before a0 Z = true) (w4 : (Cond.code y bytes maxL ret).before a0 Z = true) (hy : y.cls ≠ "java/lang/invoke/MethodHandle" ∧ y.cls ≠ "java/lang/invoke/VarHandle")
    (hM : MetFree l y (head1 [Cond.code y bytes maxL ret] rm) (fun a U => a = as' ∧ Z.Warmed39 U.vm ∧ U.heap = h ∧ CHv Z EL U.vm h) (fun _ _ _ _ _ => True) (fun _ U o U' => ∃ v L, o = .returned v ∧ Qc v U'.heap L ∧ CHr Z EL U.vm U.heap U'.vm U'.heap ∧ ReturnedEndW U o U' L rm.cells rm.slots))
    (eT : T.heap = h) (hS : s.Since vm0 k0) (hk : k0 ≤ h.size) (hEL : EW Z a0 EL) (H : CHv Z EL vm0 h) {W cells' slots' : Nat} (hf : rm.frames + 1 ≤ R.frames) (hl : W + (maxL + 11) + rm.locals ≤ R.locals) (hc' : cells + rm.cells = cells') (hs' : slots + rm.slots = slots') (hc : cells' ≤ R.cells) (hs : slots' ≤ R.slots) (hsize : Ls.size = c.maxLocals)
    (hlen : ∀ sig, parseMethodDescriptor y.desc = some sig → argsL.length = sig.parameters.length) (has : argsL.toArray = as') (hstk : S' = argsL.reverse ++ S) (hW : 2 * 0 + (S.map fun v => v.category).sum ≤ W) (hd : decode c.code pc = .ok (.invokestatic index, 3)) (hp : pc + 3 = pc')
    (K : ∀ v T' h' L lc vm1 k1, Stand p l e R (s.setVm vm1) m args below meth c T' lc cells' slots' → T'.heap = h' → s.Since vm1 k1 → k1 ≤ h'.size → Z.Warmed39 (s.setVm vm1).vm → (s.setVm vm1).vm.findClass own = some m.cls → CHr Z EL vm0 h vm1 h' → Qc v h' L → (∀ n0, Fr n0 locs → Fr n0 L → Fr n0 lc) → own_W p e below P T' m pc' Ls (v.toList ++ S)) : own_W p e below P T m pc Ls S' := by
  subst hp hc' hs' eT
  obtain ⟨v, vm₁, ⟨T1, L1, k1, n1⟩, -, X1, S1, g1, ⟨Lc1, hQ1, l1, y1, z1, C1⟩, st1⟩ := callSS X hx hown (mvT hZ w1) (mvT hZ w2) (mvT hZ w3) (mvT hZ w4) hy (backOfSH (s := s) (vm0 := vm0) hM hZ w4 w3 hf hl hEL H) (g := mkF m pc Ls S') rfl hsize (argsL := argsL) (rest := S) hlen hstk hW hd (fun _ _ => ⟨has, rfl, hc, hs⟩)
  dsimp only [Pt.U, Pt.locs, Pt.cells, Pt.slots] at X1 l1 y1 z1 st1 hQ1 S1 g1 C1
  subst l1 y1 z1
  obtain ⟨X2, S2, Z2, o2⟩ := rebS hS hk X1 S1 g1 hZ hown
  exact own_go (fun t k => st1.trans k) (K v T1 _ Lc1 _ _ _ X2 rfl S2 (Nat.le_refl _) Z2 o2 C1 hQ1 fun _ a b => Fr.app a b)
theorem own_callNS (X : Stand p l e R (s.setVm vm0) m args below meth c T locs cells slots) (hx : p.tables.exec = Jvm.exec) (hZ : Z.Warmed39 (s.setVm vm0).vm) {own : String} {index : Nat} {y : MethodName} {bytes : ByteArray} {maxL : Nat} {rm : Room} {Qc : Option Value → Heap → List Loc → Prop} {as' : Array Value} {S' : List Value} (a : Addr) (argsL : List Value) (hy1 : y.name = "<init>")
    (hown : (s.setVm vm0).vm.findClass own = some m.cls) (w1 : (Cond.methodLink own index y).before a0 Z = true) (w2 : (Cond.instanceMethod y).before a0 Z = true) (w3 : (Cond.initialized y.cls).before a0 Z = true) (w4 : (Cond.code y bytes maxL none).before a0 Z = true) (hy : y.cls ≠ "java/lang/invoke/MethodHandle" ∧ y.cls ≠ "java/lang/invoke/VarHandle")
    (hM : MetFree l y (head1 [Cond.code y bytes maxL none] rm) (fun a U => a = as' ∧ Z.Warmed39 U.vm ∧ U.heap = h ∧ CHv Z EL U.vm h) (fun _ _ _ _ _ => True) (fun _ U o U' => ∃ v L, o = .returned v ∧ Qc v U'.heap L ∧ CHr Z EL U.vm U.heap U'.vm U'.heap ∧ ReturnedEndW U o U' L rm.cells rm.slots))
    (eT : T.heap = h) (hS : s.Since vm0 k0) (hk : k0 ≤ h.size) (hEL : EW Z a0 EL) (H : CHv Z EL vm0 h) {W cells' slots' : Nat} (hf : rm.frames + 1 ≤ R.frames) (hl : W + (maxL + 11) + rm.locals ≤ R.locals) (hc' : cells + rm.cells = cells') (hs' : slots + rm.slots = slots') (hc : cells' ≤ R.cells) (hs : slots' ≤ R.slots) (hsize : Ls.size = c.maxLocals)
    (hlen : ∀ sig, parseMethodDescriptor y.desc = some sig → argsL.length = sig.parameters.length) (has : (.ref a :: argsL).toArray = as') (hstk : S' = argsL.reverse ++ .ref a :: S) (hW : 2 * 0 + (S.map fun v => v.category).sum ≤ W) (hd : decode c.code pc = .ok (.invokespecial index, 3)) (hp : pc + 3 = pc')
    (K : ∀ v T' h' L lc vm1 k1, Stand p l e R (s.setVm vm1) m args below meth c T' lc cells' slots' → T'.heap = h' → s.Since vm1 k1 → k1 ≤ h'.size → Z.Warmed39 (s.setVm vm1).vm → (s.setVm vm1).vm.findClass own = some m.cls → CHr Z EL vm0 h vm1 h' → Qc v h' L → (∀ n0, Fr n0 locs → Fr n0 L → Fr n0 lc) → own_W p e below P T' m pc' Ls (v.toList ++ S)) : own_W p e below P T m pc Ls S' := by
  subst hp hc' hs' eT
  obtain ⟨v, vm₁, ⟨T1, L1, k1, n1⟩, -, X1, S1, g1, ⟨Lc1, hQ1, l1, y1, z1, C1⟩, st1⟩ := X.specialBackS hx hy1 hown (mvT hZ w1) (mvT hZ w2) (mvT hZ w4) hy (backOfSH (s := s) (vm0 := vm0) hM hZ w4 w3 hf hl hEL H) (g := mkF m pc Ls S') rfl hsize (Steps.refl _) (a := a) (argsL := argsL) (rest := S) hlen hstk hW hd (fun _ _ => ⟨has, rfl, hc, hs⟩)
  dsimp only [Pt.U, Pt.locs, Pt.cells, Pt.slots] at X1 l1 y1 z1 st1 hQ1 S1 g1 C1
  subst l1 y1 z1
  obtain ⟨X2, S2, Z2, o2⟩ := rebS hS hk X1 S1 g1 hZ hown
  exact own_go (fun t k => st1.trans k) (K v T1 _ Lc1 _ _ _ X2 rfl S2 (Nat.le_refl _) Z2 o2 C1 hQ1 fun _ a b => Fr.app a b)
theorem own_callVS (X : Stand p l e R (s.setVm vm0) m args below meth c T locs cells slots) (hx : p.tables.exec = Jvm.exec) (hZ : Z.Warmed39 (s.setVm vm0).vm) {own C : String} {index : Nat} {y : MethodName} {bytes : ByteArray} {maxL : Nat} {ret : Option FieldType} {rm : Room} {Qc : Option Value → Heap → List Loc → Prop} {as' : Array Value} {S' : List Value} (a : Addr) (argsL : List Value)
    (hown : (s.setVm vm0).vm.findClass own = some m.cls) (w1 : (Cond.methodLink own index y).before a0 Z = true) (w2 : (Cond.declares y).before a0 Z = true) (w5 : (Cond.selects C y y).before a0 Z = true) (w6 : (Cond.instanceMethod y).before a0 Z = true) (w3 : (Cond.initialized y.cls).before a0 Z = true) (w4 : (Cond.code y bytes maxL ret).before a0 Z = true) (hy : y.cls ≠ "java/lang/invoke/MethodHandle" ∧ y.cls ≠ "java/lang/invoke/VarHandle")
    (hM : MetFree l y (head1 [Cond.code y bytes maxL ret] rm) (fun a U => a = as' ∧ Z.Warmed39 U.vm ∧ U.heap = h ∧ CHv Z EL U.vm h) (fun _ _ _ _ _ => True) (fun _ U o U' => ∃ v L, o = .returned v ∧ Qc v U'.heap L ∧ CHr Z EL U.vm U.heap U'.vm U'.heap ∧ ReturnedEndW U o U' L rm.cells rm.slots))
    (E : Exa Z h a C) (eT : T.heap = h) (hS : s.Since vm0 k0) (hk : k0 ≤ h.size) (hEL : EW Z a0 EL) (H : CHv Z EL vm0 h) {W cells' slots' : Nat} (hf : rm.frames + 1 ≤ R.frames) (hl : W + (maxL + 11) + rm.locals ≤ R.locals) (hc' : cells + rm.cells = cells') (hs' : slots + rm.slots = slots') (hc : cells' ≤ R.cells) (hs : slots' ≤ R.slots) (hsize : Ls.size = c.maxLocals)
    (hlen : ∀ sig, parseMethodDescriptor y.desc = some sig → argsL.length = sig.parameters.length) (has : (.ref a :: argsL).toArray = as') (hstk : S' = argsL.reverse ++ .ref a :: S) (hW : 2 * 0 + (S.map fun v => v.category).sum ≤ W) (hd : decode c.code pc = .ok (.invokevirtual index, 3)) (hp : pc + 3 = pc')
    (K : ∀ v T' h' L lc vm1 k1, Stand p l e R (s.setVm vm1) m args below meth c T' lc cells' slots' → T'.heap = h' → s.Since vm1 k1 → k1 ≤ h'.size → Z.Warmed39 (s.setVm vm1).vm → (s.setVm vm1).vm.findClass own = some m.cls → CHr Z EL vm0 h vm1 h' → Qc v h' L → (∀ n0, Fr n0 locs → Fr n0 L → Fr n0 lc) → own_W p e below P T' m pc' Ls (v.toList ++ S)) : own_W p e below P T m pc Ls S' := by
  subst hp hc' hs' eT
  obtain ⟨cq, kq, qa, qb, qc⟩ := isOf hZ rfl E
  obtain ⟨v, vm₁, ⟨T1, L1, k1, n1⟩, -, X1, S1, g1, ⟨Lc1, hQ1, l1, y1, z1, C1⟩, st1⟩ := X.virtualBackS hx hown (mvT hZ w1) (mvT hZ w2) (notFace_of_selects (args := #[]) (mvT hZ w5)) (mvT hZ w5) (mvT hZ w6) hy (backOfSH (s := s) (vm0 := vm0) hM hZ w4 w3 hf hl hEL H) qa qc (g := mkF m pc Ls S') rfl hsize (Steps.refl _) (argsL := argsL) (rest := S) hlen hstk hW hd (fun _ _ => ⟨has, rfl, hc, hs⟩)
  dsimp only [Pt.U, Pt.locs, Pt.cells, Pt.slots] at X1 l1 y1 z1 st1 hQ1 S1 g1 C1
  subst l1 y1 z1
  obtain ⟨X2, S2, Z2, o2⟩ := rebS hS hk X1 S1 g1 hZ hown
  exact own_go (fun t k => st1.trans k) (K v T1 _ Lc1 _ _ _ X2 rfl S2 (Nat.le_refl _) Z2 o2 C1 hQ1 fun _ a b => Fr.app a b)
theorem own_chr (X : Stand p l e R (s.setVm vm0) m args below meth c T locs cells slots) (hZ : Z.Warmed39 (s.setVm vm0).vm) (eT : T.heap = h) (hh : s.heap = h0) (hEL : EW Z a0 EL) (H : CHv Z EL vm0 h) (CR : CHr Z EL s.vm h0 vm0 h) (fs : List Frame) : CHr Z EL s.vm s.heap (T.setFrames fs).vm (T.setFrames fs).heap := by
  have q := CR.trans (CHv.at X hZ hEL H)
  rw [← hh, ← eT] at q
  exact q
theorem own_retIS (X : Stand p l e R (s.setVm vm0) m args below meth c T locs cells slots) (hx : p.tables.exec = Jvm.exec) (hlk : meth.locks = false) (hZ : Z.Warmed39 (s.setVm vm0).vm) (eT : T.heap = h) (hh : s.heap = h0) (hS : s.Since vm0 k0) (hk : k0 ≤ h.size) (hEL : EW Z a0 EL) (H : CHv Z EL vm0 h) (CR : CHr Z EL s.vm h0 vm0 h)
    {t : FieldType} {w w' : Value} (hret : meth.sig.returnType = some t) (hd : decode c.code pc = .ok (.ireturn, 1)) {z : Int32} (hw : w = .int z) (hn : narrow t w = w') (ht : t = .int ∨ t = .boolean ∨ t = .byte ∨ t = .char ∨ t = .short) (hc : cells ≤ kc) (hs : slots ≤ ks) (hq : Q (some w') T.heap locs) : own_W p e below (own_PostS Z EL s Q kc ks) T m pc Ls (w :: S) := by
  subst hw
  obtain ⟨fs, hr, hrun, hended, hW⟩ := X.leaveW hS (by rw [eT]; exact hk) (v := some w') (fun h => by rw [hret] at h; cases h) hlk
  refine ⟨_, _, ?_, hrun, hended, _, _, rfl, hq, own_chr X hZ eT hh hEL H CR fs, own_endW hW hc hs⟩
  have hm' : T.vm.method? m = some meth := X.method'
  show Steps p.tables e below (T.setTop { method := m, pc := pc, locals := Ls, stack := _ :: S, locked := none }) _
  rcases ht with rfl | rfl | rfl | rfl | rfl
  all_goals
    jvm_step X.here [X.here.top, hx, hd, hm', hret, hn]
    first | (intro acts; rw [hr _ acts rfl rfl rfl]) | rw [hr _ _ rfl rfl rfl]
    exact Steps.refl _
theorem own_retAS (X : Stand p l e R (s.setVm vm0) m args below meth c T locs cells slots) (hx : p.tables.exec = Jvm.exec) (hlk : meth.locks = false) (hZ : Z.Warmed39 (s.setVm vm0).vm) (eT : T.heap = h) (hh : s.heap = h0) (hS : s.Since vm0 k0) (hk : k0 ≤ h.size) (hEL : EW Z a0 EL) (H : CHv Z EL vm0 h) (CR : CHr Z EL s.vm h0 vm0 h)
    {t : FieldType} {w : Value} (hret : meth.sig.returnType = some t) (hd : decode c.code pc = .ok (.areturn, 1)) (ht : t.isReference = true) (hw : w.isRef = true) (hn : narrow t w = w) (hc : cells ≤ kc) (hs : slots ≤ ks) (hq : Q (some w) T.heap locs) : own_W p e below (own_PostS Z EL s Q kc ks) T m pc Ls (w :: S) := by
  obtain ⟨fs, hr, hrun, hended, hW⟩ := X.leaveW hS (by rw [eT]; exact hk) (v := some w) (fun h => by rw [hret] at h; cases h) hlk
  exact ⟨_, _, retOut X hx hret hn (Or.inr (Or.inr (Or.inr (Or.inr ⟨rfl, ht, hw⟩)))) hd hr, hrun, hended, _, _, rfl, hq, own_chr X hZ eT hh hEL H CR fs, own_endW hW hc hs⟩
theorem own_ret0S (X : Stand p l e R (s.setVm vm0) m args below meth c T locs cells slots) (hx : p.tables.exec = Jvm.exec) (hlk : meth.locks = false) (hZ : Z.Warmed39 (s.setVm vm0).vm) (eT : T.heap = h) (hh : s.heap = h0) (hS : s.Since vm0 k0) (hk : k0 ≤ h.size) (hEL : EW Z a0 EL) (H : CHv Z EL vm0 h) (CR : CHr Z EL s.vm h0 vm0 h)
    (hret : meth.sig.returnType = none) (hd : decode c.code pc = .ok (.return_, 1)) (hc : cells ≤ kc) (hs : slots ≤ ks) (hq : Q none T.heap locs) : own_W p e below (own_PostS Z EL s Q kc ks) T m pc Ls [] := by
  obtain ⟨fs, hr, hrun, hended, hW⟩ := X.leaveW hS (by rw [eT]; exact hk) (v := none) (fun _ => rfl) hlk
  exact ⟨_, _, X.returnOut hx hret hd hr, hrun, hended, _, _, rfl, hq, own_chr X hZ eT hh hEL H CR fs, own_endW hW hc hs⟩
end OwnKit3
/-- a String under construction (its value is null yet) is no booked literal -/
theorem own_safe_null {Z : State} {EL : List (String × Nat)} {vm : Vm} {h : Heap} {x : Addr} (hal : Z.vm.Alike vm) (E : Exa Z h x "java/lang/String") (F : Fld Z h x "java/lang/String" "value" "[B" .null) : Safe Z EL vm h x := by
  rintro ⟨p, hp, u, a, hb, q, rfl, ⟨cS, ⟨⟨s1, s2, s3, ⟨cv, kv, iv, s4, s4'⟩, ⟨cc, kc, ic, s5, s5'⟩, s6, s7, s8, s9, s10, s11, s12, s13, s14, s15, s16⟩, hfS, hcS⟩, ⟨kS, k1, k2, k3⟩, hB, hbyt⟩, hy⟩
  rcases hy with rfl | rfl
  · obtain ⟨cell, cf, k, i, f, f1, f2, f3, f4, f5, f6, f7⟩ := F
    obtain ⟨kv', z4⟩ := ff_back (Z := Z) (U := Wst Z vm h) hal s4
    have c1 : h[q.sa]? = some q.sC := s1
    cases c1.symm.trans f1
    cases z4.symm.trans f2
    cases s8.symm.trans f7
  · obtain ⟨cell, k, e1, e2, e3, e4, e5⟩ := E
    have c1 : h[q.sd]? = some q.SA := s10
    cases c1.symm.trans e1
    have hfS' : Z.vm.findClass "java/lang/String" = some q.SA.cls := e2
    have hB' : Z.vm.findClass "[B" = some q.SA.cls := by rw [← hal.findClass]; exact hB
    obtain ⟨ka, a1, a2⟩ := Vm.findClass_spec hfS'
    obtain ⟨kb, b1, b2⟩ := Vm.findClass_spec hB'
    cases a1.symm.trans b1
    exact absurd (a2.symm.trans b2) (by decide)
theorem own_arv_at {Z : State} {h : Heap} {a : Addr} {k k' : ClassId} {ty ty' : FieldType} {z z' : Int32} {vs vs' : List Value} {d d' : Value} (A : Arv Z h a k ty z vs d) (B : Arv Z h a k' ty' z' vs' d') (i : Nat) (hi : i < z.toNatClampNeg) : vs.getD i d = vs'.getD i d' := by
  obtain ⟨c1, a1, -, s1, -, h1, -⟩ := A
  obtain ⟨c2, b1, -, s2, -, h2, -⟩ := B
  cases a1.1.symm.trans b1.1
  exact Option.some.inj ((h1 i (by rw [s1]; exact hi)).symm.trans (h2 i (by rw [s1]; exact hi)))
theorem own_fld_at {Z : State} {h : Heap} {a : Addr} {C n d : String} {v w : Value} (F : Fld Z h a C n d v) (G : Fld Z h a C n d w) : v = w := Classical.byContradiction fun q => F.ne G q rfl
/-! ## A contract's usual head, in one -/
abbrev own_Met (l : Launch) (Z : State) (y : MethodName) (b : ByteArray) (ml : Nat) (rt : Option FieldType) (ws : List Jvm.Cond) (R : Room) (as : Array Value) (h0 : Heap) (Q : Option Value → Heap → List Loc → Prop) : Prop :=
  MetFree l y (head1 (Jvm.Cond.code y b ml rt :: ws) R) (fun a U => a = as ∧ Z.Warmed39 U.vm ∧ U.heap = h0) (fun _ _ _ _ _ => True) (fun _ U o U' => ∃ v L, o = .returned v ∧ Q v U'.heap L ∧ FrameEnd U o U' L R.cells R.slots)
theorem own_met {l : Launch} {Z : State} {y : MethodName} {b : ByteArray} {ml : Nat} {rt : Option FieldType} {ws : List Jvm.Cond} {R : Room} {as : Array Value} {h0 : Heap} {Q : Option Value → Heap → List Loc → Prop} {Ls : Array Slot} (n0 : Nat) {own : String} (hpl : plainName own = true) (hef : ∀ m, entryFrame m as ml = mkF m 0 Ls [])
    (K : ∀ p e s m below meth c T lc, meth.sig.returnType = rt → p.tables.exec = Jvm.exec → Z.Warmed39 s.vm → c.code = b → c.maxLocals = ml → s.vm.findClass own = some m.cls → meth.name = y.name → meth.locks = false → Stand p l e R s m as below meth c T lc 0 0 → T.heap = h0 → Fr n0 lc → own_W p e below (own_Post s Q R.cells R.slots) T m 0 Ls []) (ho : y.cls = own := by rfl) : own_Met l Z y b ml rt ws R as h0 Q := by
  subst ho
  refine MetFree.of_bodySF (plainFor_of_name hpl) hisR ?_
  intro p e s m args below meth c s₁ Bd hml0 hP hK
  obtain ⟨rfl, hZ, hh⟩ := hP
  refine own_enter (hef m) ?_
  exact K p e s m below meth c s₁ [] Bd.returns Bd.exec hZ Bd.bytes hml0 (findClass_of_methodNamed Bd.named) (name_of_methodNamed Bd.named Bd.method).1 Bd.notSynchronized (Stand.of_body Bd) (by rw [← hh, Bd.state]; rfl) (Fr.nil n0)
section OwnKit9
variable {p : Program} {l : Launch} {e : Env} {R : Room} {s : State} {m : MethodId} {args : Array Value} {below : List Frame} {meth : Method} {c : Code} {T : State} {locs : List Loc} {cells slots : Nat} {Z : State} {a0 : Array Value} {h : Heap}
  {P : Outcome → State → Prop} {pc pc' : Nat} {Ls : Array Slot} {S : List Value}
theorem own_splice {vs ws : List Value} {d : Value} (o q n : Nat) (h1 : o + n ≤ vs.length) (h2 : q + n ≤ ws.length) (j : Nat) : (ws.take q ++ ((vs.drop o).take n ++ ws.drop (q + n))).getD j d = if q ≤ j ∧ j < q + n then vs.getD (o + (j - q)) d else ws.getD j d := by
  simp only [List.getD_eq_getElem?_getD]
  have l1 : (ws.take q).length = q := by rw [List.length_take]; omega
  have l2 : ((vs.drop o).take n).length = n := by rw [List.length_take, List.length_drop]; omega
  by_cases a : j < q
  · rw [List.getElem?_append_left (by omega), List.getElem?_take_of_lt a, if_neg (by omega)]
  · by_cases b : j < q + n
    · rw [List.getElem?_append_right (by omega), l1, List.getElem?_append_left (by omega), List.getElem?_take_of_lt (by omega), List.getElem?_drop, if_pos ⟨by omega, b⟩]
    · rw [List.getElem?_append_right (by omega), l1, List.getElem?_append_right (by omega), l2, List.getElem?_drop, if_neg (by omega), show q + n + (j - q - n) = j by omega]
theorem own_acopy (X : Stand p l e R s m args below meth c T locs cells slots) (hx : p.tables.exec = Jvm.exec) (hZ : Z.Warmed39 s.vm) {own : String} {index : Nat} (hown : s.vm.findClass own = some m.cls) (w1 : (Cond.methodLink own index Jvm.Stand.acN).before a0 Z = true) (w2 : (Cond.native Jvm.Stand.acN).before a0 Z = true) (w3 : (Cond.static Jvm.Stand.acN).before a0 Z = true) (w4 : (Cond.initialized "java/lang/System").before a0 Z = true) (eT : T.heap = h)
    {a b : Addr} {ka kb : ClassId} {ty : FieldType} {za zb : Int32} {vs ws ws' : List Value} {d : Value} (A : Arv Z h a ka ty za vs d) (B : Arv Z h b kb ty zb ws d) (hty : ((refKind ty != refKind ty) || (!refKind ty && ty != ty)) = false) (hp' : ty.isReference = false) (o q n : Nat) {jo jq jn : Int32} (ho : jo = Int32.ofNat o) (hq : jq = Int32.ofNat q) (hn : jn = Int32.ofNat n) (h4 : o + n ≤ za.toNatClampNeg) (h5 : q + n ≤ zb.toNatClampNeg) (h6 : o + n ≤ vs.length) (h7 : q + n ≤ ws.length) (hr : ws' = ws.take q ++ ((vs.drop o).take n ++ ws.drop (q + n)))
    (hsize : Ls.size = c.maxLocals) (hd : decode c.code pc = .ok (.invokestatic index, 3)) (hp : pc + 3 = pc') {W : Nat} (hW : 2 * 0 + (S.map fun v => v.category).sum ≤ W) (hf : 1 ≤ R.frames) (hl : W + 40 ≤ R.locals)
    (K : ∀ T' h' lc, Stand p l e R s m args below meth c T' lc cells slots → T'.heap = h' → Keep h h' [b] → Arv Z h' b kb ty zb ws' d → (∀ n0, n0 ≤ b → Fr n0 locs → Fr n0 lc) → own_W p e below P T' m pc' Ls S) : own_W p e below P T m pc Ls (.int jn :: .int jq :: .ref b :: .int jo :: .ref a :: S) := by
  subst hp
  obtain ⟨ca, ⟨a1, a2, a3⟩, a4, a5, a6, a7, a8⟩ := A
  obtain ⟨cb, ⟨b1, b2, b3⟩, b4, b5, b6, b7, b8⟩ := B
  have al : Z.vm.Alike T.vm := hZ.alike.trans X.warmed.alike
  have sa : ca.slots.size < 2 ^ 31 := by rw [a5]; exact Int32.toNatClampNeg_lt za
  have sb : cb.slots.size < 2 ^ 31 := by rw [b5]; exact Int32.toNatClampNeg_lt zb
  have at_ : ∀ i, i < n → ca.slots.getD (o + i) .null = vs.getD (o + i) d := fun i hi => by
    have q := a7 (o + i) (by omega)
    rw [Array.getD_eq_getD_getElem?, q]; rfl
  obtain ⟨T', B', X', Pt, c1, c2, c3, c4, st⟩ := X.acopy hx hown (index := index) (fun w hw => by
      simp only [Jvm.Free.XT.acW, List.mem_cons, List.not_mem_nil, or_false] at hw
      rcases hw with rfl | rfl | rfl | rfl
      · exact mvT hZ w1
      · exact mvT hZ w2
      · exact mvT hZ w3
      · exact mvT hZ w4) (ts := ty) (t := ty) (a := a) (b := b) (A := ca) (B := cb) ⟨by rw [eT]; exact a1, State.isArrayOf_alike al a2, a3, sa⟩ ⟨by rw [eT]; exact b1, State.isArrayOf_alike al b2, b3, sb⟩ hty ho hq hn (by omega) (by omega)
    (fun i hi => ⟨by rw [at_ i hi]; exact a8 _ (by omega), fun r => by rw [hp'] at r; cases r⟩) (g := mkF m pc Ls (.int jn :: .int jq :: .ref b :: .int jo :: .ref a :: S)) rfl hsize rfl hd hW hf hl
  have hpl : ∀ k, cb.vm ≠ .statics k := b2.1
  refine own_go st (K T' _ _ X' rfl ?_ ?_ fun k hk N => ?_)
  · refine ⟨by rw [Pt.2.2, eT]; exact Nat.le_refl _, fun x cc hx' hn' => ?_, fun x cc hx' => ?_⟩
    · rw [Pt.2.1 x (fun q => hn' (by rw [q]; exact List.mem_singleton.mpr rfl)), eT]; exact hx'
    · by_cases q : x = b
      · subst q
        cases b1.symm.trans hx'
        exact ⟨B', Pt.1, c1, c2, c3⟩
      · exact ⟨cc, by rw [Pt.2.1 x q, eT]; exact hx', rfl, rfl, rfl⟩
  · have key : ∀ j, j < cb.slots.size → B'.slots[j]? = some (ws'.getD j d) := fun j hj => by
      rw [c4 j, hr, own_splice o q n h6 h7 j]
      split
      · next hh => rw [show o + (j - q) = o + (j - q) from rfl, at_ (j - q) (by omega)]
      · exact b7 j hj
    refine ⟨B', ⟨Pt.1, ?_, by rw [c2]; exact b3⟩, by rw [c1]; exact b4, by rw [c3]; exact b5, b6, fun j hj => key j (by rw [c3] at hj; exact hj), fun j hj => ?_⟩
    · obtain ⟨i1, kk, i2, i3⟩ := b2
      exact ⟨by rw [c2]; exact i1, kk, by rw [c1]; exact i2, i3⟩
    · rw [c3] at hj
      rw [hr, own_splice o q n h6 h7 j]
      split
      · exact a8 _ (by omega)
      · exact b8 j hj
  · intro y hy
    rcases List.mem_append.mp hy with q | q
    · exact N y q
    · rw [Jvm.Stand.copyLocs_base q]; exact hk
end OwnKit9
section OwnKit10
variable {p : Program} {l : Launch} {e : Env} {R : Room} {s : State} {m : MethodId} {args : Array Value} {below : List Frame} {meth : Method} {c : Code} {T : State} {locs : List Loc} {cells slots : Nat} {Z : State} {a0 : Array Value} {h : Heap}
  {P : Outcome → State → Prop} {pc pc' : Nat} {Ls : Array Slot} {S : List Value}
/-- no interface: told by another method of the same class -/
theorem own_nf {U : State} {as : Array Value} {C : String} {y y' : MethodName} (w : (Cond.selects C y' y').before as U = true) (hc : y'.cls = y.cls) : NotFace U y := fun r0 h0 => by
  obtain ⟨c2, r2, m2, q1, q2, q3, q4, kP, hkP, hkPi⟩ := Cond.selects_spec w
  have a := findClass_of_methodNamed h0
  have b := findClass_of_methodNamed q3
  rw [hc] at b
  have e : r0.cls = m2.cls := Option.some.inj (a.symm.trans b)
  exact ⟨kP, by rw [e]; exact hkP, hkPi⟩
theorem own_same {U : State} {as : Array Value} {y : MethodName} (nf : NotFace U y) (wd : (Cond.declares y).before as U = true) (hy : y.cls ≠ "java/lang/invoke/MethodHandle" ∧ y.cls ≠ "java/lang/invoke/VarHandle") : (Cond.sameMethod y.cls y.cls y.name y.desc).before as U = true := by
  obtain ⟨m0, me, hn, hm, -, -⟩ := Cond.declares_spec wd
  obtain ⟨k, hk, hni⟩ := nf m0 hn
  have hc := findClass_of_methodNamed hn
  obtain ⟨k2, hk2, hname⟩ := className_of_methodNamed hn
  cases hk.symm.trans hk2
  have hpoly : ∀ z, signaturePolymorphic k z = false := fun z => by simp [signaturePolymorphic, hname, hy.1, hy.2]
  have hdecl : k.findMethod y.name y.desc = some m0.idx := by
    have h' := hn
    simp only [State.methodNamed?, hc, hk, Option.bind_eq_bind, Option.bind_some, Option.bind_eq_some_iff, Option.pure_def, Option.some.injEq] at h'
    obtain ⟨i, hi, hmi⟩ := h'
    rw [← hmi]; exact hi
  have hup : U.vm.lookupUp m0.cls y.name y.desc = some m0 := by
    simp only [Vm.lookupUp, lookupInSuperclasses, hk, hdecl, Option.bind_eq_bind, Option.bind_some, Option.or_some, Option.some_or]
  have hf : U.methodFound? y.cls y.name y.desc = some m0 := (State.methodFound?_class hc hk hni hpoly m0).mpr ⟨hup, k, hk⟩
  have hn' : U.methodNamed? ⟨y.cls, y.name, y.desc⟩ = some m0 := hn
  simp [Cond.before, Cond.holds, Cond.value, hc, hf, hn', hk, hni]
theorem own_callV2 (X : Stand p l e R s m args below meth c T locs cells slots) (hx : p.tables.exec = Jvm.exec) (hZ : Z.Warmed39 s.vm) {own C : String} {index : Nat} {y z : MethodName} {bytes : ByteArray} {maxL : Nat} {ret : Option FieldType} {rm : Room} {Qc : Option Value → Heap → List Loc → Prop} {as' : Array Value} {S' : List Value} (a : Addr) (argsL : List Value)
    (hown : s.vm.findClass own = some m.cls) (wnf : NotFace Z y) (w1 : (Cond.methodLink own index y).before a0 Z = true) (w2 : (Cond.declares y).before a0 Z = true) (w5 : (Cond.selects C y z).before a0 Z = true) (w6 : (Cond.instanceMethod z).before a0 Z = true) (w3 : (Cond.initialized z.cls).before a0 Z = true) (w4 : (Cond.code z bytes maxL ret).before a0 Z = true) (hy : y.cls ≠ "java/lang/invoke/MethodHandle" ∧ y.cls ≠ "java/lang/invoke/VarHandle")
    (hM : MetFree l z (head1 [Cond.code z bytes maxL ret] rm) (fun a U => a = as' ∧ Z.Warmed39 U.vm ∧ U.heap = h) (fun _ _ _ _ _ => True) (fun _ U o U' => ∃ v L, o = .returned v ∧ Qc v U'.heap L ∧ FrameEnd U o U' L rm.cells rm.slots))
    (E : Exa Z h a C) (eT : T.heap = h) {W cells' slots' : Nat} (hf : rm.frames + 1 ≤ R.frames) (hl : W + (maxL + 11) + rm.locals ≤ R.locals) (hc' : cells + rm.cells = cells') (hs' : slots + rm.slots = slots') (hc : cells' ≤ R.cells) (hs : slots' ≤ R.slots) (hsize : Ls.size = c.maxLocals) (hlen : ∀ sig, parseMethodDescriptor y.desc = some sig → argsL.length = sig.parameters.length) (has : (.ref a :: argsL).toArray = as') (hstk : S' = argsL.reverse ++ .ref a :: S) (hW : 2 * 0 + (S.map fun v => v.category).sum ≤ W) (hd : decode c.code pc = .ok (.invokevirtual index, 3)) (hp : pc + 3 = pc')
    (K : ∀ v T' h' L lc, Stand p l e R s m args below meth c T' lc cells' slots' → T'.heap = h' → Qc v h' L → (∀ n0, Fr n0 locs → Fr n0 L → Fr n0 lc) → own_W p e below P T' m pc' Ls (v.toList ++ S)) : own_W p e below P T m pc Ls S' := by
  subst hp hc' hs'
  obtain ⟨cq, kq, qa, qb, qc⟩ := isOf hZ eT E
  obtain ⟨v, vm₁, ⟨T1, L1, k1, n1⟩, -, X1, ⟨Lc1, hQ1, l1, y1, z1⟩, st1⟩ := X.virtualBack hx hown (mvT hZ w1) (mvT hZ w2) (wnf.move hZ.alike) (mvT hZ w5) (mvT hZ w6) hy (backOf hM hZ w4 w3 hf hl) qa qc (g := mkF m pc Ls S') rfl hsize (Steps.refl _) (argsL := argsL) (rest := S) hlen hstk hW hd (fun _ _ => ⟨has, eT, hc, hs⟩)
  dsimp only [Pt.U, Pt.locs, Pt.cells, Pt.slots] at X1 l1 y1 z1 st1 hQ1
  subst l1 y1 z1
  exact own_go (fun t k => st1.trans k) (K v T1 _ Lc1 _ X1 rfl hQ1 fun _ a b => Fr.app a b)
theorem own_callP (X : Stand p l e R s m args below meth c T locs cells slots) (hx : p.tables.exec = Jvm.exec) (hZ : Z.Warmed39 s.vm) {own C C' : String} {index : Nat} {y : MethodName} {bytes : ByteArray} {maxL : Nat} {ret : Option FieldType} {rm : Room} {Qc : Option Value → Heap → List Loc → Prop} {as' : Array Value} {S' : List Value} (a : Addr) (argsL : List Value)
    (hown : s.vm.findClass own = some m.cls) (w1 : (Cond.methodLink own index y).before a0 Z = true) (w2 : (Cond.privateMethod y).before a0 Z = true) (w5 : (Cond.selects C y y).before a0 Z = true) (w6 : (Cond.instanceMethod y).before a0 Z = true) (w3 : (Cond.initialized y.cls).before a0 Z = true) (w4 : (Cond.code y bytes maxL ret).before a0 Z = true) (hy : y.cls ≠ "java/lang/invoke/MethodHandle" ∧ y.cls ≠ "java/lang/invoke/VarHandle")
    (hM : MetFree l y (head1 [Cond.code y bytes maxL ret] rm) (fun a U => a = as' ∧ Z.Warmed39 U.vm ∧ U.heap = h) (fun _ _ _ _ _ => True) (fun _ U o U' => ∃ v L, o = .returned v ∧ Qc v U'.heap L ∧ FrameEnd U o U' L rm.cells rm.slots))
    (E : Exa Z h a C') (eT : T.heap = h) {W cells' slots' : Nat} (hf : rm.frames + 1 ≤ R.frames) (hl : W + (maxL + 11) + rm.locals ≤ R.locals) (hc' : cells + rm.cells = cells') (hs' : slots + rm.slots = slots') (hc : cells' ≤ R.cells) (hs : slots' ≤ R.slots) (hsize : Ls.size = c.maxLocals) (hlen : ∀ sig, parseMethodDescriptor y.desc = some sig → argsL.length = sig.parameters.length) (has : (.ref a :: argsL).toArray = as') (hstk : S' = argsL.reverse ++ .ref a :: S) (hW : 2 * 0 + (S.map fun v => v.category).sum ≤ W) (hd : decode c.code pc = .ok (.invokevirtual index, 3)) (hp : pc + 3 = pc')
    (K : ∀ v T' h' L lc, Stand p l e R s m args below meth c T' lc cells' slots' → T'.heap = h' → Qc v h' L → (∀ n0, Fr n0 locs → Fr n0 L → Fr n0 lc) → own_W p e below P T' m pc' Ls (v.toList ++ S)) : own_W p e below P T m pc Ls S' := by
  subst hp hc' hs'
  obtain ⟨cq, kq, qa, qb, qc⟩ := isOf hZ eT E
  obtain ⟨cell, i1, i2, i3⟩ := qc
  obtain ⟨mk, methM, hnamed, hmethM, hstM, habM⟩ := Cond.instanceMethod_spec (mvT (args := #[]) hZ w6)
  obtain ⟨m2, cM, hm2, -, -, -, -, -, -, hsigM⟩ := Cond.code_spec hnamed (mvT (args := #[]) hZ w4)
  cases hmethM.symm.trans hm2
  obtain ⟨kP, hkP, hkPi⟩ := notFace_of_selects (args := #[]) (mvT hZ w5) mk hnamed
  have hselP : selectMethod e.platform s.vm cell.cls mk = .method mk := selectMethod_private hmethM (Cond.privateMethod_at (mvT (args := #[]) hZ w2) mk methM hnamed hmethM)
  obtain ⟨vm₁, X₁, st0⟩ := X.invokevirtual hx hown (mvT hZ w1) hnamed hmethM hstM hkP hkPi hy (a := a) (cell := cell) i1 (fun q e => by rw [e] at i3; cases i3) hselP hmethM habM hkP hkPi (g := mkF m pc Ls S') rfl (argsL := argsL) (rest := S) (hlen _ hsigM) hstk hd
  obtain ⟨v, ⟨T1, L1, k1, n1⟩, X1, ⟨Lc1, hQ1, l1, y1, z1⟩, st1⟩ := (backOf hM hZ w4 w3 hf hl : Back l R p e below s args y 3 W _ _) m meth c ⟨T.setVm vm₁, locs, cells, slots⟩ { mkF m pc Ls S' with stack := S } (.invokevirtual index) mk (.ref a :: argsL).toArray X₁ rfl hsize hd hW (X₁.named hnamed) ⟨has, eT, hc, hs⟩
  dsimp only [Pt.U, Pt.locs, Pt.cells, Pt.slots] at X1 l1 y1 z1 st1 hQ1
  subst l1 y1 z1
  exact own_go (fun t k => st0 _ fun acts => by rw [doInvoke_state]; exact st1.trans k) (K v T1 _ Lc1 _ X1 rfl hQ1 fun _ a b => Fr.app a b)
theorem own_callU (X : Stand p l e R s m args below meth c T locs cells slots) (hx : p.tables.exec = Jvm.exec) (hZ : Z.Warmed39 s.vm) {own C : String} {index : Nat} {y : MethodName} {bytes : ByteArray} {maxL : Nat} {ret : Option FieldType} {rm : Room} {Qc : Option Value → Heap → List Loc → Prop} {as' : Array Value} {S' : List Value} (a : Addr) (argsL : List Value)
    (hown : s.vm.findClass own = some m.cls) (w1 : (Cond.methodLink own index y).before a0 Z = true) (w2 : (Cond.declares y).before a0 Z = true) (w5 : (Cond.superclass own y.cls).before a0 Z = true) (wnf : NotFace Z y) (hni : y.name ≠ "<init>") (w6 : (Cond.instanceMethod y).before a0 Z = true) (w3 : (Cond.initialized y.cls).before a0 Z = true) (w4 : (Cond.code y bytes maxL ret).before a0 Z = true) (hy : y.cls ≠ "java/lang/invoke/MethodHandle" ∧ y.cls ≠ "java/lang/invoke/VarHandle")
    (hM : MetFree l y (head1 [Cond.code y bytes maxL ret] rm) (fun a U => a = as' ∧ Z.Warmed39 U.vm ∧ U.heap = h) (fun _ _ _ _ _ => True) (fun _ U o U' => ∃ v L, o = .returned v ∧ Qc v U'.heap L ∧ FrameEnd U o U' L rm.cells rm.slots))
    (E : Exa Z h a C) (eT : T.heap = h) {W cells' slots' : Nat} (hf : rm.frames + 1 ≤ R.frames) (hl : W + (maxL + 11) + rm.locals ≤ R.locals) (hc' : cells + rm.cells = cells') (hs' : slots + rm.slots = slots') (hc : cells' ≤ R.cells) (hs : slots' ≤ R.slots) (hsize : Ls.size = c.maxLocals) (hlen : ∀ sig, parseMethodDescriptor y.desc = some sig → argsL.length = sig.parameters.length) (has : (.ref a :: argsL).toArray = as') (hstk : S' = argsL.reverse ++ .ref a :: S) (hW : 2 * 0 + (S.map fun v => v.category).sum ≤ W) (hd : decode c.code pc = .ok (.invokespecial index, 3)) (hp : pc + 3 = pc')
    (K : ∀ v T' h' L lc, Stand p l e R s m args below meth c T' lc cells' slots' → T'.heap = h' → Qc v h' L → (∀ n0, Fr n0 locs → Fr n0 L → Fr n0 lc) → own_W p e below P T' m pc' Ls (v.toList ++ S)) : own_W p e below P T m pc Ls S' := by
  subst hp hc' hs'
  obtain ⟨v, vm₁, ⟨T1, L1, k1, n1⟩, -, X1, ⟨Lc1, hQ1, l1, y1, z1⟩, st1⟩ := superBack X hx hZ hown w1 (own_same wnf w2 hy) w6 w5 hni (backOf hM hZ w4 w3 hf hl) eT (Ins.self E) (g := mkF m pc Ls S') rfl hsize w4 (argsL := argsL) (rest := S) hlen hstk hW hd (fun _ _ => ⟨has, eT, hc, hs⟩)
  dsimp only [Pt.U, Pt.locs, Pt.cells, Pt.slots] at X1 l1 y1 z1 st1 hQ1
  subst l1 y1 z1
  exact own_go (fun t k => st1.trans k) (K v T1 _ Lc1 _ X1 rfl hQ1 fun _ a b => Fr.app a b)
end OwnKit10
def own_EL : List (String × Nat) := consts_1
theorem own_mem_18 : ("java/lang/String", 7) ∈ own_EL := by simp [own_EL, consts_1]
theorem own_txt_18 : (∀ c ∈ "".toList, c.toNat < 256) ∧ "".toList.map (fun c => Value.int (Jvm.Lit.byteI c.toNat.toUInt16)) = [] := by decide +kernel
theorem own_mem_96 : ("com/example/runnel/runnel/broker/Pipe", 23) ∈ own_EL := by simp [own_EL, consts_1]
theorem own_txt_96 : (∀ c ∈ ".".toList, c.toNat < 256) ∧ ".".toList.map (fun c => Value.int (Jvm.Lit.byteI c.toNat.toUInt16)) = [(.int (46 : Int32))] := by decide +kernel
theorem own_wS {Z : State} {a0 : Array Value} (hw : ∀ d ∈ tables_1, d.before a0 Z = true) : ∀ a ∈ Bundle.stringAtoms, a.before a0 Z = true := by
  intro a ha
  simp only [Bundle.stringAtoms, List.mem_cons, List.not_mem_nil, or_false] at ha
  rcases ha with rfl | rfl | rfl | rfl | rfl | rfl | rfl
  all_goals first | exact (own_w hw 6 rfl) | exact (own_w hw 5 rfl) | exact (own_w hw 19 rfl) | exact (own_w hw 20 rfl) | exact (own_w hw 21 rfl) | exact (own_w hw 22 rfl) | exact (own_w hw 23 rfl)
def own_lat8 (z : Int32) : Prop := 0 ≤ z.toInt ∧ z.toInt ≤ 255
theorem own_le {z : Int32} (h : own_lat8 z) : ¬ (255 : Int32) < z := by
  rw [Int32.lt_iff_toInt_lt]; have e : (255 : Int32).toInt = 255 := by decide
  have := h.2; omega
theorem own_nc {z : Int32} (h : own_lat8 z) : nar .char z = z := by
  have q := c_i2c z
  refine Int32.toInt_inj.mp ?_
  show (z.toUInt32.toUInt16.toUInt32.toInt32).toInt = _
  have := h.1; have := h.2; omega
theorem own_m255 (x : Int32) : own_lat8 (x &&& 255).toUInt32.toUInt16.toUInt32.toInt32 := by
  have q := c_mask x 255 8 (by decide) (by decide)
  have r : own_lat8 (x &&& 255) := by unfold own_lat8; rw [q]; omega
  have e : (x &&& 255).toUInt32.toUInt16.toUInt32.toInt32 = x &&& 255 := own_nc r
  rw [e]; exact r
theorem own_n3 (x : Int32) : (x &&& 32767) % 3 = (0 : Int32) ∨ (x &&& 32767) % 3 = (1 : Int32) ∨ (x &&& 32767) % 3 = (2 : Int32) := by
  have q := c_mask x 32767 15 (by decide) (by decide)
  have r := (c_irem (x &&& 32767) 3 3 (by decide)).1 (by rw [q]; omega)
  have e0 : (0 : Int32).toInt = 0 := by decide
  have e1 : (1 : Int32).toInt = 1 := by decide
  have e2 : (2 : Int32).toInt = 2 := by decide
  simp only [← Int32.toInt_inj, e0, e1, e2]
  omega
/-- what an append of k bytes at place c asks and gives -/
def own_App (cc kk ck : Int32) (c k : Nat) (vs ws ws' : List Value) : Prop := (¬ (0 : Int32) < ck - (16 : Int32)) ∧ cc + kk = ck ∧ (cc <<< ((0 : Int32) &&& 31)) = cc ∧ cc = Int32.ofNat c ∧ kk = Int32.ofNat k ∧ 0 + k ≤ kk.toNatClampNeg ∧ c + k ≤ (16 : Int32).toNatClampNeg ∧ 0 + k ≤ vs.length ∧ c + k ≤ ws.length ∧ ws' = ws.take c ++ ((vs.drop 0).take k ++ ws.drop (c + k))
/-- what toString of count cc asks and gives -/
def own_Cop (cc : Int32) (k : Nat) (ws es : List Value) : Prop := (¬ cc < 0) ∧ cc - (0 : Int32) = cc ∧ cc.toNatClampNeg ≤ 8 ∧ cc = Int32.ofNat k ∧ cc < (16 : Int32) ∧ (¬ cc = (16 : Int32)) ∧ 0 + k ≤ (16 : Int32).toNatClampNeg ∧ 0 + k ≤ cc.toNatClampNeg ∧ 0 + k ≤ ws.length ∧ es = (List.replicate k (Value.int (0 : Int32))).take 0 ++ ((ws.drop 0).take k ++ (List.replicate k (Value.int (0 : Int32))).drop (0 + k))
def own_bv (vs : List Value) (j : Int32) : Int32 := match vs.getD j.toNatClampNeg (.int (0 : Int32)) with | .int x => x | _ => 0
def own_ints (vs : List Value) : Prop := ∀ v ∈ vs, ∃ x : Int32, v = .int x
theorem own_in0 : own_ints [] := fun v h => by cases h
theorem own_inS {x : Int32} {r : List Value} (h : own_ints r) : own_ints (.int x :: r) := fun v q => by
  rcases List.mem_cons.mp q with e | e
  · exact ⟨x, e⟩
  · exact h v e
theorem own_bv_at {vs : List Value} (h : own_ints vs) (j : Int32) : vs.getD j.toNatClampNeg (.int (0 : Int32)) = .int (own_bv vs j) := by
  have q : ∃ x : Int32, vs.getD j.toNatClampNeg (.int (0 : Int32)) = .int x := by
    rw [List.getD_eq_getElem?_getD]
    cases e : vs[j.toNatClampNeg]? with
    | none => exact ⟨0, rfl⟩
    | some v => exact h v (List.mem_of_getElem? e)
  obtain ⟨x, e⟩ := q
  unfold own_bv; rw [e]
theorem own_bv_eq {vs : List Value} {i : Int32} {k : Nat} (x : Int32) (h : i.toNatClampNeg = k) (hx : vs.getD k (.int (0 : Int32)) = .int x) : own_bv vs i = x := by
  unfold own_bv; rw [h, hx]
def own_cx (ch : Int32) : Int32 := nar .char (nar .char (ch &&& 255).toUInt32.toUInt16.toUInt32.toInt32)
theorem own_cx46 : own_cx 46 = 46 := by decide
def own_at (nl : Int32) (vs : List Value) (i : Int32) : Int32 := if i < nl then own_cx (own_bv vs i) else -1
theorem own_at_lt {nl i : Int32} {vs : List Value} (h : i < nl) : own_at nl vs i = own_cx (own_bv vs i) := if_pos h
theorem own_at_ge {nl i : Int32} {vs : List Value} (h : ¬ i < nl) : own_at nl vs i = -1 := if_neg h
def own_ee (sl : Int32) (vs : List Value) (ll : Int32) (us : List Value) (i : Int32) : Int32 := if i < sl then own_cx (own_bv vs i) else if i = sl then 46 else own_at ll us (i - sl - 1)
theorem own_ee1 {sl ll i : Int32} {vs us : List Value} (h : i < sl) : own_ee sl vs ll us i = own_cx (own_bv vs i) := if_pos h
theorem own_ee2 {sl ll i : Int32} {vs us : List Value} (h : ¬ i < sl) (q : i = sl) : own_ee sl vs ll us i = 46 := (if_neg h).trans (if_pos q)
theorem own_ee3 {sl ll i : Int32} {vs us : List Value} (h : ¬ i < sl) (q : ¬ i = sl) : own_ee sl vs ll us i = own_at ll us (i - sl - 1) := (if_neg h).trans (if_neg q)
def own_qq (sl : Int32) (vs : List Value) (ll : Int32) (us : List Value) (e i : Int32) : Int32 := if i < e then own_ee sl vs ll us i else if i = e then 46 else own_at sl vs (i - e - 1)
theorem own_qq1 {sl ll e i : Int32} {vs us : List Value} (h : i < e) : own_qq sl vs ll us e i = own_ee sl vs ll us i := if_pos h
theorem own_qq2 {sl ll e i : Int32} {vs us : List Value} (h : ¬ i < e) (q : i = e) : own_qq sl vs ll us e i = 46 := (if_neg h).trans (if_pos q)
theorem own_qq3 {sl ll e i : Int32} {vs us : List Value} (h : ¬ i < e) (q : ¬ i = e) : own_qq sl vs ll us e i = own_at sl vs (i - e - 1) := (if_neg h).trans (if_neg q)
theorem own0_0 : decode jdk_42_method_152_code 0 = .ok (.getstatic 38, 3) := by decide +kernel
theorem own0_3 : decode jdk_42_method_152_code 3 = .ok (.ifCond .eq 10, 3) := by decide +kernel
theorem own0_6 : decode jdk_42_method_152_code 6 = .ok (.aload_n 0, 1) := by decide +kernel
theorem own0_7 : decode jdk_42_method_152_code 7 = .ok (.getfield 15, 3) := by decide +kernel
theorem own0_10 : decode jdk_42_method_152_code 10 = .ok (.goto 4, 3) := by decide +kernel
theorem own0_14 : decode jdk_42_method_152_code 14 = .ok (.ireturn, 1) := by decide +kernel
theorem own_pn_java_lang_String : plainName "java/lang/String" = true := by first | (simp [plainName, overriddenIn]; done) | decide +kernel
theorem ef1R (m : MethodId) (x0 : Addr) : entryFrame m #[(.ref x0)] 1 = mkF m 0 #[.val (.ref x0)] [] := by first | (simp [entryFrame, mkF, argsToLocals, Value.category]; done) | rfl
def Q_coder (Z : State) (a1 : Addr) (cs : Int32) (h0 : Heap) (n0 : Nat) (v : Option Value) (h : Heap) (L : List Loc) : Prop := v = some (.int (0 : Int32)) ∧ Fr n0 L ∧ h = h0
set_option maxRecDepth 65536 in
set_option maxHeartbeats 40000000 in
theorem rm_coder (l : Launch) (Z : State) (a0 : Array Value) (hw : ∀ d ∈ tables_1, d.before a0 Z = true) (ws : List Jvm.Cond) (a1 : Addr) (cs : Int32) (h0 : Heap) (n0 : Nat) (Z0 : n0 ≤ h0.size) (S_C : Sta Z h0 "java/lang/String" "COMPACT_STRINGS" "Z" (.int cs)) (hcs : ¬ cs = 0) (F_c : Fld Z h0 a1 "java/lang/String" "coder" "B" (.int (0 : Int32))) : own_Met l Z ⟨"java/lang/String", "coder", "()B"⟩ jdk_42_method_152_code 1 (some .byte) ws ⟨0, 0, 0, 0⟩ #[(.ref a1)] h0 (Q_coder Z a1 cs h0 n0) := by
  refine own_met n0 own_pn_java_lang_String (fun m => ef1R m a1) ?_
  intro p e s m below meth c T lc hret hx hZ hby hml hown hnm hlk X eT N
  refine own_getS X hx hZ hown (host := "") (Or.inl (own_w hw 68 rfl)) Via.refl eT S_C (hb hby own0_0) (pc' := 3) rfl ?_
  intro T X eT
  refine own_ifN X hx (hb hby own0_3) (pc' := 6) rfl (show ¬ (cs = (0 : Int32)) from hcs) ?_
  refine own_aloadN X hx (hb hby own0_6) (pc' := 7) rfl rfl rfl ?_
  refine own_getF X hx hZ hown (host := "") (Or.inl (own_w hw 25 rfl)) Via.refl eT F_c (hb hby own0_7) (pc' := 10) rfl ?_
  intro T X eT
  refine own_goto X hx (hb hby own0_10) (by decide) (pc' := 14) rfl ?_
  refine own_retI X hx hlk (t := .byte) (w' := (.int (0 : Int32))) hret (hb hby own0_14) rfl rfl (by simp) (by decide) (by decide) ?_
  rw [eT]
  exact ⟨rfl, N, rfl⟩
theorem own1_0 : decode jdk_42_method_154_code 0 = .ok (.getstatic 38, 3) := by decide +kernel
theorem own1_3 : decode jdk_42_method_154_code 3 = .ok (.ifCond .eq 14, 3) := by decide +kernel
theorem own1_6 : decode jdk_42_method_154_code 6 = .ok (.aload_n 0, 1) := by decide +kernel
theorem own1_7 : decode jdk_42_method_154_code 7 = .ok (.getfield 15, 3) := by decide +kernel
theorem own1_10 : decode jdk_42_method_154_code 10 = .ok (.ifCond .ne 7, 3) := by decide +kernel
theorem own1_13 : decode jdk_42_method_154_code 13 = .ok (.iconst 1, 1) := by decide +kernel
theorem own1_14 : decode jdk_42_method_154_code 14 = .ok (.goto 4, 3) := by decide +kernel
theorem own1_18 : decode jdk_42_method_154_code 18 = .ok (.ireturn, 1) := by decide +kernel
def Q_isLat (Z : State) (a1 : Addr) (cs : Int32) (h0 : Heap) (n0 : Nat) (v : Option Value) (h : Heap) (L : List Loc) : Prop := v = some (.int (1 : Int32)) ∧ Fr n0 L ∧ h = h0
set_option maxRecDepth 65536 in
set_option maxHeartbeats 40000000 in
theorem rm_isLat (l : Launch) (Z : State) (a0 : Array Value) (hw : ∀ d ∈ tables_1, d.before a0 Z = true) (ws : List Jvm.Cond) (a1 : Addr) (cs : Int32) (h0 : Heap) (n0 : Nat) (Z0 : n0 ≤ h0.size) (S_C : Sta Z h0 "java/lang/String" "COMPACT_STRINGS" "Z" (.int cs)) (hcs : ¬ cs = 0) (F_c : Fld Z h0 a1 "java/lang/String" "coder" "B" (.int (0 : Int32))) : own_Met l Z ⟨"java/lang/String", "isLatin1", "()Z"⟩ jdk_42_method_154_code 1 (some .boolean) ws ⟨0, 0, 0, 0⟩ #[(.ref a1)] h0 (Q_isLat Z a1 cs h0 n0) := by
  refine own_met n0 own_pn_java_lang_String (fun m => ef1R m a1) ?_
  intro p e s m below meth c T lc hret hx hZ hby hml hown hnm hlk X eT N
  refine own_getS X hx hZ hown (host := "") (Or.inl (own_w hw 68 rfl)) Via.refl eT S_C (hb hby own1_0) (pc' := 3) rfl ?_
  intro T X eT
  refine own_ifN X hx (hb hby own1_3) (pc' := 6) rfl (show ¬ (cs = (0 : Int32)) from hcs) ?_
  refine own_aloadN X hx (hb hby own1_6) (pc' := 7) rfl rfl rfl ?_
  refine own_getF X hx hZ hown (host := "") (Or.inl (own_w hw 25 rfl)) Via.refl eT F_c (hb hby own1_7) (pc' := 10) rfl ?_
  intro T X eT
  refine own_ifN X hx (hb hby own1_10) (pc' := 13) rfl (show (0 : Int32) = (0 : Int32) from (by decide)) ?_
  refine own_iconst X hx (1 : Int32) (hb hby own1_13) (pc' := 14) rfl rfl ?_
  refine own_goto X hx (hb hby own1_14) (by decide) (pc' := 18) rfl ?_
  refine own_retI X hx hlk (t := .boolean) (w' := (.int (1 : Int32))) hret (hb hby own1_18) rfl rfl (by simp) (by decide) (by decide) ?_
  rw [eT]
  exact ⟨rfl, N, rfl⟩
theorem own_shr0 (x : Int32) : x >>> ((0 : Int32) &&& 31) = x := by simp
theorem own2_0 : decode jdk_42_method_54_code 0 = .ok (.aload_n 0, 1) := by decide +kernel
theorem own2_1 : decode jdk_42_method_54_code 1 = .ok (.getfield 9, 3) := by decide +kernel
theorem own2_4 : decode jdk_42_method_54_code 4 = .ok (.arraylength, 1) := by decide +kernel
theorem own2_5 : decode jdk_42_method_54_code 5 = .ok (.aload_n 0, 1) := by decide +kernel
theorem own2_6 : decode jdk_42_method_54_code 6 = .ok (.invokevirtual 335, 3) := by decide +kernel
theorem own_pd_2829B : parseMethodDescriptor "()B" = some ⟨[], some .byte⟩ := by decide +kernel
theorem own2_9 : decode jdk_42_method_54_code 9 = .ok (.ishr, 1) := by decide +kernel
theorem own2_10 : decode jdk_42_method_54_code 10 = .ok (.ireturn, 1) := by decide +kernel
def Q_len (Z : State) (a1 b : Addr) (cs nl : Int32) (h0 : Heap) (n0 : Nat) (v : Option Value) (h : Heap) (L : List Loc) : Prop := v = some (.int nl) ∧ Fr n0 L ∧ h = h0
set_option maxRecDepth 65536 in
set_option maxHeartbeats 40000000 in
theorem rm_len (l : Launch) (Z : State) (a0 : Array Value) (hw : ∀ d ∈ tables_1, d.before a0 Z = true) (ws : List Jvm.Cond) (a1 b : Addr) (cs nl : Int32) (h0 : Heap) (n0 : Nat) (Z0 : n0 ≤ h0.size) (S_C : Sta Z h0 "java/lang/String" "COMPACT_STRINGS" "Z" (.int cs)) (hcs : ¬ cs = 0) (E_a1 : Exa Z h0 a1 "java/lang/String") (F_c : Fld Z h0 a1 "java/lang/String" "coder" "B" (.int (0 : Int32))) (F_v : Fld Z h0 a1 "java/lang/String" "value" "[B" (.ref b)) (k : ClassId) (vs : List Value) (A_b : Arv Z h0 b k .byte nl vs (.int (0 : Int32))) : own_Met l Z ⟨"java/lang/String", "length", "()I"⟩ jdk_42_method_54_code 1 (some .int) ws ⟨1, 0, 0, 13⟩ #[(.ref a1)] h0 (Q_len Z a1 b cs nl h0 n0) := by
  refine own_met n0 own_pn_java_lang_String (fun m => ef1R m a1) ?_
  intro p e s m below meth c T lc hret hx hZ hby hml hown hnm hlk X eT N
  refine own_aloadN X hx (hb hby own2_0) (pc' := 1) rfl rfl rfl ?_
  refine own_getF X hx hZ hown (host := "") (Or.inl (own_w hw 24 rfl)) Via.refl eT F_v (hb hby own2_1) (pc' := 4) rfl ?_
  intro T X eT
  refine own_arrlen X hx hZ eT A_b (hb hby own2_4) (pc' := 5) rfl ?_
  refine own_aloadN X hx (hb hby own2_5) (pc' := 6) rfl rfl rfl ?_
  refine own_callV X hx hZ (y := (⟨"java/lang/String", "coder", "()B"⟩ : MethodName)) a1 [] hown (own_w hw 63 rfl) (own_w hw 64 rfl) (own_w hw 66 rfl) (own_w hw 65 rfl) (own_w hw 6 rfl) (own_w hw 67 rfl) (by decide) (rm_coder l Z a0 hw [] a1 cs h0 n0 Z0 S_C hcs F_c) E_a1 eT (W := 1) (by decide) (by decide) (cells' := 0) (slots' := 0) rfl rfl (by decide) (by decide) (by rw [hml]; rfl) (lenOf own_pd_2829B rfl) rfl (S := [(.int nl)]) rfl (Nat.le_of_eq rfl) (hb hby own2_6) (pc' := 9) rfl ?_
  intro v T h1 L lc X eT hq fN
  obtain ⟨rfl, Nq, hqe⟩ := hq
  have N := fN _ N Nq
  rw [hqe] at eT
  show own_W _ _ _ _ _ _ _ _ [(.int (0 : Int32)), (.int nl)]
  refine own_ishr X hx (hb hby own2_9) (pc' := 10) rfl ?_
  refine own_retI X hx hlk (t := .int) (w' := (.int (nl >>> ((0 : Int32) &&& 31)))) hret (hb hby own2_10) rfl rfl (by simp) (by decide) (by decide) ?_
  rw [eT]
  exact ⟨by rw [own_shr0], N, rfl⟩
theorem own3_0 : decode jdk_41_method_11_code 0 = .ok (.iload_n 0, 1) := by decide +kernel
theorem own3_1 : decode jdk_41_method_11_code 1 = .ok (.ifCond .lt 8, 3) := by decide +kernel
theorem own3_4 : decode jdk_41_method_11_code 4 = .ok (.iload_n 0, 1) := by decide +kernel
theorem own3_5 : decode jdk_41_method_11_code 5 = .ok (.iload_n 1, 1) := by decide +kernel
theorem own3_6 : decode jdk_41_method_11_code 6 = .ok (.if_icmp .lt 10, 3) := by decide +kernel
theorem own3_16 : decode jdk_41_method_11_code 16 = .ok (.iload_n 0, 1) := by decide +kernel
theorem own3_17 : decode jdk_41_method_11_code 17 = .ok (.ireturn, 1) := by decide +kernel
theorem own_pn_jdk_internal_util_Preconditions : plainName "jdk/internal/util/Preconditions" = true := by first | (simp [plainName, overriddenIn]; done) | decide +kernel
theorem ef3IIV (m : MethodId) (x0 : Int32) (x1 : Int32) (x2 : Value) (hx2 : x2.isRef = true) : entryFrame m #[(.int x0), (.int x1), x2] 3 = mkF m 0 #[.val (.int x0), .val (.int x1), .val x2] [] := by rcases ref_cases hx2 with rfl | ⟨_, rfl⟩ <;> first | (simp [entryFrame, mkF, argsToLocals, Value.category]; done) | rfl
def Q_pci (Z : State) (p0 p1 : Int32) (fm : Value) (h0 : Heap) (n0 : Nat) (v : Option Value) (h : Heap) (L : List Loc) : Prop := v = some (.int p0) ∧ Fr n0 L ∧ h = h0
set_option maxRecDepth 65536 in
set_option maxHeartbeats 40000000 in
theorem rm_pci (l : Launch) (Z : State) (a0 : Array Value) (hw : ∀ d ∈ tables_1, d.before a0 Z = true) (ws : List Jvm.Cond) (p0 p1 : Int32) (fm : Value) (h0 : Heap) (n0 : Nat) (Z0 : n0 ≤ h0.size) (hfm : fm.isRef = true) (hj0 : ¬ p0 < 0) (hj1 : p0 < p1) : own_Met l Z ⟨"jdk/internal/util/Preconditions", "checkIndex", "(IILjava/util/function/BiFunction;)I"⟩ jdk_41_method_11_code 3 (some .int) ws ⟨0, 0, 0, 0⟩ #[(.int p0), (.int p1), fm] h0 (Q_pci Z p0 p1 fm h0 n0) := by
  refine own_met n0 own_pn_jdk_internal_util_Preconditions (fun m => ef3IIV m p0 p1 fm hfm) ?_
  intro p e s m below meth c T lc hret hx hZ hby hml hown hnm hlk X eT N
  refine own_iloadN X hx (hb hby own3_0) (pc' := 1) rfl rfl ?_
  refine own_ifN X hx (hb hby own3_1) (pc' := 4) rfl (show ¬ (p0 < (0 : Int32)) from hj0) ?_
  refine own_iloadN X hx (hb hby own3_4) (pc' := 5) rfl rfl ?_
  refine own_iloadN X hx (hb hby own3_5) (pc' := 6) rfl rfl ?_
  refine own_icmpY X hx (hb hby own3_6) (by decide) (pc' := 16) rfl (show p0 < p1 from hj1) ?_
  refine own_iloadN X hx (hb hby own3_16) (pc' := 17) rfl rfl ?_
  refine own_retI X hx hlk (t := .int) (w' := (.int p0)) hret (hb hby own3_17) rfl rfl (by simp) (by decide) (by decide) ?_
  rw [eT]
  exact ⟨rfl, N, rfl⟩
theorem own4_0 : decode jdk_42_method_155_code 0 = .ok (.iload_n 0, 1) := by decide +kernel
theorem own4_1 : decode jdk_42_method_155_code 1 = .ok (.iload_n 1, 1) := by decide +kernel
theorem own4_2 : decode jdk_42_method_155_code 2 = .ok (.getstatic 1053, 3) := by decide +kernel
theorem own4_5 : decode jdk_42_method_155_code 5 = .ok (.invokestatic 1059, 3) := by decide +kernel
theorem own_pd_28IILjava2futil2ffunction2fBiFunction3b29I : parseMethodDescriptor "(IILjava/util/function/BiFunction;)I" = some ⟨[.int, .int, (.object "java/util/function/BiFunction")], some .int⟩ := by decide +kernel
theorem own4_8 : decode jdk_42_method_155_code 8 = .ok (.pop, 1) := by decide +kernel
theorem own4_9 : decode jdk_42_method_155_code 9 = .ok (.return_, 1) := by decide +kernel
theorem ef2II (m : MethodId) (x0 : Int32) (x1 : Int32) : entryFrame m #[(.int x0), (.int x1)] 2 = mkF m 0 #[.val (.int x0), .val (.int x1)] [] := by first | (simp [entryFrame, mkF, argsToLocals, Value.category]; done) | rfl
def Q_sci (Z : State) (p0 p1 : Int32) (fm : Value) (h0 : Heap) (n0 : Nat) (v : Option Value) (h : Heap) (L : List Loc) : Prop := v = none ∧ Fr n0 L ∧ h = h0
set_option maxRecDepth 65536 in
set_option maxHeartbeats 40000000 in
theorem rm_sci (l : Launch) (Z : State) (a0 : Array Value) (hw : ∀ d ∈ tables_1, d.before a0 Z = true) (ws : List Jvm.Cond) (p0 p1 : Int32) (fm : Value) (h0 : Heap) (n0 : Nat) (Z0 : n0 ≤ h0.size) (S_F : Sta Z h0 "jdk/internal/util/Preconditions" "SIOOBE_FORMATTER" "Ljava/util/function/BiFunction;" fm) (hfm : fm.isRef = true) (hj0 : ¬ p0 < 0) (hj1 : p0 < p1) : own_Met l Z ⟨"java/lang/String", "checkIndex", "(II)V"⟩ jdk_42_method_155_code 2 none ws ⟨1, 0, 0, 14⟩ #[(.int p0), (.int p1)] h0 (Q_sci Z p0 p1 fm h0 n0) := by
  refine own_met n0 own_pn_java_lang_String (fun m => ef2II m p0 p1) ?_
  intro p e s m below meth c T lc hret hx hZ hby hml hown hnm hlk X eT N
  refine own_iloadN X hx (hb hby own4_0) (pc' := 1) rfl rfl ?_
  refine own_iloadN X hx (hb hby own4_1) (pc' := 2) rfl rfl ?_
  refine own_getS X hx hZ hown (host := "") (Or.inl (own_w hw 191 rfl)) Via.refl eT S_F (hb hby own4_2) (pc' := 5) rfl ?_
  intro T X eT
  refine own_callS X hx hZ [(.int p0), (.int p1), fm] hown (own_w hw 193 rfl) (own_w hw 194 rfl) (own_w hw 192 rfl) (own_w hw 195 rfl) (by decide) (rm_pci l Z a0 hw [] p0 p1 fm h0 n0 Z0 hfm hj0 hj1) eT (W := 0) (by decide) (by decide) (cells' := 0) (slots' := 0) rfl rfl (by decide) (by decide) (by rw [hml]; rfl) (lenOf own_pd_28IILjava2futil2ffunction2fBiFunction3b29I rfl) rfl (S := []) rfl (Nat.le_of_eq rfl) (hb hby own4_5) (pc' := 8) rfl ?_
  intro v T h1 L lc X eT hq fN
  obtain ⟨rfl, Nq, hqe⟩ := hq
  have N := fN _ N Nq
  rw [hqe] at eT
  show own_W _ _ _ _ _ _ _ _ [(.int p0)]
  refine own_pop X hx (hb hby own4_8) (pc' := 9) rfl rfl ?_
  refine own_ret0 X hx hlk hret (hb hby own4_9) (by decide) (by decide) ?_
  rw [eT]
  exact ⟨rfl, N, rfl⟩
theorem own5_0 : decode jdk_43_method_2_code 0 = .ok (.iload_n 1, 1) := by decide +kernel
theorem own5_1 : decode jdk_43_method_2_code 1 = .ok (.aload_n 0, 1) := by decide +kernel
theorem own5_2 : decode jdk_43_method_2_code 2 = .ok (.arraylength, 1) := by decide +kernel
theorem own5_3 : decode jdk_43_method_2_code 3 = .ok (.invokestatic 9, 3) := by decide +kernel
theorem own_pd_28II29V : parseMethodDescriptor "(II)V" = some ⟨[.int, .int], none⟩ := by decide +kernel
theorem own5_6 : decode jdk_43_method_2_code 6 = .ok (.aload_n 0, 1) := by decide +kernel
theorem own5_7 : decode jdk_43_method_2_code 7 = .ok (.iload_n 1, 1) := by decide +kernel
theorem own5_8 : decode jdk_43_method_2_code 8 = .ok (.baload, 1) := by decide +kernel
theorem own5_9 : decode jdk_43_method_2_code 9 = .ok (.sipush 255, 3) := by decide +kernel
theorem own5_12 : decode jdk_43_method_2_code 12 = .ok (.iand, 1) := by decide +kernel
theorem own5_13 : decode jdk_43_method_2_code 13 = .ok (.i2c, 1) := by decide +kernel
theorem own5_14 : decode jdk_43_method_2_code 14 = .ok (.ireturn, 1) := by decide +kernel
theorem own_pn_java_lang_StringLatin1 : plainName "java/lang/StringLatin1" = true := by first | (simp [plainName, overriddenIn]; done) | decide +kernel
theorem ef2RI (m : MethodId) (x0 : Addr) (x1 : Int32) : entryFrame m #[(.ref x0), (.int x1)] 2 = mkF m 0 #[.val (.ref x0), .val (.int x1)] [] := by first | (simp [entryFrame, mkF, argsToLocals, Value.category]; done) | rfl
def Q_lch (Z : State) (b : Addr) (p1 ch : Int32) (fm : Value) (h0 : Heap) (n0 : Nat) (v : Option Value) (h : Heap) (L : List Loc) : Prop := v = some (.int (nar .char (ch &&& 255).toUInt32.toUInt16.toUInt32.toInt32)) ∧ Fr n0 L ∧ h = h0
set_option maxRecDepth 65536 in
set_option maxHeartbeats 40000000 in
theorem rm_lch (l : Launch) (Z : State) (a0 : Array Value) (hw : ∀ d ∈ tables_1, d.before a0 Z = true) (ws : List Jvm.Cond) (b : Addr) (p1 ch : Int32) (fm : Value) (h0 : Heap) (n0 : Nat) (Z0 : n0 ≤ h0.size) (S_F : Sta Z h0 "jdk/internal/util/Preconditions" "SIOOBE_FORMATTER" "Ljava/util/function/BiFunction;" fm) (hfm : fm.isRef = true) (k : ClassId) (nn : Int32) (vs : List Value) (A_b : Arv Z h0 b k .byte nn vs (.int (0 : Int32))) (hj0 : ¬ p1 < 0) (hj1 : p1 < nn) (hv : vs.getD p1.toNatClampNeg (.int (0 : Int32)) = .int ch) : own_Met l Z ⟨"java/lang/StringLatin1", "charAt", "([BI)C"⟩ jdk_43_method_2_code 2 (some .char) ws ⟨2, 0, 0, 27⟩ #[(.ref b), (.int p1)] h0 (Q_lch Z b p1 ch fm h0 n0) := by
  refine own_met n0 own_pn_java_lang_StringLatin1 (fun m => ef2RI m b p1) ?_
  intro p e s m below meth c T lc hret hx hZ hby hml hown hnm hlk X eT N
  refine own_iloadN X hx (hb hby own5_0) (pc' := 1) rfl rfl ?_
  refine own_aloadN X hx (hb hby own5_1) (pc' := 2) rfl rfl rfl ?_
  refine own_arrlen X hx hZ eT A_b (hb hby own5_2) (pc' := 3) rfl ?_
  refine own_callS X hx hZ [(.int p1), (.int nn)] hown (own_w hw 188 rfl) (own_w hw 189 rfl) (own_w hw 6 rfl) (own_w hw 190 rfl) (by decide) (rm_sci l Z a0 hw [] p1 nn fm h0 n0 Z0 S_F hfm hj0 hj1) eT (W := 0) (by decide) (by decide) (cells' := 0) (slots' := 0) rfl rfl (by decide) (by decide) (by rw [hml]; rfl) (lenOf own_pd_28II29V rfl) rfl (S := []) rfl (Nat.le_of_eq rfl) (hb hby own5_3) (pc' := 6) rfl ?_
  intro v T h1 L lc X eT hq fN
  obtain ⟨rfl, Nq, hqe⟩ := hq
  have N := fN _ N Nq
  rw [hqe] at eT
  show own_W _ _ _ _ _ _ _ _ []
  refine own_aloadN X hx (hb hby own5_6) (pc' := 7) rfl rfl rfl ?_
  refine own_iloadN X hx (hb hby own5_7) (pc' := 8) rfl rfl ?_
  refine own_baloadB X hx hZ eT A_b (v := (.int ch)) ⟨hj0, hj1⟩ hv (hb hby own5_8) (pc' := 9) rfl ?_
  refine own_sipush X hx (255 : Int32) (hb hby own5_9) (pc' := 12) rfl rfl ?_
  refine own_iand X hx (hb hby own5_12) (pc' := 13) rfl ?_
  refine own_i2c X hx (hb hby own5_13) (pc' := 14) rfl ?_
  refine own_retI X hx hlk (t := .char) (w' := (.int (nar .char (ch &&& (255 : Int32)).toUInt32.toUInt16.toUInt32.toInt32))) hret (hb hby own5_14) rfl rfl (by simp) (by decide) (by decide) ?_
  rw [eT]
  exact ⟨rfl, N, rfl⟩
theorem own6_0 : decode jdk_42_method_56_code 0 = .ok (.aload_n 0, 1) := by decide +kernel
theorem own6_1 : decode jdk_42_method_56_code 1 = .ok (.invokevirtual 492, 3) := by decide +kernel
theorem own_pd_2829Z : parseMethodDescriptor "()Z" = some ⟨[], some .boolean⟩ := by decide +kernel
theorem own6_4 : decode jdk_42_method_56_code 4 = .ok (.ifCond .eq 12, 3) := by decide +kernel
theorem own6_7 : decode jdk_42_method_56_code 7 = .ok (.aload_n 0, 1) := by decide +kernel
theorem own6_8 : decode jdk_42_method_56_code 8 = .ok (.getfield 9, 3) := by decide +kernel
theorem own6_11 : decode jdk_42_method_56_code 11 = .ok (.iload_n 1, 1) := by decide +kernel
theorem own6_12 : decode jdk_42_method_56_code 12 = .ok (.invokestatic 495, 3) := by decide +kernel
theorem own_pd_285bBI29C : parseMethodDescriptor "([BI)C" = some ⟨[(.array .byte), .int], some .char⟩ := by decide +kernel
theorem own6_15 : decode jdk_42_method_56_code 15 = .ok (.ireturn, 1) := by decide +kernel
def Q_chAt (Z : State) (a1 b : Addr) (p1 ch cs : Int32) (fm : Value) (h0 : Heap) (n0 : Nat) (v : Option Value) (h : Heap) (L : List Loc) : Prop := v = some (.int (nar .char (nar .char (ch &&& 255).toUInt32.toUInt16.toUInt32.toInt32))) ∧ Fr n0 L ∧ h = h0
set_option maxRecDepth 65536 in
set_option maxHeartbeats 40000000 in
theorem rm_chAt (l : Launch) (Z : State) (a0 : Array Value) (hw : ∀ d ∈ tables_1, d.before a0 Z = true) (ws : List Jvm.Cond) (a1 b : Addr) (p1 ch cs : Int32) (fm : Value) (h0 : Heap) (n0 : Nat) (Z0 : n0 ≤ h0.size) (S_C : Sta Z h0 "java/lang/String" "COMPACT_STRINGS" "Z" (.int cs)) (hcs : ¬ cs = 0) (S_F : Sta Z h0 "jdk/internal/util/Preconditions" "SIOOBE_FORMATTER" "Ljava/util/function/BiFunction;" fm) (hfm : fm.isRef = true) (E_a1 : Exa Z h0 a1 "java/lang/String") (nn : Int32) (F_c : Fld Z h0 a1 "java/lang/String" "coder" "B" (.int (0 : Int32))) (F_v : Fld Z h0 a1 "java/lang/String" "value" "[B" (.ref b)) (k : ClassId) (vs : List Value) (A_b : Arv Z h0 b k .byte nn vs (.int (0 : Int32))) (hj0 : ¬ p1 < 0) (hj1 : p1 < nn) (hv : vs.getD p1.toNatClampNeg (.int (0 : Int32)) = .int ch) : own_Met l Z ⟨"java/lang/String", "charAt", "(I)C"⟩ jdk_42_method_56_code 2 (some .char) ws ⟨3, 0, 0, 40⟩ #[(.ref a1), (.int p1)] h0 (Q_chAt Z a1 b p1 ch cs fm h0 n0) := by
  refine own_met n0 own_pn_java_lang_String (fun m => ef2RI m a1 p1) ?_
  intro p e s m below meth c T lc hret hx hZ hby hml hown hnm hlk X eT N
  refine own_aloadN X hx (hb hby own6_0) (pc' := 1) rfl rfl rfl ?_
  refine own_callV X hx hZ (y := (⟨"java/lang/String", "isLatin1", "()Z"⟩ : MethodName)) a1 [] hown (own_w hw 179 rfl) (own_w hw 180 rfl) (own_w hw 182 rfl) (own_w hw 181 rfl) (own_w hw 6 rfl) (own_w hw 183 rfl) (by decide) (rm_isLat l Z a0 hw [] a1 cs h0 n0 Z0 S_C hcs F_c) E_a1 eT (W := 0) (by decide) (by decide) (cells' := 0) (slots' := 0) rfl rfl (by decide) (by decide) (by rw [hml]; rfl) (lenOf own_pd_2829Z rfl) rfl (S := []) rfl (Nat.le_of_eq rfl) (hb hby own6_1) (pc' := 4) rfl ?_
  intro v T h1 L lc X eT hq fN
  obtain ⟨rfl, Nq, hqe⟩ := hq
  have N := fN _ N Nq
  rw [hqe] at eT
  show own_W _ _ _ _ _ _ _ _ [(.int (1 : Int32))]
  refine own_ifN X hx (hb hby own6_4) (pc' := 7) rfl (show ¬ ((1 : Int32) = (0 : Int32)) from (by decide)) ?_
  refine own_aloadN X hx (hb hby own6_7) (pc' := 8) rfl rfl rfl ?_
  refine own_getF X hx hZ hown (host := "") (Or.inl (own_w hw 24 rfl)) Via.refl eT F_v (hb hby own6_8) (pc' := 11) rfl ?_
  intro T X eT
  refine own_iloadN X hx (hb hby own6_11) (pc' := 12) rfl rfl ?_
  refine own_callS X hx hZ [(.ref b), (.int p1)] hown (own_w hw 184 rfl) (own_w hw 185 rfl) (own_w hw 186 rfl) (own_w hw 187 rfl) (by decide) (rm_lch l Z a0 hw [] b p1 ch fm h0 n0 Z0 S_F hfm k nn vs A_b hj0 hj1 hv) eT (W := 0) (by decide) (by decide) (cells' := 0) (slots' := 0) rfl rfl (by decide) (by decide) (by rw [hml]; rfl) (lenOf own_pd_285bBI29C rfl) rfl (S := []) rfl (Nat.le_of_eq rfl) (hb hby own6_12) (pc' := 15) rfl ?_
  intro v T h2 L lc X eT hq fN
  obtain ⟨rfl, Nq, hqe⟩ := hq
  have N := fN _ N Nq
  rw [hqe] at eT
  show own_W _ _ _ _ _ _ _ _ [(.int (nar .char (ch &&& 255).toUInt32.toUInt16.toUInt32.toInt32))]
  refine own_retI X hx hlk (t := .char) (w' := (.int (nar .char (nar .char (ch &&& 255).toUInt32.toUInt16.toUInt32.toInt32)))) hret (hb hby own6_15) rfl rfl (by simp) (by decide) (by decide) ?_
  rw [eT]
  exact ⟨rfl, N, rfl⟩
theorem own7_0 : decode jdk_42_method_149_code 0 = .ok (.aload_n 0, 1) := by decide +kernel
theorem own7_1 : decode jdk_42_method_149_code 1 = .ok (.invokespecial 1, 3) := by decide +kernel
theorem own7_4 : decode jdk_42_method_149_code 4 = .ok (.iload_n 3, 1) := by decide +kernel
theorem own7_5 : decode jdk_42_method_149_code 5 = .ok (.ifCond .ne 22, 3) := by decide +kernel
theorem own7_8 : decode jdk_42_method_149_code 8 = .ok (.aload_n 0, 1) := by decide +kernel
theorem own7_9 : decode jdk_42_method_149_code 9 = .ok (.ldc 7, 2) := by decide +kernel
theorem own7_11 : decode jdk_42_method_149_code 11 = .ok (.getfield 9, 3) := by decide +kernel
theorem own7_14 : decode jdk_42_method_149_code 14 = .ok (.putfield 9, 3) := by decide +kernel
theorem own7_17 : decode jdk_42_method_149_code 17 = .ok (.aload_n 0, 1) := by decide +kernel
theorem own7_18 : decode jdk_42_method_149_code 18 = .ok (.ldc 7, 2) := by decide +kernel
theorem own7_20 : decode jdk_42_method_149_code 20 = .ok (.getfield 15, 3) := by decide +kernel
theorem own7_23 : decode jdk_42_method_149_code 23 = .ok (.putfield 15, 3) := by decide +kernel
theorem own7_26 : decode jdk_42_method_149_code 26 = .ok (.return_, 1) := by decide +kernel
theorem ef_iv0 (m : MethodId) (x0 : Addr) (x1 : Addr) (x2 : Int32) (x3 : Int32) : entryFrame m #[(.ref x0), (.ref x1), (.int x2), (.int x3), .null] 6 = mkF m 0 #[.val (.ref x0), .val (.ref x1), .val (.int x2), .val (.int x3), .val .null, .unset] [] := by first | (simp [entryFrame, mkF, argsToLocals, Value.category]; done) | rfl
def Q_iv0 (Z : State) (a1 aq : Addr) (h0 : Heap) (n0 : Nat) (v : Option Value) (h : Heap) (L : List Loc) : Prop := v = none ∧ Fr n0 L ∧ Keep h0 h [a1] ∧ ∃ (b : Addr) (k : ClassId), Fld Z h a1 "java/lang/String" "coder" "B" (.int (0 : Int32)) ∧ Fld Z h a1 "java/lang/String" "value" "[B" (.ref b) ∧ Arv Z h b k .byte (0 : Int32) [] (.int (0 : Int32))
set_option maxRecDepth 65536 in
set_option maxHeartbeats 40000000 in
theorem rm_iv0 (l : Launch) (Z : State) (a0 : Array Value) (hw : ∀ d ∈ tables_1, d.before a0 Z = true) (hEL : EW Z a0 own_EL) (ws : List Jvm.Cond) (a1 aq : Addr) (h0 : Heap) (n0 : Nat) (Z0 : n0 ≤ h0.size) (u1 : Value) (E_a1 : Exa Z h0 a1 "java/lang/String") (F_c : Fld Z h0 a1 "java/lang/String" "coder" "B" u1) (F_v : Fld Z h0 a1 "java/lang/String" "value" "[B" .null) (z_a1 : n0 ≤ a1) :
    MetFree l (⟨"java/lang/String", "<init>", "([CIILjava/lang/Void;)V"⟩ : MethodName) (head1 (Jvm.Cond.code (⟨"java/lang/String", "<init>", "([CIILjava/lang/Void;)V"⟩ : MethodName) jdk_42_method_149_code 6 none :: ws) ({ frames := 1, cells := 4, slots := 8, locals := 12 } : Room)) (fun a U => a = #[(.ref a1), (.ref aq), (.int (0 : Int32)), (.int (0 : Int32)), .null] ∧ Z.Warmed39 U.vm ∧ U.heap = h0 ∧ CHv Z own_EL U.vm h0) (fun _ _ _ _ _ => True) (fun _ U o U' => ∃ v L, o = .returned v ∧ Q_iv0 Z a1 aq h0 n0 v U'.heap L ∧ CHr Z own_EL U.vm U.heap U'.vm U'.heap ∧ ReturnedEndW U o U' L ({ frames := 1, cells := 4, slots := 8, locals := 12 } : Room).cells ({ frames := 1, cells := 4, slots := 8, locals := 12 } : Room).slots) := by
  refine MetFree.of_bodySF (plainFor_of_name own_pn_java_lang_String) hisR ?_
  intro p e s m args below meth c s₁ Bd hml0 hP hK
  obtain ⟨rfl, hZ, hh, H⟩ := hP
  have hx := Bd.exec
  have hby := Bd.bytes
  have hml : c.maxLocals = 6 := hml0
  have hown : s.vm.findClass "java/lang/String" = some m.cls := findClass_of_methodNamed Bd.named
  have hnm := (name_of_methodNamed Bd.named Bd.method).1
  have hlk := Bd.notSynchronized
  obtain ⟨lc, hlc⟩ : ∃ lc : List Loc, lc = [] := ⟨_, rfl⟩
  have X : Stand p l e ({ frames := 1, cells := 4, slots := 8, locals := 12 } : Room) s m #[(.ref a1), (.ref aq), (.int (0 : Int32)), (.int (0 : Int32)), .null] below meth c s₁ lc 0 0 := hlc ▸ Stand.of_body Bd
  have eT : s₁.heap = h0 := by rw [← hh, Bd.state]; rfl
  have N : Fr n0 lc := hlc ▸ Fr.nil n0
  obtain ⟨vm0, hvm⟩ : ∃ v : Vm, v = s.vm := ⟨_, rfl⟩
  have X : Stand p l e ({ frames := 1, cells := 4, slots := 8, locals := 12 } : Room) (s.setVm vm0) m #[(.ref a1), (.ref aq), (.int (0 : Int32)), (.int (0 : Int32)), .null] below meth c s₁ lc 0 0 := by rw [hvm]; exact X
  have hZ : Z.Warmed39 (s.setVm vm0).vm := by rw [hvm]; exact hZ
  have hown : (s.setVm vm0).vm.findClass "java/lang/String" = some m.cls := by rw [hvm]; exact hown
  have hS : s.Since vm0 h0.size := by rw [hvm]; exact (State.WarmedH.refl s).since _
  have hk : h0.size ≤ h0.size := Nat.le_refl _
  have CR : CHr Z own_EL s.vm h0 vm0 h0 := by rw [hvm]; exact CHr.refl H
  have H : CHv Z own_EL vm0 h0 := by rw [hvm]; exact H
  refine own_enterS (ef_iv0 m a1 aq (0 : Int32) (0 : Int32)) ?_
  obtain ⟨T, hT⟩ : ∃ T : State, T = s₁ := ⟨_, rfl⟩
  rw [← hT] at X eT ⊢
  show own_W _ _ _ _ _ _ _ _ []
  have Kp : Keep h0 h0 [a1] := Keep.refl _ _
  have S_a1 : Safe Z own_EL vm0 h0 a1 := own_safe_null hZ.alike E_a1 F_v
  refine own_aloadN X hx (hb hby own7_0) (pc' := 1) rfl rfl rfl ?_
  refine own_initO X hx hZ hown (own_w hw 15 rfl) (own_w hw 16 rfl) (own_w hw 17 rfl) eT (by rw [hml]; rfl) (hb hby own7_1) (pc' := 4) rfl (by decide) (W := 0) (Nat.le_of_eq rfl) (by decide) ?_
  intro T X eT
  refine own_iloadN X hx (hb hby own7_4) (pc' := 5) rfl rfl ?_
  refine own_ifN X hx (hb hby own7_5) (pc' := 8) rfl (show (0 : Int32) = (0 : Int32) from (by decide)) ?_
  refine own_aloadN X hx (hb hby own7_8) (pc' := 9) rfl rfl rfl ?_
  refine own_ldcS X hx hZ hown (own_w hw 18 rfl) (own_wS hw) eT hS hk hEL own_mem_18 H [] (0 : Int32) own_txt_18 (by decide) rfl (hb hby own7_9) (pc' := 11) rfl 0 (by decide) (by decide) (cells' := 2) (slots' := 4) rfl rfl (by decide) (by decide) ?_
  intro sa1 T h1 k1 sb1 k_sb1 vm0 X eT E hS hk hZ hown E_sa1 FC_sa1 FV_sa1 A_sb1 CQ hne_sa1
  have S_a1 := CQ.safe E_a1.lt S_a1
  have CR := CR.trans CQ
  have H := CQ.1
  have E_a1 := E_a1.ext E
  have F_c := F_c.ext E
  have F_v := F_v.ext E
  have Z0 := Nat.le_trans Z0 E.1
  have Kp := Kp.ext E
  have ne_a1_sa1 := (hne_sa1 _ S_a1).1
  have ne_a1_sb1 := (hne_sa1 _ S_a1).2
  refine own_getF X hx hZ hown (host := "") (Or.inl (own_w hw 24 rfl)) Via.refl eT FV_sa1 (hb hby own7_11) (pc' := 14) rfl ?_
  intro T X eT
  refine own_putF X hx hZ hown (own_w hw 24 rfl) Via.refl eT F_v E_a1 (Or.inr ⟨(own_w hw 20 rfl), rfl, hnm⟩) (own_w hw 5 rfl) (ty := (.array .byte)) (v' := (.ref sb1)) (by decide) rfl rfl (hb hby own7_14) (pc' := 17) rfl ?_
  intro T h2 lc X eT Wq fN
  have sfa : Safe Z own_EL vm0 _ a1 := S_a1
  have S_a1 := Safe.wr Wq sfa H S_a1
  have CR := CR.trans (CHr.wr Wq sfa H)
  have H := H.wr Wq sfa
  have hk := Nat.le_trans hk (Keep.of_wr Wq).1
  have F_v := F_v.same Wq
  have E_a1 := E_a1.wr Wq
  have F_c := F_c.other Wq (Or.inr (slot_ne (Or.inr (own_w hw 21 rfl)) (Or.inr (own_w hw 20 rfl)) (by decide) (t := .byte) (t' := (.array .byte)) (by decide) (by decide)))
  have E_sa1 := E_sa1.wr Wq
  have FC_sa1 := FC_sa1.other Wq (Or.inl (Ne.symm ne_a1_sa1))
  have FV_sa1 := FV_sa1.other Wq (Or.inl (Ne.symm ne_a1_sa1))
  have A_sb1 := A_sb1.other Wq (Ne.symm ne_a1_sb1)
  have Z0 := Nat.le_trans Z0 (Keep.of_wr Wq).1
  have N := fN _ z_a1 N
  have Kp := Kp.wr Wq (Or.inl (List.mem_of_getElem? (i := 0) rfl))
  refine own_aloadN X hx (hb hby own7_17) (pc' := 18) rfl rfl rfl ?_
  refine own_ldcS X hx hZ hown (own_w hw 18 rfl) (own_wS hw) eT hS hk hEL own_mem_18 H [] (0 : Int32) own_txt_18 (by decide) rfl (hb hby own7_18) (pc' := 20) rfl 0 (by decide) (by decide) (cells' := 4) (slots' := 8) rfl rfl (by decide) (by decide) ?_
  intro sa3 T h3 k1 sb3 k_sb3 vm0 X eT E hS hk hZ hown E_sa3 FC_sa3 FV_sa3 A_sb3 CQ hne_sa3
  have S_a1 := CQ.safe E_a1.lt S_a1
  have CR := CR.trans CQ
  have H := CQ.1
  have E_a1 := E_a1.ext E
  have F_c := F_c.ext E
  have E_sa1 := E_sa1.ext E
  have FC_sa1 := FC_sa1.ext E
  have FV_sa1 := FV_sa1.ext E
  have A_sb1 := A_sb1.ext E
  have F_v := F_v.ext E
  have Z0 := Nat.le_trans Z0 E.1
  have Kp := Kp.ext E
  have ne_a1_sa3 := (hne_sa3 _ S_a1).1
  have ne_a1_sb3 := (hne_sa3 _ S_a1).2
  refine own_getF X hx hZ hown (host := "") (Or.inl (own_w hw 25 rfl)) Via.refl eT FC_sa3 (hb hby own7_20) (pc' := 23) rfl ?_
  intro T X eT
  refine own_putF X hx hZ hown (own_w hw 25 rfl) Via.refl eT F_c E_a1 (Or.inr ⟨(own_w hw 21 rfl), rfl, hnm⟩) (own_w hw 5 rfl) (ty := .byte) (v' := (.int (0 : Int32))) (by decide) rfl rfl (hb hby own7_23) (pc' := 26) rfl ?_
  intro T h4 lc X eT Wq fN
  have sfa : Safe Z own_EL vm0 _ a1 := S_a1
  have S_a1 := Safe.wr Wq sfa H S_a1
  have CR := CR.trans (CHr.wr Wq sfa H)
  have H := H.wr Wq sfa
  have hk := Nat.le_trans hk (Keep.of_wr Wq).1
  have F_c := F_c.same Wq
  have E_a1 := E_a1.wr Wq
  have E_sa1 := E_sa1.wr Wq
  have FC_sa1 := FC_sa1.other Wq (Or.inl (Ne.symm ne_a1_sa1))
  have FV_sa1 := FV_sa1.other Wq (Or.inl (Ne.symm ne_a1_sa1))
  have A_sb1 := A_sb1.other Wq (Ne.symm ne_a1_sb1)
  have F_v := F_v.other Wq (Or.inr (slot_ne (Or.inr (own_w hw 20 rfl)) (Or.inr (own_w hw 21 rfl)) (by decide) (t := (.array .byte)) (t' := .byte) (by decide) (by decide)))
  have E_sa3 := E_sa3.wr Wq
  have FC_sa3 := FC_sa3.other Wq (Or.inl (Ne.symm ne_a1_sa3))
  have FV_sa3 := FV_sa3.other Wq (Or.inl (Ne.symm ne_a1_sa3))
  have A_sb3 := A_sb3.other Wq (Ne.symm ne_a1_sb3)
  have Z0 := Nat.le_trans Z0 (Keep.of_wr Wq).1
  have N := fN _ z_a1 N
  have Kp := Kp.wr Wq (Or.inl (List.mem_of_getElem? (i := 0) rfl))
  refine own_ret0S X hx hlk hZ eT hh hS hk hEL H CR Bd.returns (hb hby own7_26) (by decide) (by decide) ?_
  rw [eT]
  exact ⟨rfl, N, Kp, sb1, _, F_c, F_v, A_sb1⟩
theorem own8_0 : decode jdk_42_method_3_code 0 = .ok (.aload_n 0, 1) := by decide +kernel
theorem own8_1 : decode jdk_42_method_3_code 1 = .ok (.aload_n 1, 1) := by decide +kernel
theorem own8_2 : decode jdk_42_method_3_code 2 = .ok (.iconst 0, 1) := by decide +kernel
theorem own8_3 : decode jdk_42_method_3_code 3 = .ok (.aload_n 1, 1) := by decide +kernel
theorem own8_4 : decode jdk_42_method_3_code 4 = .ok (.arraylength, 1) := by decide +kernel
theorem own8_5 : decode jdk_42_method_3_code 5 = .ok (.aconst_null, 1) := by decide +kernel
theorem own8_6 : decode jdk_42_method_3_code 6 = .ok (.invokespecial 27, 3) := by decide +kernel
theorem own_pd_285bCIILjava2flang2fVoid3b29V : parseMethodDescriptor "([CIILjava/lang/Void;)V" = some ⟨[(.array .char), .int, .int, (.object "java/lang/Void")], none⟩ := by decide +kernel
theorem own8_9 : decode jdk_42_method_3_code 9 = .ok (.return_, 1) := by decide +kernel
theorem ef_ic0 (m : MethodId) (x0 : Addr) (x1 : Addr) : entryFrame m #[(.ref x0), (.ref x1)] 2 = mkF m 0 #[.val (.ref x0), .val (.ref x1)] [] := by first | (simp [entryFrame, mkF, argsToLocals, Value.category]; done) | rfl
def Q_ic0 (Z : State) (a1 aq : Addr) (h0 : Heap) (n0 : Nat) (v : Option Value) (h : Heap) (L : List Loc) : Prop := v = none ∧ Fr n0 L ∧ Keep h0 h [a1] ∧ ∃ (b : Addr) (k : ClassId), Fld Z h a1 "java/lang/String" "coder" "B" (.int (0 : Int32)) ∧ Fld Z h a1 "java/lang/String" "value" "[B" (.ref b) ∧ Arv Z h b k .byte (0 : Int32) [] (.int (0 : Int32))
set_option maxRecDepth 65536 in
set_option maxHeartbeats 40000000 in
theorem rm_ic0 (l : Launch) (Z : State) (a0 : Array Value) (hw : ∀ d ∈ tables_1, d.before a0 Z = true) (hEL : EW Z a0 own_EL) (ws : List Jvm.Cond) (a1 aq : Addr) (h0 : Heap) (n0 : Nat) (Z0 : n0 ≤ h0.size) (u1 : Value) (E_a1 : Exa Z h0 a1 "java/lang/String") (F_c : Fld Z h0 a1 "java/lang/String" "coder" "B" u1) (F_v : Fld Z h0 a1 "java/lang/String" "value" "[B" .null) (z_a1 : n0 ≤ a1) (kq : ClassId) (vq : List Value) (A_aq : Arv Z h0 aq kq .char (0 : Int32) vq (.int (0 : Int32))) :
    MetFree l (⟨"java/lang/String", "<init>", "([C)V"⟩ : MethodName) (head1 (Jvm.Cond.code (⟨"java/lang/String", "<init>", "([C)V"⟩ : MethodName) jdk_42_method_3_code 2 none :: ws) ({ frames := 2, cells := 4, slots := 8, locals := 29 } : Room)) (fun a U => a = #[(.ref a1), (.ref aq)] ∧ Z.Warmed39 U.vm ∧ U.heap = h0 ∧ CHv Z own_EL U.vm h0) (fun _ _ _ _ _ => True) (fun _ U o U' => ∃ v L, o = .returned v ∧ Q_ic0 Z a1 aq h0 n0 v U'.heap L ∧ CHr Z own_EL U.vm U.heap U'.vm U'.heap ∧ ReturnedEndW U o U' L ({ frames := 2, cells := 4, slots := 8, locals := 29 } : Room).cells ({ frames := 2, cells := 4, slots := 8, locals := 29 } : Room).slots) := by
  refine MetFree.of_bodySF (plainFor_of_name own_pn_java_lang_String) hisR ?_
  intro p e s m args below meth c s₁ Bd hml0 hP hK
  obtain ⟨rfl, hZ, hh, H⟩ := hP
  have hx := Bd.exec
  have hby := Bd.bytes
  have hml : c.maxLocals = 2 := hml0
  have hown : s.vm.findClass "java/lang/String" = some m.cls := findClass_of_methodNamed Bd.named
  have hnm := (name_of_methodNamed Bd.named Bd.method).1
  have hlk := Bd.notSynchronized
  obtain ⟨lc, hlc⟩ : ∃ lc : List Loc, lc = [] := ⟨_, rfl⟩
  have X : Stand p l e ({ frames := 2, cells := 4, slots := 8, locals := 29 } : Room) s m #[(.ref a1), (.ref aq)] below meth c s₁ lc 0 0 := hlc ▸ Stand.of_body Bd
  have eT : s₁.heap = h0 := by rw [← hh, Bd.state]; rfl
  have N : Fr n0 lc := hlc ▸ Fr.nil n0
  obtain ⟨vm0, hvm⟩ : ∃ v : Vm, v = s.vm := ⟨_, rfl⟩
  have X : Stand p l e ({ frames := 2, cells := 4, slots := 8, locals := 29 } : Room) (s.setVm vm0) m #[(.ref a1), (.ref aq)] below meth c s₁ lc 0 0 := by rw [hvm]; exact X
  have hZ : Z.Warmed39 (s.setVm vm0).vm := by rw [hvm]; exact hZ
  have hown : (s.setVm vm0).vm.findClass "java/lang/String" = some m.cls := by rw [hvm]; exact hown
  have hS : s.Since vm0 h0.size := by rw [hvm]; exact (State.WarmedH.refl s).since _
  have hk : h0.size ≤ h0.size := Nat.le_refl _
  have CR : CHr Z own_EL s.vm h0 vm0 h0 := by rw [hvm]; exact CHr.refl H
  have H : CHv Z own_EL vm0 h0 := by rw [hvm]; exact H
  refine own_enterS (ef_ic0 m a1 aq) ?_
  obtain ⟨T, hT⟩ : ∃ T : State, T = s₁ := ⟨_, rfl⟩
  rw [← hT] at X eT ⊢
  show own_W _ _ _ _ _ _ _ _ []
  refine own_aloadN X hx (hb hby own8_0) (pc' := 1) rfl rfl rfl ?_
  refine own_aloadN X hx (hb hby own8_1) (pc' := 2) rfl rfl rfl ?_
  refine own_iconst X hx (0 : Int32) (hb hby own8_2) (pc' := 3) rfl rfl ?_
  refine own_aloadN X hx (hb hby own8_3) (pc' := 4) rfl rfl rfl ?_
  refine own_arrlen X hx hZ eT A_aq (hb hby own8_4) (pc' := 5) rfl ?_
  refine own_aconst_null X hx (hb hby own8_5) (pc' := 6) rfl ?_
  refine own_callNS X hx hZ a1 [(.ref aq), (.int (0 : Int32)), (.int (0 : Int32)), .null] rfl hown (own_w hw 11 rfl) (own_w hw 12 rfl) (own_w hw 6 rfl) (own_w hw 14 rfl) (by decide) (rm_iv0 l Z a0 hw hEL [] a1 aq h0 n0 Z0 _ E_a1 F_c F_v z_a1) eT hS hk hEL H (W := 0) (by decide) (by decide) (cells' := 4) (slots' := 8) rfl rfl (by decide) (by decide) (by rw [hml]; rfl) (lenOf own_pd_285bCIILjava2flang2fVoid3b29V rfl) rfl (S := []) rfl (Nat.le_of_eq rfl) (hb hby own8_6) (pc' := 9) rfl ?_
  intro v T h1 L lc vm0 k1 X eT hS hk hZ hown CQ hq fN
  obtain ⟨rfl, Nq, Kq, bb, kb, F_c2, F_v2, A_bb⟩ := hq
  have N := fN _ N Nq
  have CR := CR.trans CQ
  have H := CQ.1
  show own_W _ _ _ _ _ _ _ _ []
  refine own_ret0S X hx hlk hZ eT hh hS hk hEL H CR Bd.returns (hb hby own8_9) (by decide) (by decide) ?_
  rw [eT]
  exact ⟨rfl, N, Kq, bb, kb, F_c2, F_v2, A_bb⟩
theorem own9_0 : decode jdk_52_method_21_code 0 = .ok (.iconst 0, 1) := by decide +kernel
theorem own9_1 : decode jdk_52_method_21_code 1 = .ok (.istore 5, 2) := by decide +kernel
theorem own9_3 : decode jdk_52_method_21_code 3 = .ok (.iload 5, 2) := by decide +kernel
theorem own9_5 : decode jdk_52_method_21_code 5 = .ok (.iload 4, 2) := by decide +kernel
theorem own9_7 : decode jdk_52_method_21_code 7 = .ok (.if_icmp .ge 37, 3) := by decide +kernel
theorem own9_10 : decode jdk_52_method_21_code 10 = .ok (.aload_n 0, 1) := by decide +kernel
theorem own9_11 : decode jdk_52_method_21_code 11 = .ok (.iload_n 1, 1) := by decide +kernel
theorem own9_12 : decode jdk_52_method_21_code 12 = .ok (.caload, 1) := by decide +kernel
theorem own9_13 : decode jdk_52_method_21_code 13 = .ok (.istore 6, 2) := by decide +kernel
theorem own9_15 : decode jdk_52_method_21_code 15 = .ok (.iload 6, 2) := by decide +kernel
theorem own9_17 : decode jdk_52_method_21_code 17 = .ok (.sipush 255, 3) := by decide +kernel
theorem own9_20 : decode jdk_52_method_21_code 20 = .ok (.if_icmp .le 6, 3) := by decide +kernel
theorem own9_26 : decode jdk_52_method_21_code 26 = .ok (.aload_n 2, 1) := by decide +kernel
theorem own9_27 : decode jdk_52_method_21_code 27 = .ok (.iload_n 3, 1) := by decide +kernel
theorem own9_28 : decode jdk_52_method_21_code 28 = .ok (.iload 6, 2) := by decide +kernel
theorem own9_30 : decode jdk_52_method_21_code 30 = .ok (.i2b, 1) := by decide +kernel
theorem own9_31 : decode jdk_52_method_21_code 31 = .ok (.bastore, 1) := by decide +kernel
theorem own9_32 : decode jdk_52_method_21_code 32 = .ok (.iinc 1 1, 3) := by decide +kernel
theorem own9_35 : decode jdk_52_method_21_code 35 = .ok (.iinc 3 1, 3) := by decide +kernel
theorem own9_38 : decode jdk_52_method_21_code 38 = .ok (.iinc 5 1, 3) := by decide +kernel
theorem own9_41 : decode jdk_52_method_21_code 41 = .ok (.goto (-38), 3) := by decide +kernel
theorem own9_44 : decode jdk_52_method_21_code 44 = .ok (.iload 4, 2) := by decide +kernel
theorem own9_46 : decode jdk_52_method_21_code 46 = .ok (.ireturn, 1) := by decide +kernel
theorem own_pn_java_lang_StringUTF16 : plainName "java/lang/StringUTF16" = true := by first | (simp [plainName, overriddenIn]; done) | decide +kernel
theorem ef7RIRII (m : MethodId) (x0 : Addr) (x1 : Int32) (x2 : Addr) (x3 : Int32) (x4 : Int32) : entryFrame m #[(.ref x0), (.int x1), (.ref x2), (.int x3), (.int x4)] 7 = mkF m 0 #[.val (.ref x0), .val (.int x1), .val (.ref x2), .val (.int x3), .val (.int x4), .unset, .unset] [] := by first | (simp [entryFrame, mkF, argsToLocals, Value.category]; done) | rfl
def Q_ci1 (Z : State) (aq ad : Addr) (kq kd : ClassId) (d0 : Int32) (h0 : Heap) (n0 : Nat) (v : Option Value) (h : Heap) (L : List Loc) : Prop := v = some (.int (1 : Int32)) ∧ Fr n0 L ∧ Keep h0 h [ad] ∧ Arv Z h ad kd .byte (1 : Int32) [(.int (nar .byte d0.toInt8.toInt32))] (.int (0 : Int32))
set_option maxRecDepth 65536 in
set_option maxHeartbeats 40000000 in
theorem rm_ci1 (l : Launch) (Z : State) (a0 : Array Value) (hw : ∀ d ∈ tables_1, d.before a0 Z = true) (ws : List Jvm.Cond) (aq ad : Addr) (kq kd : ClassId) (d0 : Int32) (h0 : Heap) (n0 : Nat) (Z0 : n0 ≤ h0.size) (A_aq : Arv Z h0 aq kq .char (1 : Int32) [(.int d0)] (.int (0 : Int32))) (A_ad : Arv Z h0 ad kd .byte (1 : Int32) [(.int (0 : Int32))] (.int (0 : Int32))) (nqd : aq ≠ ad) (hd0 : ¬ ((255 : Int32) < d0)) (z_ad : n0 ≤ ad) : own_Met l Z ⟨"java/lang/StringUTF16", "compress", "([CI[BII)I"⟩ jdk_52_method_21_code 7 (some .int) ws ⟨0, 0, 0, 0⟩ #[(.ref aq), (.int (0 : Int32)), (.ref ad), (.int (0 : Int32)), (.int (1 : Int32))] h0 (Q_ci1 Z aq ad kq kd d0 h0 n0) := by
  refine own_met n0 own_pn_java_lang_StringUTF16 (fun m => ef7RIRII m aq (0 : Int32) ad (0 : Int32) (1 : Int32)) ?_
  intro p e s m below meth c T lc hret hx hZ hby hml hown hnm hlk X eT N
  have Kp : Keep h0 h0 [ad] := Keep.refl _ _
  refine own_iconst X hx (0 : Int32) (hb hby own9_0) (pc' := 1) rfl rfl ?_
  refine own_istore X hx (hb hby own9_1) (pc' := 3) rfl (Ls' := #[.val (.ref aq), .val (.int (0 : Int32)), .val (.ref ad), .val (.int (0 : Int32)), .val (.int (1 : Int32)), .val (.int (0 : Int32)), .unset]) rfl ?_
  refine own_iload X hx (hb hby own9_3) (pc' := 5) rfl rfl ?_
  refine own_iload X hx (hb hby own9_5) (pc' := 7) rfl rfl ?_
  refine own_icmpN X hx (hb hby own9_7) (pc' := 10) rfl (show (0 : Int32) < (1 : Int32) from (by decide)) ?_
  refine own_aloadN X hx (hb hby own9_10) (pc' := 11) rfl rfl rfl ?_
  refine own_iloadN X hx (hb hby own9_11) (pc' := 12) rfl rfl ?_
  refine own_caload X hx hZ eT A_aq (v := (.int d0)) (by decide) rfl (hb hby own9_12) (pc' := 13) rfl ?_
  refine own_istore X hx (hb hby own9_13) (pc' := 15) rfl (Ls' := #[.val (.ref aq), .val (.int (0 : Int32)), .val (.ref ad), .val (.int (0 : Int32)), .val (.int (1 : Int32)), .val (.int (0 : Int32)), .val (.int d0)]) rfl ?_
  refine own_iload X hx (hb hby own9_15) (pc' := 17) rfl rfl ?_
  refine own_sipush X hx (255 : Int32) (hb hby own9_17) (pc' := 20) rfl rfl ?_
  refine own_icmpY X hx (hb hby own9_20) (by decide) (pc' := 26) rfl (show ¬ ((255 : Int32) < d0) from hd0) ?_
  refine own_aloadN X hx (hb hby own9_26) (pc' := 27) rfl rfl rfl ?_
  refine own_iloadN X hx (hb hby own9_27) (pc' := 28) rfl rfl ?_
  refine own_iload X hx (hb hby own9_28) (pc' := 30) rfl rfl ?_
  refine own_i2b X hx (hb hby own9_30) (pc' := 31) rfl ?_
  refine own_bastoreB X hx hZ eT A_ad (by decide) 0 rfl (by show 0 < 1; decide) (hb hby own9_31) (pc' := 32) rfl ?_
  intro T h1 lc X eT Kq A_adn fN
  have A_aq := A_aq.keep Kq (ninS nqd nin0)
  have Z0 := Nat.le_trans Z0 Kq.1
  have A_ad := A_adn
  have N := fN _ z_ad N
  have Kp := Kp.trans Kq (allS (P := fun x => x ∈ [ad] ∨ h0.size ≤ x) (Or.inl (List.mem_of_getElem? (i := 0) rfl)) all0)
  have A_ad : Arv Z h1 ad _ .byte (1 : Int32) [(.int (nar .byte d0.toInt8.toInt32))] (.int (0 : Int32)) := A_ad
  refine own_iinc X hx (1 : Int32) (hb hby own9_32) (pc' := 35) rfl rfl rfl (Ls' := #[.val (.ref aq), .val (.int (1 : Int32)), .val (.ref ad), .val (.int (0 : Int32)), .val (.int (1 : Int32)), .val (.int (0 : Int32)), .val (.int d0)]) rfl ?_
  refine own_iinc X hx (1 : Int32) (hb hby own9_35) (pc' := 38) rfl rfl rfl (Ls' := #[.val (.ref aq), .val (.int (1 : Int32)), .val (.ref ad), .val (.int (1 : Int32)), .val (.int (1 : Int32)), .val (.int (0 : Int32)), .val (.int d0)]) rfl ?_
  refine own_iinc X hx (1 : Int32) (hb hby own9_38) (pc' := 41) rfl rfl rfl (Ls' := #[.val (.ref aq), .val (.int (1 : Int32)), .val (.ref ad), .val (.int (1 : Int32)), .val (.int (1 : Int32)), .val (.int (1 : Int32)), .val (.int d0)]) rfl ?_
  refine own_goto X hx (hb hby own9_41) (by decide) (pc' := 3) rfl ?_
  refine own_iload X hx (hb hby own9_3) (pc' := 5) rfl rfl ?_
  refine own_iload X hx (hb hby own9_5) (pc' := 7) rfl rfl ?_
  refine own_icmpY X hx (hb hby own9_7) (by decide) (pc' := 44) rfl (show ¬ ((1 : Int32) < (1 : Int32)) from (by decide)) ?_
  refine own_iload X hx (hb hby own9_44) (pc' := 46) rfl rfl ?_
  refine own_retI X hx hlk (t := .int) (w' := (.int (1 : Int32))) hret (hb hby own9_46) rfl rfl (by simp) (by decide) (by decide) ?_
  rw [eT]
  exact ⟨rfl, N, Kp, A_ad⟩
theorem own10_0 : decode jdk_52_method_16_code 0 = .ok (.iload_n 2, 1) := by decide +kernel
theorem own10_1 : decode jdk_52_method_16_code 1 = .ok (.newarray .byte, 2) := by decide +kernel
theorem own10_3 : decode jdk_52_method_16_code 3 = .ok (.astore_n 3, 1) := by decide +kernel
theorem own10_4 : decode jdk_52_method_16_code 4 = .ok (.aload_n 0, 1) := by decide +kernel
theorem own10_5 : decode jdk_52_method_16_code 5 = .ok (.iload_n 1, 1) := by decide +kernel
theorem own10_6 : decode jdk_52_method_16_code 6 = .ok (.aload_n 3, 1) := by decide +kernel
theorem own10_7 : decode jdk_52_method_16_code 7 = .ok (.iconst 0, 1) := by decide +kernel
theorem own10_8 : decode jdk_52_method_16_code 8 = .ok (.iload_n 2, 1) := by decide +kernel
theorem own10_9 : decode jdk_52_method_16_code 9 = .ok (.invokestatic 115, 3) := by decide +kernel
theorem own_pd_285bCI5bBII29I : parseMethodDescriptor "([CI[BII)I" = some ⟨[(.array .char), .int, (.array .byte), .int, .int], some .int⟩ := by decide +kernel
theorem own10_12 : decode jdk_52_method_16_code 12 = .ok (.istore 4, 2) := by decide +kernel
theorem own10_14 : decode jdk_52_method_16_code 14 = .ok (.iload 4, 2) := by decide +kernel
theorem own10_16 : decode jdk_52_method_16_code 16 = .ok (.iload_n 2, 1) := by decide +kernel
theorem own10_17 : decode jdk_52_method_16_code 17 = .ok (.if_icmp .eq 40, 3) := by decide +kernel
theorem own10_57 : decode jdk_52_method_16_code 57 = .ok (.aload_n 3, 1) := by decide +kernel
theorem own10_58 : decode jdk_52_method_16_code 58 = .ok (.areturn, 1) := by decide +kernel
theorem ef6RII (m : MethodId) (x0 : Addr) (x1 : Int32) (x2 : Int32) : entryFrame m #[(.ref x0), (.int x1), (.int x2)] 6 = mkF m 0 #[.val (.ref x0), .val (.int x1), .val (.int x2), .unset, .unset, .unset] [] := by first | (simp [entryFrame, mkF, argsToLocals, Value.category]; done) | rfl
def Q_cc1 (Z : State) (aq : Addr) (kq : ClassId) (d0 : Int32) (h0 : Heap) (n0 : Nat) (v : Option Value) (h : Heap) (L : List Loc) : Prop := ∃ (b : Addr) (kb : ClassId), v = some (.ref b) ∧ Fr n0 L ∧ Keep h0 h [] ∧ h0.size ≤ b ∧ Arv Z h b kb .byte (1 : Int32) [(.int (nar .byte d0.toInt8.toInt32))] (.int (0 : Int32))
set_option maxRecDepth 65536 in
set_option maxHeartbeats 40000000 in
theorem rm_cc1 (l : Launch) (Z : State) (a0 : Array Value) (hw : ∀ d ∈ tables_1, d.before a0 Z = true) (ws : List Jvm.Cond) (aq : Addr) (kq : ClassId) (d0 : Int32) (h0 : Heap) (n0 : Nat) (Z0 : n0 ≤ h0.size) (A_aq : Arv Z h0 aq kq .char (1 : Int32) [(.int d0)] (.int (0 : Int32))) (hd0 : ¬ ((255 : Int32) < d0)) : own_Met l Z ⟨"java/lang/StringUTF16", "compress", "([CII)[B"⟩ jdk_52_method_16_code 6 (some (.array .byte)) ws ⟨1, 1, 1, 18⟩ #[(.ref aq), (.int (0 : Int32)), (.int (1 : Int32))] h0 (Q_cc1 Z aq kq d0 h0 n0) := by
  refine own_met n0 own_pn_java_lang_StringUTF16 (fun m => ef6RII m aq (0 : Int32) (1 : Int32)) ?_
  intro p e s m below meth c T lc hret hx hZ hby hml hown hnm hlk X eT N
  have Kp : Keep h0 h0 [] := Keep.refl _ _
  refine own_iloadN X hx (hb hby own10_0) (pc' := 1) rfl rfl ?_
  refine own_newarr X hx hZ (own_w hw 19 rfl) eT (hb hby own10_1) (pc' := 3) rfl (by decide) 1 (by decide) (by decide) (cells' := 1) (slots' := 1) rfl rfl (by decide) (by decide) ?_
  intro T h1 k_b1 b1 X eT E gb1 A_b1
  have lt_aq_b1 : aq < b1 := Nat.lt_of_lt_of_le A_aq.lt (Nat.le_of_eq gb1.symm)
  have ne_aq_b1 : aq ≠ b1 := Nat.ne_of_lt lt_aq_b1
  have z_b1 : n0 ≤ b1 := Nat.le_trans Z0 (Nat.le_of_eq gb1.symm)
  have s_b1 : h0.size ≤ b1 := Nat.le_trans Kp.1 (Nat.le_of_eq gb1.symm)
  have A_aq := A_aq.ext E
  have Z0 := Nat.le_trans Z0 E.1
  have Kp := Kp.ext E
  have A_b1 : Arv Z h1 b1 k_b1 .byte (1 : Int32) [(.int (0 : Int32))] (.int (0 : Int32)) := A_b1.pad (pad_rep [] (.int (0 : Int32)) 1)
  refine own_astoreN X hx (hb hby own10_3) (pc' := 4) rfl rfl (Ls' := #[.val (.ref aq), .val (.int (0 : Int32)), .val (.int (1 : Int32)), .val (.ref b1), .unset, .unset]) rfl ?_
  refine own_aloadN X hx (hb hby own10_4) (pc' := 5) rfl rfl rfl ?_
  refine own_iloadN X hx (hb hby own10_5) (pc' := 6) rfl rfl ?_
  refine own_aloadN X hx (hb hby own10_6) (pc' := 7) rfl rfl rfl ?_
  refine own_iconst X hx (0 : Int32) (hb hby own10_7) (pc' := 8) rfl rfl ?_
  refine own_iloadN X hx (hb hby own10_8) (pc' := 9) rfl rfl ?_
  refine own_callS X hx hZ [(.ref aq), (.int (0 : Int32)), (.ref b1), (.int (0 : Int32)), (.int (1 : Int32))] hown (own_w hw 209 rfl) (own_w hw 210 rfl) (own_w hw 207 rfl) (own_w hw 211 rfl) (by decide) (rm_ci1 l Z a0 hw [] aq b1 _ _ d0 h1 n0 Z0 A_aq A_b1 ne_aq_b1 hd0 z_b1) eT (W := 0) (by decide) (by decide) (cells' := 1) (slots' := 1) rfl rfl (by decide) (by decide) (by rw [hml]; rfl) (lenOf own_pd_285bCI5bBII29I rfl) rfl (S := []) rfl (Nat.le_of_eq rfl) (hb hby own10_9) (pc' := 12) rfl ?_
  intro v T h2 L lc X eT hq fN
  obtain ⟨rfl, Nq, Kq, B_b1⟩ := hq
  have N := fN _ N Nq
  have A_aq := A_aq.keep Kq (ninS ne_aq_b1 nin0)
  have Z0 := Nat.le_trans Z0 Kq.1
  have Kp := Kp.trans Kq (allS (P := fun x => x ∈ ([] : List Addr) ∨ h0.size ≤ x) (Or.inr s_b1) all0)
  show own_W _ _ _ _ _ _ _ _ [(.int (1 : Int32))]
  refine own_istore X hx (hb hby own10_12) (pc' := 14) rfl (Ls' := #[.val (.ref aq), .val (.int (0 : Int32)), .val (.int (1 : Int32)), .val (.ref b1), .val (.int (1 : Int32)), .unset]) rfl ?_
  refine own_iload X hx (hb hby own10_14) (pc' := 16) rfl rfl ?_
  refine own_iloadN X hx (hb hby own10_16) (pc' := 17) rfl rfl ?_
  refine own_icmpY X hx (hb hby own10_17) (by decide) (pc' := 57) rfl (show (1 : Int32) = (1 : Int32) from (by decide)) ?_
  refine own_aloadN X hx (hb hby own10_57) (pc' := 58) rfl rfl rfl ?_
  refine own_retA X hx hlk hret (hb hby own10_58) rfl rfl rfl (by decide) (by decide) ?_
  rw [eT]
  exact ⟨_, _, rfl, N, Kp, s_b1, B_b1⟩
theorem own11_0 : decode jdk_52_method_15_code 0 = .ok (.iload_n 1, 1) := by decide +kernel
theorem own11_1 : decode jdk_52_method_15_code 1 = .ok (.aload_n 0, 1) := by decide +kernel
theorem own11_2 : decode jdk_52_method_15_code 2 = .ok (.arraylength, 1) := by decide +kernel
theorem own11_3 : decode jdk_52_method_15_code 3 = .ok (.isub, 1) := by decide +kernel
theorem own11_4 : decode jdk_52_method_15_code 4 = .ok (.bipush 31, 2) := by decide +kernel
theorem own11_6 : decode jdk_52_method_15_code 6 = .ok (.iushr, 1) := by decide +kernel
theorem own11_7 : decode jdk_52_method_15_code 7 = .ok (.i2b, 1) := by decide +kernel
theorem own11_8 : decode jdk_52_method_15_code 8 = .ok (.ireturn, 1) := by decide +kernel
def Q_cf1 (Z : State) (b : Addr) (h0 : Heap) (n0 : Nat) (v : Option Value) (h : Heap) (L : List Loc) : Prop := v = some (.int (0 : Int32)) ∧ Fr n0 L ∧ h = h0
set_option maxRecDepth 65536 in
set_option maxHeartbeats 40000000 in
theorem rm_cf1 (l : Launch) (Z : State) (a0 : Array Value) (hw : ∀ d ∈ tables_1, d.before a0 Z = true) (ws : List Jvm.Cond) (b : Addr) (h0 : Heap) (n0 : Nat) (Z0 : n0 ≤ h0.size) (k : ClassId) (vs : List Value) (A_b : Arv Z h0 b k .byte (1 : Int32) vs (.int (0 : Int32))) : own_Met l Z ⟨"java/lang/StringUTF16", "coderFromArrayLen", "([BI)B"⟩ jdk_52_method_15_code 2 (some .byte) ws ⟨0, 0, 0, 0⟩ #[(.ref b), (.int (1 : Int32))] h0 (Q_cf1 Z b h0 n0) := by
  refine own_met n0 own_pn_java_lang_StringUTF16 (fun m => ef2RI m b (1 : Int32)) ?_
  intro p e s m below meth c T lc hret hx hZ hby hml hown hnm hlk X eT N
  refine own_iloadN X hx (hb hby own11_0) (pc' := 1) rfl rfl ?_
  refine own_aloadN X hx (hb hby own11_1) (pc' := 2) rfl rfl rfl ?_
  refine own_arrlen X hx hZ eT A_b (hb hby own11_2) (pc' := 3) rfl ?_
  refine own_isub X hx (hb hby own11_3) (pc' := 4) rfl ?_
  refine own_bipush X hx (31 : Int32) (hb hby own11_4) (pc' := 6) rfl rfl ?_
  refine own_iushr X hx (hb hby own11_6) (pc' := 7) rfl ?_
  refine own_i2b X hx (hb hby own11_7) (pc' := 8) rfl ?_
  refine own_retI X hx hlk (t := .byte) (w' := (.int (0 : Int32))) hret (hb hby own11_8) rfl rfl (by simp) (by decide) (by decide) ?_
  rw [eT]
  exact ⟨rfl, N, rfl⟩
theorem own7_27 : decode jdk_42_method_149_code 27 = .ok (.getstatic 38, 3) := by decide +kernel
theorem own7_30 : decode jdk_42_method_149_code 30 = .ok (.ifCond .eq 28, 3) := by decide +kernel
theorem own7_33 : decode jdk_42_method_149_code 33 = .ok (.aload_n 1, 1) := by decide +kernel
theorem own7_34 : decode jdk_42_method_149_code 34 = .ok (.iload_n 2, 1) := by decide +kernel
theorem own7_35 : decode jdk_42_method_149_code 35 = .ok (.iload_n 3, 1) := by decide +kernel
theorem own7_36 : decode jdk_42_method_149_code 36 = .ok (.invokestatic 177, 3) := by decide +kernel
theorem own_pd_285bCII295bB : parseMethodDescriptor "([CII)[B" = some ⟨[(.array .char), .int, .int], some (.array .byte)⟩ := by decide +kernel
theorem own7_39 : decode jdk_42_method_149_code 39 = .ok (.astore 5, 2) := by decide +kernel
theorem own7_41 : decode jdk_42_method_149_code 41 = .ok (.aload_n 0, 1) := by decide +kernel
theorem own7_42 : decode jdk_42_method_149_code 42 = .ok (.aload 5, 2) := by decide +kernel
theorem own7_44 : decode jdk_42_method_149_code 44 = .ok (.iload_n 3, 1) := by decide +kernel
theorem own7_45 : decode jdk_42_method_149_code 45 = .ok (.invokestatic 47, 3) := by decide +kernel
theorem own_pd_285bBI29B : parseMethodDescriptor "([BI)B" = some ⟨[(.array .byte), .int], some .byte⟩ := by decide +kernel
theorem own7_48 : decode jdk_42_method_149_code 48 = .ok (.putfield 15, 3) := by decide +kernel
theorem own7_51 : decode jdk_42_method_149_code 51 = .ok (.aload_n 0, 1) := by decide +kernel
theorem own7_52 : decode jdk_42_method_149_code 52 = .ok (.aload 5, 2) := by decide +kernel
theorem own7_54 : decode jdk_42_method_149_code 54 = .ok (.putfield 9, 3) := by decide +kernel
theorem own7_57 : decode jdk_42_method_149_code 57 = .ok (.return_, 1) := by decide +kernel
theorem ef6RRIIN (m : MethodId) (x0 : Addr) (x1 : Addr) (x2 : Int32) (x3 : Int32) : entryFrame m #[(.ref x0), (.ref x1), (.int x2), (.int x3), .null] 6 = mkF m 0 #[.val (.ref x0), .val (.ref x1), .val (.int x2), .val (.int x3), .val .null, .unset] [] := by first | (simp [entryFrame, mkF, argsToLocals, Value.category]; done) | rfl
def Q_iv1 (Z : State) (a1 aq : Addr) (kq : ClassId) (cs : Int32) (d0 : Int32) (h0 : Heap) (n0 : Nat) (v : Option Value) (h : Heap) (L : List Loc) : Prop := v = none ∧ Fr n0 L ∧ Keep h0 h [a1] ∧ ∃ (b : Addr) (k : ClassId), h0.size ≤ b ∧ Fld Z h a1 "java/lang/String" "coder" "B" (.int (0 : Int32)) ∧ Fld Z h a1 "java/lang/String" "value" "[B" (.ref b) ∧ Arv Z h b k .byte (1 : Int32) [(.int (nar .byte d0.toInt8.toInt32))] (.int (0 : Int32))
set_option maxRecDepth 65536 in
set_option maxHeartbeats 40000000 in
theorem rm_iv1 (l : Launch) (Z : State) (a0 : Array Value) (hw : ∀ d ∈ tables_1, d.before a0 Z = true) (ws : List Jvm.Cond) (a1 aq : Addr) (kq : ClassId) (cs : Int32) (d0 : Int32) (h0 : Heap) (n0 : Nat) (Z0 : n0 ≤ h0.size) (S_C : Sta Z h0 "java/lang/String" "COMPACT_STRINGS" "Z" (.int cs)) (hcs : ¬ cs = 0) (u1 u2 : Value) (E_a1 : Exa Z h0 a1 "java/lang/String") (F_c : Fld Z h0 a1 "java/lang/String" "coder" "B" u1) (F_v : Fld Z h0 a1 "java/lang/String" "value" "[B" u2) (A_aq : Arv Z h0 aq kq .char (1 : Int32) [(.int d0)] (.int (0 : Int32))) (n1q : a1 ≠ aq) (hd0 : ¬ ((255 : Int32) < d0)) (z_a1 : n0 ≤ a1) : own_Met l Z ⟨"java/lang/String", "<init>", "([CIILjava/lang/Void;)V"⟩ jdk_42_method_149_code 6 none ws ⟨2, 1, 1, 35⟩ #[(.ref a1), (.ref aq), (.int (0 : Int32)), (.int (1 : Int32)), .null] h0 (Q_iv1 Z a1 aq kq cs d0 h0 n0) := by
  refine own_met n0 own_pn_java_lang_String (fun m => ef6RRIIN m a1 aq (0 : Int32) (1 : Int32)) ?_
  intro p e s m below meth c T lc hret hx hZ hby hml hown hnm hlk X eT N
  have Kp : Keep h0 h0 [a1] := Keep.refl _ _
  refine own_aloadN X hx (hb hby own7_0) (pc' := 1) rfl rfl rfl ?_
  refine own_initO X hx hZ hown (own_w hw 15 rfl) (own_w hw 16 rfl) (own_w hw 17 rfl) eT (by rw [hml]; rfl) (hb hby own7_1) (pc' := 4) rfl (by decide) (W := 0) (Nat.le_of_eq rfl) (by decide) ?_
  intro T X eT
  refine own_iloadN X hx (hb hby own7_4) (pc' := 5) rfl rfl ?_
  refine own_ifY X hx (hb hby own7_5) (by decide) (pc' := 27) rfl (show ¬ ((1 : Int32) = (0 : Int32)) from (by decide)) ?_
  refine own_getS X hx hZ hown (host := "") (Or.inl (own_w hw 68 rfl)) Via.refl eT S_C (hb hby own7_27) (pc' := 30) rfl ?_
  intro T X eT
  refine own_ifN X hx (hb hby own7_30) (pc' := 33) rfl (show ¬ (cs = (0 : Int32)) from hcs) ?_
  refine own_aloadN X hx (hb hby own7_33) (pc' := 34) rfl rfl rfl ?_
  refine own_iloadN X hx (hb hby own7_34) (pc' := 35) rfl rfl ?_
  refine own_iloadN X hx (hb hby own7_35) (pc' := 36) rfl rfl ?_
  refine own_callS X hx hZ [(.ref aq), (.int (0 : Int32)), (.int (1 : Int32))] hown (own_w hw 205 rfl) (own_w hw 206 rfl) (own_w hw 207 rfl) (own_w hw 208 rfl) (by decide) (rm_cc1 l Z a0 hw [] aq kq d0 h0 n0 Z0 A_aq hd0) eT (W := 0) (by decide) (by decide) (cells' := 1) (slots' := 1) rfl rfl (by decide) (by decide) (by rw [hml]; rfl) (lenOf own_pd_285bCII295bB rfl) rfl (S := []) rfl (Nat.le_of_eq rfl) (hb hby own7_36) (pc' := 39) rfl ?_
  intro v T h1 L lc X eT hq fN
  obtain ⟨bb, kb, rfl, Nq, Kq, hbb, A_bb⟩ := hq
  have N := fN _ N Nq
  have lt_a1_bb : a1 < bb := Nat.lt_of_lt_of_le E_a1.lt hbb
  have ne_a1_bb : a1 ≠ bb := Nat.ne_of_lt lt_a1_bb
  have lt_aq_bb : aq < bb := Nat.lt_of_lt_of_le A_aq.lt hbb
  have ne_aq_bb : aq ≠ bb := Nat.ne_of_lt lt_aq_bb
  have z_bb : n0 ≤ bb := Nat.le_trans Z0 hbb
  have s_bb : h0.size ≤ bb := Nat.le_trans Kp.1 hbb
  have S_C := own_sta_keep S_C Kq ns0
  have E_a1 := E_a1.keep Kq
  have F_c := F_c.keep Kq nin0
  have F_v := F_v.keep Kq nin0
  have A_aq := A_aq.keep Kq nin0
  have Z0 := Nat.le_trans Z0 Kq.1
  have Kp := Kp.trans Kq all0
  show own_W _ _ _ _ _ _ _ _ [(.ref bb)]
  refine own_astore X hx (hb hby own7_39) (pc' := 41) rfl rfl (Ls' := #[.val (.ref a1), .val (.ref aq), .val (.int (0 : Int32)), .val (.int (1 : Int32)), .val .null, .val (.ref bb)]) rfl ?_
  refine own_aloadN X hx (hb hby own7_41) (pc' := 42) rfl rfl rfl ?_
  refine own_aload X hx (hb hby own7_42) (pc' := 44) rfl rfl rfl ?_
  refine own_iloadN X hx (hb hby own7_44) (pc' := 45) rfl rfl ?_
  refine own_callS X hx hZ [(.ref bb), (.int (1 : Int32))] hown (own_w hw 212 rfl) (own_w hw 213 rfl) (own_w hw 207 rfl) (own_w hw 214 rfl) (by decide) (rm_cf1 l Z a0 hw [] bb h1 n0 Z0 _ _ A_bb) eT (W := 1) (by decide) (by decide) (cells' := 1) (slots' := 1) rfl rfl (by decide) (by decide) (by rw [hml]; rfl) (lenOf own_pd_285bBI29B rfl) rfl (S := [(.ref a1)]) rfl (Nat.le_of_eq rfl) (hb hby own7_45) (pc' := 48) rfl ?_
  intro v T h2 L lc X eT hq fN
  obtain ⟨rfl, Nq, hqe⟩ := hq
  have N := fN _ N Nq
  rw [hqe] at eT
  show own_W _ _ _ _ _ _ _ _ [(.int (0 : Int32)), (.ref a1)]
  refine own_putF X hx hZ hown (own_w hw 25 rfl) Via.refl eT F_c E_a1 (Or.inr ⟨(own_w hw 21 rfl), rfl, hnm⟩) (own_w hw 5 rfl) (ty := .byte) (v' := (.int (0 : Int32))) (by decide) rfl rfl (hb hby own7_48) (pc' := 51) rfl ?_
  intro T h3 lc X eT Wq fN
  have F_c := F_c.same Wq
  have S_C := S_C.wr Wq
  have E_a1 := E_a1.wr Wq
  have F_v := F_v.other Wq (Or.inr (slot_ne (Or.inr (own_w hw 20 rfl)) (Or.inr (own_w hw 21 rfl)) (by decide) (t := (.array .byte)) (t' := .byte) (by decide) (by decide)))
  have A_aq := A_aq.other Wq (Ne.symm n1q)
  have A_bb := A_bb.other Wq (Ne.symm ne_a1_bb)
  have Z0 := Nat.le_trans Z0 (Keep.of_wr Wq).1
  have N := fN _ z_a1 N
  have Kp := Kp.wr Wq (Or.inl (List.mem_of_getElem? (i := 0) rfl))
  refine own_aloadN X hx (hb hby own7_51) (pc' := 52) rfl rfl rfl ?_
  refine own_aload X hx (hb hby own7_52) (pc' := 54) rfl rfl rfl ?_
  refine own_putF X hx hZ hown (own_w hw 24 rfl) Via.refl eT F_v E_a1 (Or.inr ⟨(own_w hw 20 rfl), rfl, hnm⟩) (own_w hw 5 rfl) (ty := (.array .byte)) (v' := (.ref bb)) (by decide) rfl rfl (hb hby own7_54) (pc' := 57) rfl ?_
  intro T h4 lc X eT Wq fN
  have F_v := F_v.same Wq
  have S_C := S_C.wr Wq
  have E_a1 := E_a1.wr Wq
  have A_aq := A_aq.other Wq (Ne.symm n1q)
  have A_bb := A_bb.other Wq (Ne.symm ne_a1_bb)
  have F_c := F_c.other Wq (Or.inr (slot_ne (Or.inr (own_w hw 21 rfl)) (Or.inr (own_w hw 20 rfl)) (by decide) (t := .byte) (t' := (.array .byte)) (by decide) (by decide)))
  have Z0 := Nat.le_trans Z0 (Keep.of_wr Wq).1
  have N := fN _ z_a1 N
  have Kp := Kp.wr Wq (Or.inl (List.mem_of_getElem? (i := 0) rfl))
  refine own_ret0 X hx hlk hret (hb hby own7_57) (by decide) (by decide) ?_
  rw [eT]
  exact ⟨rfl, N, Kp, bb, kb, s_bb, F_c, F_v, A_bb⟩
theorem ef2RR (m : MethodId) (x0 : Addr) (x1 : Addr) : entryFrame m #[(.ref x0), (.ref x1)] 2 = mkF m 0 #[.val (.ref x0), .val (.ref x1)] [] := by first | (simp [entryFrame, mkF, argsToLocals, Value.category]; done) | rfl
def Q_ic1 (Z : State) (a1 aq : Addr) (kq : ClassId) (cs : Int32) (d0 : Int32) (h0 : Heap) (n0 : Nat) (v : Option Value) (h : Heap) (L : List Loc) : Prop := v = none ∧ Fr n0 L ∧ Keep h0 h [a1] ∧ ∃ (b : Addr) (k : ClassId), h0.size ≤ b ∧ Fld Z h a1 "java/lang/String" "coder" "B" (.int (0 : Int32)) ∧ Fld Z h a1 "java/lang/String" "value" "[B" (.ref b) ∧ Arv Z h b k .byte (1 : Int32) [(.int (nar .byte d0.toInt8.toInt32))] (.int (0 : Int32))
set_option maxRecDepth 65536 in
set_option maxHeartbeats 40000000 in
theorem rm_ic1 (l : Launch) (Z : State) (a0 : Array Value) (hw : ∀ d ∈ tables_1, d.before a0 Z = true) (ws : List Jvm.Cond) (a1 aq : Addr) (kq : ClassId) (cs : Int32) (d0 : Int32) (h0 : Heap) (n0 : Nat) (Z0 : n0 ≤ h0.size) (S_C : Sta Z h0 "java/lang/String" "COMPACT_STRINGS" "Z" (.int cs)) (hcs : ¬ cs = 0) (u1 u2 : Value) (E_a1 : Exa Z h0 a1 "java/lang/String") (F_c : Fld Z h0 a1 "java/lang/String" "coder" "B" u1) (F_v : Fld Z h0 a1 "java/lang/String" "value" "[B" u2) (A_aq : Arv Z h0 aq kq .char (1 : Int32) [(.int d0)] (.int (0 : Int32))) (n1q : a1 ≠ aq) (hd0 : ¬ ((255 : Int32) < d0)) (z_a1 : n0 ≤ a1) : own_Met l Z ⟨"java/lang/String", "<init>", "([C)V"⟩ jdk_42_method_3_code 2 none ws ⟨3, 1, 1, 52⟩ #[(.ref a1), (.ref aq)] h0 (Q_ic1 Z a1 aq kq cs d0 h0 n0) := by
  refine own_met n0 own_pn_java_lang_String (fun m => ef2RR m a1 aq) ?_
  intro p e s m below meth c T lc hret hx hZ hby hml hown hnm hlk X eT N
  refine own_aloadN X hx (hb hby own8_0) (pc' := 1) rfl rfl rfl ?_
  refine own_aloadN X hx (hb hby own8_1) (pc' := 2) rfl rfl rfl ?_
  refine own_iconst X hx (0 : Int32) (hb hby own8_2) (pc' := 3) rfl rfl ?_
  refine own_aloadN X hx (hb hby own8_3) (pc' := 4) rfl rfl rfl ?_
  refine own_arrlen X hx hZ eT A_aq (hb hby own8_4) (pc' := 5) rfl ?_
  refine own_aconst_null X hx (hb hby own8_5) (pc' := 6) rfl ?_
  refine own_callN X hx hZ a1 [(.ref aq), (.int (0 : Int32)), (.int (1 : Int32)), .null] rfl hown (own_w hw 11 rfl) (own_w hw 12 rfl) (own_w hw 6 rfl) (own_w hw 14 rfl) (by decide) (rm_iv1 l Z a0 hw [] a1 aq kq cs d0 h0 n0 Z0 S_C hcs _ _ E_a1 F_c F_v A_aq n1q hd0 z_a1) eT (W := 0) (by decide) (by decide) (cells' := 1) (slots' := 1) rfl rfl (by decide) (by decide) (by rw [hml]; rfl) (lenOf own_pd_285bCIILjava2flang2fVoid3b29V rfl) rfl (S := []) rfl (Nat.le_of_eq rfl) (hb hby own8_6) (pc' := 9) rfl ?_
  intro v T h1 L lc X eT hq fN
  obtain ⟨rfl, Nq, Kq, bb, kb, hbb, F_c2, F_v2, A_bb⟩ := hq
  have N := fN _ N Nq
  show own_W _ _ _ _ _ _ _ _ []
  refine own_ret0 X hx hlk hret (hb hby own8_9) (by decide) (by decide) ?_
  rw [eT]
  exact ⟨rfl, N, Kq, bb, kb, hbb, F_c2, F_v2, A_bb⟩
def Q_ci2 (Z : State) (aq ad : Addr) (kq kd : ClassId) (d0 d1 : Int32) (h0 : Heap) (n0 : Nat) (v : Option Value) (h : Heap) (L : List Loc) : Prop := v = some (.int (2 : Int32)) ∧ Fr n0 L ∧ Keep h0 h [ad] ∧ Arv Z h ad kd .byte (2 : Int32) [(.int (nar .byte d0.toInt8.toInt32)), (.int (nar .byte d1.toInt8.toInt32))] (.int (0 : Int32))
set_option maxRecDepth 65536 in
set_option maxHeartbeats 40000000 in
theorem rm_ci2 (l : Launch) (Z : State) (a0 : Array Value) (hw : ∀ d ∈ tables_1, d.before a0 Z = true) (ws : List Jvm.Cond) (aq ad : Addr) (kq kd : ClassId) (d0 d1 : Int32) (h0 : Heap) (n0 : Nat) (Z0 : n0 ≤ h0.size) (A_aq : Arv Z h0 aq kq .char (2 : Int32) [(.int d0), (.int d1)] (.int (0 : Int32))) (A_ad : Arv Z h0 ad kd .byte (2 : Int32) [(.int (0 : Int32)), (.int (0 : Int32))] (.int (0 : Int32))) (nqd : aq ≠ ad) (hd0 : ¬ ((255 : Int32) < d0)) (hd1 : ¬ ((255 : Int32) < d1)) (z_ad : n0 ≤ ad) : own_Met l Z ⟨"java/lang/StringUTF16", "compress", "([CI[BII)I"⟩ jdk_52_method_21_code 7 (some .int) ws ⟨0, 0, 0, 0⟩ #[(.ref aq), (.int (0 : Int32)), (.ref ad), (.int (0 : Int32)), (.int (2 : Int32))] h0 (Q_ci2 Z aq ad kq kd d0 d1 h0 n0) := by
  refine own_met n0 own_pn_java_lang_StringUTF16 (fun m => ef7RIRII m aq (0 : Int32) ad (0 : Int32) (2 : Int32)) ?_
  intro p e s m below meth c T lc hret hx hZ hby hml hown hnm hlk X eT N
  have Kp : Keep h0 h0 [ad] := Keep.refl _ _
  refine own_iconst X hx (0 : Int32) (hb hby own9_0) (pc' := 1) rfl rfl ?_
  refine own_istore X hx (hb hby own9_1) (pc' := 3) rfl (Ls' := #[.val (.ref aq), .val (.int (0 : Int32)), .val (.ref ad), .val (.int (0 : Int32)), .val (.int (2 : Int32)), .val (.int (0 : Int32)), .unset]) rfl ?_
  refine own_iload X hx (hb hby own9_3) (pc' := 5) rfl rfl ?_
  refine own_iload X hx (hb hby own9_5) (pc' := 7) rfl rfl ?_
  refine own_icmpN X hx (hb hby own9_7) (pc' := 10) rfl (show (0 : Int32) < (2 : Int32) from (by decide)) ?_
  refine own_aloadN X hx (hb hby own9_10) (pc' := 11) rfl rfl rfl ?_
  refine own_iloadN X hx (hb hby own9_11) (pc' := 12) rfl rfl ?_
  refine own_caload X hx hZ eT A_aq (v := (.int d0)) (by decide) rfl (hb hby own9_12) (pc' := 13) rfl ?_
  refine own_istore X hx (hb hby own9_13) (pc' := 15) rfl (Ls' := #[.val (.ref aq), .val (.int (0 : Int32)), .val (.ref ad), .val (.int (0 : Int32)), .val (.int (2 : Int32)), .val (.int (0 : Int32)), .val (.int d0)]) rfl ?_
  refine own_iload X hx (hb hby own9_15) (pc' := 17) rfl rfl ?_
  refine own_sipush X hx (255 : Int32) (hb hby own9_17) (pc' := 20) rfl rfl ?_
  refine own_icmpY X hx (hb hby own9_20) (by decide) (pc' := 26) rfl (show ¬ ((255 : Int32) < d0) from hd0) ?_
  refine own_aloadN X hx (hb hby own9_26) (pc' := 27) rfl rfl rfl ?_
  refine own_iloadN X hx (hb hby own9_27) (pc' := 28) rfl rfl ?_
  refine own_iload X hx (hb hby own9_28) (pc' := 30) rfl rfl ?_
  refine own_i2b X hx (hb hby own9_30) (pc' := 31) rfl ?_
  refine own_bastoreB X hx hZ eT A_ad (by decide) 0 rfl (by show 0 < 2; decide) (hb hby own9_31) (pc' := 32) rfl ?_
  intro T h1 lc X eT Kq A_adn fN
  have A_aq := A_aq.keep Kq (ninS nqd nin0)
  have Z0 := Nat.le_trans Z0 Kq.1
  have A_ad := A_adn
  have N := fN _ z_ad N
  have Kp := Kp.trans Kq (allS (P := fun x => x ∈ [ad] ∨ h0.size ≤ x) (Or.inl (List.mem_of_getElem? (i := 0) rfl)) all0)
  have A_ad : Arv Z h1 ad _ .byte (2 : Int32) [(.int (nar .byte d0.toInt8.toInt32)), (.int (0 : Int32))] (.int (0 : Int32)) := A_ad
  refine own_iinc X hx (1 : Int32) (hb hby own9_32) (pc' := 35) rfl rfl rfl (Ls' := #[.val (.ref aq), .val (.int (1 : Int32)), .val (.ref ad), .val (.int (0 : Int32)), .val (.int (2 : Int32)), .val (.int (0 : Int32)), .val (.int d0)]) rfl ?_
  refine own_iinc X hx (1 : Int32) (hb hby own9_35) (pc' := 38) rfl rfl rfl (Ls' := #[.val (.ref aq), .val (.int (1 : Int32)), .val (.ref ad), .val (.int (1 : Int32)), .val (.int (2 : Int32)), .val (.int (0 : Int32)), .val (.int d0)]) rfl ?_
  refine own_iinc X hx (1 : Int32) (hb hby own9_38) (pc' := 41) rfl rfl rfl (Ls' := #[.val (.ref aq), .val (.int (1 : Int32)), .val (.ref ad), .val (.int (1 : Int32)), .val (.int (2 : Int32)), .val (.int (1 : Int32)), .val (.int d0)]) rfl ?_
  refine own_goto X hx (hb hby own9_41) (by decide) (pc' := 3) rfl ?_
  refine own_iload X hx (hb hby own9_3) (pc' := 5) rfl rfl ?_
  refine own_iload X hx (hb hby own9_5) (pc' := 7) rfl rfl ?_
  refine own_icmpN X hx (hb hby own9_7) (pc' := 10) rfl (show (1 : Int32) < (2 : Int32) from (by decide)) ?_
  refine own_aloadN X hx (hb hby own9_10) (pc' := 11) rfl rfl rfl ?_
  refine own_iloadN X hx (hb hby own9_11) (pc' := 12) rfl rfl ?_
  refine own_caload X hx hZ eT A_aq (v := (.int d1)) (by decide) rfl (hb hby own9_12) (pc' := 13) rfl ?_
  refine own_istore X hx (hb hby own9_13) (pc' := 15) rfl (Ls' := #[.val (.ref aq), .val (.int (1 : Int32)), .val (.ref ad), .val (.int (1 : Int32)), .val (.int (2 : Int32)), .val (.int (1 : Int32)), .val (.int d1)]) rfl ?_
  refine own_iload X hx (hb hby own9_15) (pc' := 17) rfl rfl ?_
  refine own_sipush X hx (255 : Int32) (hb hby own9_17) (pc' := 20) rfl rfl ?_
  refine own_icmpY X hx (hb hby own9_20) (by decide) (pc' := 26) rfl (show ¬ ((255 : Int32) < d1) from hd1) ?_
  refine own_aloadN X hx (hb hby own9_26) (pc' := 27) rfl rfl rfl ?_
  refine own_iloadN X hx (hb hby own9_27) (pc' := 28) rfl rfl ?_
  refine own_iload X hx (hb hby own9_28) (pc' := 30) rfl rfl ?_
  refine own_i2b X hx (hb hby own9_30) (pc' := 31) rfl ?_
  refine own_bastoreB X hx hZ eT A_ad (by decide) 1 rfl (by show 1 < 2; decide) (hb hby own9_31) (pc' := 32) rfl ?_
  intro T h2 lc X eT Kq A_adn fN
  have A_aq := A_aq.keep Kq (ninS nqd nin0)
  have Z0 := Nat.le_trans Z0 Kq.1
  have A_ad := A_adn
  have N := fN _ z_ad N
  have Kp := Kp.trans Kq (allS (P := fun x => x ∈ [ad] ∨ h0.size ≤ x) (Or.inl (List.mem_of_getElem? (i := 0) rfl)) all0)
  have A_ad : Arv Z h2 ad _ .byte (2 : Int32) [(.int (nar .byte d0.toInt8.toInt32)), (.int (nar .byte d1.toInt8.toInt32))] (.int (0 : Int32)) := A_ad
  refine own_iinc X hx (1 : Int32) (hb hby own9_32) (pc' := 35) rfl rfl rfl (Ls' := #[.val (.ref aq), .val (.int (2 : Int32)), .val (.ref ad), .val (.int (1 : Int32)), .val (.int (2 : Int32)), .val (.int (1 : Int32)), .val (.int d1)]) rfl ?_
  refine own_iinc X hx (1 : Int32) (hb hby own9_35) (pc' := 38) rfl rfl rfl (Ls' := #[.val (.ref aq), .val (.int (2 : Int32)), .val (.ref ad), .val (.int (2 : Int32)), .val (.int (2 : Int32)), .val (.int (1 : Int32)), .val (.int d1)]) rfl ?_
  refine own_iinc X hx (1 : Int32) (hb hby own9_38) (pc' := 41) rfl rfl rfl (Ls' := #[.val (.ref aq), .val (.int (2 : Int32)), .val (.ref ad), .val (.int (2 : Int32)), .val (.int (2 : Int32)), .val (.int (2 : Int32)), .val (.int d1)]) rfl ?_
  refine own_goto X hx (hb hby own9_41) (by decide) (pc' := 3) rfl ?_
  refine own_iload X hx (hb hby own9_3) (pc' := 5) rfl rfl ?_
  refine own_iload X hx (hb hby own9_5) (pc' := 7) rfl rfl ?_
  refine own_icmpY X hx (hb hby own9_7) (by decide) (pc' := 44) rfl (show ¬ ((2 : Int32) < (2 : Int32)) from (by decide)) ?_
  refine own_iload X hx (hb hby own9_44) (pc' := 46) rfl rfl ?_
  refine own_retI X hx hlk (t := .int) (w' := (.int (2 : Int32))) hret (hb hby own9_46) rfl rfl (by simp) (by decide) (by decide) ?_
  rw [eT]
  exact ⟨rfl, N, Kp, A_ad⟩
def Q_cc2 (Z : State) (aq : Addr) (kq : ClassId) (d0 d1 : Int32) (h0 : Heap) (n0 : Nat) (v : Option Value) (h : Heap) (L : List Loc) : Prop := ∃ (b : Addr) (kb : ClassId), v = some (.ref b) ∧ Fr n0 L ∧ Keep h0 h [] ∧ h0.size ≤ b ∧ Arv Z h b kb .byte (2 : Int32) [(.int (nar .byte d0.toInt8.toInt32)), (.int (nar .byte d1.toInt8.toInt32))] (.int (0 : Int32))
set_option maxRecDepth 65536 in
set_option maxHeartbeats 40000000 in
theorem rm_cc2 (l : Launch) (Z : State) (a0 : Array Value) (hw : ∀ d ∈ tables_1, d.before a0 Z = true) (ws : List Jvm.Cond) (aq : Addr) (kq : ClassId) (d0 d1 : Int32) (h0 : Heap) (n0 : Nat) (Z0 : n0 ≤ h0.size) (A_aq : Arv Z h0 aq kq .char (2 : Int32) [(.int d0), (.int d1)] (.int (0 : Int32))) (hd0 : ¬ ((255 : Int32) < d0)) (hd1 : ¬ ((255 : Int32) < d1)) : own_Met l Z ⟨"java/lang/StringUTF16", "compress", "([CII)[B"⟩ jdk_52_method_16_code 6 (some (.array .byte)) ws ⟨1, 1, 2, 18⟩ #[(.ref aq), (.int (0 : Int32)), (.int (2 : Int32))] h0 (Q_cc2 Z aq kq d0 d1 h0 n0) := by
  refine own_met n0 own_pn_java_lang_StringUTF16 (fun m => ef6RII m aq (0 : Int32) (2 : Int32)) ?_
  intro p e s m below meth c T lc hret hx hZ hby hml hown hnm hlk X eT N
  have Kp : Keep h0 h0 [] := Keep.refl _ _
  refine own_iloadN X hx (hb hby own10_0) (pc' := 1) rfl rfl ?_
  refine own_newarr X hx hZ (own_w hw 19 rfl) eT (hb hby own10_1) (pc' := 3) rfl (by decide) 2 (by decide) (by decide) (cells' := 1) (slots' := 2) rfl rfl (by decide) (by decide) ?_
  intro T h1 k_b1 b1 X eT E gb1 A_b1
  have lt_aq_b1 : aq < b1 := Nat.lt_of_lt_of_le A_aq.lt (Nat.le_of_eq gb1.symm)
  have ne_aq_b1 : aq ≠ b1 := Nat.ne_of_lt lt_aq_b1
  have z_b1 : n0 ≤ b1 := Nat.le_trans Z0 (Nat.le_of_eq gb1.symm)
  have s_b1 : h0.size ≤ b1 := Nat.le_trans Kp.1 (Nat.le_of_eq gb1.symm)
  have A_aq := A_aq.ext E
  have Z0 := Nat.le_trans Z0 E.1
  have Kp := Kp.ext E
  have A_b1 : Arv Z h1 b1 k_b1 .byte (2 : Int32) [(.int (0 : Int32)), (.int (0 : Int32))] (.int (0 : Int32)) := A_b1.pad (pad_rep [] (.int (0 : Int32)) 2)
  refine own_astoreN X hx (hb hby own10_3) (pc' := 4) rfl rfl (Ls' := #[.val (.ref aq), .val (.int (0 : Int32)), .val (.int (2 : Int32)), .val (.ref b1), .unset, .unset]) rfl ?_
  refine own_aloadN X hx (hb hby own10_4) (pc' := 5) rfl rfl rfl ?_
  refine own_iloadN X hx (hb hby own10_5) (pc' := 6) rfl rfl ?_
  refine own_aloadN X hx (hb hby own10_6) (pc' := 7) rfl rfl rfl ?_
  refine own_iconst X hx (0 : Int32) (hb hby own10_7) (pc' := 8) rfl rfl ?_
  refine own_iloadN X hx (hb hby own10_8) (pc' := 9) rfl rfl ?_
  refine own_callS X hx hZ [(.ref aq), (.int (0 : Int32)), (.ref b1), (.int (0 : Int32)), (.int (2 : Int32))] hown (own_w hw 209 rfl) (own_w hw 210 rfl) (own_w hw 207 rfl) (own_w hw 211 rfl) (by decide) (rm_ci2 l Z a0 hw [] aq b1 _ _ d0 d1 h1 n0 Z0 A_aq A_b1 ne_aq_b1 hd0 hd1 z_b1) eT (W := 0) (by decide) (by decide) (cells' := 1) (slots' := 2) rfl rfl (by decide) (by decide) (by rw [hml]; rfl) (lenOf own_pd_285bCI5bBII29I rfl) rfl (S := []) rfl (Nat.le_of_eq rfl) (hb hby own10_9) (pc' := 12) rfl ?_
  intro v T h2 L lc X eT hq fN
  obtain ⟨rfl, Nq, Kq, B_b1⟩ := hq
  have N := fN _ N Nq
  have A_aq := A_aq.keep Kq (ninS ne_aq_b1 nin0)
  have Z0 := Nat.le_trans Z0 Kq.1
  have Kp := Kp.trans Kq (allS (P := fun x => x ∈ ([] : List Addr) ∨ h0.size ≤ x) (Or.inr s_b1) all0)
  show own_W _ _ _ _ _ _ _ _ [(.int (2 : Int32))]
  refine own_istore X hx (hb hby own10_12) (pc' := 14) rfl (Ls' := #[.val (.ref aq), .val (.int (0 : Int32)), .val (.int (2 : Int32)), .val (.ref b1), .val (.int (2 : Int32)), .unset]) rfl ?_
  refine own_iload X hx (hb hby own10_14) (pc' := 16) rfl rfl ?_
  refine own_iloadN X hx (hb hby own10_16) (pc' := 17) rfl rfl ?_
  refine own_icmpY X hx (hb hby own10_17) (by decide) (pc' := 57) rfl (show (2 : Int32) = (2 : Int32) from (by decide)) ?_
  refine own_aloadN X hx (hb hby own10_57) (pc' := 58) rfl rfl rfl ?_
  refine own_retA X hx hlk hret (hb hby own10_58) rfl rfl rfl (by decide) (by decide) ?_
  rw [eT]
  exact ⟨_, _, rfl, N, Kp, s_b1, B_b1⟩
def Q_cf2 (Z : State) (b : Addr) (h0 : Heap) (n0 : Nat) (v : Option Value) (h : Heap) (L : List Loc) : Prop := v = some (.int (0 : Int32)) ∧ Fr n0 L ∧ h = h0
set_option maxRecDepth 65536 in
set_option maxHeartbeats 40000000 in
theorem rm_cf2 (l : Launch) (Z : State) (a0 : Array Value) (hw : ∀ d ∈ tables_1, d.before a0 Z = true) (ws : List Jvm.Cond) (b : Addr) (h0 : Heap) (n0 : Nat) (Z0 : n0 ≤ h0.size) (k : ClassId) (vs : List Value) (A_b : Arv Z h0 b k .byte (2 : Int32) vs (.int (0 : Int32))) : own_Met l Z ⟨"java/lang/StringUTF16", "coderFromArrayLen", "([BI)B"⟩ jdk_52_method_15_code 2 (some .byte) ws ⟨0, 0, 0, 0⟩ #[(.ref b), (.int (2 : Int32))] h0 (Q_cf2 Z b h0 n0) := by
  refine own_met n0 own_pn_java_lang_StringUTF16 (fun m => ef2RI m b (2 : Int32)) ?_
  intro p e s m below meth c T lc hret hx hZ hby hml hown hnm hlk X eT N
  refine own_iloadN X hx (hb hby own11_0) (pc' := 1) rfl rfl ?_
  refine own_aloadN X hx (hb hby own11_1) (pc' := 2) rfl rfl rfl ?_
  refine own_arrlen X hx hZ eT A_b (hb hby own11_2) (pc' := 3) rfl ?_
  refine own_isub X hx (hb hby own11_3) (pc' := 4) rfl ?_
  refine own_bipush X hx (31 : Int32) (hb hby own11_4) (pc' := 6) rfl rfl ?_
  refine own_iushr X hx (hb hby own11_6) (pc' := 7) rfl ?_
  refine own_i2b X hx (hb hby own11_7) (pc' := 8) rfl ?_
  refine own_retI X hx hlk (t := .byte) (w' := (.int (0 : Int32))) hret (hb hby own11_8) rfl rfl (by simp) (by decide) (by decide) ?_
  rw [eT]
  exact ⟨rfl, N, rfl⟩
def Q_iv2 (Z : State) (a1 aq : Addr) (kq : ClassId) (cs : Int32) (d0 d1 : Int32) (h0 : Heap) (n0 : Nat) (v : Option Value) (h : Heap) (L : List Loc) : Prop := v = none ∧ Fr n0 L ∧ Keep h0 h [a1] ∧ ∃ (b : Addr) (k : ClassId), h0.size ≤ b ∧ Fld Z h a1 "java/lang/String" "coder" "B" (.int (0 : Int32)) ∧ Fld Z h a1 "java/lang/String" "value" "[B" (.ref b) ∧ Arv Z h b k .byte (2 : Int32) [(.int (nar .byte d0.toInt8.toInt32)), (.int (nar .byte d1.toInt8.toInt32))] (.int (0 : Int32))
set_option maxRecDepth 65536 in
set_option maxHeartbeats 40000000 in
theorem rm_iv2 (l : Launch) (Z : State) (a0 : Array Value) (hw : ∀ d ∈ tables_1, d.before a0 Z = true) (ws : List Jvm.Cond) (a1 aq : Addr) (kq : ClassId) (cs : Int32) (d0 d1 : Int32) (h0 : Heap) (n0 : Nat) (Z0 : n0 ≤ h0.size) (S_C : Sta Z h0 "java/lang/String" "COMPACT_STRINGS" "Z" (.int cs)) (hcs : ¬ cs = 0) (u1 u2 : Value) (E_a1 : Exa Z h0 a1 "java/lang/String") (F_c : Fld Z h0 a1 "java/lang/String" "coder" "B" u1) (F_v : Fld Z h0 a1 "java/lang/String" "value" "[B" u2) (A_aq : Arv Z h0 aq kq .char (2 : Int32) [(.int d0), (.int d1)] (.int (0 : Int32))) (n1q : a1 ≠ aq) (hd0 : ¬ ((255 : Int32) < d0)) (hd1 : ¬ ((255 : Int32) < d1)) (z_a1 : n0 ≤ a1) : own_Met l Z ⟨"java/lang/String", "<init>", "([CIILjava/lang/Void;)V"⟩ jdk_42_method_149_code 6 none ws ⟨2, 1, 2, 35⟩ #[(.ref a1), (.ref aq), (.int (0 : Int32)), (.int (2 : Int32)), .null] h0 (Q_iv2 Z a1 aq kq cs d0 d1 h0 n0) := by
  refine own_met n0 own_pn_java_lang_String (fun m => ef6RRIIN m a1 aq (0 : Int32) (2 : Int32)) ?_
  intro p e s m below meth c T lc hret hx hZ hby hml hown hnm hlk X eT N
  have Kp : Keep h0 h0 [a1] := Keep.refl _ _
  refine own_aloadN X hx (hb hby own7_0) (pc' := 1) rfl rfl rfl ?_
  refine own_initO X hx hZ hown (own_w hw 15 rfl) (own_w hw 16 rfl) (own_w hw 17 rfl) eT (by rw [hml]; rfl) (hb hby own7_1) (pc' := 4) rfl (by decide) (W := 0) (Nat.le_of_eq rfl) (by decide) ?_
  intro T X eT
  refine own_iloadN X hx (hb hby own7_4) (pc' := 5) rfl rfl ?_
  refine own_ifY X hx (hb hby own7_5) (by decide) (pc' := 27) rfl (show ¬ ((2 : Int32) = (0 : Int32)) from (by decide)) ?_
  refine own_getS X hx hZ hown (host := "") (Or.inl (own_w hw 68 rfl)) Via.refl eT S_C (hb hby own7_27) (pc' := 30) rfl ?_
  intro T X eT
  refine own_ifN X hx (hb hby own7_30) (pc' := 33) rfl (show ¬ (cs = (0 : Int32)) from hcs) ?_
  refine own_aloadN X hx (hb hby own7_33) (pc' := 34) rfl rfl rfl ?_
  refine own_iloadN X hx (hb hby own7_34) (pc' := 35) rfl rfl ?_
  refine own_iloadN X hx (hb hby own7_35) (pc' := 36) rfl rfl ?_
  refine own_callS X hx hZ [(.ref aq), (.int (0 : Int32)), (.int (2 : Int32))] hown (own_w hw 205 rfl) (own_w hw 206 rfl) (own_w hw 207 rfl) (own_w hw 208 rfl) (by decide) (rm_cc2 l Z a0 hw [] aq kq d0 d1 h0 n0 Z0 A_aq hd0 hd1) eT (W := 0) (by decide) (by decide) (cells' := 1) (slots' := 2) rfl rfl (by decide) (by decide) (by rw [hml]; rfl) (lenOf own_pd_285bCII295bB rfl) rfl (S := []) rfl (Nat.le_of_eq rfl) (hb hby own7_36) (pc' := 39) rfl ?_
  intro v T h1 L lc X eT hq fN
  obtain ⟨bb, kb, rfl, Nq, Kq, hbb, A_bb⟩ := hq
  have N := fN _ N Nq
  have lt_a1_bb : a1 < bb := Nat.lt_of_lt_of_le E_a1.lt hbb
  have ne_a1_bb : a1 ≠ bb := Nat.ne_of_lt lt_a1_bb
  have lt_aq_bb : aq < bb := Nat.lt_of_lt_of_le A_aq.lt hbb
  have ne_aq_bb : aq ≠ bb := Nat.ne_of_lt lt_aq_bb
  have z_bb : n0 ≤ bb := Nat.le_trans Z0 hbb
  have s_bb : h0.size ≤ bb := Nat.le_trans Kp.1 hbb
  have S_C := own_sta_keep S_C Kq ns0
  have E_a1 := E_a1.keep Kq
  have F_c := F_c.keep Kq nin0
  have F_v := F_v.keep Kq nin0
  have A_aq := A_aq.keep Kq nin0
  have Z0 := Nat.le_trans Z0 Kq.1
  have Kp := Kp.trans Kq all0
  show own_W _ _ _ _ _ _ _ _ [(.ref bb)]
  refine own_astore X hx (hb hby own7_39) (pc' := 41) rfl rfl (Ls' := #[.val (.ref a1), .val (.ref aq), .val (.int (0 : Int32)), .val (.int (2 : Int32)), .val .null, .val (.ref bb)]) rfl ?_
  refine own_aloadN X hx (hb hby own7_41) (pc' := 42) rfl rfl rfl ?_
  refine own_aload X hx (hb hby own7_42) (pc' := 44) rfl rfl rfl ?_
  refine own_iloadN X hx (hb hby own7_44) (pc' := 45) rfl rfl ?_
  refine own_callS X hx hZ [(.ref bb), (.int (2 : Int32))] hown (own_w hw 212 rfl) (own_w hw 213 rfl) (own_w hw 207 rfl) (own_w hw 214 rfl) (by decide) (rm_cf2 l Z a0 hw [] bb h1 n0 Z0 _ _ A_bb) eT (W := 1) (by decide) (by decide) (cells' := 1) (slots' := 2) rfl rfl (by decide) (by decide) (by rw [hml]; rfl) (lenOf own_pd_285bBI29B rfl) rfl (S := [(.ref a1)]) rfl (Nat.le_of_eq rfl) (hb hby own7_45) (pc' := 48) rfl ?_
  intro v T h2 L lc X eT hq fN
  obtain ⟨rfl, Nq, hqe⟩ := hq
  have N := fN _ N Nq
  rw [hqe] at eT
  show own_W _ _ _ _ _ _ _ _ [(.int (0 : Int32)), (.ref a1)]
  refine own_putF X hx hZ hown (own_w hw 25 rfl) Via.refl eT F_c E_a1 (Or.inr ⟨(own_w hw 21 rfl), rfl, hnm⟩) (own_w hw 5 rfl) (ty := .byte) (v' := (.int (0 : Int32))) (by decide) rfl rfl (hb hby own7_48) (pc' := 51) rfl ?_
  intro T h3 lc X eT Wq fN
  have F_c := F_c.same Wq
  have S_C := S_C.wr Wq
  have E_a1 := E_a1.wr Wq
  have F_v := F_v.other Wq (Or.inr (slot_ne (Or.inr (own_w hw 20 rfl)) (Or.inr (own_w hw 21 rfl)) (by decide) (t := (.array .byte)) (t' := .byte) (by decide) (by decide)))
  have A_aq := A_aq.other Wq (Ne.symm n1q)
  have A_bb := A_bb.other Wq (Ne.symm ne_a1_bb)
  have Z0 := Nat.le_trans Z0 (Keep.of_wr Wq).1
  have N := fN _ z_a1 N
  have Kp := Kp.wr Wq (Or.inl (List.mem_of_getElem? (i := 0) rfl))
  refine own_aloadN X hx (hb hby own7_51) (pc' := 52) rfl rfl rfl ?_
  refine own_aload X hx (hb hby own7_52) (pc' := 54) rfl rfl rfl ?_
  refine own_putF X hx hZ hown (own_w hw 24 rfl) Via.refl eT F_v E_a1 (Or.inr ⟨(own_w hw 20 rfl), rfl, hnm⟩) (own_w hw 5 rfl) (ty := (.array .byte)) (v' := (.ref bb)) (by decide) rfl rfl (hb hby own7_54) (pc' := 57) rfl ?_
  intro T h4 lc X eT Wq fN
  have F_v := F_v.same Wq
  have S_C := S_C.wr Wq
  have E_a1 := E_a1.wr Wq
  have A_aq := A_aq.other Wq (Ne.symm n1q)
  have A_bb := A_bb.other Wq (Ne.symm ne_a1_bb)
  have F_c := F_c.other Wq (Or.inr (slot_ne (Or.inr (own_w hw 21 rfl)) (Or.inr (own_w hw 20 rfl)) (by decide) (t := .byte) (t' := (.array .byte)) (by decide) (by decide)))
  have Z0 := Nat.le_trans Z0 (Keep.of_wr Wq).1
  have N := fN _ z_a1 N
  have Kp := Kp.wr Wq (Or.inl (List.mem_of_getElem? (i := 0) rfl))
  refine own_ret0 X hx hlk hret (hb hby own7_57) (by decide) (by decide) ?_
  rw [eT]
  exact ⟨rfl, N, Kp, bb, kb, s_bb, F_c, F_v, A_bb⟩
def Q_ic2 (Z : State) (a1 aq : Addr) (kq : ClassId) (cs : Int32) (d0 d1 : Int32) (h0 : Heap) (n0 : Nat) (v : Option Value) (h : Heap) (L : List Loc) : Prop := v = none ∧ Fr n0 L ∧ Keep h0 h [a1] ∧ ∃ (b : Addr) (k : ClassId), h0.size ≤ b ∧ Fld Z h a1 "java/lang/String" "coder" "B" (.int (0 : Int32)) ∧ Fld Z h a1 "java/lang/String" "value" "[B" (.ref b) ∧ Arv Z h b k .byte (2 : Int32) [(.int (nar .byte d0.toInt8.toInt32)), (.int (nar .byte d1.toInt8.toInt32))] (.int (0 : Int32))
set_option maxRecDepth 65536 in
set_option maxHeartbeats 40000000 in
theorem rm_ic2 (l : Launch) (Z : State) (a0 : Array Value) (hw : ∀ d ∈ tables_1, d.before a0 Z = true) (ws : List Jvm.Cond) (a1 aq : Addr) (kq : ClassId) (cs : Int32) (d0 d1 : Int32) (h0 : Heap) (n0 : Nat) (Z0 : n0 ≤ h0.size) (S_C : Sta Z h0 "java/lang/String" "COMPACT_STRINGS" "Z" (.int cs)) (hcs : ¬ cs = 0) (u1 u2 : Value) (E_a1 : Exa Z h0 a1 "java/lang/String") (F_c : Fld Z h0 a1 "java/lang/String" "coder" "B" u1) (F_v : Fld Z h0 a1 "java/lang/String" "value" "[B" u2) (A_aq : Arv Z h0 aq kq .char (2 : Int32) [(.int d0), (.int d1)] (.int (0 : Int32))) (n1q : a1 ≠ aq) (hd0 : ¬ ((255 : Int32) < d0)) (hd1 : ¬ ((255 : Int32) < d1)) (z_a1 : n0 ≤ a1) : own_Met l Z ⟨"java/lang/String", "<init>", "([C)V"⟩ jdk_42_method_3_code 2 none ws ⟨3, 1, 2, 52⟩ #[(.ref a1), (.ref aq)] h0 (Q_ic2 Z a1 aq kq cs d0 d1 h0 n0) := by
  refine own_met n0 own_pn_java_lang_String (fun m => ef2RR m a1 aq) ?_
  intro p e s m below meth c T lc hret hx hZ hby hml hown hnm hlk X eT N
  refine own_aloadN X hx (hb hby own8_0) (pc' := 1) rfl rfl rfl ?_
  refine own_aloadN X hx (hb hby own8_1) (pc' := 2) rfl rfl rfl ?_
  refine own_iconst X hx (0 : Int32) (hb hby own8_2) (pc' := 3) rfl rfl ?_
  refine own_aloadN X hx (hb hby own8_3) (pc' := 4) rfl rfl rfl ?_
  refine own_arrlen X hx hZ eT A_aq (hb hby own8_4) (pc' := 5) rfl ?_
  refine own_aconst_null X hx (hb hby own8_5) (pc' := 6) rfl ?_
  refine own_callN X hx hZ a1 [(.ref aq), (.int (0 : Int32)), (.int (2 : Int32)), .null] rfl hown (own_w hw 11 rfl) (own_w hw 12 rfl) (own_w hw 6 rfl) (own_w hw 14 rfl) (by decide) (rm_iv2 l Z a0 hw [] a1 aq kq cs d0 d1 h0 n0 Z0 S_C hcs _ _ E_a1 F_c F_v A_aq n1q hd0 hd1 z_a1) eT (W := 0) (by decide) (by decide) (cells' := 1) (slots' := 2) rfl rfl (by decide) (by decide) (by rw [hml]; rfl) (lenOf own_pd_285bCIILjava2flang2fVoid3b29V rfl) rfl (S := []) rfl (Nat.le_of_eq rfl) (hb hby own8_6) (pc' := 9) rfl ?_
  intro v T h1 L lc X eT hq fN
  obtain ⟨rfl, Nq, Kq, bb, kb, hbb, F_c2, F_v2, A_bb⟩ := hq
  have N := fN _ N Nq
  show own_W _ _ _ _ _ _ _ _ []
  refine own_ret0 X hx hlk hret (hb hby own8_9) (by decide) (by decide) ?_
  rw [eT]
  exact ⟨rfl, N, Kq, bb, kb, hbb, F_c2, F_v2, A_bb⟩
theorem own12_0 : decode method_3_code 0 = .ok (.iload_n 0, 1) := by decide +kernel
theorem own12_1 : decode method_3_code 1 = .ok (.sipush 255, 3) := by decide +kernel
theorem own12_4 : decode method_3_code 4 = .ok (.iand, 1) := by decide +kernel
theorem own12_5 : decode method_3_code 5 = .ok (.i2c, 1) := by decide +kernel
theorem own12_6 : decode method_3_code 6 = .ok (.istore_n 1, 1) := by decide +kernel
theorem own12_7 : decode method_3_code 7 = .ok (.iload_n 0, 1) := by decide +kernel
theorem own12_8 : decode method_3_code 8 = .ok (.bipush 8, 2) := by decide +kernel
theorem own12_10 : decode method_3_code 10 = .ok (.iushr, 1) := by decide +kernel
theorem own12_11 : decode method_3_code 11 = .ok (.sipush 255, 3) := by decide +kernel
theorem own12_14 : decode method_3_code 14 = .ok (.iand, 1) := by decide +kernel
theorem own12_15 : decode method_3_code 15 = .ok (.i2c, 1) := by decide +kernel
theorem own12_16 : decode method_3_code 16 = .ok (.istore_n 2, 1) := by decide +kernel
theorem own12_17 : decode method_3_code 17 = .ok (.iload_n 0, 1) := by decide +kernel
theorem own12_18 : decode method_3_code 18 = .ok (.bipush 16, 2) := by decide +kernel
theorem own12_20 : decode method_3_code 20 = .ok (.iushr, 1) := by decide +kernel
theorem own12_21 : decode method_3_code 21 = .ok (.sipush 32767, 3) := by decide +kernel
theorem own12_24 : decode method_3_code 24 = .ok (.iand, 1) := by decide +kernel
theorem own12_25 : decode method_3_code 25 = .ok (.iconst 3, 1) := by decide +kernel
theorem own12_26 : decode method_3_code 26 = .ok (.irem, 1) := by decide +kernel
theorem own12_27 : decode method_3_code 27 = .ok (.istore_n 3, 1) := by decide +kernel
theorem own12_28 : decode method_3_code 28 = .ok (.iload_n 3, 1) := by decide +kernel
theorem own12_29 : decode method_3_code 29 = .ok (.ifCond .ne 14, 3) := by decide +kernel
theorem own12_32 : decode method_3_code 32 = .ok (.new 27, 3) := by decide +kernel
theorem own12_35 : decode method_3_code 35 = .ok (.dup, 1) := by decide +kernel
theorem own12_36 : decode method_3_code 36 = .ok (.iconst 0, 1) := by decide +kernel
theorem own12_37 : decode method_3_code 37 = .ok (.newarray .char, 2) := by decide +kernel
theorem own12_39 : decode method_3_code 39 = .ok (.invokespecial 39, 3) := by decide +kernel
theorem own_pd_285bC29V : parseMethodDescriptor "([C)V" = some ⟨[(.array .char)], none⟩ := by decide +kernel
theorem own12_42 : decode method_3_code 42 = .ok (.areturn, 1) := by decide +kernel
theorem own12_43 : decode method_3_code 43 = .ok (.iload_n 3, 1) := by decide +kernel
theorem own12_44 : decode method_3_code 44 = .ok (.iconst 1, 1) := by decide +kernel
theorem own12_45 : decode method_3_code 45 = .ok (.if_icmp .ne 18, 3) := by decide +kernel
theorem own12_48 : decode method_3_code 48 = .ok (.new 27, 3) := by decide +kernel
theorem own12_51 : decode method_3_code 51 = .ok (.dup, 1) := by decide +kernel
theorem own12_52 : decode method_3_code 52 = .ok (.iconst 1, 1) := by decide +kernel
theorem own12_53 : decode method_3_code 53 = .ok (.newarray .char, 2) := by decide +kernel
theorem own12_55 : decode method_3_code 55 = .ok (.dup, 1) := by decide +kernel
theorem own12_56 : decode method_3_code 56 = .ok (.iconst 0, 1) := by decide +kernel
theorem own12_57 : decode method_3_code 57 = .ok (.iload_n 1, 1) := by decide +kernel
theorem own12_58 : decode method_3_code 58 = .ok (.castore, 1) := by decide +kernel
theorem own12_59 : decode method_3_code 59 = .ok (.invokespecial 39, 3) := by decide +kernel
theorem own12_62 : decode method_3_code 62 = .ok (.areturn, 1) := by decide +kernel
theorem own12_63 : decode method_3_code 63 = .ok (.new 27, 3) := by decide +kernel
theorem own12_66 : decode method_3_code 66 = .ok (.dup, 1) := by decide +kernel
theorem own12_67 : decode method_3_code 67 = .ok (.iconst 2, 1) := by decide +kernel
theorem own12_68 : decode method_3_code 68 = .ok (.newarray .char, 2) := by decide +kernel
theorem own12_70 : decode method_3_code 70 = .ok (.dup, 1) := by decide +kernel
theorem own12_71 : decode method_3_code 71 = .ok (.iconst 0, 1) := by decide +kernel
theorem own12_72 : decode method_3_code 72 = .ok (.iload_n 1, 1) := by decide +kernel
theorem own12_73 : decode method_3_code 73 = .ok (.castore, 1) := by decide +kernel
theorem own12_74 : decode method_3_code 74 = .ok (.dup, 1) := by decide +kernel
theorem own12_75 : decode method_3_code 75 = .ok (.iconst 1, 1) := by decide +kernel
theorem own12_76 : decode method_3_code 76 = .ok (.iload_n 2, 1) := by decide +kernel
theorem own12_77 : decode method_3_code 77 = .ok (.castore, 1) := by decide +kernel
theorem own12_78 : decode method_3_code 78 = .ok (.invokespecial 39, 3) := by decide +kernel
theorem own12_81 : decode method_3_code 81 = .ok (.areturn, 1) := by decide +kernel
theorem own_pn_com_example_runnel_runnel_broker_PipeAfterPinLaw : plainName "com/example/runnel/runnel/broker/PipeAfterPinLaw" = true := by first | (simp [plainName, overriddenIn]; done) | decide +kernel
theorem ef_str (m : MethodId) (x0 : Int32) : entryFrame m #[(.int x0)] 4 = mkF m 0 #[.val (.int x0), .unset, .unset, .unset] [] := by first | (simp [entryFrame, mkF, argsToLocals, Value.category]; done) | rfl
def Q_str (Z : State) (p0 cs : Int32) (h0 : Heap) (n0 : Nat) (v : Option Value) (h : Heap) (L : List Loc) : Prop := ∃ (a b : Addr) (k : ClassId), v = some (.ref a) ∧ Fr n0 L ∧ Keep h0 h [] ∧ Exa Z h a "java/lang/String" ∧ Fld Z h a "java/lang/String" "coder" "B" (.int (0 : Int32)) ∧ Fld Z h a "java/lang/String" "value" "[B" (.ref b) ∧ (Arv Z h b k .byte (0 : Int32) [] (.int (0 : Int32)) ∨ (∃ x0 : Int32, Arv Z h b k .byte (1 : Int32) [.int x0] (.int (0 : Int32))) ∨ (∃ x0 x1 : Int32, Arv Z h b k .byte (2 : Int32) [.int x0, .int x1] (.int (0 : Int32))))
set_option maxRecDepth 65536 in
set_option maxHeartbeats 40000000 in
theorem rm_str (l : Launch) (Z : State) (a0 : Array Value) (hw : ∀ d ∈ tables_1, d.before a0 Z = true) (hEL : EW Z a0 own_EL) (ws : List Jvm.Cond) (p0 cs : Int32) (h0 : Heap) (n0 : Nat) (Z0 : n0 ≤ h0.size) (S_C : Sta Z h0 "java/lang/String" "COMPACT_STRINGS" "Z" (.int cs)) (hcs : ¬ cs = 0) :
    MetFree l (⟨"com/example/runnel/runnel/broker/PipeAfterPinLaw", "str", "(I)Ljava/lang/String;"⟩ : MethodName) (head1 (Jvm.Cond.code (⟨"com/example/runnel/runnel/broker/PipeAfterPinLaw", "str", "(I)Ljava/lang/String;"⟩ : MethodName) method_3_code 4 (some (.object "java/lang/String")) :: ws) ({ frames := 4, cells := 6, slots := 14, locals := 70 } : Room)) (fun a U => a = #[(.int p0)] ∧ Z.Warmed39 U.vm ∧ U.heap = h0 ∧ CHv Z own_EL U.vm h0) (fun _ _ _ _ _ => True) (fun _ U o U' => ∃ v L, o = .returned v ∧ Q_str Z p0 cs h0 n0 v U'.heap L ∧ CHr Z own_EL U.vm U.heap U'.vm U'.heap ∧ ReturnedEndW U o U' L ({ frames := 4, cells := 6, slots := 14, locals := 70 } : Room).cells ({ frames := 4, cells := 6, slots := 14, locals := 70 } : Room).slots) := by
  refine MetFree.of_bodySF (plainFor_of_name own_pn_com_example_runnel_runnel_broker_PipeAfterPinLaw) hisR ?_
  intro p e s m args below meth c s₁ Bd hml0 hP hK
  obtain ⟨rfl, hZ, hh, H⟩ := hP
  have hx := Bd.exec
  have hby := Bd.bytes
  have hml : c.maxLocals = 4 := hml0
  have hown : s.vm.findClass "com/example/runnel/runnel/broker/PipeAfterPinLaw" = some m.cls := findClass_of_methodNamed Bd.named
  have hnm := (name_of_methodNamed Bd.named Bd.method).1
  have hlk := Bd.notSynchronized
  obtain ⟨lc, hlc⟩ : ∃ lc : List Loc, lc = [] := ⟨_, rfl⟩
  have X : Stand p l e ({ frames := 4, cells := 6, slots := 14, locals := 70 } : Room) s m #[(.int p0)] below meth c s₁ lc 0 0 := hlc ▸ Stand.of_body Bd
  have eT : s₁.heap = h0 := by rw [← hh, Bd.state]; rfl
  have N : Fr n0 lc := hlc ▸ Fr.nil n0
  obtain ⟨vm0, hvm⟩ : ∃ v : Vm, v = s.vm := ⟨_, rfl⟩
  have X : Stand p l e ({ frames := 4, cells := 6, slots := 14, locals := 70 } : Room) (s.setVm vm0) m #[(.int p0)] below meth c s₁ lc 0 0 := by rw [hvm]; exact X
  have hZ : Z.Warmed39 (s.setVm vm0).vm := by rw [hvm]; exact hZ
  have hown : (s.setVm vm0).vm.findClass "com/example/runnel/runnel/broker/PipeAfterPinLaw" = some m.cls := by rw [hvm]; exact hown
  have hS : s.Since vm0 h0.size := by rw [hvm]; exact (State.WarmedH.refl s).since _
  have hk : h0.size ≤ h0.size := Nat.le_refl _
  have CR : CHr Z own_EL s.vm h0 vm0 h0 := by rw [hvm]; exact CHr.refl H
  have H : CHv Z own_EL vm0 h0 := by rw [hvm]; exact H
  refine own_enterS (ef_str m p0) ?_
  obtain ⟨T, hT⟩ : ∃ T : State, T = s₁ := ⟨_, rfl⟩
  rw [← hT] at X eT ⊢
  show own_W _ _ _ _ _ _ _ _ []
  have Kp : Keep h0 h0 [] := Keep.refl _ _
  refine own_iloadN X hx (hb hby own12_0) (pc' := 1) rfl rfl ?_
  refine own_sipush X hx (255 : Int32) (hb hby own12_1) (pc' := 4) rfl rfl ?_
  refine own_iand X hx (hb hby own12_4) (pc' := 5) rfl ?_
  refine own_i2c X hx (hb hby own12_5) (pc' := 6) rfl ?_
  refine own_istoreN X hx (hb hby own12_6) (pc' := 7) rfl (Ls' := #[.val (.int p0), .val (.int (p0 &&& (255 : Int32)).toUInt32.toUInt16.toUInt32.toInt32), .unset, .unset]) rfl ?_
  refine own_iloadN X hx (hb hby own12_7) (pc' := 8) rfl rfl ?_
  refine own_bipush X hx (8 : Int32) (hb hby own12_8) (pc' := 10) rfl rfl ?_
  refine own_iushr X hx (hb hby own12_10) (pc' := 11) rfl ?_
  refine own_sipush X hx (255 : Int32) (hb hby own12_11) (pc' := 14) rfl rfl ?_
  refine own_iand X hx (hb hby own12_14) (pc' := 15) rfl ?_
  refine own_i2c X hx (hb hby own12_15) (pc' := 16) rfl ?_
  refine own_istoreN X hx (hb hby own12_16) (pc' := 17) rfl (Ls' := #[.val (.int p0), .val (.int (p0 &&& (255 : Int32)).toUInt32.toUInt16.toUInt32.toInt32), .val (.int ((XT.ushr p0 (8 : Int32)) &&& (255 : Int32)).toUInt32.toUInt16.toUInt32.toInt32), .unset]) rfl ?_
  refine own_iloadN X hx (hb hby own12_17) (pc' := 18) rfl rfl ?_
  refine own_bipush X hx (16 : Int32) (hb hby own12_18) (pc' := 20) rfl rfl ?_
  refine own_iushr X hx (hb hby own12_20) (pc' := 21) rfl ?_
  refine own_sipush X hx (32767 : Int32) (hb hby own12_21) (pc' := 24) rfl rfl ?_
  refine own_iand X hx (hb hby own12_24) (pc' := 25) rfl ?_
  refine own_iconst X hx (3 : Int32) (hb hby own12_25) (pc' := 26) rfl rfl ?_
  refine own_irem X hx (hb hby own12_26) (pc' := 27) rfl (by decide) ?_
  refine own_istoreN X hx (hb hby own12_27) (pc' := 28) rfl (Ls' := #[.val (.int p0), .val (.int (p0 &&& (255 : Int32)).toUInt32.toUInt16.toUInt32.toInt32), .val (.int ((XT.ushr p0 (8 : Int32)) &&& (255 : Int32)).toUInt32.toUInt16.toUInt32.toInt32), .val (.int (((XT.ushr p0 (16 : Int32)) &&& (32767 : Int32)) % (3 : Int32)))]) rfl ?_
  obtain ⟨u0, h_u0⟩ : ∃ z, z = (p0 &&& (255 : Int32)).toUInt32.toUInt16.toUInt32.toInt32 := ⟨_, rfl⟩
  rw [← h_u0]
  have bu0 : own_lat8 u0 := by rw [h_u0]; exact own_m255 _
  obtain ⟨u1, h_u1⟩ : ∃ z, z = ((XT.ushr p0 (8 : Int32)) &&& (255 : Int32)).toUInt32.toUInt16.toUInt32.toInt32 := ⟨_, rfl⟩
  rw [← h_u1]
  have bu1 : own_lat8 u1 := by rw [h_u1]; exact own_m255 _
  obtain ⟨ln, h_ln⟩ : ∃ z, z = (((XT.ushr p0 (16 : Int32)) &&& (32767 : Int32)) % (3 : Int32)) := ⟨_, rfl⟩
  rw [← h_ln]
  have b_ln := own_n3 (XT.ushr p0 (16 : Int32))
  rw [← h_ln] at b_ln
  rcases b_ln with q | q | q
  · rw [q]
    show own_W _ _ _ _ _ _ _ _ []
    refine own_iloadN X hx (hb hby own12_28) (pc' := 29) rfl rfl ?_
    refine own_ifN X hx (hb hby own12_29) (pc' := 32) rfl (show (0 : Int32) = (0 : Int32) from (by decide)) ?_
    refine own_new X hx hZ hown (own_w hw 4 rfl) (own_w hw 5 rfl) (own_w hw 6 rfl) eT (hb hby own12_32) (pc' := 35) rfl (cells' := 1) (slots' := 4) rfl rfl (by decide) (by decide) ?_
    intro T h1 b1 X eT E gb1 E_b1 Db1
    have z_b1 : n0 ≤ b1 := Nat.le_trans Z0 (Nat.le_of_eq gb1.symm)
    have s_b1 : h0.size ≤ b1 := Nat.le_trans Kp.1 (Nat.le_of_eq gb1.symm)
    have S_b1 : Safe Z own_EL vm0 h0 b1 := Safe.new (Nat.le_of_eq gb1.symm)
    have S_b1 := S_b1.ext E H
    have CR := CR.trans (CHr.ext E H)
    have H := H.ext E
    have hk := Nat.le_trans hk E.1
    have S_C := S_C.ext E
    have Z0 := Nat.le_trans Z0 E.1
    have Kp := Kp.ext E
    have F_value_b1 : Fld Z h1 b1 "java/lang/String" "value" "[B" .null := Db1 (Or.inr (own_w hw 20 rfl)) (ty := (.array .byte)) (by decide)
    have F_coder_b1 : Fld Z h1 b1 "java/lang/String" "coder" "B" (.int (0 : Int32)) := Db1 (Or.inr (own_w hw 21 rfl)) (ty := .byte) (by decide)
    refine own_dup X hx (hb hby own12_35) (pc' := 36) rfl rfl ?_
    refine own_iconst X hx (0 : Int32) (hb hby own12_36) (pc' := 37) rfl rfl ?_
    refine own_newarr X hx hZ (own_w hw 7 rfl) eT (hb hby own12_37) (pc' := 39) rfl (by decide) 0 (by decide) (by decide) (cells' := 2) (slots' := 4) rfl rfl (by decide) (by decide) ?_
    intro T h2 k_b2 b2 X eT E gb2 A_b2
    have lt_b1_b2 : b1 < b2 := Nat.lt_of_lt_of_le E_b1.lt (Nat.le_of_eq gb2.symm)
    have ne_b1_b2 : b1 ≠ b2 := Nat.ne_of_lt lt_b1_b2
    have z_b2 : n0 ≤ b2 := Nat.le_trans Z0 (Nat.le_of_eq gb2.symm)
    have s_b2 : h0.size ≤ b2 := Nat.le_trans Kp.1 (Nat.le_of_eq gb2.symm)
    have S_b1 := S_b1.ext E H
    have CR := CR.trans (CHr.ext E H)
    have H := H.ext E
    have hk := Nat.le_trans hk E.1
    have S_C := S_C.ext E
    have E_b1 := E_b1.ext E
    have F_value_b1 := F_value_b1.ext E
    have F_coder_b1 := F_coder_b1.ext E
    have Z0 := Nat.le_trans Z0 E.1
    have Kp := Kp.ext E
    have A_b2 : Arv Z h2 b2 k_b2 .char (0 : Int32) [] (.int (0 : Int32)) := A_b2.pad (pad_rep [] (.int (0 : Int32)) 0)
    refine own_callNS X hx hZ b1 [(.ref b2)] rfl hown (own_w hw 8 rfl) (own_w hw 9 rfl) (own_w hw 6 rfl) (own_w hw 10 rfl) (by decide) (rm_ic0 l Z a0 hw hEL [] b1 b2 h2 n0 Z0 _ E_b1 F_coder_b1 F_value_b1 z_b1 _ _ A_b2) eT hS hk hEL H (W := 1) (by decide) (by decide) (cells' := 6) (slots' := 12) rfl rfl (by decide) (by decide) (by rw [hml]; rfl) (lenOf own_pd_285bC29V rfl) rfl (S := [(.ref b1)]) rfl (Nat.le_of_eq rfl) (hb hby own12_39) (pc' := 42) rfl ?_
    intro v T h3 L lc vm0 k1 X eT hS hk hZ hown CQ hq fN
    obtain ⟨rfl, Nq, Kq, bb, kb, F_c, F_v, A_bb⟩ := hq
    have N := fN _ N Nq
    have Kp := Kp.trans Kq (allS (P := fun x => x ∈ ([] : List Addr) ∨ h0.size ≤ x) (Or.inr s_b1) all0)
    have S_b1 := CQ.safe E_b1.lt S_b1
    have CR := CR.trans CQ
    have H := CQ.1
    have S_C := own_sta_keep S_C Kq (nsS (own_ns_exa E_b1) ns0)
    have E_b1 := E_b1.keep Kq
    have A_b2 := A_b2.keep Kq (ninS (Ne.symm ne_b1_b2) nin0)
    have Z0 := Nat.le_trans Z0 Kq.1
    show own_W _ _ _ _ _ _ _ _ [(.ref b1)]
    refine own_retAS X hx hlk hZ eT hh hS hk hEL H CR Bd.returns (hb hby own12_42) rfl rfl rfl (by decide) (by decide) ?_
    rw [eT]
    exact ⟨b1, bb, kb, rfl, N, Kp, E_b1, F_c, F_v, Or.inl A_bb⟩
  · rw [q]
    show own_W _ _ _ _ _ _ _ _ []
    refine own_iloadN X hx (hb hby own12_28) (pc' := 29) rfl rfl ?_
    refine own_ifY X hx (hb hby own12_29) (by decide) (pc' := 43) rfl (show ¬ ((1 : Int32) = (0 : Int32)) from (by decide)) ?_
    refine own_iloadN X hx (hb hby own12_43) (pc' := 44) rfl rfl ?_
    refine own_iconst X hx (1 : Int32) (hb hby own12_44) (pc' := 45) rfl rfl ?_
    refine own_icmpN X hx (hb hby own12_45) (pc' := 48) rfl (show (1 : Int32) = (1 : Int32) from (by decide)) ?_
    refine own_new X hx hZ hown (own_w hw 4 rfl) (own_w hw 5 rfl) (own_w hw 6 rfl) eT (hb hby own12_48) (pc' := 51) rfl (cells' := 1) (slots' := 4) rfl rfl (by decide) (by decide) ?_
    intro T h4 b4 X eT E gb4 E_b4 Db4
    have z_b4 : n0 ≤ b4 := Nat.le_trans Z0 (Nat.le_of_eq gb4.symm)
    have s_b4 : h0.size ≤ b4 := Nat.le_trans Kp.1 (Nat.le_of_eq gb4.symm)
    have S_b4 : Safe Z own_EL vm0 h0 b4 := Safe.new (Nat.le_of_eq gb4.symm)
    have S_b4 := S_b4.ext E H
    have CR := CR.trans (CHr.ext E H)
    have H := H.ext E
    have hk := Nat.le_trans hk E.1
    have S_C := S_C.ext E
    have Z0 := Nat.le_trans Z0 E.1
    have Kp := Kp.ext E
    have F_value_b4 : Fld Z h4 b4 "java/lang/String" "value" "[B" .null := Db4 (Or.inr (own_w hw 20 rfl)) (ty := (.array .byte)) (by decide)
    have F_coder_b4 : Fld Z h4 b4 "java/lang/String" "coder" "B" (.int (0 : Int32)) := Db4 (Or.inr (own_w hw 21 rfl)) (ty := .byte) (by decide)
    refine own_dup X hx (hb hby own12_51) (pc' := 52) rfl rfl ?_
    refine own_iconst X hx (1 : Int32) (hb hby own12_52) (pc' := 53) rfl rfl ?_
    refine own_newarr X hx hZ (own_w hw 7 rfl) eT (hb hby own12_53) (pc' := 55) rfl (by decide) 1 (by decide) (by decide) (cells' := 2) (slots' := 5) rfl rfl (by decide) (by decide) ?_
    intro T h5 k_b5 b5 X eT E gb5 A_b5
    have lt_b4_b5 : b4 < b5 := Nat.lt_of_lt_of_le E_b4.lt (Nat.le_of_eq gb5.symm)
    have ne_b4_b5 : b4 ≠ b5 := Nat.ne_of_lt lt_b4_b5
    have z_b5 : n0 ≤ b5 := Nat.le_trans Z0 (Nat.le_of_eq gb5.symm)
    have s_b5 : h0.size ≤ b5 := Nat.le_trans Kp.1 (Nat.le_of_eq gb5.symm)
    have S_b4 := S_b4.ext E H
    have CR := CR.trans (CHr.ext E H)
    have H := H.ext E
    have hk := Nat.le_trans hk E.1
    have S_C := S_C.ext E
    have E_b4 := E_b4.ext E
    have F_value_b4 := F_value_b4.ext E
    have F_coder_b4 := F_coder_b4.ext E
    have Z0 := Nat.le_trans Z0 E.1
    have Kp := Kp.ext E
    have A_b5 : Arv Z h5 b5 k_b5 .char (1 : Int32) [(.int (0 : Int32))] (.int (0 : Int32)) := A_b5.pad (pad_rep [] (.int (0 : Int32)) 1)
    refine own_dup X hx (hb hby own12_55) (pc' := 56) rfl rfl ?_
    refine own_iconst X hx (0 : Int32) (hb hby own12_56) (pc' := 57) rfl rfl ?_
    refine own_iloadN X hx (hb hby own12_57) (pc' := 58) rfl rfl ?_
    refine own_castore X hx hZ eT A_b5 (by decide) 0 rfl (by show 0 < 1; decide) (hb hby own12_58) (pc' := 59) rfl ?_
    intro T h6 lc X eT Kq A_b5n fN
    have hsf : ∀ x ∈ ([b5] : List Addr), Safe Z own_EL vm0 h5 x := (sfS (Safe.arv hZ.alike A_b5 (by decide)) sf0)
    have S_b4 := S_b4.keep Kq hsf H
    have CR := CR.trans (CHr.keep Kq hsf H)
    have H := H.keep Kq hsf
    have hk := Nat.le_trans hk Kq.1
    have S_C := own_sta_keep S_C Kq (nsS (own_ns_arv A_b5) ns0)
    have E_b4 := E_b4.keep Kq
    have F_value_b4 := F_value_b4.keep Kq (ninS ne_b4_b5 nin0)
    have F_coder_b4 := F_coder_b4.keep Kq (ninS ne_b4_b5 nin0)
    have Z0 := Nat.le_trans Z0 Kq.1
    have A_b5 := A_b5n
    have N := fN _ z_b5 N
    have Kp := Kp.trans Kq (allS (P := fun x => x ∈ [] ∨ h0.size ≤ x) (Or.inr s_b5) all0)
    rw [own_nc bu0] at A_b5
    have A_b5 : Arv Z h6 b5 _ .char (1 : Int32) [(.int u0)] (.int (0 : Int32)) := A_b5
    refine own_callN X hx hZ b4 [(.ref b5)] rfl hown (own_w hw 8 rfl) (own_w hw 9 rfl) (own_w hw 6 rfl) (own_w hw 10 rfl) (by decide) (rm_ic1 l Z a0 hw [] b4 b5 _ cs u0 h6 n0 Z0 S_C hcs _ _ E_b4 F_coder_b4 F_value_b4 A_b5 ne_b4_b5 (own_le bu0) z_b4) eT (W := 1) (by decide) (by decide) (cells' := 3) (slots' := 6) rfl rfl (by decide) (by decide) (by rw [hml]; rfl) (lenOf own_pd_285bC29V rfl) rfl (S := [(.ref b4)]) rfl (Nat.le_of_eq rfl) (hb hby own12_59) (pc' := 62) rfl ?_
    intro v T h7 L lc X eT hq fN
    obtain ⟨rfl, Nq, Kq, bb, kb, hbb, F_c, F_v, A_bb⟩ := hq
    have N := fN _ N Nq
    have Kp := Kp.trans Kq (allS (P := fun x => x ∈ ([] : List Addr) ∨ h0.size ≤ x) (Or.inr s_b4) all0)
    have lt_b4_bb : b4 < bb := Nat.lt_of_lt_of_le E_b4.lt hbb
    have ne_b4_bb : b4 ≠ bb := Nat.ne_of_lt lt_b4_bb
    have lt_b5_bb : b5 < bb := Nat.lt_of_lt_of_le A_b5.lt hbb
    have ne_b5_bb : b5 ≠ bb := Nat.ne_of_lt lt_b5_bb
    have hsf : ∀ x ∈ ([b4] : List Addr), Safe Z own_EL vm0 h6 x := (sfS S_b4 sf0)
    have S_b4 := S_b4.keep Kq hsf H
    have CR := CR.trans (CHr.keep Kq hsf H)
    have H := H.keep Kq hsf
    have hk := Nat.le_trans hk Kq.1
    have S_C := own_sta_keep S_C Kq (nsS (own_ns_exa E_b4) ns0)
    have E_b4 := E_b4.keep Kq
    have A_b5 := A_b5.keep Kq (ninS (Ne.symm ne_b4_b5) nin0)
    have Z0 := Nat.le_trans Z0 Kq.1
    show own_W _ _ _ _ _ _ _ _ [(.ref b4)]
    refine own_retAS X hx hlk hZ eT hh hS hk hEL H CR Bd.returns (hb hby own12_62) rfl rfl rfl (by decide) (by decide) ?_
    rw [eT]
    exact ⟨b4, bb, kb, rfl, N, Kp, E_b4, F_c, F_v, Or.inr (Or.inl ⟨_, A_bb⟩)⟩
  · rw [q]
    show own_W _ _ _ _ _ _ _ _ []
    refine own_iloadN X hx (hb hby own12_28) (pc' := 29) rfl rfl ?_
    refine own_ifY X hx (hb hby own12_29) (by decide) (pc' := 43) rfl (show ¬ ((2 : Int32) = (0 : Int32)) from (by decide)) ?_
    refine own_iloadN X hx (hb hby own12_43) (pc' := 44) rfl rfl ?_
    refine own_iconst X hx (1 : Int32) (hb hby own12_44) (pc' := 45) rfl rfl ?_
    refine own_icmpY X hx (hb hby own12_45) (by decide) (pc' := 63) rfl (show ¬ ((2 : Int32) = (1 : Int32)) from (by decide)) ?_
    refine own_new X hx hZ hown (own_w hw 4 rfl) (own_w hw 5 rfl) (own_w hw 6 rfl) eT (hb hby own12_63) (pc' := 66) rfl (cells' := 1) (slots' := 4) rfl rfl (by decide) (by decide) ?_
    intro T h8 b8 X eT E gb8 E_b8 Db8
    have z_b8 : n0 ≤ b8 := Nat.le_trans Z0 (Nat.le_of_eq gb8.symm)
    have s_b8 : h0.size ≤ b8 := Nat.le_trans Kp.1 (Nat.le_of_eq gb8.symm)
    have S_b8 : Safe Z own_EL vm0 h0 b8 := Safe.new (Nat.le_of_eq gb8.symm)
    have S_b8 := S_b8.ext E H
    have CR := CR.trans (CHr.ext E H)
    have H := H.ext E
    have hk := Nat.le_trans hk E.1
    have S_C := S_C.ext E
    have Z0 := Nat.le_trans Z0 E.1
    have Kp := Kp.ext E
    have F_value_b8 : Fld Z h8 b8 "java/lang/String" "value" "[B" .null := Db8 (Or.inr (own_w hw 20 rfl)) (ty := (.array .byte)) (by decide)
    have F_coder_b8 : Fld Z h8 b8 "java/lang/String" "coder" "B" (.int (0 : Int32)) := Db8 (Or.inr (own_w hw 21 rfl)) (ty := .byte) (by decide)
    refine own_dup X hx (hb hby own12_66) (pc' := 67) rfl rfl ?_
    refine own_iconst X hx (2 : Int32) (hb hby own12_67) (pc' := 68) rfl rfl ?_
    refine own_newarr X hx hZ (own_w hw 7 rfl) eT (hb hby own12_68) (pc' := 70) rfl (by decide) 2 (by decide) (by decide) (cells' := 2) (slots' := 6) rfl rfl (by decide) (by decide) ?_
    intro T h9 k_b9 b9 X eT E gb9 A_b9
    have lt_b8_b9 : b8 < b9 := Nat.lt_of_lt_of_le E_b8.lt (Nat.le_of_eq gb9.symm)
    have ne_b8_b9 : b8 ≠ b9 := Nat.ne_of_lt lt_b8_b9
    have z_b9 : n0 ≤ b9 := Nat.le_trans Z0 (Nat.le_of_eq gb9.symm)
    have s_b9 : h0.size ≤ b9 := Nat.le_trans Kp.1 (Nat.le_of_eq gb9.symm)
    have S_b8 := S_b8.ext E H
    have CR := CR.trans (CHr.ext E H)
    have H := H.ext E
    have hk := Nat.le_trans hk E.1
    have S_C := S_C.ext E
    have E_b8 := E_b8.ext E
    have F_value_b8 := F_value_b8.ext E
    have F_coder_b8 := F_coder_b8.ext E
    have Z0 := Nat.le_trans Z0 E.1
    have Kp := Kp.ext E
    have A_b9 : Arv Z h9 b9 k_b9 .char (2 : Int32) [(.int (0 : Int32)), (.int (0 : Int32))] (.int (0 : Int32)) := A_b9.pad (pad_rep [] (.int (0 : Int32)) 2)
    refine own_dup X hx (hb hby own12_70) (pc' := 71) rfl rfl ?_
    refine own_iconst X hx (0 : Int32) (hb hby own12_71) (pc' := 72) rfl rfl ?_
    refine own_iloadN X hx (hb hby own12_72) (pc' := 73) rfl rfl ?_
    refine own_castore X hx hZ eT A_b9 (by decide) 0 rfl (by show 0 < 2; decide) (hb hby own12_73) (pc' := 74) rfl ?_
    intro T h10 lc X eT Kq A_b9n fN
    have hsf : ∀ x ∈ ([b9] : List Addr), Safe Z own_EL vm0 h9 x := (sfS (Safe.arv hZ.alike A_b9 (by decide)) sf0)
    have S_b8 := S_b8.keep Kq hsf H
    have CR := CR.trans (CHr.keep Kq hsf H)
    have H := H.keep Kq hsf
    have hk := Nat.le_trans hk Kq.1
    have S_C := own_sta_keep S_C Kq (nsS (own_ns_arv A_b9) ns0)
    have E_b8 := E_b8.keep Kq
    have F_value_b8 := F_value_b8.keep Kq (ninS ne_b8_b9 nin0)
    have F_coder_b8 := F_coder_b8.keep Kq (ninS ne_b8_b9 nin0)
    have Z0 := Nat.le_trans Z0 Kq.1
    have A_b9 := A_b9n
    have N := fN _ z_b9 N
    have Kp := Kp.trans Kq (allS (P := fun x => x ∈ [] ∨ h0.size ≤ x) (Or.inr s_b9) all0)
    rw [own_nc bu0] at A_b9
    have A_b9 : Arv Z h10 b9 _ .char (2 : Int32) [(.int u0), (.int (0 : Int32))] (.int (0 : Int32)) := A_b9
    refine own_dup X hx (hb hby own12_74) (pc' := 75) rfl rfl ?_
    refine own_iconst X hx (1 : Int32) (hb hby own12_75) (pc' := 76) rfl rfl ?_
    refine own_iloadN X hx (hb hby own12_76) (pc' := 77) rfl rfl ?_
    refine own_castore X hx hZ eT A_b9 (by decide) 1 rfl (by show 1 < 2; decide) (hb hby own12_77) (pc' := 78) rfl ?_
    intro T h11 lc X eT Kq A_b9n fN
    have hsf : ∀ x ∈ ([b9] : List Addr), Safe Z own_EL vm0 h10 x := (sfS (Safe.arv hZ.alike A_b9 (by decide)) sf0)
    have S_b8 := S_b8.keep Kq hsf H
    have CR := CR.trans (CHr.keep Kq hsf H)
    have H := H.keep Kq hsf
    have hk := Nat.le_trans hk Kq.1
    have S_C := own_sta_keep S_C Kq (nsS (own_ns_arv A_b9) ns0)
    have E_b8 := E_b8.keep Kq
    have F_value_b8 := F_value_b8.keep Kq (ninS ne_b8_b9 nin0)
    have F_coder_b8 := F_coder_b8.keep Kq (ninS ne_b8_b9 nin0)
    have Z0 := Nat.le_trans Z0 Kq.1
    have A_b9 := A_b9n
    have N := fN _ z_b9 N
    have Kp := Kp.trans Kq (allS (P := fun x => x ∈ [] ∨ h0.size ≤ x) (Or.inr s_b9) all0)
    rw [own_nc bu1] at A_b9
    have A_b9 : Arv Z h11 b9 _ .char (2 : Int32) [(.int u0), (.int u1)] (.int (0 : Int32)) := A_b9
    refine own_callN X hx hZ b8 [(.ref b9)] rfl hown (own_w hw 8 rfl) (own_w hw 9 rfl) (own_w hw 6 rfl) (own_w hw 10 rfl) (by decide) (rm_ic2 l Z a0 hw [] b8 b9 _ cs u0 u1 h11 n0 Z0 S_C hcs _ _ E_b8 F_coder_b8 F_value_b8 A_b9 ne_b8_b9 (own_le bu0) (own_le bu1) z_b8) eT (W := 1) (by decide) (by decide) (cells' := 3) (slots' := 8) rfl rfl (by decide) (by decide) (by rw [hml]; rfl) (lenOf own_pd_285bC29V rfl) rfl (S := [(.ref b8)]) rfl (Nat.le_of_eq rfl) (hb hby own12_78) (pc' := 81) rfl ?_
    intro v T h12 L lc X eT hq fN
    obtain ⟨rfl, Nq, Kq, bb, kb, hbb, F_c, F_v, A_bb⟩ := hq
    have N := fN _ N Nq
    have Kp := Kp.trans Kq (allS (P := fun x => x ∈ ([] : List Addr) ∨ h0.size ≤ x) (Or.inr s_b8) all0)
    have lt_b8_bb : b8 < bb := Nat.lt_of_lt_of_le E_b8.lt hbb
    have ne_b8_bb : b8 ≠ bb := Nat.ne_of_lt lt_b8_bb
    have lt_b9_bb : b9 < bb := Nat.lt_of_lt_of_le A_b9.lt hbb
    have ne_b9_bb : b9 ≠ bb := Nat.ne_of_lt lt_b9_bb
    have hsf : ∀ x ∈ ([b8] : List Addr), Safe Z own_EL vm0 h11 x := (sfS S_b8 sf0)
    have S_b8 := S_b8.keep Kq hsf H
    have CR := CR.trans (CHr.keep Kq hsf H)
    have H := H.keep Kq hsf
    have hk := Nat.le_trans hk Kq.1
    have S_C := own_sta_keep S_C Kq (nsS (own_ns_exa E_b8) ns0)
    have E_b8 := E_b8.keep Kq
    have A_b9 := A_b9.keep Kq (ninS (Ne.symm ne_b8_b9) nin0)
    have Z0 := Nat.le_trans Z0 Kq.1
    show own_W _ _ _ _ _ _ _ _ [(.ref b8)]
    refine own_retAS X hx hlk hZ eT hh hS hk hEL H CR Bd.returns (hb hby own12_81) rfl rfl rfl (by decide) (by decide) ?_
    rw [eT]
    exact ⟨b8, bb, kb, rfl, N, Kp, E_b8, F_c, F_v, Or.inr (Or.inr ⟨_, _, A_bb⟩)⟩
theorem own13_0 : decode jdk_68_method_2_code 0 = .ok (.aload_n 0, 1) := by decide +kernel
theorem own13_1 : decode jdk_68_method_2_code 1 = .ok (.invokespecial 3, 3) := by decide +kernel
theorem own13_4 : decode jdk_68_method_2_code 4 = .ok (.getstatic 18, 3) := by decide +kernel
theorem own13_7 : decode jdk_68_method_2_code 7 = .ok (.ifCond .eq 18, 3) := by decide +kernel
theorem own13_10 : decode jdk_68_method_2_code 10 = .ok (.aload_n 0, 1) := by decide +kernel
theorem own13_11 : decode jdk_68_method_2_code 11 = .ok (.iload_n 1, 1) := by decide +kernel
theorem own13_12 : decode jdk_68_method_2_code 12 = .ok (.newarray .byte, 2) := by decide +kernel
theorem own13_14 : decode jdk_68_method_2_code 14 = .ok (.putfield 15, 3) := by decide +kernel
theorem own13_17 : decode jdk_68_method_2_code 17 = .ok (.aload_n 0, 1) := by decide +kernel
theorem own13_18 : decode jdk_68_method_2_code 18 = .ok (.iconst 0, 1) := by decide +kernel
theorem own13_19 : decode jdk_68_method_2_code 19 = .ok (.putfield 22, 3) := by decide +kernel
theorem own13_22 : decode jdk_68_method_2_code 22 = .ok (.goto 16, 3) := by decide +kernel
theorem own13_38 : decode jdk_68_method_2_code 38 = .ok (.return_, 1) := by decide +kernel
theorem own_pn_java_lang_AbstractStringBuilder : plainName "java/lang/AbstractStringBuilder" = true := by first | (simp [plainName, overriddenIn]; done) | decide +kernel
def Q_ai (Z : State) (a1 : Addr) (cs : Int32) (h0 : Heap) (n0 : Nat) (v : Option Value) (h : Heap) (L : List Loc) : Prop := v = none ∧ Fr n0 L ∧ Keep h0 h [a1] ∧ ∃ (b : Addr) (k : ClassId), h0.size ≤ b ∧ Fld Z h a1 "java/lang/AbstractStringBuilder" "value" "[B" (.ref b) ∧ Fld Z h a1 "java/lang/AbstractStringBuilder" "coder" "B" (.int (0 : Int32)) ∧ Fld Z h a1 "java/lang/AbstractStringBuilder" "count" "I" (.int (0 : Int32)) ∧ Arv Z h b k .byte (16 : Int32) [(.int (0 : Int32)), (.int (0 : Int32)), (.int (0 : Int32)), (.int (0 : Int32)), (.int (0 : Int32)), (.int (0 : Int32)), (.int (0 : Int32)), (.int (0 : Int32)), (.int (0 : Int32)), (.int (0 : Int32)), (.int (0 : Int32)), (.int (0 : Int32)), (.int (0 : Int32)), (.int (0 : Int32)), (.int (0 : Int32)), (.int (0 : Int32))] (.int (0 : Int32))
set_option maxRecDepth 65536 in
set_option maxHeartbeats 40000000 in
theorem rm_ai (l : Launch) (Z : State) (a0 : Array Value) (hw : ∀ d ∈ tables_1, d.before a0 Z = true) (ws : List Jvm.Cond) (a1 : Addr) (cs : Int32) (h0 : Heap) (n0 : Nat) (Z0 : n0 ≤ h0.size) (S_C : Sta Z h0 "java/lang/String" "COMPACT_STRINGS" "Z" (.int cs)) (hcs : ¬ cs = 0) (u1 u2 : Value) (E_a1 : Exa Z h0 a1 "java/lang/StringBuilder") (F_v : Fld Z h0 a1 "java/lang/AbstractStringBuilder" "value" "[B" u1) (F_c : Fld Z h0 a1 "java/lang/AbstractStringBuilder" "coder" "B" u2) (F_n : Fld Z h0 a1 "java/lang/AbstractStringBuilder" "count" "I" (.int (0 : Int32))) (z_a1 : n0 ≤ a1) : own_Met l Z ⟨"java/lang/AbstractStringBuilder", "<init>", "(I)V"⟩ jdk_68_method_2_code 2 none ws ⟨1, 1, 16, 17⟩ #[(.ref a1), (.int (16 : Int32))] h0 (Q_ai Z a1 cs h0 n0) := by
  refine own_met n0 own_pn_java_lang_AbstractStringBuilder (fun m => ef2RI m a1 (16 : Int32)) ?_
  intro p e s m below meth c T lc hret hx hZ hby hml hown hnm hlk X eT N
  have Kp : Keep h0 h0 [a1] := Keep.refl _ _
  refine own_aloadN X hx (hb hby own13_0) (pc' := 1) rfl rfl rfl ?_
  refine own_initO X hx hZ hown (own_w hw 42 rfl) (own_w hw 16 rfl) (own_w hw 17 rfl) eT (by rw [hml]; rfl) (hb hby own13_1) (pc' := 4) rfl (by decide) (W := 0) (Nat.le_of_eq rfl) (by decide) ?_
  intro T X eT
  refine own_getS X hx hZ hown (host := "") (Or.inl (own_w hw 43 rfl)) Via.refl eT S_C (hb hby own13_4) (pc' := 7) rfl ?_
  intro T X eT
  refine own_ifN X hx (hb hby own13_7) (pc' := 10) rfl (show ¬ (cs = (0 : Int32)) from hcs) ?_
  refine own_aloadN X hx (hb hby own13_10) (pc' := 11) rfl rfl rfl ?_
  refine own_iloadN X hx (hb hby own13_11) (pc' := 12) rfl rfl ?_
  refine own_newarr X hx hZ (own_w hw 19 rfl) eT (hb hby own13_12) (pc' := 14) rfl (by decide) 16 (by decide) (by decide) (cells' := 1) (slots' := 16) rfl rfl (by decide) (by decide) ?_
  intro T h1 k_b1 b1 X eT E gb1 A_b1
  have lt_a1_b1 : a1 < b1 := Nat.lt_of_lt_of_le E_a1.lt (Nat.le_of_eq gb1.symm)
  have ne_a1_b1 : a1 ≠ b1 := Nat.ne_of_lt lt_a1_b1
  have z_b1 : n0 ≤ b1 := Nat.le_trans Z0 (Nat.le_of_eq gb1.symm)
  have s_b1 : h0.size ≤ b1 := Nat.le_trans Kp.1 (Nat.le_of_eq gb1.symm)
  have S_C := S_C.ext E
  have E_a1 := E_a1.ext E
  have F_v := F_v.ext E
  have F_c := F_c.ext E
  have F_n := F_n.ext E
  have Z0 := Nat.le_trans Z0 E.1
  have Kp := Kp.ext E
  have A_b1 : Arv Z h1 b1 k_b1 .byte (16 : Int32) [(.int (0 : Int32)), (.int (0 : Int32)), (.int (0 : Int32)), (.int (0 : Int32)), (.int (0 : Int32)), (.int (0 : Int32)), (.int (0 : Int32)), (.int (0 : Int32)), (.int (0 : Int32)), (.int (0 : Int32)), (.int (0 : Int32)), (.int (0 : Int32)), (.int (0 : Int32)), (.int (0 : Int32)), (.int (0 : Int32)), (.int (0 : Int32))] (.int (0 : Int32)) := A_b1.pad (pad_rep [] (.int (0 : Int32)) 16)
  refine own_putF X hx hZ hown (own_w hw 44 rfl) Via.refl eT F_v E_a1 (Or.inl (own_w hw 45 rfl)) (own_w hw 31 rfl) (ty := (.array .byte)) (v' := (.ref b1)) (by decide) rfl rfl (hb hby own13_14) (pc' := 17) rfl ?_
  intro T h2 lc X eT Wq fN
  have F_v := F_v.same Wq
  have S_C := S_C.wr Wq
  have E_a1 := E_a1.wr Wq
  have F_c := F_c.other Wq (Or.inr (slot_ne (Or.inl (own_w hw 47 rfl)) (Or.inl (own_w hw 45 rfl)) (by decide) (t := .byte) (t' := (.array .byte)) (by decide) (by decide)))
  have F_n := F_n.other Wq (Or.inr (slot_ne (Or.inl (own_w hw 70 rfl)) (Or.inl (own_w hw 45 rfl)) (by decide) (t := .int) (t' := (.array .byte)) (by decide) (by decide)))
  have A_b1 := A_b1.other Wq (Ne.symm ne_a1_b1)
  have Z0 := Nat.le_trans Z0 (Keep.of_wr Wq).1
  have N := fN _ z_a1 N
  have Kp := Kp.wr Wq (Or.inl (List.mem_of_getElem? (i := 0) rfl))
  refine own_aloadN X hx (hb hby own13_17) (pc' := 18) rfl rfl rfl ?_
  refine own_iconst X hx (0 : Int32) (hb hby own13_18) (pc' := 19) rfl rfl ?_
  refine own_putF X hx hZ hown (own_w hw 46 rfl) Via.refl eT F_c E_a1 (Or.inl (own_w hw 47 rfl)) (own_w hw 31 rfl) (ty := .byte) (v' := (.int (0 : Int32))) (by decide) rfl rfl (hb hby own13_19) (pc' := 22) rfl ?_
  intro T h3 lc X eT Wq fN
  have F_c := F_c.same Wq
  have S_C := S_C.wr Wq
  have E_a1 := E_a1.wr Wq
  have F_n := F_n.other Wq (Or.inr (slot_ne (Or.inl (own_w hw 70 rfl)) (Or.inl (own_w hw 47 rfl)) (by decide) (t := .int) (t' := .byte) (by decide) (by decide)))
  have A_b1 := A_b1.other Wq (Ne.symm ne_a1_b1)
  have F_v := F_v.other Wq (Or.inr (slot_ne (Or.inl (own_w hw 45 rfl)) (Or.inl (own_w hw 47 rfl)) (by decide) (t := (.array .byte)) (t' := .byte) (by decide) (by decide)))
  have Z0 := Nat.le_trans Z0 (Keep.of_wr Wq).1
  have N := fN _ z_a1 N
  have Kp := Kp.wr Wq (Or.inl (List.mem_of_getElem? (i := 0) rfl))
  refine own_goto X hx (hb hby own13_22) (by decide) (pc' := 38) rfl ?_
  refine own_ret0 X hx hlk hret (hb hby own13_38) (by decide) (by decide) ?_
  rw [eT]
  exact ⟨rfl, N, Kp, b1, _, s_b1, F_v, F_c, F_n, A_b1⟩
theorem own14_0 : decode jdk_67_method_1_code 0 = .ok (.aload_n 0, 1) := by decide +kernel
theorem own14_1 : decode jdk_67_method_1_code 1 = .ok (.bipush 16, 2) := by decide +kernel
theorem own14_3 : decode jdk_67_method_1_code 3 = .ok (.invokespecial 1, 3) := by decide +kernel
theorem own_pd_28I29V : parseMethodDescriptor "(I)V" = some ⟨[.int], none⟩ := by decide +kernel
theorem own14_6 : decode jdk_67_method_1_code 6 = .ok (.return_, 1) := by decide +kernel
theorem own_pn_java_lang_StringBuilder : plainName "java/lang/StringBuilder" = true := by first | (simp [plainName, overriddenIn]; done) | decide +kernel
def Q_si (Z : State) (a1 : Addr) (cs : Int32) (h0 : Heap) (n0 : Nat) (v : Option Value) (h : Heap) (L : List Loc) : Prop := v = none ∧ Fr n0 L ∧ Keep h0 h [a1] ∧ ∃ (b : Addr) (k : ClassId), h0.size ≤ b ∧ Fld Z h a1 "java/lang/AbstractStringBuilder" "value" "[B" (.ref b) ∧ Fld Z h a1 "java/lang/AbstractStringBuilder" "coder" "B" (.int (0 : Int32)) ∧ Fld Z h a1 "java/lang/AbstractStringBuilder" "count" "I" (.int (0 : Int32)) ∧ Arv Z h b k .byte (16 : Int32) [(.int (0 : Int32)), (.int (0 : Int32)), (.int (0 : Int32)), (.int (0 : Int32)), (.int (0 : Int32)), (.int (0 : Int32)), (.int (0 : Int32)), (.int (0 : Int32)), (.int (0 : Int32)), (.int (0 : Int32)), (.int (0 : Int32)), (.int (0 : Int32)), (.int (0 : Int32)), (.int (0 : Int32)), (.int (0 : Int32)), (.int (0 : Int32))] (.int (0 : Int32))
set_option maxRecDepth 65536 in
set_option maxHeartbeats 40000000 in
theorem rm_si (l : Launch) (Z : State) (a0 : Array Value) (hw : ∀ d ∈ tables_1, d.before a0 Z = true) (ws : List Jvm.Cond) (a1 : Addr) (cs : Int32) (h0 : Heap) (n0 : Nat) (Z0 : n0 ≤ h0.size) (S_C : Sta Z h0 "java/lang/String" "COMPACT_STRINGS" "Z" (.int cs)) (hcs : ¬ cs = 0) (u1 u2 : Value) (E_a1 : Exa Z h0 a1 "java/lang/StringBuilder") (F_v : Fld Z h0 a1 "java/lang/AbstractStringBuilder" "value" "[B" u1) (F_c : Fld Z h0 a1 "java/lang/AbstractStringBuilder" "coder" "B" u2) (F_n : Fld Z h0 a1 "java/lang/AbstractStringBuilder" "count" "I" (.int (0 : Int32))) (z_a1 : n0 ≤ a1) : own_Met l Z ⟨"java/lang/StringBuilder", "<init>", "()V"⟩ jdk_67_method_1_code 1 none ws ⟨2, 1, 16, 35⟩ #[(.ref a1)] h0 (Q_si Z a1 cs h0 n0) := by
  refine own_met n0 own_pn_java_lang_StringBuilder (fun m => ef1R m a1) ?_
  intro p e s m below meth c T lc hret hx hZ hby hml hown hnm hlk X eT N
  refine own_aloadN X hx (hb hby own14_0) (pc' := 1) rfl rfl rfl ?_
  refine own_bipush X hx (16 : Int32) (hb hby own14_1) (pc' := 3) rfl rfl ?_
  refine own_callN X hx hZ a1 [(.int (16 : Int32))] rfl hown (own_w hw 36 rfl) (own_w hw 37 rfl) (own_w hw 40 rfl) (own_w hw 41 rfl) (by decide) (rm_ai l Z a0 hw [] a1 cs h0 n0 Z0 S_C hcs _ _ E_a1 F_v F_c F_n z_a1) eT (W := 0) (by decide) (by decide) (cells' := 1) (slots' := 16) rfl rfl (by decide) (by decide) (by rw [hml]; rfl) (lenOf own_pd_28I29V rfl) rfl (S := []) rfl (Nat.le_of_eq rfl) (hb hby own14_3) (pc' := 6) rfl ?_
  intro v T h1 L lc X eT hq fN
  obtain ⟨rfl, Nq, Kq, bb, kb, hbb, F_v2, F_c2, F_n2, A_bb⟩ := hq
  have N := fN _ N Nq
  show own_W _ _ _ _ _ _ _ _ []
  refine own_ret0 X hx hlk hret (hb hby own14_6) (by decide) (by decide) ?_
  rw [eT]
  exact ⟨rfl, N, Kq, bb, kb, hbb, F_v2, F_c2, F_n2, A_bb⟩
theorem own15_0 : decode jdk_68_method_9_code 0 = .ok (.aload_n 0, 1) := by decide +kernel
theorem own15_1 : decode jdk_68_method_9_code 1 = .ok (.getfield 15, 3) := by decide +kernel
theorem own15_4 : decode jdk_68_method_9_code 4 = .ok (.arraylength, 1) := by decide +kernel
theorem own15_5 : decode jdk_68_method_9_code 5 = .ok (.aload_n 0, 1) := by decide +kernel
theorem own15_6 : decode jdk_68_method_9_code 6 = .ok (.getfield 22, 3) := by decide +kernel
theorem own15_9 : decode jdk_68_method_9_code 9 = .ok (.ishr, 1) := by decide +kernel
theorem own15_10 : decode jdk_68_method_9_code 10 = .ok (.istore_n 2, 1) := by decide +kernel
theorem own15_11 : decode jdk_68_method_9_code 11 = .ok (.iload_n 1, 1) := by decide +kernel
theorem own15_12 : decode jdk_68_method_9_code 12 = .ok (.iload_n 2, 1) := by decide +kernel
theorem own15_13 : decode jdk_68_method_9_code 13 = .ok (.isub, 1) := by decide +kernel
theorem own15_14 : decode jdk_68_method_9_code 14 = .ok (.ifCond .le 24, 3) := by decide +kernel
theorem own15_38 : decode jdk_68_method_9_code 38 = .ok (.return_, 1) := by decide +kernel
theorem ef3RI (m : MethodId) (x0 : Addr) (x1 : Int32) : entryFrame m #[(.ref x0), (.int x1)] 3 = mkF m 0 #[.val (.ref x0), .val (.int x1), .unset] [] := by first | (simp [entryFrame, mkF, argsToLocals, Value.category]; done) | rfl
def Q_en (Z : State) (sb bv : Addr) (p1 cc : Int32) (gs : List Value) (h0 : Heap) (n0 : Nat) (v : Option Value) (h : Heap) (L : List Loc) : Prop := v = none ∧ Fr n0 L ∧ h = h0
set_option maxRecDepth 65536 in
set_option maxHeartbeats 40000000 in
theorem rm_en (l : Launch) (Z : State) (a0 : Array Value) (hw : ∀ d ∈ tables_1, d.before a0 Z = true) (ws : List Jvm.Cond) (sb bv : Addr) (p1 cc : Int32) (gs : List Value) (h0 : Heap) (n0 : Nat) (Z0 : n0 ≤ h0.size) (E_b : Exa Z h0 sb "java/lang/StringBuilder") (N_b : Fld Z h0 sb "java/lang/AbstractStringBuilder" "count" "I" (.int cc)) (C_b : Fld Z h0 sb "java/lang/AbstractStringBuilder" "coder" "B" (.int (0 : Int32))) (V_b : Fld Z h0 sb "java/lang/AbstractStringBuilder" "value" "[B" (.ref bv)) (kv : ClassId) (A_v : Arv Z h0 bv kv .byte (16 : Int32) gs (.int (0 : Int32))) (hcap : ¬ (0 : Int32) < p1 - (16 : Int32)) : own_Met l Z ⟨"java/lang/AbstractStringBuilder", "ensureCapacityInternal", "(I)V"⟩ jdk_68_method_9_code 3 none ws ⟨0, 0, 0, 0⟩ #[(.ref sb), (.int p1)] h0 (Q_en Z sb bv p1 cc gs h0 n0) := by
  refine own_met n0 own_pn_java_lang_AbstractStringBuilder (fun m => ef3RI m sb p1) ?_
  intro p e s m below meth c T lc hret hx hZ hby hml hown hnm hlk X eT N
  refine own_aloadN X hx (hb hby own15_0) (pc' := 1) rfl rfl rfl ?_
  refine own_getF X hx hZ hown (host := "") (Or.inl (own_w hw 44 rfl)) Via.refl eT V_b (hb hby own15_1) (pc' := 4) rfl ?_
  intro T X eT
  refine own_arrlen X hx hZ eT A_v (hb hby own15_4) (pc' := 5) rfl ?_
  refine own_aloadN X hx (hb hby own15_5) (pc' := 6) rfl rfl rfl ?_
  refine own_getF X hx hZ hown (host := "") (Or.inl (own_w hw 46 rfl)) Via.refl eT C_b (hb hby own15_6) (pc' := 9) rfl ?_
  intro T X eT
  refine own_ishr X hx (hb hby own15_9) (pc' := 10) rfl ?_
  rw [show ((16 : Int32) >>> ((0 : Int32) &&& 31)) = (16 : Int32) from by decide]
  refine own_istoreN X hx (hb hby own15_10) (pc' := 11) rfl (Ls' := #[.val (.ref sb), .val (.int p1), .val (.int (16 : Int32))]) rfl ?_
  refine own_iloadN X hx (hb hby own15_11) (pc' := 12) rfl rfl ?_
  refine own_iloadN X hx (hb hby own15_12) (pc' := 13) rfl rfl ?_
  refine own_isub X hx (hb hby own15_13) (pc' := 14) rfl ?_
  refine own_ifY X hx (hb hby own15_14) (by decide) (pc' := 38) rfl (show ¬ ((0 : Int32) < (p1 - (16 : Int32))) from hcap) ?_
  refine own_ret0 X hx hlk hret (hb hby own15_38) (by decide) (by decide) ?_
  rw [eT]
  exact ⟨rfl, N, rfl⟩
theorem own16_0 : decode jdk_68_method_71_code 0 = .ok (.getstatic 18, 3) := by decide +kernel
theorem own16_3 : decode jdk_68_method_71_code 3 = .ok (.ifCond .eq 18, 3) := by decide +kernel
theorem own16_6 : decode jdk_68_method_71_code 6 = .ok (.aload_n 0, 1) := by decide +kernel
theorem own16_7 : decode jdk_68_method_71_code 7 = .ok (.getfield 22, 3) := by decide +kernel
theorem own16_10 : decode jdk_68_method_71_code 10 = .ok (.aload_n 1, 1) := by decide +kernel
theorem own16_11 : decode jdk_68_method_71_code 11 = .ok (.invokevirtual 40, 3) := by decide +kernel
theorem own16_14 : decode jdk_68_method_71_code 14 = .ok (.if_icmp .eq 7, 3) := by decide +kernel
theorem own16_21 : decode jdk_68_method_71_code 21 = .ok (.return_, 1) := by decide +kernel
def Q_inf (Z : State) (sb a1 t1 : Addr) (cs kk : Int32) (vs : List Value) (h0 : Heap) (n0 : Nat) (v : Option Value) (h : Heap) (L : List Loc) : Prop := v = none ∧ Fr n0 L ∧ h = h0
set_option maxRecDepth 65536 in
set_option maxHeartbeats 40000000 in
theorem rm_inf (l : Launch) (Z : State) (a0 : Array Value) (hw : ∀ d ∈ tables_1, d.before a0 Z = true) (ws : List Jvm.Cond) (sb a1 t1 : Addr) (cs kk : Int32) (vs : List Value) (h0 : Heap) (n0 : Nat) (Z0 : n0 ≤ h0.size) (S_C : Sta Z h0 "java/lang/String" "COMPACT_STRINGS" "Z" (.int cs)) (hcs : ¬ cs = 0) (C_b : Fld Z h0 sb "java/lang/AbstractStringBuilder" "coder" "B" (.int (0 : Int32))) (E_1 : Exa Z h0 a1 "java/lang/String") (C_1 : Fld Z h0 a1 "java/lang/String" "coder" "B" (.int (0 : Int32))) (V_1 : Fld Z h0 a1 "java/lang/String" "value" "[B" (.ref t1)) (k_1 : ClassId) (A_1 : Arv Z h0 t1 k_1 .byte kk vs (.int (0 : Int32))) : own_Met l Z ⟨"java/lang/AbstractStringBuilder", "inflateIfNeededFor", "(Ljava/lang/String;)V"⟩ jdk_68_method_71_code 2 none ws ⟨1, 0, 0, 17⟩ #[(.ref sb), (.ref a1)] h0 (Q_inf Z sb a1 t1 cs kk vs h0 n0) := by
  refine own_met n0 own_pn_java_lang_AbstractStringBuilder (fun m => ef2RR m sb a1) ?_
  intro p e s m below meth c T lc hret hx hZ hby hml hown hnm hlk X eT N
  refine own_getS X hx hZ hown (host := "") (Or.inl (own_w hw 43 rfl)) Via.refl eT S_C (hb hby own16_0) (pc' := 3) rfl ?_
  intro T X eT
  refine own_ifN X hx (hb hby own16_3) (pc' := 6) rfl (show ¬ (cs = (0 : Int32)) from hcs) ?_
  refine own_aloadN X hx (hb hby own16_6) (pc' := 7) rfl rfl rfl ?_
  refine own_getF X hx hZ hown (host := "") (Or.inl (own_w hw 46 rfl)) Via.refl eT C_b (hb hby own16_7) (pc' := 10) rfl ?_
  intro T X eT
  refine own_aloadN X hx (hb hby own16_10) (pc' := 11) rfl rfl rfl ?_
  refine own_callV X hx hZ (y := (⟨"java/lang/String", "coder", "()B"⟩ : MethodName)) a1 [] hown (own_w hw 86 rfl) (own_w hw 64 rfl) (own_w hw 66 rfl) (own_w hw 65 rfl) (own_w hw 6 rfl) (own_w hw 67 rfl) (by decide) (rm_coder l Z a0 hw [] a1 cs h0 n0 Z0 S_C hcs C_1) E_1 eT (W := 1) (by decide) (by decide) (cells' := 0) (slots' := 0) rfl rfl (by decide) (by decide) (by rw [hml]; rfl) (lenOf own_pd_2829B rfl) rfl (S := [(.int (0 : Int32))]) rfl (Nat.le_of_eq rfl) (hb hby own16_11) (pc' := 14) rfl ?_
  intro v T h1 L lc X eT hq fN
  obtain ⟨rfl, Nq, hqe⟩ := hq
  have N := fN _ N Nq
  rw [hqe] at eT
  show own_W _ _ _ _ _ _ _ _ [(.int (0 : Int32)), (.int (0 : Int32))]
  refine own_icmpY X hx (hb hby own16_14) (by decide) (pc' := 21) rfl (show (0 : Int32) = (0 : Int32) from (by decide)) ?_
  refine own_ret0 X hx hlk hret (hb hby own16_21) (by decide) (by decide) ?_
  rw [eT]
  exact ⟨rfl, N, rfl⟩
theorem own17_0 : decode jdk_42_method_147_code 0 = .ok (.aload_n 0, 1) := by decide +kernel
theorem own17_1 : decode jdk_42_method_147_code 1 = .ok (.invokevirtual 335, 3) := by decide +kernel
theorem own17_4 : decode jdk_42_method_147_code 4 = .ok (.iload_n 3, 1) := by decide +kernel
theorem own17_5 : decode jdk_42_method_147_code 5 = .ok (.if_icmp .ne 23, 3) := by decide +kernel
theorem own17_8 : decode jdk_42_method_147_code 8 = .ok (.aload_n 0, 1) := by decide +kernel
theorem own17_9 : decode jdk_42_method_147_code 9 = .ok (.getfield 9, 3) := by decide +kernel
theorem own17_12 : decode jdk_42_method_147_code 12 = .ok (.iconst 0, 1) := by decide +kernel
theorem own17_13 : decode jdk_42_method_147_code 13 = .ok (.aload_n 1, 1) := by decide +kernel
theorem own17_14 : decode jdk_42_method_147_code 14 = .ok (.iload_n 2, 1) := by decide +kernel
theorem own17_15 : decode jdk_42_method_147_code 15 = .ok (.iload_n 3, 1) := by decide +kernel
theorem own17_16 : decode jdk_42_method_147_code 16 = .ok (.ishl, 1) := by decide +kernel
theorem own17_17 : decode jdk_42_method_147_code 17 = .ok (.aload_n 0, 1) := by decide +kernel
theorem own17_18 : decode jdk_42_method_147_code 18 = .ok (.getfield 9, 3) := by decide +kernel
theorem own17_21 : decode jdk_42_method_147_code 21 = .ok (.arraylength, 1) := by decide +kernel
theorem own17_22 : decode jdk_42_method_147_code 22 = .ok (.invokestatic 212, 3) := by decide +kernel
theorem own17_25 : decode jdk_42_method_147_code 25 = .ok (.goto 18, 3) := by decide +kernel
theorem own17_43 : decode jdk_42_method_147_code 43 = .ok (.return_, 1) := by decide +kernel
theorem ef4RRII (m : MethodId) (x0 : Addr) (x1 : Addr) (x2 : Int32) (x3 : Int32) : entryFrame m #[(.ref x0), (.ref x1), (.int x2), (.int x3)] 4 = mkF m 0 #[.val (.ref x0), .val (.ref x1), .val (.int x2), .val (.int x3)] [] := by first | (simp [entryFrame, mkF, argsToLocals, Value.category]; done) | rfl
def Q_gb (Z : State) (a1 t1 bv : Addr) (cs cc kk ck : Int32) (cN k : Nat) (vs gs gs' : List Value) (kv : ClassId) (h0 : Heap) (n0 : Nat) (v : Option Value) (h : Heap) (L : List Loc) : Prop := v = none ∧ Fr n0 L ∧ Keep h0 h [bv] ∧ Arv Z h bv kv .byte (16 : Int32) gs' (.int (0 : Int32))
set_option maxRecDepth 65536 in
set_option maxHeartbeats 40000000 in
theorem rm_gb (l : Launch) (Z : State) (a0 : Array Value) (hw : ∀ d ∈ tables_1, d.before a0 Z = true) (ws : List Jvm.Cond) (a1 t1 bv : Addr) (cs cc kk ck : Int32) (cN k : Nat) (vs gs gs' : List Value) (kv : ClassId) (h0 : Heap) (n0 : Nat) (Z0 : n0 ≤ h0.size) (S_C : Sta Z h0 "java/lang/String" "COMPACT_STRINGS" "Z" (.int cs)) (hcs : ¬ cs = 0) (E_1 : Exa Z h0 a1 "java/lang/String") (C_1 : Fld Z h0 a1 "java/lang/String" "coder" "B" (.int (0 : Int32))) (V_1 : Fld Z h0 a1 "java/lang/String" "value" "[B" (.ref t1)) (k_1 : ClassId) (A_1 : Arv Z h0 t1 k_1 .byte kk vs (.int (0 : Int32))) (A_v : Arv Z h0 bv kv .byte (16 : Int32) gs (.int (0 : Int32))) (z_bv : n0 ≤ bv) (hav : a1 ≠ bv) (hbv : t1 ≠ bv) (hA : own_App cc kk ck cN k vs gs gs') : own_Met l Z ⟨"java/lang/String", "getBytes", "([BIB)V"⟩ jdk_42_method_147_code 4 none ws ⟨1, 0, 0, 45⟩ #[(.ref a1), (.ref bv), (.int cc), (.int (0 : Int32))] h0 (Q_gb Z a1 t1 bv cs cc kk ck cN k vs gs gs' kv h0 n0) := by
  refine own_met n0 own_pn_java_lang_String (fun m => ef4RRII m a1 bv cc (0 : Int32)) ?_
  intro p e s m below meth c T lc hret hx hZ hby hml hown hnm hlk X eT N
  have Kp : Keep h0 h0 [bv] := Keep.refl _ _
  refine own_aloadN X hx (hb hby own17_0) (pc' := 1) rfl rfl rfl ?_
  refine own_callV X hx hZ (y := (⟨"java/lang/String", "coder", "()B"⟩ : MethodName)) a1 [] hown (own_w hw 63 rfl) (own_w hw 64 rfl) (own_w hw 66 rfl) (own_w hw 65 rfl) (own_w hw 6 rfl) (own_w hw 67 rfl) (by decide) (rm_coder l Z a0 hw [] a1 cs h0 n0 Z0 S_C hcs C_1) E_1 eT (W := 0) (by decide) (by decide) (cells' := 0) (slots' := 0) rfl rfl (by decide) (by decide) (by rw [hml]; rfl) (lenOf own_pd_2829B rfl) rfl (S := []) rfl (Nat.le_of_eq rfl) (hb hby own17_1) (pc' := 4) rfl ?_
  intro v T h1 L lc X eT hq fN
  obtain ⟨rfl, Nq, hqe⟩ := hq
  have N := fN _ N Nq
  rw [hqe] at eT
  show own_W _ _ _ _ _ _ _ _ [(.int (0 : Int32))]
  refine own_iloadN X hx (hb hby own17_4) (pc' := 5) rfl rfl ?_
  refine own_icmpN X hx (hb hby own17_5) (pc' := 8) rfl (show (0 : Int32) = (0 : Int32) from (by decide)) ?_
  refine own_aloadN X hx (hb hby own17_8) (pc' := 9) rfl rfl rfl ?_
  refine own_getF X hx hZ hown (host := "") (Or.inl (own_w hw 24 rfl)) Via.refl eT V_1 (hb hby own17_9) (pc' := 12) rfl ?_
  intro T X eT
  refine own_iconst X hx (0 : Int32) (hb hby own17_12) (pc' := 13) rfl rfl ?_
  refine own_aloadN X hx (hb hby own17_13) (pc' := 14) rfl rfl rfl ?_
  refine own_iloadN X hx (hb hby own17_14) (pc' := 15) rfl rfl ?_
  refine own_iloadN X hx (hb hby own17_15) (pc' := 16) rfl rfl ?_
  refine own_ishl X hx (hb hby own17_16) (pc' := 17) rfl ?_
  rw [hA.2.2.1]
  refine own_aloadN X hx (hb hby own17_17) (pc' := 18) rfl rfl rfl ?_
  refine own_getF X hx hZ hown (host := "") (Or.inl (own_w hw 24 rfl)) Via.refl eT V_1 (hb hby own17_18) (pc' := 21) rfl ?_
  intro T X eT
  refine own_arrlen X hx hZ eT A_1 (hb hby own17_21) (pc' := 22) rfl ?_
  refine own_acopy X hx hZ hown (own_w hw 92 rfl) (own_w hw 95 rfl) (own_w hw 93 rfl) (own_w hw 94 rfl) eT A_1 A_v rfl rfl 0 cN k rfl hA.2.2.2.1 hA.2.2.2.2.1 hA.2.2.2.2.2.1 hA.2.2.2.2.2.2.1 hA.2.2.2.2.2.2.2.1 hA.2.2.2.2.2.2.2.2.1 hA.2.2.2.2.2.2.2.2.2 (by rw [hml]; rfl) (hb hby own17_22) (pc' := 25) rfl (W := 0) (Nat.le_of_eq rfl) (by decide) (by decide) ?_
  intro T h2 lc X eT Kq A_vn fN
  have S_C := own_sta_keep S_C Kq (nsS (own_ns_arv A_v) ns0)
  have E_1 := E_1.keep Kq
  have C_1 := C_1.keep Kq (ninS hav nin0)
  have V_1 := V_1.keep Kq (ninS hav nin0)
  have A_1 := A_1.keep Kq (ninS hbv nin0)
  have Z0 := Nat.le_trans Z0 Kq.1
  have A_v := A_vn
  have N := fN _ z_bv N
  have Kp := Kp.trans Kq (allS (P := fun x => x ∈ ([bv] : List Addr) ∨ h0.size ≤ x) (Or.inl (List.mem_of_getElem? (i := 0) rfl)) all0)
  refine own_goto X hx (hb hby own17_25) (by decide) (pc' := 43) rfl ?_
  refine own_ret0 X hx hlk hret (hb hby own17_43) (by decide) (by decide) ?_
  rw [eT]
  exact ⟨rfl, N, Kp, A_v⟩
theorem own18_0 : decode jdk_68_method_73_code 0 = .ok (.aload_n 0, 1) := by decide +kernel
theorem own18_1 : decode jdk_68_method_73_code 1 = .ok (.aload_n 2, 1) := by decide +kernel
theorem own18_2 : decode jdk_68_method_73_code 2 = .ok (.invokevirtual 397, 3) := by decide +kernel
theorem own_pd_28Ljava2flang2fString3b29V : parseMethodDescriptor "(Ljava/lang/String;)V" = some ⟨[(.object "java/lang/String")], none⟩ := by decide +kernel
theorem own18_5 : decode jdk_68_method_73_code 5 = .ok (.aload_n 2, 1) := by decide +kernel
theorem own18_6 : decode jdk_68_method_73_code 6 = .ok (.aload_n 0, 1) := by decide +kernel
theorem own18_7 : decode jdk_68_method_73_code 7 = .ok (.getfield 15, 3) := by decide +kernel
theorem own18_10 : decode jdk_68_method_73_code 10 = .ok (.iload_n 1, 1) := by decide +kernel
theorem own18_11 : decode jdk_68_method_73_code 11 = .ok (.aload_n 0, 1) := by decide +kernel
theorem own18_12 : decode jdk_68_method_73_code 12 = .ok (.getfield 22, 3) := by decide +kernel
theorem own18_15 : decode jdk_68_method_73_code 15 = .ok (.invokevirtual 399, 3) := by decide +kernel
theorem own_pd_285bBIB29V : parseMethodDescriptor "([BIB)V" = some ⟨[(.array .byte), .int, .byte], none⟩ := by decide +kernel
theorem own18_18 : decode jdk_68_method_73_code 18 = .ok (.return_, 1) := by decide +kernel
theorem ef3RIR (m : MethodId) (x0 : Addr) (x1 : Int32) (x2 : Addr) : entryFrame m #[(.ref x0), (.int x1), (.ref x2)] 3 = mkF m 0 #[.val (.ref x0), .val (.int x1), .val (.ref x2)] [] := by first | (simp [entryFrame, mkF, argsToLocals, Value.category]; done) | rfl
def Q_ps (Z : State) (sb bv a1 t1 : Addr) (cs cc kk ck : Int32) (cN k : Nat) (vs gs gs' : List Value) (kv' : ClassId) (h0 : Heap) (n0 : Nat) (v : Option Value) (h : Heap) (L : List Loc) : Prop := v = none ∧ Fr n0 L ∧ Keep h0 h [bv] ∧ Arv Z h bv kv' .byte (16 : Int32) gs' (.int (0 : Int32))
set_option maxRecDepth 65536 in
set_option maxHeartbeats 40000000 in
theorem rm_ps (l : Launch) (Z : State) (a0 : Array Value) (hw : ∀ d ∈ tables_1, d.before a0 Z = true) (ws : List Jvm.Cond) (sb bv a1 t1 : Addr) (cs cc kk ck : Int32) (cN k : Nat) (vs gs gs' : List Value) (kv' : ClassId) (h0 : Heap) (n0 : Nat) (Z0 : n0 ≤ h0.size) (S_C : Sta Z h0 "java/lang/String" "COMPACT_STRINGS" "Z" (.int cs)) (hcs : ¬ cs = 0) (E_b : Exa Z h0 sb "java/lang/StringBuilder") (N_b : Fld Z h0 sb "java/lang/AbstractStringBuilder" "count" "I" (.int cc)) (C_b : Fld Z h0 sb "java/lang/AbstractStringBuilder" "coder" "B" (.int (0 : Int32))) (V_b : Fld Z h0 sb "java/lang/AbstractStringBuilder" "value" "[B" (.ref bv)) (A_v : Arv Z h0 bv kv' .byte (16 : Int32) gs (.int (0 : Int32))) (E_1 : Exa Z h0 a1 "java/lang/String") (C_1 : Fld Z h0 a1 "java/lang/String" "coder" "B" (.int (0 : Int32))) (V_1 : Fld Z h0 a1 "java/lang/String" "value" "[B" (.ref t1)) (k_1 : ClassId) (A_1 : Arv Z h0 t1 k_1 .byte kk vs (.int (0 : Int32))) (z_bv : n0 ≤ bv) (hav : a1 ≠ bv) (hbv : t1 ≠ bv) (hA : own_App cc kk ck cN k vs gs gs') : own_Met l Z ⟨"java/lang/AbstractStringBuilder", "putStringAt", "(ILjava/lang/String;)V"⟩ jdk_68_method_73_code 3 none ws ⟨2, 0, 0, 65⟩ #[(.ref sb), (.int cc), (.ref a1)] h0 (Q_ps Z sb bv a1 t1 cs cc kk ck cN k vs gs gs' kv' h0 n0) := by
  refine own_met n0 own_pn_java_lang_AbstractStringBuilder (fun m => ef3RIR m sb cc a1) ?_
  intro p e s m below meth c T lc hret hx hZ hby hml hown hnm hlk X eT N
  refine own_aloadN X hx (hb hby own18_0) (pc' := 1) rfl rfl rfl ?_
  refine own_aloadN X hx (hb hby own18_1) (pc' := 2) rfl rfl rfl ?_
  refine own_callP X hx hZ (y := (⟨"java/lang/AbstractStringBuilder", "inflateIfNeededFor", "(Ljava/lang/String;)V"⟩ : MethodName)) sb [(.ref a1)] hown (own_w hw 81 rfl) (own_w hw 83 rfl) (own_w hw 84 rfl) (own_w hw 82 rfl) (own_w hw 40 rfl) (own_w hw 85 rfl) (by decide) (rm_inf l Z a0 hw [] sb a1 t1 cs kk vs h0 n0 Z0 S_C hcs C_b E_1 C_1 V_1 _ A_1) E_b eT (W := 0) (by decide) (by decide) (cells' := 0) (slots' := 0) rfl rfl (by decide) (by decide) (by rw [hml]; rfl) (lenOf own_pd_28Ljava2flang2fString3b29V rfl) rfl (S := []) rfl (Nat.le_of_eq rfl) (hb hby own18_2) (pc' := 5) rfl ?_
  intro v T h1 L lc X eT hq fN
  obtain ⟨rfl, Nq, hqe⟩ := hq
  have N := fN _ N Nq
  rw [hqe] at eT
  show own_W _ _ _ _ _ _ _ _ []
  refine own_aloadN X hx (hb hby own18_5) (pc' := 6) rfl rfl rfl ?_
  refine own_aloadN X hx (hb hby own18_6) (pc' := 7) rfl rfl rfl ?_
  refine own_getF X hx hZ hown (host := "") (Or.inl (own_w hw 44 rfl)) Via.refl eT V_b (hb hby own18_7) (pc' := 10) rfl ?_
  intro T X eT
  refine own_iloadN X hx (hb hby own18_10) (pc' := 11) rfl rfl ?_
  refine own_aloadN X hx (hb hby own18_11) (pc' := 12) rfl rfl rfl ?_
  refine own_getF X hx hZ hown (host := "") (Or.inl (own_w hw 46 rfl)) Via.refl eT C_b (hb hby own18_12) (pc' := 15) rfl ?_
  intro T X eT
  refine own_callV X hx hZ (y := (⟨"java/lang/String", "getBytes", "([BIB)V"⟩ : MethodName)) a1 [(.ref bv), (.int cc), (.int (0 : Int32))] hown (own_w hw 87 rfl) (own_w hw 88 rfl) (own_w hw 90 rfl) (own_w hw 89 rfl) (own_w hw 6 rfl) (own_w hw 91 rfl) (by decide) (rm_gb l Z a0 hw [] a1 t1 bv cs cc kk ck cN k vs gs gs' _ h0 n0 Z0 S_C hcs E_1 C_1 V_1 _ A_1 A_v z_bv hav hbv hA) E_1 eT (W := 0) (by decide) (by decide) (cells' := 0) (slots' := 0) rfl rfl (by decide) (by decide) (by rw [hml]; rfl) (lenOf own_pd_285bBIB29V rfl) rfl (S := []) rfl (Nat.le_of_eq rfl) (hb hby own18_15) (pc' := 18) rfl ?_
  intro v T h2 L lc X eT hq fN
  obtain ⟨rfl, Nq, Kq, A_n⟩ := hq
  have N := fN _ N Nq
  show own_W _ _ _ _ _ _ _ _ []
  refine own_ret0 X hx hlk hret (hb hby own18_18) (by decide) (by decide) ?_
  rw [eT]
  exact ⟨rfl, N, Kq, A_n⟩
theorem own19_0 : decode jdk_68_method_22_code 0 = .ok (.aload_n 1, 1) := by decide +kernel
theorem own19_1 : decode jdk_68_method_22_code 1 = .ok (.ifnonnull 8, 3) := by decide +kernel
theorem own19_9 : decode jdk_68_method_22_code 9 = .ok (.aload_n 1, 1) := by decide +kernel
theorem own19_10 : decode jdk_68_method_22_code 10 = .ok (.invokevirtual 32, 3) := by decide +kernel
theorem own_pd_2829I : parseMethodDescriptor "()I" = some ⟨[], some .int⟩ := by decide +kernel
theorem own19_13 : decode jdk_68_method_22_code 13 = .ok (.istore_n 2, 1) := by decide +kernel
theorem own19_14 : decode jdk_68_method_22_code 14 = .ok (.aload_n 0, 1) := by decide +kernel
theorem own19_15 : decode jdk_68_method_22_code 15 = .ok (.aload_n 0, 1) := by decide +kernel
theorem own19_16 : decode jdk_68_method_22_code 16 = .ok (.getfield 79, 3) := by decide +kernel
theorem own19_19 : decode jdk_68_method_22_code 19 = .ok (.iload_n 2, 1) := by decide +kernel
theorem own19_20 : decode jdk_68_method_22_code 20 = .ok (.iadd, 1) := by decide +kernel
theorem own19_21 : decode jdk_68_method_22_code 21 = .ok (.invokevirtual 100, 3) := by decide +kernel
theorem own19_24 : decode jdk_68_method_22_code 24 = .ok (.aload_n 0, 1) := by decide +kernel
theorem own19_25 : decode jdk_68_method_22_code 25 = .ok (.aload_n 0, 1) := by decide +kernel
theorem own19_26 : decode jdk_68_method_22_code 26 = .ok (.getfield 79, 3) := by decide +kernel
theorem own19_29 : decode jdk_68_method_22_code 29 = .ok (.aload_n 1, 1) := by decide +kernel
theorem own19_30 : decode jdk_68_method_22_code 30 = .ok (.invokevirtual 208, 3) := by decide +kernel
theorem own_pd_28ILjava2flang2fString3b29V : parseMethodDescriptor "(ILjava/lang/String;)V" = some ⟨[.int, (.object "java/lang/String")], none⟩ := by decide +kernel
theorem own19_33 : decode jdk_68_method_22_code 33 = .ok (.aload_n 0, 1) := by decide +kernel
theorem own19_34 : decode jdk_68_method_22_code 34 = .ok (.dup, 1) := by decide +kernel
theorem own19_35 : decode jdk_68_method_22_code 35 = .ok (.getfield 79, 3) := by decide +kernel
theorem own19_38 : decode jdk_68_method_22_code 38 = .ok (.iload_n 2, 1) := by decide +kernel
theorem own19_39 : decode jdk_68_method_22_code 39 = .ok (.iadd, 1) := by decide +kernel
theorem own19_40 : decode jdk_68_method_22_code 40 = .ok (.putfield 79, 3) := by decide +kernel
theorem own19_43 : decode jdk_68_method_22_code 43 = .ok (.aload_n 0, 1) := by decide +kernel
theorem own19_44 : decode jdk_68_method_22_code 44 = .ok (.areturn, 1) := by decide +kernel
theorem ef3RR (m : MethodId) (x0 : Addr) (x1 : Addr) : entryFrame m #[(.ref x0), (.ref x1)] 3 = mkF m 0 #[.val (.ref x0), .val (.ref x1), .unset] [] := by first | (simp [entryFrame, mkF, argsToLocals, Value.category]; done) | rfl
def Q_aa (Z : State) (sb bv a1 t1 : Addr) (cs cc kk ck : Int32) (cN k : Nat) (vs gs gs' : List Value) (kv' : ClassId) (h0 : Heap) (n0 : Nat) (v : Option Value) (h : Heap) (L : List Loc) : Prop := v = some (.ref sb) ∧ Fr n0 L ∧ Keep h0 h [sb, bv] ∧ Fld Z h sb "java/lang/AbstractStringBuilder" "count" "I" (.int ck) ∧ Fld Z h sb "java/lang/AbstractStringBuilder" "coder" "B" (.int (0 : Int32)) ∧ Fld Z h sb "java/lang/AbstractStringBuilder" "value" "[B" (.ref bv) ∧ Arv Z h bv kv' .byte (16 : Int32) gs' (.int (0 : Int32))
set_option maxRecDepth 65536 in
set_option maxHeartbeats 40000000 in
theorem rm_aa (l : Launch) (Z : State) (a0 : Array Value) (hw : ∀ d ∈ tables_1, d.before a0 Z = true) (ws : List Jvm.Cond) (sb bv a1 t1 : Addr) (cs cc kk ck : Int32) (cN k : Nat) (vs gs gs' : List Value) (kv' : ClassId) (h0 : Heap) (n0 : Nat) (Z0 : n0 ≤ h0.size) (S_C : Sta Z h0 "java/lang/String" "COMPACT_STRINGS" "Z" (.int cs)) (hcs : ¬ cs = 0) (E_b : Exa Z h0 sb "java/lang/StringBuilder") (N_b : Fld Z h0 sb "java/lang/AbstractStringBuilder" "count" "I" (.int cc)) (C_b : Fld Z h0 sb "java/lang/AbstractStringBuilder" "coder" "B" (.int (0 : Int32))) (V_b : Fld Z h0 sb "java/lang/AbstractStringBuilder" "value" "[B" (.ref bv)) (A_v : Arv Z h0 bv kv' .byte (16 : Int32) gs (.int (0 : Int32))) (E_1 : Exa Z h0 a1 "java/lang/String") (C_1 : Fld Z h0 a1 "java/lang/String" "coder" "B" (.int (0 : Int32))) (V_1 : Fld Z h0 a1 "java/lang/String" "value" "[B" (.ref t1)) (k_1 : ClassId) (A_1 : Arv Z h0 t1 k_1 .byte kk vs (.int (0 : Int32))) (z_sb : n0 ≤ sb) (n1v : sb ≠ bv) (nas : a1 ≠ sb) (nbs : t1 ≠ sb) (z_bv : n0 ≤ bv) (hav : a1 ≠ bv) (hbv : t1 ≠ bv) (hA : own_App cc kk ck cN k vs gs gs') : own_Met l Z ⟨"java/lang/AbstractStringBuilder", "append", "(Ljava/lang/String;)Ljava/lang/AbstractStringBuilder;"⟩ jdk_68_method_22_code 3 (some (.object "java/lang/AbstractStringBuilder")) ws ⟨3, 0, 0, 84⟩ #[(.ref sb), (.ref a1)] h0 (Q_aa Z sb bv a1 t1 cs cc kk ck cN k vs gs gs' kv' h0 n0) := by
  refine own_met n0 own_pn_java_lang_AbstractStringBuilder (fun m => ef3RR m sb a1) ?_
  intro p e s m below meth c T lc hret hx hZ hby hml hown hnm hlk X eT N
  have Kp : Keep h0 h0 [sb, bv] := Keep.refl _ _
  refine own_aloadN X hx (hb hby own19_0) (pc' := 1) rfl rfl rfl ?_
  refine own_ifnonnullY X hx (hb hby own19_1) (by decide) (pc' := 9) rfl ?_
  refine own_aloadN X hx (hb hby own19_9) (pc' := 10) rfl rfl rfl ?_
  refine own_callV X hx hZ (y := (⟨"java/lang/String", "length", "()I"⟩ : MethodName)) a1 [] hown (own_w hw 58 rfl) (own_w hw 59 rfl) (own_w hw 61 rfl) (own_w hw 60 rfl) (own_w hw 6 rfl) (own_w hw 62 rfl) (by decide) (rm_len l Z a0 hw [] a1 t1 cs kk h0 n0 Z0 S_C hcs E_1 C_1 V_1 _ _ A_1) E_1 eT (W := 0) (by decide) (by decide) (cells' := 0) (slots' := 0) rfl rfl (by decide) (by decide) (by rw [hml]; rfl) (lenOf own_pd_2829I rfl) rfl (S := []) rfl (Nat.le_of_eq rfl) (hb hby own19_10) (pc' := 13) rfl ?_
  intro v T h1 L lc X eT hq fN
  obtain ⟨rfl, Nq, hqe⟩ := hq
  have N := fN _ N Nq
  rw [hqe] at eT
  show own_W _ _ _ _ _ _ _ _ [(.int kk)]
  refine own_istoreN X hx (hb hby own19_13) (pc' := 14) rfl (Ls' := #[.val (.ref sb), .val (.ref a1), .val (.int kk)]) rfl ?_
  refine own_aloadN X hx (hb hby own19_14) (pc' := 15) rfl rfl rfl ?_
  refine own_aloadN X hx (hb hby own19_15) (pc' := 16) rfl rfl rfl ?_
  refine own_getF X hx hZ hown (host := "") (Or.inl (own_w hw 69 rfl)) Via.refl eT N_b (hb hby own19_16) (pc' := 19) rfl ?_
  intro T X eT
  refine own_iloadN X hx (hb hby own19_19) (pc' := 20) rfl rfl ?_
  refine own_iadd X hx (hb hby own19_20) (pc' := 21) rfl ?_
  rw [hA.2.1]
  refine own_callP X hx hZ (y := (⟨"java/lang/AbstractStringBuilder", "ensureCapacityInternal", "(I)V"⟩ : MethodName)) sb [(.int ck)] hown (own_w hw 71 rfl) (own_w hw 73 rfl) (own_w hw 74 rfl) (own_w hw 72 rfl) (own_w hw 40 rfl) (own_w hw 75 rfl) (by decide) (rm_en l Z a0 hw [] sb bv ck cc gs h0 n0 Z0 E_b N_b C_b V_b _ A_v hA.1) E_b eT (W := 0) (by decide) (by decide) (cells' := 0) (slots' := 0) rfl rfl (by decide) (by decide) (by rw [hml]; rfl) (lenOf own_pd_28I29V rfl) rfl (S := []) rfl (Nat.le_of_eq rfl) (hb hby own19_21) (pc' := 24) rfl ?_
  intro v T h2 L lc X eT hq fN
  obtain ⟨rfl, Nq, hqe⟩ := hq
  have N := fN _ N Nq
  rw [hqe] at eT
  show own_W _ _ _ _ _ _ _ _ []
  refine own_aloadN X hx (hb hby own19_24) (pc' := 25) rfl rfl rfl ?_
  refine own_aloadN X hx (hb hby own19_25) (pc' := 26) rfl rfl rfl ?_
  refine own_getF X hx hZ hown (host := "") (Or.inl (own_w hw 69 rfl)) Via.refl eT N_b (hb hby own19_26) (pc' := 29) rfl ?_
  intro T X eT
  refine own_aloadN X hx (hb hby own19_29) (pc' := 30) rfl rfl rfl ?_
  refine own_callP X hx hZ (y := (⟨"java/lang/AbstractStringBuilder", "putStringAt", "(ILjava/lang/String;)V"⟩ : MethodName)) sb [(.int cc), (.ref a1)] hown (own_w hw 76 rfl) (own_w hw 78 rfl) (own_w hw 79 rfl) (own_w hw 77 rfl) (own_w hw 40 rfl) (own_w hw 80 rfl) (by decide) (rm_ps l Z a0 hw [] sb bv a1 t1 cs cc kk ck cN k vs gs gs' kv' h0 n0 Z0 S_C hcs E_b N_b C_b V_b A_v E_1 C_1 V_1 _ A_1 z_bv hav hbv hA) E_b eT (W := 0) (by decide) (by decide) (cells' := 0) (slots' := 0) rfl rfl (by decide) (by decide) (by rw [hml]; rfl) (lenOf own_pd_28ILjava2flang2fString3b29V rfl) rfl (S := []) rfl (Nat.le_of_eq rfl) (hb hby own19_30) (pc' := 33) rfl ?_
  intro v T h3 L lc X eT hq fN
  obtain ⟨rfl, Nq, Kq, A_n⟩ := hq
  have N := fN _ N Nq
  have S_C := own_sta_keep S_C Kq (nsS (own_ns_arv A_v) ns0)
  have E_b := E_b.keep Kq
  have N_b := N_b.keep Kq (ninS n1v nin0)
  have C_b := C_b.keep Kq (ninS n1v nin0)
  have V_b := V_b.keep Kq (ninS n1v nin0)
  have E_1 := E_1.keep Kq
  have C_1 := C_1.keep Kq (ninS hav nin0)
  have V_1 := V_1.keep Kq (ninS hav nin0)
  have A_1 := A_1.keep Kq (ninS hbv nin0)
  have Z0 := Nat.le_trans Z0 Kq.1
  have Kp := Kp.trans Kq (allS (P := fun x => x ∈ ([sb, bv] : List Addr) ∨ h0.size ≤ x) (Or.inl (List.mem_of_getElem? (i := 1) rfl)) all0)
  have A_v := A_n
  show own_W _ _ _ _ _ _ _ _ []
  refine own_aloadN X hx (hb hby own19_33) (pc' := 34) rfl rfl rfl ?_
  refine own_dup X hx (hb hby own19_34) (pc' := 35) rfl rfl ?_
  refine own_getF X hx hZ hown (host := "") (Or.inl (own_w hw 69 rfl)) Via.refl eT N_b (hb hby own19_35) (pc' := 38) rfl ?_
  intro T X eT
  refine own_iloadN X hx (hb hby own19_38) (pc' := 39) rfl rfl ?_
  refine own_iadd X hx (hb hby own19_39) (pc' := 40) rfl ?_
  rw [hA.2.1]
  refine own_putF X hx hZ hown (own_w hw 69 rfl) Via.refl eT N_b E_b (Or.inl (own_w hw 70 rfl)) (own_w hw 31 rfl) (ty := .int) (v' := (.int ck)) (by decide) rfl rfl (hb hby own19_40) (pc' := 43) rfl ?_
  intro T h4 lc X eT Wq fN
  have N_b := N_b.same Wq
  have S_C := S_C.wr Wq
  have E_b := E_b.wr Wq
  have C_b := C_b.other Wq (Or.inr (slot_ne (Or.inl (own_w hw 47 rfl)) (Or.inl (own_w hw 70 rfl)) (by decide) (t := .byte) (t' := .int) (by decide) (by decide)))
  have V_b := V_b.other Wq (Or.inr (slot_ne (Or.inl (own_w hw 45 rfl)) (Or.inl (own_w hw 70 rfl)) (by decide) (t := (.array .byte)) (t' := .int) (by decide) (by decide)))
  have E_1 := E_1.wr Wq
  have C_1 := C_1.other Wq (Or.inl nas)
  have V_1 := V_1.other Wq (Or.inl nas)
  have A_1 := A_1.other Wq nbs
  have A_v := A_v.other Wq (Ne.symm n1v)
  have Z0 := Nat.le_trans Z0 (Keep.of_wr Wq).1
  have N := fN _ z_sb N
  have Kp := Kp.wr Wq (Or.inl (List.mem_of_getElem? (i := 0) rfl))
  refine own_aloadN X hx (hb hby own19_43) (pc' := 44) rfl rfl rfl ?_
  refine own_retA X hx hlk hret (hb hby own19_44) rfl rfl rfl (by decide) (by decide) ?_
  rw [eT]
  exact ⟨rfl, N, Kp, N_b, C_b, V_b, A_v⟩
theorem own20_0 : decode jdk_67_method_7_code 0 = .ok (.aload_n 0, 1) := by decide +kernel
theorem own20_1 : decode jdk_67_method_7_code 1 = .ok (.aload_n 1, 1) := by decide +kernel
theorem own20_2 : decode jdk_67_method_7_code 2 = .ok (.invokespecial 29, 3) := by decide +kernel
theorem own_pd_28Ljava2flang2fString3b29Ljava2flang2fAbstractStringBuilder3b : parseMethodDescriptor "(Ljava/lang/String;)Ljava/lang/AbstractStringBuilder;" = some ⟨[(.object "java/lang/String")], some (.object "java/lang/AbstractStringBuilder")⟩ := by decide +kernel
theorem own20_5 : decode jdk_67_method_7_code 5 = .ok (.pop, 1) := by decide +kernel
theorem own20_6 : decode jdk_67_method_7_code 6 = .ok (.aload_n 0, 1) := by decide +kernel
theorem own20_7 : decode jdk_67_method_7_code 7 = .ok (.areturn, 1) := by decide +kernel
def Q_sap (Z : State) (sb bv a1 t1 : Addr) (cs cc kk ck : Int32) (cN k : Nat) (vs gs gs' : List Value) (kv' : ClassId) (h0 : Heap) (n0 : Nat) (v : Option Value) (h : Heap) (L : List Loc) : Prop := v = some (.ref sb) ∧ Fr n0 L ∧ Keep h0 h [sb, bv] ∧ Fld Z h sb "java/lang/AbstractStringBuilder" "count" "I" (.int ck) ∧ Fld Z h sb "java/lang/AbstractStringBuilder" "coder" "B" (.int (0 : Int32)) ∧ Fld Z h sb "java/lang/AbstractStringBuilder" "value" "[B" (.ref bv) ∧ Arv Z h bv kv' .byte (16 : Int32) gs' (.int (0 : Int32))
set_option maxRecDepth 65536 in
set_option maxHeartbeats 40000000 in
theorem rm_sap (l : Launch) (Z : State) (a0 : Array Value) (hw : ∀ d ∈ tables_1, d.before a0 Z = true) (ws : List Jvm.Cond) (sb bv a1 t1 : Addr) (cs cc kk ck : Int32) (cN k : Nat) (vs gs gs' : List Value) (kv' : ClassId) (h0 : Heap) (n0 : Nat) (Z0 : n0 ≤ h0.size) (S_C : Sta Z h0 "java/lang/String" "COMPACT_STRINGS" "Z" (.int cs)) (hcs : ¬ cs = 0) (E_b : Exa Z h0 sb "java/lang/StringBuilder") (N_b : Fld Z h0 sb "java/lang/AbstractStringBuilder" "count" "I" (.int cc)) (C_b : Fld Z h0 sb "java/lang/AbstractStringBuilder" "coder" "B" (.int (0 : Int32))) (V_b : Fld Z h0 sb "java/lang/AbstractStringBuilder" "value" "[B" (.ref bv)) (A_v : Arv Z h0 bv kv' .byte (16 : Int32) gs (.int (0 : Int32))) (E_1 : Exa Z h0 a1 "java/lang/String") (C_1 : Fld Z h0 a1 "java/lang/String" "coder" "B" (.int (0 : Int32))) (V_1 : Fld Z h0 a1 "java/lang/String" "value" "[B" (.ref t1)) (k_1 : ClassId) (A_1 : Arv Z h0 t1 k_1 .byte kk vs (.int (0 : Int32))) (z_sb : n0 ≤ sb) (n1v : sb ≠ bv) (nas : a1 ≠ sb) (nbs : t1 ≠ sb) (z_bv : n0 ≤ bv) (hav : a1 ≠ bv) (hbv : t1 ≠ bv) (hA : own_App cc kk ck cN k vs gs gs') : own_Met l Z ⟨"java/lang/StringBuilder", "append", "(Ljava/lang/String;)Ljava/lang/StringBuilder;"⟩ jdk_67_method_7_code 2 (some (.object "java/lang/StringBuilder")) ws ⟨4, 0, 0, 103⟩ #[(.ref sb), (.ref a1)] h0 (Q_sap Z sb bv a1 t1 cs cc kk ck cN k vs gs gs' kv' h0 n0) := by
  refine own_met n0 own_pn_java_lang_StringBuilder (fun m => ef2RR m sb a1) ?_
  intro p e s m below meth c T lc hret hx hZ hby hml hown hnm hlk X eT N
  refine own_aloadN X hx (hb hby own20_0) (pc' := 1) rfl rfl rfl ?_
  refine own_aloadN X hx (hb hby own20_1) (pc' := 2) rfl rfl rfl ?_
  refine own_callU X hx hZ (y := (⟨"java/lang/AbstractStringBuilder", "append", "(Ljava/lang/String;)Ljava/lang/AbstractStringBuilder;"⟩ : MethodName)) sb [(.ref a1)] hown (own_w hw 53 rfl) (own_w hw 56 rfl) (own_w hw 55 rfl) (own_nf (own_w hw 112 rfl) rfl) (by decide) (own_w hw 54 rfl) (own_w hw 40 rfl) (own_w hw 57 rfl) (by decide) (rm_aa l Z a0 hw [] sb bv a1 t1 cs cc kk ck cN k vs gs gs' kv' h0 n0 Z0 S_C hcs E_b N_b C_b V_b A_v E_1 C_1 V_1 _ A_1 z_sb n1v nas nbs z_bv hav hbv hA) E_b eT (W := 0) (by decide) (by decide) (cells' := 0) (slots' := 0) rfl rfl (by decide) (by decide) (by rw [hml]; rfl) (lenOf own_pd_28Ljava2flang2fString3b29Ljava2flang2fAbstractStringBuilder3b rfl) rfl (S := []) rfl (Nat.le_of_eq rfl) (hb hby own20_2) (pc' := 5) rfl ?_
  intro v T h1 L lc X eT hq fN
  obtain ⟨rfl, Nq, Kq, N_b2, C_b2, V_b2, A_v2⟩ := hq
  have N := fN _ N Nq
  show own_W _ _ _ _ _ _ _ _ [(.ref sb)]
  refine own_pop X hx (hb hby own20_5) (pc' := 6) rfl rfl ?_
  refine own_aloadN X hx (hb hby own20_6) (pc' := 7) rfl rfl rfl ?_
  refine own_retA X hx hlk hret (hb hby own20_7) rfl rfl rfl (by decide) (by decide) ?_
  rw [eT]
  exact ⟨rfl, N, Kq, N_b2, C_b2, V_b2, A_v2⟩
theorem own21_0 : decode jdk_68_method_64_code 0 = .ok (.aload_n 0, 1) := by decide +kernel
theorem own21_1 : decode jdk_68_method_64_code 1 = .ok (.getfield 15, 3) := by decide +kernel
theorem own21_4 : decode jdk_68_method_64_code 4 = .ok (.areturn, 1) := by decide +kernel
def Q_gv (Z : State) (sb bv : Addr) (h0 : Heap) (n0 : Nat) (v : Option Value) (h : Heap) (L : List Loc) : Prop := v = some (.ref bv) ∧ Fr n0 L ∧ h = h0
set_option maxRecDepth 65536 in
set_option maxHeartbeats 40000000 in
theorem rm_gv (l : Launch) (Z : State) (a0 : Array Value) (hw : ∀ d ∈ tables_1, d.before a0 Z = true) (ws : List Jvm.Cond) (sb bv : Addr) (h0 : Heap) (n0 : Nat) (Z0 : n0 ≤ h0.size) (V_b : Fld Z h0 sb "java/lang/AbstractStringBuilder" "value" "[B" (.ref bv)) : own_Met l Z ⟨"java/lang/AbstractStringBuilder", "getValue", "()[B"⟩ jdk_68_method_64_code 1 (some (.array .byte)) ws ⟨0, 0, 0, 0⟩ #[(.ref sb)] h0 (Q_gv Z sb bv h0 n0) := by
  refine own_met n0 own_pn_java_lang_AbstractStringBuilder (fun m => ef1R m sb) ?_
  intro p e s m below meth c T lc hret hx hZ hby hml hown hnm hlk X eT N
  refine own_aloadN X hx (hb hby own21_0) (pc' := 1) rfl rfl rfl ?_
  refine own_getF X hx hZ hown (host := "") (Or.inl (own_w hw 44 rfl)) Via.refl eT V_b (hb hby own21_1) (pc' := 4) rfl ?_
  intro T X eT
  refine own_retA X hx hlk hret (hb hby own21_4) rfl rfl rfl (by decide) (by decide) ?_
  rw [eT]
  exact ⟨rfl, N, rfl⟩
theorem own22_0 : decode jdk_68_method_6_code 0 = .ok (.aload_n 0, 1) := by decide +kernel
theorem own22_1 : decode jdk_68_method_6_code 1 = .ok (.getfield 79, 3) := by decide +kernel
theorem own22_4 : decode jdk_68_method_6_code 4 = .ok (.ireturn, 1) := by decide +kernel
def Q_al (Z : State) (sb : Addr) (cc : Int32) (h0 : Heap) (n0 : Nat) (v : Option Value) (h : Heap) (L : List Loc) : Prop := v = some (.int cc) ∧ Fr n0 L ∧ h = h0
set_option maxRecDepth 65536 in
set_option maxHeartbeats 40000000 in
theorem rm_al (l : Launch) (Z : State) (a0 : Array Value) (hw : ∀ d ∈ tables_1, d.before a0 Z = true) (ws : List Jvm.Cond) (sb : Addr) (cc : Int32) (h0 : Heap) (n0 : Nat) (Z0 : n0 ≤ h0.size) (N_b : Fld Z h0 sb "java/lang/AbstractStringBuilder" "count" "I" (.int cc)) : own_Met l Z ⟨"java/lang/AbstractStringBuilder", "length", "()I"⟩ jdk_68_method_6_code 1 (some .int) ws ⟨0, 0, 0, 0⟩ #[(.ref sb)] h0 (Q_al Z sb cc h0 n0) := by
  refine own_met n0 own_pn_java_lang_AbstractStringBuilder (fun m => ef1R m sb) ?_
  intro p e s m below meth c T lc hret hx hZ hby hml hown hnm hlk X eT N
  refine own_aloadN X hx (hb hby own22_0) (pc' := 1) rfl rfl rfl ?_
  refine own_getF X hx hZ hown (host := "") (Or.inl (own_w hw 69 rfl)) Via.refl eT N_b (hb hby own22_1) (pc' := 4) rfl ?_
  intro T X eT
  refine own_retI X hx hlk (t := .int) (w' := (.int cc)) hret (hb hby own22_4) rfl rfl (by simp) (by decide) (by decide) ?_
  rw [eT]
  exact ⟨rfl, N, rfl⟩
theorem own23_0 : decode jdk_67_method_93_code 0 = .ok (.aload_n 0, 1) := by decide +kernel
theorem own23_1 : decode jdk_67_method_93_code 1 = .ok (.invokespecial 343, 3) := by decide +kernel
theorem own23_4 : decode jdk_67_method_93_code 4 = .ok (.ireturn, 1) := by decide +kernel
def Q_sln (Z : State) (sb : Addr) (cc : Int32) (h0 : Heap) (n0 : Nat) (v : Option Value) (h : Heap) (L : List Loc) : Prop := v = some (.int cc) ∧ Fr n0 L ∧ h = h0
set_option maxRecDepth 65536 in
set_option maxHeartbeats 40000000 in
theorem rm_sln (l : Launch) (Z : State) (a0 : Array Value) (hw : ∀ d ∈ tables_1, d.before a0 Z = true) (ws : List Jvm.Cond) (sb : Addr) (cc : Int32) (h0 : Heap) (n0 : Nat) (Z0 : n0 ≤ h0.size) (E_b : Exa Z h0 sb "java/lang/StringBuilder") (N_b : Fld Z h0 sb "java/lang/AbstractStringBuilder" "count" "I" (.int cc)) : own_Met l Z ⟨"java/lang/StringBuilder", "length", "()I"⟩ jdk_67_method_93_code 1 (some .int) ws ⟨1, 0, 0, 17⟩ #[(.ref sb)] h0 (Q_sln Z sb cc h0 n0) := by
  refine own_met n0 own_pn_java_lang_StringBuilder (fun m => ef1R m sb) ?_
  intro p e s m below meth c T lc hret hx hZ hby hml hown hnm hlk X eT N
  refine own_aloadN X hx (hb hby own23_0) (pc' := 1) rfl rfl rfl ?_
  refine own_callU X hx hZ (y := (⟨"java/lang/AbstractStringBuilder", "length", "()I"⟩ : MethodName)) sb [] hown (own_w hw 120 rfl) (own_w hw 115 rfl) (own_w hw 55 rfl) (own_nf (own_w hw 112 rfl) rfl) (by decide) (own_w hw 116 rfl) (own_w hw 40 rfl) (own_w hw 121 rfl) (by decide) (rm_al l Z a0 hw [] sb cc h0 n0 Z0 N_b) E_b eT (W := 0) (by decide) (by decide) (cells' := 0) (slots' := 0) rfl rfl (by decide) (by decide) (by rw [hml]; rfl) (lenOf own_pd_2829I rfl) rfl (S := []) rfl (Nat.le_of_eq rfl) (hb hby own23_1) (pc' := 4) rfl ?_
  intro v T h1 L lc X eT hq fN
  obtain ⟨rfl, Nq, hqe⟩ := hq
  have N := fN _ N Nq
  rw [hqe] at eT
  show own_W _ _ _ _ _ _ _ _ [(.int cc)]
  refine own_retI X hx hlk (t := .int) (w' := (.int cc)) hret (hb hby own23_4) rfl rfl (by simp) (by decide) (by decide) ?_
  rw [eT]
  exact ⟨rfl, N, rfl⟩
theorem own24_0 : decode jdk_68_method_68_code 0 = .ok (.getstatic 18, 3) := by decide +kernel
theorem own24_3 : decode jdk_68_method_68_code 3 = .ok (.ifCond .eq 14, 3) := by decide +kernel
theorem own24_6 : decode jdk_68_method_68_code 6 = .ok (.aload_n 0, 1) := by decide +kernel
theorem own24_7 : decode jdk_68_method_68_code 7 = .ok (.getfield 22, 3) := by decide +kernel
theorem own24_10 : decode jdk_68_method_68_code 10 = .ok (.ifCond .ne 7, 3) := by decide +kernel
theorem own24_13 : decode jdk_68_method_68_code 13 = .ok (.iconst 1, 1) := by decide +kernel
theorem own24_14 : decode jdk_68_method_68_code 14 = .ok (.goto 4, 3) := by decide +kernel
theorem own24_18 : decode jdk_68_method_68_code 18 = .ok (.ireturn, 1) := by decide +kernel
def Q_alt (Z : State) (sb : Addr) (cs : Int32) (h0 : Heap) (n0 : Nat) (v : Option Value) (h : Heap) (L : List Loc) : Prop := v = some (.int (1 : Int32)) ∧ Fr n0 L ∧ h = h0
set_option maxRecDepth 65536 in
set_option maxHeartbeats 40000000 in
theorem rm_alt (l : Launch) (Z : State) (a0 : Array Value) (hw : ∀ d ∈ tables_1, d.before a0 Z = true) (ws : List Jvm.Cond) (sb : Addr) (cs : Int32) (h0 : Heap) (n0 : Nat) (Z0 : n0 ≤ h0.size) (S_C : Sta Z h0 "java/lang/String" "COMPACT_STRINGS" "Z" (.int cs)) (hcs : ¬ cs = 0) (C_b : Fld Z h0 sb "java/lang/AbstractStringBuilder" "coder" "B" (.int (0 : Int32))) : own_Met l Z ⟨"java/lang/AbstractStringBuilder", "isLatin1", "()Z"⟩ jdk_68_method_68_code 1 (some .boolean) ws ⟨0, 0, 0, 0⟩ #[(.ref sb)] h0 (Q_alt Z sb cs h0 n0) := by
  refine own_met n0 own_pn_java_lang_AbstractStringBuilder (fun m => ef1R m sb) ?_
  intro p e s m below meth c T lc hret hx hZ hby hml hown hnm hlk X eT N
  refine own_getS X hx hZ hown (host := "") (Or.inl (own_w hw 43 rfl)) Via.refl eT S_C (hb hby own24_0) (pc' := 3) rfl ?_
  intro T X eT
  refine own_ifN X hx (hb hby own24_3) (pc' := 6) rfl (show ¬ (cs = (0 : Int32)) from hcs) ?_
  refine own_aloadN X hx (hb hby own24_6) (pc' := 7) rfl rfl rfl ?_
  refine own_getF X hx hZ hown (host := "") (Or.inl (own_w hw 46 rfl)) Via.refl eT C_b (hb hby own24_7) (pc' := 10) rfl ?_
  intro T X eT
  refine own_ifN X hx (hb hby own24_10) (pc' := 13) rfl (show (0 : Int32) = (0 : Int32) from (by decide)) ?_
  refine own_iconst X hx (1 : Int32) (hb hby own24_13) (pc' := 14) rfl rfl ?_
  refine own_goto X hx (hb hby own24_14) (by decide) (pc' := 18) rfl ?_
  refine own_retI X hx hlk (t := .boolean) (w' := (.int (1 : Int32))) hret (hb hby own24_18) rfl rfl (by simp) (by decide) (by decide) ?_
  rw [eT]
  exact ⟨rfl, N, rfl⟩
theorem own25_0 : decode jdk_65_method_131_code 0 = .ok (.iload_n 1, 1) := by decide +kernel
theorem own25_1 : decode jdk_65_method_131_code 1 = .ok (.iload_n 0, 1) := by decide +kernel
theorem own25_2 : decode jdk_65_method_131_code 2 = .ok (.if_icmp .ge 35, 3) := by decide +kernel
theorem own25_37 : decode jdk_65_method_131_code 37 = .ok (.return_, 1) := by decide +kernel
theorem own_pn_java_util_Arrays : plainName "java/util/Arrays" = true := by first | (simp [plainName, overriddenIn]; done) | decide +kernel
def Q_ckl (Z : State) (p1 : Int32) (h0 : Heap) (n0 : Nat) (v : Option Value) (h : Heap) (L : List Loc) : Prop := v = none ∧ Fr n0 L ∧ h = h0
set_option maxRecDepth 65536 in
set_option maxHeartbeats 40000000 in
theorem rm_ckl (l : Launch) (Z : State) (a0 : Array Value) (hw : ∀ d ∈ tables_1, d.before a0 Z = true) (ws : List Jvm.Cond) (p1 : Int32) (h0 : Heap) (n0 : Nat) (Z0 : n0 ≤ h0.size) (hj : ¬ p1 < 0) : own_Met l Z ⟨"java/util/Arrays", "checkLength", "(II)V"⟩ jdk_65_method_131_code 2 none ws ⟨0, 0, 0, 0⟩ #[(.int (0 : Int32)), (.int p1)] h0 (Q_ckl Z p1 h0 n0) := by
  refine own_met n0 own_pn_java_util_Arrays (fun m => ef2II m (0 : Int32) p1) ?_
  intro p e s m below meth c T lc hret hx hZ hby hml hown hnm hlk X eT N
  refine own_iloadN X hx (hb hby own25_0) (pc' := 1) rfl rfl ?_
  refine own_iloadN X hx (hb hby own25_1) (pc' := 2) rfl rfl ?_
  refine own_icmpY X hx (hb hby own25_2) (by decide) (pc' := 37) rfl (show ¬ (p1 < (0 : Int32)) from hj) ?_
  refine own_ret0 X hx hlk hret (hb hby own25_37) (by decide) (by decide) ?_
  rw [eT]
  exact ⟨rfl, N, rfl⟩
theorem own26_0 : decode jdk_29_method_69_code 0 = .ok (.iload_n 0, 1) := by decide +kernel
theorem own26_1 : decode jdk_29_method_69_code 1 = .ok (.iload_n 1, 1) := by decide +kernel
theorem own26_2 : decode jdk_29_method_69_code 2 = .ok (.if_icmp .gt 7, 3) := by decide +kernel
theorem own26_9 : decode jdk_29_method_69_code 9 = .ok (.iload_n 1, 1) := by decide +kernel
theorem own26_10 : decode jdk_29_method_69_code 10 = .ok (.ireturn, 1) := by decide +kernel
theorem ef_mn2 (m : MethodId) (x0 : Int32) (x1 : Int32) : entryFrame m #[(.int x0), (.int x1)] 2 = mkF m 0 #[.val (.int x0), .val (.int x1)] [] := by first | (simp [entryFrame, mkF, argsToLocals, Value.category]; done) | rfl
def Q_mn2 (Z : State) (p0 p1 : Int32) (h0 : Heap) (n0 : Nat) (v : Option Value) (h : Heap) (L : List Loc) : Prop := v = some (.int p1) ∧ Fr n0 L ∧ h = h0
set_option maxRecDepth 65536 in
set_option maxHeartbeats 40000000 in
theorem rm_mn2 (l : Launch) (Z : State) (a0 : Array Value) (hw : ∀ d ∈ tables_1, d.before a0 Z = true) (ws : List Jvm.Cond) (p0 p1 : Int32) (h0 : Heap) (n0 : Nat) (Z0 : n0 ≤ h0.size) (hj : p1 < p0) :
    MetFree l (⟨"java/lang/Math", "min", "(II)I"⟩ : MethodName) (head1 (Jvm.Cond.code (⟨"java/lang/Math", "min", "(II)I"⟩ : MethodName) jdk_29_method_69_code 2 (some .int) :: ws) ({ frames := 0, cells := 0, slots := 0, locals := 0 } : Room)) (fun a U => a = #[(.int p0), (.int p1)] ∧ Z.Warmed39 U.vm ∧ U.heap = h0) (fun _ _ _ _ _ => True) (fun _ U o U' => ∃ v L, o = .returned v ∧ Q_mn2 Z p0 p1 h0 n0 v U'.heap L ∧ FrameEnd U o U' L ({ frames := 0, cells := 0, slots := 0, locals := 0 } : Room).cells ({ frames := 0, cells := 0, slots := 0, locals := 0 } : Room).slots) := by
  refine MetFree.of_bodySF (Jvm.Free.JP.mathPlain rfl (by decide +kernel)) hisR ?_
  intro p e s m args below meth c s₁ Bd hml0 hP hK
  obtain ⟨rfl, hZ, hh⟩ := hP
  have hx := Bd.exec
  have hby := Bd.bytes
  have hml : c.maxLocals = 2 := hml0
  have hown : s.vm.findClass "java/lang/Math" = some m.cls := findClass_of_methodNamed Bd.named
  have hnm := (name_of_methodNamed Bd.named Bd.method).1
  have hlk := Bd.notSynchronized
  obtain ⟨lc, hlc⟩ : ∃ lc : List Loc, lc = [] := ⟨_, rfl⟩
  have X : Stand p l e ({ frames := 0, cells := 0, slots := 0, locals := 0 } : Room) s m #[(.int p0), (.int p1)] below meth c s₁ lc 0 0 := hlc ▸ Stand.of_body Bd
  have eT : s₁.heap = h0 := by rw [← hh, Bd.state]; rfl
  have N : Fr n0 lc := hlc ▸ Fr.nil n0
  refine own_enter (ef_mn2 m p0 p1) ?_
  obtain ⟨T, hT⟩ : ∃ T : State, T = s₁ := ⟨_, rfl⟩
  rw [← hT] at X eT ⊢
  show own_W _ _ _ _ _ _ _ _ []
  refine own_iloadN X hx (hb hby own26_0) (pc' := 1) rfl rfl ?_
  refine own_iloadN X hx (hb hby own26_1) (pc' := 2) rfl rfl ?_
  refine own_icmpY X hx (hb hby own26_2) (by decide) (pc' := 9) rfl (show p1 < p0 from hj) ?_
  refine own_iloadN X hx (hb hby own26_9) (pc' := 10) rfl rfl ?_
  refine own_retI X hx hlk (t := .int) (w' := (.int p1)) Bd.returns (hb hby own26_10) rfl rfl (by simp) (by decide) (by decide) ?_
  rw [eT]
  exact ⟨rfl, N, rfl⟩
theorem own27_0 : decode jdk_65_method_133_code 0 = .ok (.iload_n 1, 1) := by decide +kernel
theorem own27_1 : decode jdk_65_method_133_code 1 = .ok (.iload_n 2, 1) := by decide +kernel
theorem own27_2 : decode jdk_65_method_133_code 2 = .ok (.invokestatic 343, 3) := by decide +kernel
theorem own27_5 : decode jdk_65_method_133_code 5 = .ok (.iload_n 2, 1) := by decide +kernel
theorem own27_6 : decode jdk_65_method_133_code 6 = .ok (.iload_n 1, 1) := by decide +kernel
theorem own27_7 : decode jdk_65_method_133_code 7 = .ok (.isub, 1) := by decide +kernel
theorem own27_8 : decode jdk_65_method_133_code 8 = .ok (.istore_n 3, 1) := by decide +kernel
theorem own27_9 : decode jdk_65_method_133_code 9 = .ok (.iload_n 3, 1) := by decide +kernel
theorem own27_10 : decode jdk_65_method_133_code 10 = .ok (.newarray .byte, 2) := by decide +kernel
theorem own27_12 : decode jdk_65_method_133_code 12 = .ok (.astore 4, 2) := by decide +kernel
theorem own27_14 : decode jdk_65_method_133_code 14 = .ok (.aload_n 0, 1) := by decide +kernel
theorem own27_15 : decode jdk_65_method_133_code 15 = .ok (.iload_n 1, 1) := by decide +kernel
theorem own27_16 : decode jdk_65_method_133_code 16 = .ok (.aload 4, 2) := by decide +kernel
theorem own27_18 : decode jdk_65_method_133_code 18 = .ok (.iconst 0, 1) := by decide +kernel
theorem own27_19 : decode jdk_65_method_133_code 19 = .ok (.aload_n 0, 1) := by decide +kernel
theorem own27_20 : decode jdk_65_method_133_code 20 = .ok (.arraylength, 1) := by decide +kernel
theorem own27_21 : decode jdk_65_method_133_code 21 = .ok (.iload_n 1, 1) := by decide +kernel
theorem own27_22 : decode jdk_65_method_133_code 22 = .ok (.isub, 1) := by decide +kernel
theorem own27_23 : decode jdk_65_method_133_code 23 = .ok (.iload_n 3, 1) := by decide +kernel
theorem own27_24 : decode jdk_65_method_133_code 24 = .ok (.invokestatic 304, 3) := by decide +kernel
theorem own_pd_28II29I : parseMethodDescriptor "(II)I" = some ⟨[.int, .int], some .int⟩ := by decide +kernel
theorem own27_27 : decode jdk_65_method_133_code 27 = .ok (.invokestatic 150, 3) := by decide +kernel
theorem own27_30 : decode jdk_65_method_133_code 30 = .ok (.aload 4, 2) := by decide +kernel
theorem own27_32 : decode jdk_65_method_133_code 32 = .ok (.areturn, 1) := by decide +kernel
theorem ef5RII (m : MethodId) (x0 : Addr) (x1 : Int32) (x2 : Int32) : entryFrame m #[(.ref x0), (.int x1), (.int x2)] 5 = mkF m 0 #[.val (.ref x0), .val (.int x1), .val (.int x2), .unset, .unset] [] := by first | (simp [entryFrame, mkF, argsToLocals, Value.category]; done) | rfl
def Q_crb (Z : State) (bv : Addr) (cc : Int32) (k : Nat) (gs es : List Value) (h0 : Heap) (n0 : Nat) (v : Option Value) (h : Heap) (L : List Loc) : Prop := ∃ (b : Addr) (kb : ClassId), v = some (.ref b) ∧ Fr n0 L ∧ Keep h0 h [] ∧ h0.size ≤ b ∧ Arv Z h b kb .byte cc es (.int (0 : Int32))
set_option maxRecDepth 65536 in
set_option maxHeartbeats 40000000 in
theorem rm_crb (l : Launch) (Z : State) (a0 : Array Value) (hw : ∀ d ∈ tables_1, d.before a0 Z = true) (ws : List Jvm.Cond) (bv : Addr) (cc : Int32) (k : Nat) (gs es : List Value) (h0 : Heap) (n0 : Nat) (Z0 : n0 ≤ h0.size) (kv : ClassId) (A_v : Arv Z h0 bv kv .byte (16 : Int32) gs (.int (0 : Int32))) (hC : own_Cop cc k gs es) : own_Met l Z ⟨"java/util/Arrays", "copyOfRangeByte", "([BII)[B"⟩ jdk_65_method_133_code 5 (some (.array .byte)) ws ⟨1, 1, 8, 45⟩ #[(.ref bv), (.int (0 : Int32)), (.int cc)] h0 (Q_crb Z bv cc k gs es h0 n0) := by
  refine own_met n0 own_pn_java_util_Arrays (fun m => ef5RII m bv (0 : Int32) cc) ?_
  intro p e s m below meth c T lc hret hx hZ hby hml hown hnm hlk X eT N
  have Kp : Keep h0 h0 [] := Keep.refl _ _
  refine own_iloadN X hx (hb hby own27_0) (pc' := 1) rfl rfl ?_
  refine own_iloadN X hx (hb hby own27_1) (pc' := 2) rfl rfl ?_
  refine own_callS X hx hZ [(.int (0 : Int32)), (.int cc)] hown (own_w hw 134 rfl) (own_w hw 135 rfl) (own_w hw 129 rfl) (own_w hw 136 rfl) (by decide) (rm_ckl l Z a0 hw [] cc h0 n0 Z0 hC.1) eT (W := 0) (by decide) (by decide) (cells' := 0) (slots' := 0) rfl rfl (by decide) (by decide) (by rw [hml]; rfl) (lenOf own_pd_28II29V rfl) rfl (S := []) rfl (Nat.le_of_eq rfl) (hb hby own27_2) (pc' := 5) rfl ?_
  intro v T h1 L lc X eT hq fN
  obtain ⟨rfl, Nq, hqe⟩ := hq
  have N := fN _ N Nq
  rw [hqe] at eT
  show own_W _ _ _ _ _ _ _ _ []
  refine own_iloadN X hx (hb hby own27_5) (pc' := 6) rfl rfl ?_
  refine own_iloadN X hx (hb hby own27_6) (pc' := 7) rfl rfl ?_
  refine own_isub X hx (hb hby own27_7) (pc' := 8) rfl ?_
  rw [hC.2.1]
  refine own_istoreN X hx (hb hby own27_8) (pc' := 9) rfl (Ls' := #[.val (.ref bv), .val (.int (0 : Int32)), .val (.int cc), .val (.int cc), .unset]) rfl ?_
  refine own_iloadN X hx (hb hby own27_9) (pc' := 10) rfl rfl ?_
  refine own_newarr X hx hZ (own_w hw 19 rfl) eT (hb hby own27_10) (pc' := 12) rfl hC.1 8 hC.2.2.1 (by decide) (cells' := 1) (slots' := 8) rfl rfl (by decide) (by decide) ?_
  intro T h2 k_b2 b2 X eT E gb2 A_b2
  have lt_bv_b2 : bv < b2 := Nat.lt_of_lt_of_le A_v.lt (Nat.le_of_eq gb2.symm)
  have ne_bv_b2 : bv ≠ b2 := Nat.ne_of_lt lt_bv_b2
  have z_b2 : n0 ≤ b2 := Nat.le_trans Z0 (Nat.le_of_eq gb2.symm)
  have s_b2 : h0.size ≤ b2 := Nat.le_trans Kp.1 (Nat.le_of_eq gb2.symm)
  have A_v := A_v.ext E
  have Z0 := Nat.le_trans Z0 E.1
  have Kp := Kp.ext E
  have A_b2 : Arv Z h2 b2 k_b2 .byte cc [] (.int (0 : Int32)) := A_b2.pad (pad_rep [] (.int (0 : Int32)) 0)
  have A_b2 : Arv Z h2 b2 k_b2 .byte cc (List.replicate k (.int (0 : Int32))) (.int (0 : Int32)) := A_b2.pad (pad_rep [] (.int (0 : Int32)) k)
  refine own_astore X hx (hb hby own27_12) (pc' := 14) rfl rfl (Ls' := #[.val (.ref bv), .val (.int (0 : Int32)), .val (.int cc), .val (.int cc), .val (.ref b2)]) rfl ?_
  refine own_aloadN X hx (hb hby own27_14) (pc' := 15) rfl rfl rfl ?_
  refine own_iloadN X hx (hb hby own27_15) (pc' := 16) rfl rfl ?_
  refine own_aload X hx (hb hby own27_16) (pc' := 18) rfl rfl rfl ?_
  refine own_iconst X hx (0 : Int32) (hb hby own27_18) (pc' := 19) rfl rfl ?_
  refine own_aloadN X hx (hb hby own27_19) (pc' := 20) rfl rfl rfl ?_
  refine own_arrlen X hx hZ eT A_v (hb hby own27_20) (pc' := 21) rfl ?_
  refine own_iloadN X hx (hb hby own27_21) (pc' := 22) rfl rfl ?_
  refine own_isub X hx (hb hby own27_22) (pc' := 23) rfl ?_
  rw [show ((16 : Int32) - (0 : Int32)) = (16 : Int32) from by decide]
  refine own_iloadN X hx (hb hby own27_23) (pc' := 24) rfl rfl ?_
  refine own_callS X hx hZ [(.int (16 : Int32)), (.int cc)] hown (own_w hw 137 rfl) (own_w hw 138 rfl) (own_w hw 139 rfl) (own_w hw 140 rfl) (by decide) (rm_mn2 l Z a0 hw [] (16 : Int32) cc h2 n0 Z0 hC.2.2.2.2.1) eT (W := 4) (by decide) (by decide) (cells' := 1) (slots' := 8) rfl rfl (by decide) (by decide) (by rw [hml]; rfl) (lenOf own_pd_28II29I rfl) rfl (S := [(.int (0 : Int32)), (.ref b2), (.int (0 : Int32)), (.ref bv)]) rfl (Nat.le_of_eq rfl) (hb hby own27_24) (pc' := 27) rfl ?_
  intro v T h3 L lc X eT hq fN
  obtain ⟨rfl, Nq, hqe⟩ := hq
  have N := fN _ N Nq
  rw [hqe] at eT
  show own_W _ _ _ _ _ _ _ _ [(.int cc), (.int (0 : Int32)), (.ref b2), (.int (0 : Int32)), (.ref bv)]
  refine own_acopy X hx hZ hown (own_w hw 141 rfl) (own_w hw 95 rfl) (own_w hw 93 rfl) (own_w hw 94 rfl) eT A_v A_b2 rfl rfl 0 0 k rfl rfl hC.2.2.2.1 hC.2.2.2.2.2.2.1 hC.2.2.2.2.2.2.2.1 hC.2.2.2.2.2.2.2.2.1 (by rw [List.length_replicate]; omega) hC.2.2.2.2.2.2.2.2.2 (by rw [hml]; rfl) (hb hby own27_27) (pc' := 30) rfl (W := 0) (Nat.le_of_eq rfl) (by decide) (by decide) ?_
  intro T h4 lc X eT Kq A_b2n fN
  have A_v := A_v.keep Kq (ninS ne_bv_b2 nin0)
  have Z0 := Nat.le_trans Z0 Kq.1
  have A_b2 := A_b2n
  have N := fN _ z_b2 N
  have Kp := Kp.trans Kq (allS (P := fun x => x ∈ ([] : List Addr) ∨ h0.size ≤ x) (Or.inr s_b2) all0)
  refine own_aload X hx (hb hby own27_30) (pc' := 32) rfl rfl rfl ?_
  refine own_retA X hx hlk hret (hb hby own27_32) rfl rfl rfl (by decide) (by decide) ?_
  rw [eT]
  exact ⟨b2, _, rfl, N, Kp, s_b2, A_b2⟩
theorem own28_0 : decode jdk_65_method_132_code 0 = .ok (.iload_n 1, 1) := by decide +kernel
theorem own28_1 : decode jdk_65_method_132_code 1 = .ok (.ifCond .ne 9, 3) := by decide +kernel
theorem own28_4 : decode jdk_65_method_132_code 4 = .ok (.iload_n 2, 1) := by decide +kernel
theorem own28_5 : decode jdk_65_method_132_code 5 = .ok (.aload_n 0, 1) := by decide +kernel
theorem own28_6 : decode jdk_65_method_132_code 6 = .ok (.arraylength, 1) := by decide +kernel
theorem own28_7 : decode jdk_65_method_132_code 7 = .ok (.if_icmp .eq 10, 3) := by decide +kernel
theorem own28_10 : decode jdk_65_method_132_code 10 = .ok (.aload_n 0, 1) := by decide +kernel
theorem own28_11 : decode jdk_65_method_132_code 11 = .ok (.iload_n 1, 1) := by decide +kernel
theorem own28_12 : decode jdk_65_method_132_code 12 = .ok (.iload_n 2, 1) := by decide +kernel
theorem own28_13 : decode jdk_65_method_132_code 13 = .ok (.invokestatic 339, 3) := by decide +kernel
theorem own_pd_285bBII295bB : parseMethodDescriptor "([BII)[B" = some ⟨[(.array .byte), .int, .int], some (.array .byte)⟩ := by decide +kernel
theorem own28_16 : decode jdk_65_method_132_code 16 = .ok (.areturn, 1) := by decide +kernel
theorem ef3RII (m : MethodId) (x0 : Addr) (x1 : Int32) (x2 : Int32) : entryFrame m #[(.ref x0), (.int x1), (.int x2)] 3 = mkF m 0 #[.val (.ref x0), .val (.int x1), .val (.int x2)] [] := by first | (simp [entryFrame, mkF, argsToLocals, Value.category]; done) | rfl
def Q_cor (Z : State) (bv : Addr) (cc : Int32) (k : Nat) (gs es : List Value) (h0 : Heap) (n0 : Nat) (v : Option Value) (h : Heap) (L : List Loc) : Prop := ∃ (b : Addr) (kb : ClassId), v = some (.ref b) ∧ Fr n0 L ∧ Keep h0 h [] ∧ h0.size ≤ b ∧ Arv Z h b kb .byte cc es (.int (0 : Int32))
set_option maxRecDepth 65536 in
set_option maxHeartbeats 40000000 in
theorem rm_cor (l : Launch) (Z : State) (a0 : Array Value) (hw : ∀ d ∈ tables_1, d.before a0 Z = true) (ws : List Jvm.Cond) (bv : Addr) (cc : Int32) (k : Nat) (gs es : List Value) (h0 : Heap) (n0 : Nat) (Z0 : n0 ≤ h0.size) (kv : ClassId) (A_v : Arv Z h0 bv kv .byte (16 : Int32) gs (.int (0 : Int32))) (hC : own_Cop cc k gs es) : own_Met l Z ⟨"java/util/Arrays", "copyOfRange", "([BII)[B"⟩ jdk_65_method_132_code 3 (some (.array .byte)) ws ⟨2, 1, 8, 66⟩ #[(.ref bv), (.int (0 : Int32)), (.int cc)] h0 (Q_cor Z bv cc k gs es h0 n0) := by
  refine own_met n0 own_pn_java_util_Arrays (fun m => ef3RII m bv (0 : Int32) cc) ?_
  intro p e s m below meth c T lc hret hx hZ hby hml hown hnm hlk X eT N
  refine own_iloadN X hx (hb hby own28_0) (pc' := 1) rfl rfl ?_
  refine own_ifN X hx (hb hby own28_1) (pc' := 4) rfl (show (0 : Int32) = (0 : Int32) from (by decide)) ?_
  refine own_iloadN X hx (hb hby own28_4) (pc' := 5) rfl rfl ?_
  refine own_aloadN X hx (hb hby own28_5) (pc' := 6) rfl rfl rfl ?_
  refine own_arrlen X hx hZ eT A_v (hb hby own28_6) (pc' := 7) rfl ?_
  refine own_icmpN X hx (hb hby own28_7) (pc' := 10) rfl (show ¬ (cc = (16 : Int32)) from hC.2.2.2.2.2.1) ?_
  refine own_aloadN X hx (hb hby own28_10) (pc' := 11) rfl rfl rfl ?_
  refine own_iloadN X hx (hb hby own28_11) (pc' := 12) rfl rfl ?_
  refine own_iloadN X hx (hb hby own28_12) (pc' := 13) rfl rfl ?_
  refine own_callS X hx hZ [(.ref bv), (.int (0 : Int32)), (.int cc)] hown (own_w hw 131 rfl) (own_w hw 132 rfl) (own_w hw 129 rfl) (own_w hw 133 rfl) (by decide) (rm_crb l Z a0 hw [] bv cc k gs es h0 n0 Z0 _ A_v hC) eT (W := 0) (by decide) (by decide) (cells' := 1) (slots' := 8) rfl rfl (by decide) (by decide) (by rw [hml]; rfl) (lenOf own_pd_285bBII295bB rfl) rfl (S := []) rfl (Nat.le_of_eq rfl) (hb hby own28_13) (pc' := 16) rfl ?_
  intro v T h1 L lc X eT hq fN
  obtain ⟨nb, kb, rfl, Nq, Kq, hnb, A_n⟩ := hq
  have N := fN _ N Nq
  show own_W _ _ _ _ _ _ _ _ [(.ref nb)]
  refine own_retA X hx hlk hret (hb hby own28_16) rfl rfl rfl (by decide) (by decide) ?_
  rw [eT]
  exact ⟨nb, kb, rfl, N, Kq, hnb, A_n⟩
theorem own29_0 : decode jdk_42_method_150_code 0 = .ok (.aload_n 0, 1) := by decide +kernel
theorem own29_1 : decode jdk_42_method_150_code 1 = .ok (.invokespecial 1, 3) := by decide +kernel
theorem own29_4 : decode jdk_42_method_150_code 4 = .ok (.aload_n 1, 1) := by decide +kernel
theorem own29_5 : decode jdk_42_method_150_code 5 = .ok (.invokevirtual 552, 3) := by decide +kernel
theorem own_pd_28295bB : parseMethodDescriptor "()[B" = some ⟨[], some (.array .byte)⟩ := by decide +kernel
theorem own29_8 : decode jdk_42_method_150_code 8 = .ok (.astore_n 3, 1) := by decide +kernel
theorem own29_9 : decode jdk_42_method_150_code 9 = .ok (.aload_n 1, 1) := by decide +kernel
theorem own29_10 : decode jdk_42_method_150_code 10 = .ok (.invokevirtual 549, 3) := by decide +kernel
theorem own29_13 : decode jdk_42_method_150_code 13 = .ok (.istore 4, 2) := by decide +kernel
theorem own29_15 : decode jdk_42_method_150_code 15 = .ok (.aload_n 1, 1) := by decide +kernel
theorem own29_16 : decode jdk_42_method_150_code 16 = .ok (.invokevirtual 1047, 3) := by decide +kernel
theorem own29_19 : decode jdk_42_method_150_code 19 = .ok (.ifCond .eq 22, 3) := by decide +kernel
theorem own29_22 : decode jdk_42_method_150_code 22 = .ok (.aload_n 0, 1) := by decide +kernel
theorem own29_23 : decode jdk_42_method_150_code 23 = .ok (.iconst 0, 1) := by decide +kernel
theorem own29_24 : decode jdk_42_method_150_code 24 = .ok (.putfield 15, 3) := by decide +kernel
theorem own29_27 : decode jdk_42_method_150_code 27 = .ok (.aload_n 0, 1) := by decide +kernel
theorem own29_28 : decode jdk_42_method_150_code 28 = .ok (.aload_n 3, 1) := by decide +kernel
theorem own29_29 : decode jdk_42_method_150_code 29 = .ok (.iconst 0, 1) := by decide +kernel
theorem own29_30 : decode jdk_42_method_150_code 30 = .ok (.iload 4, 2) := by decide +kernel
theorem own29_32 : decode jdk_42_method_150_code 32 = .ok (.invokestatic 54, 3) := by decide +kernel
theorem own29_35 : decode jdk_42_method_150_code 35 = .ok (.putfield 9, 3) := by decide +kernel
theorem own29_38 : decode jdk_42_method_150_code 38 = .ok (.goto 59, 3) := by decide +kernel
theorem own29_97 : decode jdk_42_method_150_code 97 = .ok (.return_, 1) := by decide +kernel
theorem ef5RRN (m : MethodId) (x0 : Addr) (x1 : Addr) : entryFrame m #[(.ref x0), (.ref x1), .null] 5 = mkF m 0 #[.val (.ref x0), .val (.ref x1), .val .null, .unset, .unset] [] := by first | (simp [entryFrame, mkF, argsToLocals, Value.category]; done) | rfl
def Q_ia (Z : State) (a1 sb bv : Addr) (cs cc : Int32) (k : Nat) (gs es : List Value) (h0 : Heap) (n0 : Nat) (v : Option Value) (h : Heap) (L : List Loc) : Prop := v = none ∧ Fr n0 L ∧ Keep h0 h [a1] ∧ ∃ (b : Addr) (k : ClassId), h0.size ≤ b ∧ Fld Z h a1 "java/lang/String" "coder" "B" (.int (0 : Int32)) ∧ Fld Z h a1 "java/lang/String" "value" "[B" (.ref b) ∧ Arv Z h b k .byte cc es (.int (0 : Int32))
set_option maxRecDepth 65536 in
set_option maxHeartbeats 40000000 in
theorem rm_ia (l : Launch) (Z : State) (a0 : Array Value) (hw : ∀ d ∈ tables_1, d.before a0 Z = true) (ws : List Jvm.Cond) (a1 sb bv : Addr) (cs cc : Int32) (k : Nat) (gs es : List Value) (h0 : Heap) (n0 : Nat) (Z0 : n0 ≤ h0.size) (S_C : Sta Z h0 "java/lang/String" "COMPACT_STRINGS" "Z" (.int cs)) (hcs : ¬ cs = 0) (u1 u2 : Value) (E_a1 : Exa Z h0 a1 "java/lang/String") (F_c : Fld Z h0 a1 "java/lang/String" "coder" "B" u1) (F_v : Fld Z h0 a1 "java/lang/String" "value" "[B" u2) (E_b : Exa Z h0 sb "java/lang/StringBuilder") (N_b : Fld Z h0 sb "java/lang/AbstractStringBuilder" "count" "I" (.int cc)) (C_b : Fld Z h0 sb "java/lang/AbstractStringBuilder" "coder" "B" (.int (0 : Int32))) (V_b : Fld Z h0 sb "java/lang/AbstractStringBuilder" "value" "[B" (.ref bv)) (kv : ClassId) (A_v : Arv Z h0 bv kv .byte (16 : Int32) gs (.int (0 : Int32))) (nsb : a1 ≠ sb) (nbv : a1 ≠ bv) (z_a1 : n0 ≤ a1) (hC : own_Cop cc k gs es) : own_Met l Z ⟨"java/lang/String", "<init>", "(Ljava/lang/AbstractStringBuilder;Ljava/lang/Void;)V"⟩ jdk_42_method_150_code 5 none ws ⟨3, 1, 8, 85⟩ #[(.ref a1), (.ref sb), .null] h0 (Q_ia Z a1 sb bv cs cc k gs es h0 n0) := by
  refine own_met n0 own_pn_java_lang_String (fun m => ef5RRN m a1 sb) ?_
  intro p e s m below meth c T lc hret hx hZ hby hml hown hnm hlk X eT N
  have Kp : Keep h0 h0 [a1] := Keep.refl _ _
  refine own_aloadN X hx (hb hby own29_0) (pc' := 1) rfl rfl rfl ?_
  refine own_initO X hx hZ hown (own_w hw 15 rfl) (own_w hw 16 rfl) (own_w hw 17 rfl) eT (by rw [hml]; rfl) (hb hby own29_1) (pc' := 4) rfl (by decide) (W := 0) (Nat.le_of_eq rfl) (by decide) ?_
  intro T X eT
  refine own_aloadN X hx (hb hby own29_4) (pc' := 5) rfl rfl rfl ?_
  refine own_callV X hx hZ (y := (⟨"java/lang/AbstractStringBuilder", "getValue", "()[B"⟩ : MethodName)) sb [] hown (own_w hw 109 rfl) (own_w hw 110 rfl) (own_w hw 112 rfl) (own_w hw 111 rfl) (own_w hw 40 rfl) (own_w hw 113 rfl) (by decide) (rm_gv l Z a0 hw [] sb bv h0 n0 Z0 V_b) E_b eT (W := 0) (by decide) (by decide) (cells' := 0) (slots' := 0) rfl rfl (by decide) (by decide) (by rw [hml]; rfl) (lenOf own_pd_28295bB rfl) rfl (S := []) rfl (Nat.le_of_eq rfl) (hb hby own29_5) (pc' := 8) rfl ?_
  intro v T h1 L lc X eT hq fN
  obtain ⟨rfl, Nq, hqe⟩ := hq
  have N := fN _ N Nq
  rw [hqe] at eT
  show own_W _ _ _ _ _ _ _ _ [(.ref bv)]
  refine own_astoreN X hx (hb hby own29_8) (pc' := 9) rfl rfl (Ls' := #[.val (.ref a1), .val (.ref sb), .val .null, .val (.ref bv), .unset]) rfl ?_
  refine own_aloadN X hx (hb hby own29_9) (pc' := 10) rfl rfl rfl ?_
  refine own_callV2 X hx hZ (y := (⟨"java/lang/AbstractStringBuilder", "length", "()I"⟩ : MethodName)) (z := (⟨"java/lang/StringBuilder", "length", "()I"⟩ : MethodName)) sb [] hown (own_nf (own_w hw 112 rfl) rfl) (own_w hw 114 rfl) (own_w hw 115 rfl) (own_w hw 117 rfl) (own_w hw 118 rfl) (own_w hw 32 rfl) (own_w hw 119 rfl) (by decide) (rm_sln l Z a0 hw [] sb cc h0 n0 Z0 E_b N_b) E_b eT (W := 0) (by decide) (by decide) (cells' := 0) (slots' := 0) rfl rfl (by decide) (by decide) (by rw [hml]; rfl) (lenOf own_pd_2829I rfl) rfl (S := []) rfl (Nat.le_of_eq rfl) (hb hby own29_10) (pc' := 13) rfl ?_
  intro v T h2 L lc X eT hq fN
  obtain ⟨rfl, Nq, hqe⟩ := hq
  have N := fN _ N Nq
  rw [hqe] at eT
  show own_W _ _ _ _ _ _ _ _ [(.int cc)]
  refine own_istore X hx (hb hby own29_13) (pc' := 15) rfl (Ls' := #[.val (.ref a1), .val (.ref sb), .val .null, .val (.ref bv), .val (.int cc)]) rfl ?_
  refine own_aloadN X hx (hb hby own29_15) (pc' := 16) rfl rfl rfl ?_
  refine own_callV X hx hZ (y := (⟨"java/lang/AbstractStringBuilder", "isLatin1", "()Z"⟩ : MethodName)) sb [] hown (own_w hw 122 rfl) (own_w hw 123 rfl) (own_w hw 125 rfl) (own_w hw 124 rfl) (own_w hw 40 rfl) (own_w hw 126 rfl) (by decide) (rm_alt l Z a0 hw [] sb cs h0 n0 Z0 S_C hcs C_b) E_b eT (W := 0) (by decide) (by decide) (cells' := 0) (slots' := 0) rfl rfl (by decide) (by decide) (by rw [hml]; rfl) (lenOf own_pd_2829Z rfl) rfl (S := []) rfl (Nat.le_of_eq rfl) (hb hby own29_16) (pc' := 19) rfl ?_
  intro v T h3 L lc X eT hq fN
  obtain ⟨rfl, Nq, hqe⟩ := hq
  have N := fN _ N Nq
  rw [hqe] at eT
  show own_W _ _ _ _ _ _ _ _ [(.int (1 : Int32))]
  refine own_ifN X hx (hb hby own29_19) (pc' := 22) rfl (show ¬ ((1 : Int32) = (0 : Int32)) from (by decide)) ?_
  refine own_aloadN X hx (hb hby own29_22) (pc' := 23) rfl rfl rfl ?_
  refine own_iconst X hx (0 : Int32) (hb hby own29_23) (pc' := 24) rfl rfl ?_
  refine own_putF X hx hZ hown (own_w hw 25 rfl) Via.refl eT F_c E_a1 (Or.inr ⟨(own_w hw 21 rfl), rfl, hnm⟩) (own_w hw 5 rfl) (ty := .byte) (v' := (.int (0 : Int32))) (by decide) rfl rfl (hb hby own29_24) (pc' := 27) rfl ?_
  intro T h4 lc X eT Wq fN
  have F_c := F_c.same Wq
  have S_C := S_C.wr Wq
  have E_a1 := E_a1.wr Wq
  have F_v := F_v.other Wq (Or.inr (slot_ne (Or.inr (own_w hw 20 rfl)) (Or.inr (own_w hw 21 rfl)) (by decide) (t := (.array .byte)) (t' := .byte) (by decide) (by decide)))
  have E_b := E_b.wr Wq
  have N_b := N_b.other Wq (Or.inl (Ne.symm nsb))
  have C_b := C_b.other Wq (Or.inl (Ne.symm nsb))
  have V_b := V_b.other Wq (Or.inl (Ne.symm nsb))
  have A_v := A_v.other Wq (Ne.symm nbv)
  have Z0 := Nat.le_trans Z0 (Keep.of_wr Wq).1
  have N := fN _ z_a1 N
  have Kp := Kp.wr Wq (Or.inl (List.mem_of_getElem? (i := 0) rfl))
  refine own_aloadN X hx (hb hby own29_27) (pc' := 28) rfl rfl rfl ?_
  refine own_aloadN X hx (hb hby own29_28) (pc' := 29) rfl rfl rfl ?_
  refine own_iconst X hx (0 : Int32) (hb hby own29_29) (pc' := 30) rfl rfl ?_
  refine own_iload X hx (hb hby own29_30) (pc' := 32) rfl rfl ?_
  refine own_callS X hx hZ [(.ref bv), (.int (0 : Int32)), (.int cc)] hown (own_w hw 127 rfl) (own_w hw 128 rfl) (own_w hw 129 rfl) (own_w hw 130 rfl) (by decide) (rm_cor l Z a0 hw [] bv cc k gs es h4 n0 Z0 _ A_v hC) eT (W := 1) (by decide) (by decide) (cells' := 1) (slots' := 8) rfl rfl (by decide) (by decide) (by rw [hml]; rfl) (lenOf own_pd_285bBII295bB rfl) rfl (S := [(.ref a1)]) rfl (Nat.le_of_eq rfl) (hb hby own29_32) (pc' := 35) rfl ?_
  intro v T h5 L lc X eT hq fN
  obtain ⟨nb, kb, rfl, Nq, Kq, hnb, A_nb⟩ := hq
  have N := fN _ N Nq
  have lt_a1_nb : a1 < nb := Nat.lt_of_lt_of_le E_a1.lt hnb
  have ne_a1_nb : a1 ≠ nb := Nat.ne_of_lt lt_a1_nb
  have lt_sb_nb : sb < nb := Nat.lt_of_lt_of_le E_b.lt hnb
  have ne_sb_nb : sb ≠ nb := Nat.ne_of_lt lt_sb_nb
  have lt_bv_nb : bv < nb := Nat.lt_of_lt_of_le A_v.lt hnb
  have ne_bv_nb : bv ≠ nb := Nat.ne_of_lt lt_bv_nb
  have z_nb : n0 ≤ nb := Nat.le_trans Z0 hnb
  have s_nb : h0.size ≤ nb := Nat.le_trans Kp.1 hnb
  have S_C := own_sta_keep S_C Kq ns0
  have E_a1 := E_a1.keep Kq
  have F_v := F_v.keep Kq nin0
  have E_b := E_b.keep Kq
  have N_b := N_b.keep Kq nin0
  have C_b := C_b.keep Kq nin0
  have V_b := V_b.keep Kq nin0
  have A_v := A_v.keep Kq nin0
  have F_c := F_c.keep Kq nin0
  have Z0 := Nat.le_trans Z0 Kq.1
  have Kp := Kp.trans Kq all0
  show own_W _ _ _ _ _ _ _ _ [(.ref nb), (.ref a1)]
  refine own_putF X hx hZ hown (own_w hw 24 rfl) Via.refl eT F_v E_a1 (Or.inr ⟨(own_w hw 20 rfl), rfl, hnm⟩) (own_w hw 5 rfl) (ty := (.array .byte)) (v' := (.ref nb)) (by decide) rfl rfl (hb hby own29_35) (pc' := 38) rfl ?_
  intro T h6 lc X eT Wq fN
  have F_v := F_v.same Wq
  have S_C := S_C.wr Wq
  have E_a1 := E_a1.wr Wq
  have E_b := E_b.wr Wq
  have N_b := N_b.other Wq (Or.inl (Ne.symm nsb))
  have C_b := C_b.other Wq (Or.inl (Ne.symm nsb))
  have V_b := V_b.other Wq (Or.inl (Ne.symm nsb))
  have A_v := A_v.other Wq (Ne.symm nbv)
  have F_c := F_c.other Wq (Or.inr (slot_ne (Or.inr (own_w hw 21 rfl)) (Or.inr (own_w hw 20 rfl)) (by decide) (t := .byte) (t' := (.array .byte)) (by decide) (by decide)))
  have A_nb := A_nb.other Wq (Ne.symm ne_a1_nb)
  have Z0 := Nat.le_trans Z0 (Keep.of_wr Wq).1
  have N := fN _ z_a1 N
  have Kp := Kp.wr Wq (Or.inl (List.mem_of_getElem? (i := 0) rfl))
  refine own_goto X hx (hb hby own29_38) (by decide) (pc' := 97) rfl ?_
  refine own_ret0 X hx hlk hret (hb hby own29_97) (by decide) (by decide) ?_
  rw [eT]
  exact ⟨rfl, N, Kp, nb, kb, s_nb, F_c, F_v, A_nb⟩
theorem own30_0 : decode jdk_42_method_53_code 0 = .ok (.aload_n 0, 1) := by decide +kernel
theorem own30_1 : decode jdk_42_method_53_code 1 = .ok (.aload_n 1, 1) := by decide +kernel
theorem own30_2 : decode jdk_42_method_53_code 2 = .ok (.aconst_null, 1) := by decide +kernel
theorem own30_3 : decode jdk_42_method_53_code 3 = .ok (.invokespecial 489, 3) := by decide +kernel
theorem own_pd_28Ljava2flang2fAbstractStringBuilder3bLjava2flang2fVoid3b29V : parseMethodDescriptor "(Ljava/lang/AbstractStringBuilder;Ljava/lang/Void;)V" = some ⟨[(.object "java/lang/AbstractStringBuilder"), (.object "java/lang/Void")], none⟩ := by decide +kernel
theorem own30_6 : decode jdk_42_method_53_code 6 = .ok (.return_, 1) := by decide +kernel
def Q_ib (Z : State) (a1 sb bv : Addr) (cs cc : Int32) (k : Nat) (gs es : List Value) (h0 : Heap) (n0 : Nat) (v : Option Value) (h : Heap) (L : List Loc) : Prop := v = none ∧ Fr n0 L ∧ Keep h0 h [a1] ∧ ∃ (b : Addr) (k : ClassId), h0.size ≤ b ∧ Fld Z h a1 "java/lang/String" "coder" "B" (.int (0 : Int32)) ∧ Fld Z h a1 "java/lang/String" "value" "[B" (.ref b) ∧ Arv Z h b k .byte cc es (.int (0 : Int32))
set_option maxRecDepth 65536 in
set_option maxHeartbeats 40000000 in
theorem rm_ib (l : Launch) (Z : State) (a0 : Array Value) (hw : ∀ d ∈ tables_1, d.before a0 Z = true) (ws : List Jvm.Cond) (a1 sb bv : Addr) (cs cc : Int32) (k : Nat) (gs es : List Value) (h0 : Heap) (n0 : Nat) (Z0 : n0 ≤ h0.size) (S_C : Sta Z h0 "java/lang/String" "COMPACT_STRINGS" "Z" (.int cs)) (hcs : ¬ cs = 0) (u1 u2 : Value) (E_a1 : Exa Z h0 a1 "java/lang/String") (F_c : Fld Z h0 a1 "java/lang/String" "coder" "B" u1) (F_v : Fld Z h0 a1 "java/lang/String" "value" "[B" u2) (E_b : Exa Z h0 sb "java/lang/StringBuilder") (N_b : Fld Z h0 sb "java/lang/AbstractStringBuilder" "count" "I" (.int cc)) (C_b : Fld Z h0 sb "java/lang/AbstractStringBuilder" "coder" "B" (.int (0 : Int32))) (V_b : Fld Z h0 sb "java/lang/AbstractStringBuilder" "value" "[B" (.ref bv)) (kv : ClassId) (A_v : Arv Z h0 bv kv .byte (16 : Int32) gs (.int (0 : Int32))) (nsb : a1 ≠ sb) (nbv : a1 ≠ bv) (z_a1 : n0 ≤ a1) (hC : own_Cop cc k gs es) : own_Met l Z ⟨"java/lang/String", "<init>", "(Ljava/lang/StringBuilder;)V"⟩ jdk_42_method_53_code 2 none ws ⟨4, 1, 8, 106⟩ #[(.ref a1), (.ref sb)] h0 (Q_ib Z a1 sb bv cs cc k gs es h0 n0) := by
  refine own_met n0 own_pn_java_lang_String (fun m => ef2RR m a1 sb) ?_
  intro p e s m below meth c T lc hret hx hZ hby hml hown hnm hlk X eT N
  refine own_aloadN X hx (hb hby own30_0) (pc' := 1) rfl rfl rfl ?_
  refine own_aloadN X hx (hb hby own30_1) (pc' := 2) rfl rfl rfl ?_
  refine own_aconst_null X hx (hb hby own30_2) (pc' := 3) rfl ?_
  refine own_callN X hx hZ a1 [(.ref sb), .null] rfl hown (own_w hw 106 rfl) (own_w hw 107 rfl) (own_w hw 6 rfl) (own_w hw 108 rfl) (by decide) (rm_ia l Z a0 hw [] a1 sb bv cs cc k gs es h0 n0 Z0 S_C hcs _ _ E_a1 F_c F_v E_b N_b C_b V_b _ A_v nsb nbv z_a1 hC) eT (W := 0) (by decide) (by decide) (cells' := 1) (slots' := 8) rfl rfl (by decide) (by decide) (by rw [hml]; rfl) (lenOf own_pd_28Ljava2flang2fAbstractStringBuilder3bLjava2flang2fVoid3b29V rfl) rfl (S := []) rfl (Nat.le_of_eq rfl) (hb hby own30_3) (pc' := 6) rfl ?_
  intro v T h1 L lc X eT hq fN
  obtain ⟨rfl, Nq, Kq, nb, kb, hnb, F_c2, F_v2, A_nb⟩ := hq
  have N := fN _ N Nq
  show own_W _ _ _ _ _ _ _ _ []
  refine own_ret0 X hx hlk hret (hb hby own30_6) (by decide) (by decide) ?_
  rw [eT]
  exact ⟨rfl, N, Kq, nb, kb, hnb, F_c2, F_v2, A_nb⟩
theorem own31_0 : decode jdk_67_method_42_code 0 = .ok (.new 18, 3) := by decide +kernel
theorem own31_3 : decode jdk_67_method_42_code 3 = .ok (.dup, 1) := by decide +kernel
theorem own31_4 : decode jdk_67_method_42_code 4 = .ok (.aload_n 0, 1) := by decide +kernel
theorem own31_5 : decode jdk_67_method_42_code 5 = .ok (.invokespecial 137, 3) := by decide +kernel
theorem own_pd_28Ljava2flang2fStringBuilder3b29V : parseMethodDescriptor "(Ljava/lang/StringBuilder;)V" = some ⟨[(.object "java/lang/StringBuilder")], none⟩ := by decide +kernel
theorem own31_8 : decode jdk_67_method_42_code 8 = .ok (.areturn, 1) := by decide +kernel
def Q_ts (Z : State) (sb bv : Addr) (cs cc : Int32) (k : Nat) (gs es : List Value) (h0 : Heap) (n0 : Nat) (v : Option Value) (h : Heap) (L : List Loc) : Prop := ∃ (a b : Addr) (kb : ClassId), v = some (.ref a) ∧ Fr n0 L ∧ Keep h0 h [] ∧ h0.size ≤ a ∧ h0.size ≤ b ∧ Exa Z h a "java/lang/String" ∧ Fld Z h a "java/lang/String" "coder" "B" (.int (0 : Int32)) ∧ Fld Z h a "java/lang/String" "value" "[B" (.ref b) ∧ Arv Z h b kb .byte cc es (.int (0 : Int32))
set_option maxRecDepth 65536 in
set_option maxHeartbeats 40000000 in
theorem rm_ts (l : Launch) (Z : State) (a0 : Array Value) (hw : ∀ d ∈ tables_1, d.before a0 Z = true) (ws : List Jvm.Cond) (sb bv : Addr) (cs cc : Int32) (k : Nat) (gs es : List Value) (h0 : Heap) (n0 : Nat) (Z0 : n0 ≤ h0.size) (S_C : Sta Z h0 "java/lang/String" "COMPACT_STRINGS" "Z" (.int cs)) (hcs : ¬ cs = 0) (E_b : Exa Z h0 sb "java/lang/StringBuilder") (N_b : Fld Z h0 sb "java/lang/AbstractStringBuilder" "count" "I" (.int cc)) (C_b : Fld Z h0 sb "java/lang/AbstractStringBuilder" "coder" "B" (.int (0 : Int32))) (V_b : Fld Z h0 sb "java/lang/AbstractStringBuilder" "value" "[B" (.ref bv)) (kv : ClassId) (A_v : Arv Z h0 bv kv .byte (16 : Int32) gs (.int (0 : Int32))) (hC : own_Cop cc k gs es) : own_Met l Z ⟨"java/lang/StringBuilder", "toString", "()Ljava/lang/String;"⟩ jdk_67_method_42_code 1 (some (.object "java/lang/String")) ws ⟨5, 2, 12, 124⟩ #[(.ref sb)] h0 (Q_ts Z sb bv cs cc k gs es h0 n0) := by
  refine own_met n0 own_pn_java_lang_StringBuilder (fun m => ef1R m sb) ?_
  intro p e s m below meth c T lc hret hx hZ hby hml hown hnm hlk X eT N
  have Kp : Keep h0 h0 [] := Keep.refl _ _
  refine own_new X hx hZ hown (own_w hw 102 rfl) (own_w hw 5 rfl) (own_w hw 6 rfl) eT (hb hby own31_0) (pc' := 3) rfl (cells' := 1) (slots' := 4) rfl rfl (by decide) (by decide) ?_
  intro T h1 b1 X eT E gb1 E_b1 Db1
  have lt_sb_b1 : sb < b1 := Nat.lt_of_lt_of_le E_b.lt (Nat.le_of_eq gb1.symm)
  have ne_sb_b1 : sb ≠ b1 := Nat.ne_of_lt lt_sb_b1
  have lt_bv_b1 : bv < b1 := Nat.lt_of_lt_of_le A_v.lt (Nat.le_of_eq gb1.symm)
  have ne_bv_b1 : bv ≠ b1 := Nat.ne_of_lt lt_bv_b1
  have z_b1 : n0 ≤ b1 := Nat.le_trans Z0 (Nat.le_of_eq gb1.symm)
  have s_b1 : h0.size ≤ b1 := Nat.le_trans Kp.1 (Nat.le_of_eq gb1.symm)
  have S_C := S_C.ext E
  have E_b := E_b.ext E
  have N_b := N_b.ext E
  have C_b := C_b.ext E
  have V_b := V_b.ext E
  have A_v := A_v.ext E
  have Z0 := Nat.le_trans Z0 E.1
  have Kp := Kp.ext E
  have F_value_b1 : Fld Z h1 b1 "java/lang/String" "value" "[B" .null := Db1 (Or.inr (own_w hw 20 rfl)) (ty := (.array .byte)) (by decide)
  have F_coder_b1 : Fld Z h1 b1 "java/lang/String" "coder" "B" (.int (0 : Int32)) := Db1 (Or.inr (own_w hw 21 rfl)) (ty := .byte) (by decide)
  refine own_dup X hx (hb hby own31_3) (pc' := 4) rfl rfl ?_
  refine own_aloadN X hx (hb hby own31_4) (pc' := 5) rfl rfl rfl ?_
  have Kp1 := Kp.1
  refine own_callN X hx hZ b1 [(.ref sb)] rfl hown (own_w hw 103 rfl) (own_w hw 104 rfl) (own_w hw 6 rfl) (own_w hw 105 rfl) (by decide) (rm_ib l Z a0 hw [] b1 sb bv cs cc k gs es h1 n0 Z0 S_C hcs _ _ E_b1 F_coder_b1 F_value_b1 E_b N_b C_b V_b _ A_v (Ne.symm ne_sb_b1) (Ne.symm ne_bv_b1) z_b1 hC) eT (W := 1) (by decide) (by decide) (cells' := 2) (slots' := 12) rfl rfl (by decide) (by decide) (by rw [hml]; rfl) (lenOf own_pd_28Ljava2flang2fStringBuilder3b29V rfl) rfl (S := [(.ref b1)]) rfl (Nat.le_of_eq rfl) (hb hby own31_5) (pc' := 8) rfl ?_
  intro v T h2 L lc X eT hq fN
  obtain ⟨rfl, Nq, Kq, nb, kb, hnb, F_c, F_v, A_nb⟩ := hq
  have N := fN _ N Nq
  have Kp := Kp.trans Kq (allS (P := fun x => x ∈ ([] : List Addr) ∨ h0.size ≤ x) (Or.inr s_b1) all0)
  have S_C := own_sta_keep S_C Kq (nsS (own_ns_exa E_b1) ns0)
  have E_b := E_b.keep Kq
  have N_b := N_b.keep Kq (ninS ne_sb_b1 nin0)
  have C_b := C_b.keep Kq (ninS ne_sb_b1 nin0)
  have V_b := V_b.keep Kq (ninS ne_sb_b1 nin0)
  have A_v := A_v.keep Kq (ninS ne_bv_b1 nin0)
  have E_b1 := E_b1.keep Kq
  have Z0 := Nat.le_trans Z0 Kq.1
  show own_W _ _ _ _ _ _ _ _ [(.ref b1)]
  refine own_retA X hx hlk hret (hb hby own31_8) rfl rfl rfl (by decide) (by decide) ?_
  rw [eT]
  exact ⟨b1, nb, kb, rfl, N, Kp, s_b1, (Nat.le_trans Kp1 hnb), E_b1, F_c, F_v, A_nb⟩
theorem own32_0 : decode jdk_30_method_1_code 0 = .ok (.aload_n 0, 1) := by decide +kernel
theorem own32_1 : decode jdk_30_method_1_code 1 = .ok (.invokespecial 1, 3) := by decide +kernel
theorem own32_4 : decode jdk_30_method_1_code 4 = .ok (.return_, 1) := by decide +kernel
theorem own_pn_java_lang_Record : plainName "java/lang/Record" = true := by first | (simp [plainName, overriddenIn]; done) | decide +kernel
def Q_rec (Z : State) (a1 : Addr) (h0 : Heap) (n0 : Nat) (v : Option Value) (h : Heap) (L : List Loc) : Prop := v = none ∧ Fr n0 L ∧ h = h0
set_option maxRecDepth 65536 in
set_option maxHeartbeats 40000000 in
theorem rm_rec (l : Launch) (Z : State) (a0 : Array Value) (hw : ∀ d ∈ tables_1, d.before a0 Z = true) (ws : List Jvm.Cond) (a1 : Addr) (h0 : Heap) (n0 : Nat) (Z0 : n0 ≤ h0.size)  : own_Met l Z ⟨"java/lang/Record", "<init>", "()V"⟩ jdk_30_method_1_code 1 none ws ⟨1, 0, 0, 17⟩ #[(.ref a1)] h0 (Q_rec Z a1 h0 n0) := by
  refine own_met n0 own_pn_java_lang_Record (fun m => ef1R m a1) ?_
  intro p e s m below meth c T lc hret hx hZ hby hml hown hnm hlk X eT N
  refine own_aloadN X hx (hb hby own32_0) (pc' := 1) rfl rfl rfl ?_
  refine own_initO X hx hZ hown (own_w hw 152 rfl) (own_w hw 16 rfl) (own_w hw 17 rfl) eT (by rw [hml]; rfl) (hb hby own32_1) (pc' := 4) rfl (by decide) (W := 0) (Nat.le_of_eq rfl) (by decide) ?_
  intro T X eT
  refine own_ret0 X hx hlk hret (hb hby own32_4) (by decide) (by decide) ?_
  rw [eT]
  exact ⟨rfl, N, rfl⟩
theorem own33_0 : decode prog_24_method_1_code 0 = .ok (.aload_n 0, 1) := by decide +kernel
theorem own33_1 : decode prog_24_method_1_code 1 = .ok (.invokespecial 1, 3) := by decide +kernel
theorem own_pd_2829V : parseMethodDescriptor "()V" = some ⟨[], none⟩ := by decide +kernel
theorem own33_4 : decode prog_24_method_1_code 4 = .ok (.aload_n 0, 1) := by decide +kernel
theorem own33_5 : decode prog_24_method_1_code 5 = .ok (.aload_n 1, 1) := by decide +kernel
theorem own33_6 : decode prog_24_method_1_code 6 = .ok (.putfield 7, 3) := by decide +kernel
theorem own33_9 : decode prog_24_method_1_code 9 = .ok (.aload_n 0, 1) := by decide +kernel
theorem own33_10 : decode prog_24_method_1_code 10 = .ok (.aload_n 2, 1) := by decide +kernel
theorem own33_11 : decode prog_24_method_1_code 11 = .ok (.putfield 13, 3) := by decide +kernel
theorem own33_14 : decode prog_24_method_1_code 14 = .ok (.return_, 1) := by decide +kernel
theorem own_pn_com_example_runnel_runnel_broker_Pipe : plainName "com/example/runnel/runnel/broker/Pipe" = true := by first | (simp [plainName, overriddenIn]; done) | decide +kernel
theorem ef3RRR (m : MethodId) (x0 : Addr) (x1 : Addr) (x2 : Addr) : entryFrame m #[(.ref x0), (.ref x1), (.ref x2)] 3 = mkF m 0 #[.val (.ref x0), .val (.ref x1), .val (.ref x2)] [] := by first | (simp [entryFrame, mkF, argsToLocals, Value.category]; done) | rfl
def Q_pn (Z : State) (a1 ea qa : Addr) (h0 : Heap) (n0 : Nat) (v : Option Value) (h : Heap) (L : List Loc) : Prop := v = none ∧ Fr n0 L ∧ Keep h0 h [a1] ∧ Fld Z h a1 "com/example/runnel/runnel/broker/Pipe" "exchange" "Ljava/lang/String;" (.ref ea) ∧ Fld Z h a1 "com/example/runnel/runnel/broker/Pipe" "queue" "Ljava/lang/String;" (.ref qa)
set_option maxRecDepth 65536 in
set_option maxHeartbeats 40000000 in
theorem rm_pn (l : Launch) (Z : State) (a0 : Array Value) (hw : ∀ d ∈ tables_1, d.before a0 Z = true) (ws : List Jvm.Cond) (a1 ea qa : Addr) (h0 : Heap) (n0 : Nat) (Z0 : n0 ≤ h0.size) (E_a1 : Exa Z h0 a1 "com/example/runnel/runnel/broker/Pipe") (F_exchange : Fld Z h0 a1 "com/example/runnel/runnel/broker/Pipe" "exchange" "Ljava/lang/String;" .null) (F_queue : Fld Z h0 a1 "com/example/runnel/runnel/broker/Pipe" "queue" "Ljava/lang/String;" .null) (z_a1 : n0 ≤ a1) : own_Met l Z ⟨"com/example/runnel/runnel/broker/Pipe", "<init>", "(Ljava/lang/String;Ljava/lang/String;)V"⟩ prog_24_method_1_code 3 none ws ⟨2, 0, 0, 34⟩ #[(.ref a1), (.ref ea), (.ref qa)] h0 (Q_pn Z a1 ea qa h0 n0) := by
  refine own_met n0 own_pn_com_example_runnel_runnel_broker_Pipe (fun m => ef3RRR m a1 ea qa) ?_
  intro p e s m below meth c T lc hret hx hZ hby hml hown hnm hlk X eT N
  have Kp : Keep h0 h0 [a1] := Keep.refl _ _
  refine own_aloadN X hx (hb hby own33_0) (pc' := 1) rfl rfl rfl ?_
  refine own_callN X hx hZ a1 [] rfl hown (own_w hw 147 rfl) (own_w hw 148 rfl) (own_w hw 150 rfl) (own_w hw 151 rfl) (by decide) (rm_rec l Z a0 hw [] a1 h0 n0 Z0) eT (W := 0) (by decide) (by decide) (cells' := 0) (slots' := 0) rfl rfl (by decide) (by decide) (by rw [hml]; rfl) (lenOf own_pd_2829V rfl) rfl (S := []) rfl (Nat.le_of_eq rfl) (hb hby own33_1) (pc' := 4) rfl ?_
  intro v T h1 L lc X eT hq fN
  obtain ⟨rfl, Nq, hqe⟩ := hq
  have N := fN _ N Nq
  rw [hqe] at eT
  show own_W _ _ _ _ _ _ _ _ []
  refine own_aloadN X hx (hb hby own33_4) (pc' := 5) rfl rfl rfl ?_
  refine own_aloadN X hx (hb hby own33_5) (pc' := 6) rfl rfl rfl ?_
  refine own_putF X hx hZ hown (own_w hw 153 rfl) Via.refl eT F_exchange E_a1 (Or.inr ⟨(own_w hw 154 rfl), rfl, hnm⟩) (own_w hw 143 rfl) (ty := (.object "java/lang/String")) (v' := (.ref ea)) (by decide) rfl rfl (hb hby own33_6) (pc' := 9) rfl ?_
  intro T h2 lc X eT Wq fN
  have F_exchange := F_exchange.same Wq
  have E_a1 := E_a1.wr Wq
  have F_queue := F_queue.other Wq (Or.inr (slot_ne (Or.inr (own_w hw 156 rfl)) (Or.inr (own_w hw 154 rfl)) (by decide) (t := (.object "java/lang/String")) (t' := (.object "java/lang/String")) (by decide) (by decide)))
  have Z0 := Nat.le_trans Z0 (Keep.of_wr Wq).1
  have N := fN _ z_a1 N
  have Kp := Kp.wr Wq (Or.inl (List.mem_of_getElem? (i := 0) rfl))
  refine own_aloadN X hx (hb hby own33_9) (pc' := 10) rfl rfl rfl ?_
  refine own_aloadN X hx (hb hby own33_10) (pc' := 11) rfl rfl rfl ?_
  refine own_putF X hx hZ hown (own_w hw 155 rfl) Via.refl eT F_queue E_a1 (Or.inr ⟨(own_w hw 156 rfl), rfl, hnm⟩) (own_w hw 143 rfl) (ty := (.object "java/lang/String")) (v' := (.ref qa)) (by decide) rfl rfl (hb hby own33_11) (pc' := 14) rfl ?_
  intro T h3 lc X eT Wq fN
  have F_queue := F_queue.same Wq
  have E_a1 := E_a1.wr Wq
  have F_exchange := F_exchange.other Wq (Or.inr (slot_ne (Or.inr (own_w hw 154 rfl)) (Or.inr (own_w hw 156 rfl)) (by decide) (t := (.object "java/lang/String")) (t' := (.object "java/lang/String")) (by decide) (by decide)))
  have Z0 := Nat.le_trans Z0 (Keep.of_wr Wq).1
  have N := fN _ z_a1 N
  have Kp := Kp.wr Wq (Or.inl (List.mem_of_getElem? (i := 0) rfl))
  refine own_ret0 X hx hlk hret (hb hby own33_14) (by decide) (by decide) ?_
  rw [eT]
  exact ⟨rfl, N, Kp, F_exchange, F_queue⟩
theorem own34_0 : decode prog_24_method_6_code 0 = .ok (.aload_n 0, 1) := by decide +kernel
theorem own34_1 : decode prog_24_method_6_code 1 = .ok (.getfield 7, 3) := by decide +kernel
theorem own34_4 : decode prog_24_method_6_code 4 = .ok (.areturn, 1) := by decide +kernel
def Q_ex (Z : State) (a1 ea : Addr) (h0 : Heap) (n0 : Nat) (v : Option Value) (h : Heap) (L : List Loc) : Prop := v = some (.ref ea) ∧ Fr n0 L ∧ h = h0
set_option maxRecDepth 65536 in
set_option maxHeartbeats 40000000 in
theorem rm_ex (l : Launch) (Z : State) (a0 : Array Value) (hw : ∀ d ∈ tables_1, d.before a0 Z = true) (ws : List Jvm.Cond) (a1 ea : Addr) (h0 : Heap) (n0 : Nat) (Z0 : n0 ≤ h0.size) (F : Fld Z h0 a1 "com/example/runnel/runnel/broker/Pipe" "exchange" "Ljava/lang/String;" (.ref ea)) : own_Met l Z ⟨"com/example/runnel/runnel/broker/Pipe", "exchange", "()Ljava/lang/String;"⟩ prog_24_method_6_code 1 (some (.object "java/lang/String")) ws ⟨0, 0, 0, 0⟩ #[(.ref a1)] h0 (Q_ex Z a1 ea h0 n0) := by
  refine own_met n0 own_pn_com_example_runnel_runnel_broker_Pipe (fun m => ef1R m a1) ?_
  intro p e s m below meth c T lc hret hx hZ hby hml hown hnm hlk X eT N
  refine own_aloadN X hx (hb hby own34_0) (pc' := 1) rfl rfl rfl ?_
  refine own_getF X hx hZ hown (host := "") (Or.inl (own_w hw 153 rfl)) Via.refl eT F (hb hby own34_1) (pc' := 4) rfl ?_
  intro T X eT
  refine own_retA X hx hlk hret (hb hby own34_4) rfl rfl rfl (by decide) (by decide) ?_
  rw [eT]
  exact ⟨rfl, N, rfl⟩
theorem own35_0 : decode prog_24_method_7_code 0 = .ok (.aload_n 0, 1) := by decide +kernel
theorem own35_1 : decode prog_24_method_7_code 1 = .ok (.getfield 13, 3) := by decide +kernel
theorem own35_4 : decode prog_24_method_7_code 4 = .ok (.areturn, 1) := by decide +kernel
def Q_qu (Z : State) (a1 ea : Addr) (h0 : Heap) (n0 : Nat) (v : Option Value) (h : Heap) (L : List Loc) : Prop := v = some (.ref ea) ∧ Fr n0 L ∧ h = h0
set_option maxRecDepth 65536 in
set_option maxHeartbeats 40000000 in
theorem rm_qu (l : Launch) (Z : State) (a0 : Array Value) (hw : ∀ d ∈ tables_1, d.before a0 Z = true) (ws : List Jvm.Cond) (a1 ea : Addr) (h0 : Heap) (n0 : Nat) (Z0 : n0 ≤ h0.size) (F : Fld Z h0 a1 "com/example/runnel/runnel/broker/Pipe" "queue" "Ljava/lang/String;" (.ref ea)) : own_Met l Z ⟨"com/example/runnel/runnel/broker/Pipe", "queue", "()Ljava/lang/String;"⟩ prog_24_method_7_code 1 (some (.object "java/lang/String")) ws ⟨0, 0, 0, 0⟩ #[(.ref a1)] h0 (Q_qu Z a1 ea h0 n0) := by
  refine own_met n0 own_pn_com_example_runnel_runnel_broker_Pipe (fun m => ef1R m a1) ?_
  intro p e s m below meth c T lc hret hx hZ hby hml hown hnm hlk X eT N
  refine own_aloadN X hx (hb hby own35_0) (pc' := 1) rfl rfl rfl ?_
  refine own_getF X hx hZ hown (host := "") (Or.inl (own_w hw 155 rfl)) Via.refl eT F (hb hby own35_1) (pc' := 4) rfl ?_
  intro T X eT
  refine own_retA X hx hlk hret (hb hby own35_4) rfl rfl rfl (by decide) (by decide) ?_
  rw [eT]
  exact ⟨rfl, N, rfl⟩
theorem own36_0 : decode prog_24_method_2_code 0 = .ok (.new 16, 3) := by decide +kernel
theorem own36_3 : decode prog_24_method_2_code 3 = .ok (.dup, 1) := by decide +kernel
theorem own36_4 : decode prog_24_method_2_code 4 = .ok (.invokespecial 18, 3) := by decide +kernel
theorem own36_7 : decode prog_24_method_2_code 7 = .ok (.aload_n 0, 1) := by decide +kernel
theorem own36_8 : decode prog_24_method_2_code 8 = .ok (.invokevirtual 19, 3) := by decide +kernel
theorem own_pd_28Ljava2flang2fString3b29Ljava2flang2fStringBuilder3b : parseMethodDescriptor "(Ljava/lang/String;)Ljava/lang/StringBuilder;" = some ⟨[(.object "java/lang/String")], some (.object "java/lang/StringBuilder")⟩ := by decide +kernel
theorem own36_11 : decode prog_24_method_2_code 11 = .ok (.ldc 23, 2) := by decide +kernel
theorem own36_13 : decode prog_24_method_2_code 13 = .ok (.invokevirtual 19, 3) := by decide +kernel
theorem own36_16 : decode prog_24_method_2_code 16 = .ok (.aload_n 1, 1) := by decide +kernel
theorem own36_17 : decode prog_24_method_2_code 17 = .ok (.invokevirtual 19, 3) := by decide +kernel
theorem own36_20 : decode prog_24_method_2_code 20 = .ok (.invokevirtual 25, 3) := by decide +kernel
theorem own_pd_2829Ljava2flang2fString3b : parseMethodDescriptor "()Ljava/lang/String;" = some ⟨[], some (.object "java/lang/String")⟩ := by decide +kernel
theorem own36_23 : decode prog_24_method_2_code 23 = .ok (.astore_n 2, 1) := by decide +kernel
theorem own36_24 : decode prog_24_method_2_code 24 = .ok (.new 8, 3) := by decide +kernel
theorem own36_27 : decode prog_24_method_2_code 27 = .ok (.dup, 1) := by decide +kernel
theorem own36_28 : decode prog_24_method_2_code 28 = .ok (.aload_n 2, 1) := by decide +kernel
theorem own36_29 : decode prog_24_method_2_code 29 = .ok (.new 16, 3) := by decide +kernel
theorem own36_32 : decode prog_24_method_2_code 32 = .ok (.dup, 1) := by decide +kernel
theorem own36_33 : decode prog_24_method_2_code 33 = .ok (.invokespecial 18, 3) := by decide +kernel
theorem own36_36 : decode prog_24_method_2_code 36 = .ok (.aload_n 2, 1) := by decide +kernel
theorem own36_37 : decode prog_24_method_2_code 37 = .ok (.invokevirtual 19, 3) := by decide +kernel
theorem own36_40 : decode prog_24_method_2_code 40 = .ok (.ldc 23, 2) := by decide +kernel
theorem own36_42 : decode prog_24_method_2_code 42 = .ok (.invokevirtual 19, 3) := by decide +kernel
theorem own36_45 : decode prog_24_method_2_code 45 = .ok (.aload_n 0, 1) := by decide +kernel
theorem own36_46 : decode prog_24_method_2_code 46 = .ok (.invokevirtual 19, 3) := by decide +kernel
theorem own36_49 : decode prog_24_method_2_code 49 = .ok (.invokevirtual 25, 3) := by decide +kernel
theorem own36_52 : decode prog_24_method_2_code 52 = .ok (.invokespecial 29, 3) := by decide +kernel
theorem own_pd_28Ljava2flang2fString3bLjava2flang2fString3b29V : parseMethodDescriptor "(Ljava/lang/String;Ljava/lang/String;)V" = some ⟨[(.object "java/lang/String"), (.object "java/lang/String")], none⟩ := by decide +kernel
theorem own36_55 : decode prog_24_method_2_code 55 = .ok (.areturn, 1) := by decide +kernel
theorem ef_af (m : MethodId) (x0 : Addr) (x1 : Addr) : entryFrame m #[(.ref x0), (.ref x1)] 3 = mkF m 0 #[.val (.ref x0), .val (.ref x1), .unset] [] := by first | (simp [entryFrame, mkF, argsToLocals, Value.category]; done) | rfl
def Q_af (Z : State) (a1 a2 t1 t2 : Addr) (nl1 nl2 cs c1 c2 c3 g1 g2 g3 : Int32) (n1 n2 x1 x2 x3 z1 z2 z3 : Nat) (vs1 vs2 w1 w2 w3 y1 y2 y3 es qs : List Value) (h0 : Heap) (n0 : Nat) (v : Option Value) (h : Heap) (L : List Loc) : Prop := ∃ (pa ea eb qa qb : Addr) (ke kq : ClassId), v = some (.ref pa) ∧ Fr n0 L ∧ Keep h0 h [] ∧ Exa Z h pa "com/example/runnel/runnel/broker/Pipe" ∧ Fld Z h pa "com/example/runnel/runnel/broker/Pipe" "exchange" "Ljava/lang/String;" (.ref ea) ∧ Fld Z h pa "com/example/runnel/runnel/broker/Pipe" "queue" "Ljava/lang/String;" (.ref qa) ∧ (Exa Z h ea "java/lang/String" ∧ Fld Z h ea "java/lang/String" "coder" "B" (.int (0 : Int32)) ∧ Fld Z h ea "java/lang/String" "value" "[B" (.ref eb) ∧ Arv Z h eb ke .byte c3 es (.int (0 : Int32))) ∧ (Exa Z h qa "java/lang/String" ∧ Fld Z h qa "java/lang/String" "coder" "B" (.int (0 : Int32)) ∧ Fld Z h qa "java/lang/String" "value" "[B" (.ref qb) ∧ Arv Z h qb kq .byte g3 qs (.int (0 : Int32)))
set_option maxRecDepth 65536 in
set_option maxHeartbeats 40000000 in
theorem rm_af (l : Launch) (Z : State) (a0 : Array Value) (hw : ∀ d ∈ tables_1, d.before a0 Z = true) (hEL : EW Z a0 own_EL) (ws : List Jvm.Cond) (a1 a2 t1 t2 : Addr) (nl1 nl2 cs c1 c2 c3 g1 g2 g3 : Int32) (n1 n2 x1 x2 x3 z1 z2 z3 : Nat) (vs1 vs2 w1 w2 w3 y1 y2 y3 es qs : List Value) (h0 : Heap) (n0 : Nat) (Z0 : n0 ≤ h0.size) (S_C : Sta Z h0 "java/lang/String" "COMPACT_STRINGS" "Z" (.int cs)) (hcs : ¬ cs = 0) (E_1 : Exa Z h0 a1 "java/lang/String") (C_1 : Fld Z h0 a1 "java/lang/String" "coder" "B" (.int (0 : Int32))) (V_1 : Fld Z h0 a1 "java/lang/String" "value" "[B" (.ref t1)) (k_1 : ClassId) (A_1 : Arv Z h0 t1 k_1 .byte nl1 vs1 (.int (0 : Int32))) (E_2 : Exa Z h0 a2 "java/lang/String") (C_2 : Fld Z h0 a2 "java/lang/String" "coder" "B" (.int (0 : Int32))) (V_2 : Fld Z h0 a2 "java/lang/String" "value" "[B" (.ref t2)) (k_2 : ClassId) (A_2 : Arv Z h0 t2 k_2 .byte nl2 vs2 (.int (0 : Int32))) (q1 : own_App (0 : Int32) nl1 c1 0 n1 vs1 [(.int (0 : Int32)), (.int (0 : Int32)), (.int (0 : Int32)), (.int (0 : Int32)), (.int (0 : Int32)), (.int (0 : Int32)), (.int (0 : Int32)), (.int (0 : Int32)), (.int (0 : Int32)), (.int (0 : Int32)), (.int (0 : Int32)), (.int (0 : Int32)), (.int (0 : Int32)), (.int (0 : Int32)), (.int (0 : Int32)), (.int (0 : Int32))] w1) (q2 : own_App c1 (1 : Int32) c2 x1 1 [(.int (46 : Int32))] w1 w2) (q3 : own_App c2 nl2 c3 x2 n2 vs2 w2 w3) (q5 : own_App (0 : Int32) c3 g1 0 x3 es [(.int (0 : Int32)), (.int (0 : Int32)), (.int (0 : Int32)), (.int (0 : Int32)), (.int (0 : Int32)), (.int (0 : Int32)), (.int (0 : Int32)), (.int (0 : Int32)), (.int (0 : Int32)), (.int (0 : Int32)), (.int (0 : Int32)), (.int (0 : Int32)), (.int (0 : Int32)), (.int (0 : Int32)), (.int (0 : Int32)), (.int (0 : Int32))] y1) (q6 : own_App g1 (1 : Int32) g2 z1 1 [(.int (46 : Int32))] y1 y2) (q7 : own_App g2 nl1 g3 z2 n1 vs1 y2 y3) (q4 : own_Cop c3 x3 w3 es) (q8 : own_Cop g3 z3 y3 qs) :
    MetFree l (⟨"com/example/runnel/runnel/broker/Pipe", "after", "(Ljava/lang/String;Ljava/lang/String;)Lcom/example/runnel/runnel/broker/Pipe;"⟩ : MethodName) (head1 (Jvm.Cond.code (⟨"com/example/runnel/runnel/broker/Pipe", "after", "(Ljava/lang/String;Ljava/lang/String;)Lcom/example/runnel/runnel/broker/Pipe;"⟩ : MethodName) prog_24_method_2_code 3 (some (.object "com/example/runnel/runnel/broker/Pipe")) :: ws) ({ frames := 6, cells := 13, slots := 82, locals := 141 } : Room)) (fun a U => a = #[(.ref a1), (.ref a2)] ∧ Z.Warmed39 U.vm ∧ U.heap = h0 ∧ CHv Z own_EL U.vm h0) (fun _ _ _ _ _ => True) (fun _ U o U' => ∃ v L, o = .returned v ∧ Q_af Z a1 a2 t1 t2 nl1 nl2 cs c1 c2 c3 g1 g2 g3 n1 n2 x1 x2 x3 z1 z2 z3 vs1 vs2 w1 w2 w3 y1 y2 y3 es qs h0 n0 v U'.heap L ∧ CHr Z own_EL U.vm U.heap U'.vm U'.heap ∧ ReturnedEndW U o U' L ({ frames := 6, cells := 13, slots := 82, locals := 141 } : Room).cells ({ frames := 6, cells := 13, slots := 82, locals := 141 } : Room).slots) := by
  refine MetFree.of_bodySF (plainFor_of_name own_pn_com_example_runnel_runnel_broker_Pipe) hisR ?_
  intro p e s m args below meth c s₁ Bd hml0 hP hK
  obtain ⟨rfl, hZ, hh, H⟩ := hP
  have hx := Bd.exec
  have hby := Bd.bytes
  have hml : c.maxLocals = 3 := hml0
  have hown : s.vm.findClass "com/example/runnel/runnel/broker/Pipe" = some m.cls := findClass_of_methodNamed Bd.named
  have hnm := (name_of_methodNamed Bd.named Bd.method).1
  have hlk := Bd.notSynchronized
  obtain ⟨lc, hlc⟩ : ∃ lc : List Loc, lc = [] := ⟨_, rfl⟩
  have X : Stand p l e ({ frames := 6, cells := 13, slots := 82, locals := 141 } : Room) s m #[(.ref a1), (.ref a2)] below meth c s₁ lc 0 0 := hlc ▸ Stand.of_body Bd
  have eT : s₁.heap = h0 := by rw [← hh, Bd.state]; rfl
  have N : Fr n0 lc := hlc ▸ Fr.nil n0
  obtain ⟨vm0, hvm⟩ : ∃ v : Vm, v = s.vm := ⟨_, rfl⟩
  have X : Stand p l e ({ frames := 6, cells := 13, slots := 82, locals := 141 } : Room) (s.setVm vm0) m #[(.ref a1), (.ref a2)] below meth c s₁ lc 0 0 := by rw [hvm]; exact X
  have hZ : Z.Warmed39 (s.setVm vm0).vm := by rw [hvm]; exact hZ
  have hown : (s.setVm vm0).vm.findClass "com/example/runnel/runnel/broker/Pipe" = some m.cls := by rw [hvm]; exact hown
  have hS : s.Since vm0 h0.size := by rw [hvm]; exact (State.WarmedH.refl s).since _
  have hk : h0.size ≤ h0.size := Nat.le_refl _
  have CR : CHr Z own_EL s.vm h0 vm0 h0 := by rw [hvm]; exact CHr.refl H
  have H : CHv Z own_EL vm0 h0 := by rw [hvm]; exact H
  refine own_enterS (ef_af m a1 a2) ?_
  obtain ⟨T, hT⟩ : ∃ T : State, T = s₁ := ⟨_, rfl⟩
  rw [← hT] at X eT ⊢
  show own_W _ _ _ _ _ _ _ _ []
  have Kp : Keep h0 h0 [] := Keep.refl _ _
  refine own_new X hx hZ hown (own_w hw 30 rfl) (own_w hw 31 rfl) (own_w hw 32 rfl) eT (hb hby own36_0) (pc' := 3) rfl (cells' := 1) (slots' := 4) rfl rfl (by decide) (by decide) ?_
  intro T h1 b1 X eT E gb1 E_b1 Db1
  have lt_a1_b1 : a1 < b1 := Nat.lt_of_lt_of_le E_1.lt (Nat.le_of_eq gb1.symm)
  have ne_a1_b1 : a1 ≠ b1 := Nat.ne_of_lt lt_a1_b1
  have lt_t1_b1 : t1 < b1 := Nat.lt_of_lt_of_le A_1.lt (Nat.le_of_eq gb1.symm)
  have ne_t1_b1 : t1 ≠ b1 := Nat.ne_of_lt lt_t1_b1
  have lt_a2_b1 : a2 < b1 := Nat.lt_of_lt_of_le E_2.lt (Nat.le_of_eq gb1.symm)
  have ne_a2_b1 : a2 ≠ b1 := Nat.ne_of_lt lt_a2_b1
  have lt_t2_b1 : t2 < b1 := Nat.lt_of_lt_of_le A_2.lt (Nat.le_of_eq gb1.symm)
  have ne_t2_b1 : t2 ≠ b1 := Nat.ne_of_lt lt_t2_b1
  have z_b1 : n0 ≤ b1 := Nat.le_trans Z0 (Nat.le_of_eq gb1.symm)
  have s_b1 : h0.size ≤ b1 := Nat.le_trans Kp.1 (Nat.le_of_eq gb1.symm)
  have CR := CR.trans (CHr.ext E H)
  have H := H.ext E
  have hk := Nat.le_trans hk E.1
  have S_C := S_C.ext E
  have E_1 := E_1.ext E
  have C_1 := C_1.ext E
  have V_1 := V_1.ext E
  have A_1 := A_1.ext E
  have E_2 := E_2.ext E
  have C_2 := C_2.ext E
  have V_2 := V_2.ext E
  have A_2 := A_2.ext E
  have Z0 := Nat.le_trans Z0 E.1
  have Kp := Kp.ext E
  have F_value_b1 : Fld Z h1 b1 "java/lang/AbstractStringBuilder" "value" "[B" .null := Db1 (Or.inl (own_w hw 45 rfl)) (ty := (.array .byte)) (by decide)
  have F_coder_b1 : Fld Z h1 b1 "java/lang/AbstractStringBuilder" "coder" "B" (.int (0 : Int32)) := Db1 (Or.inl (own_w hw 47 rfl)) (ty := .byte) (by decide)
  have F_count_b1 : Fld Z h1 b1 "java/lang/AbstractStringBuilder" "count" "I" (.int (0 : Int32)) := Db1 (Or.inl (own_w hw 70 rfl)) (ty := .int) (by decide)
  refine own_dup X hx (hb hby own36_3) (pc' := 4) rfl rfl ?_
  refine own_callN X hx hZ b1 [] rfl hown (own_w hw 33 rfl) (own_w hw 34 rfl) (own_w hw 32 rfl) (own_w hw 35 rfl) (by decide) (rm_si l Z a0 hw [] b1 cs h1 n0 Z0 S_C hcs _ _ E_b1 F_value_b1 F_coder_b1 F_count_b1 z_b1) eT (W := 1) (by decide) (by decide) (cells' := 2) (slots' := 20) rfl rfl (by decide) (by decide) (by rw [hml]; rfl) (lenOf own_pd_2829V rfl) rfl (S := [(.ref b1)]) rfl (Nat.le_of_eq rfl) (hb hby own36_4) (pc' := 7) rfl ?_
  intro v T h2 L lc X eT hq fN
  obtain ⟨rfl, Nq, Kq, vb1, kb, hbv, V_b1, C_b1, N_b1, A_vb1⟩ := hq
  have N := fN _ N Nq
  have S_vb1 : Safe Z own_EL vm0 h1 vb1 := Safe.new hbv
  have z_vb1 : n0 ≤ vb1 := Nat.le_trans Z0 hbv
  have s_vb1 : h0.size ≤ vb1 := Nat.le_trans Kp.1 hbv
  have lt_a1_vb1 : a1 < vb1 := Nat.lt_of_lt_of_le E_1.lt hbv
  have ne_a1_vb1 : a1 ≠ vb1 := Nat.ne_of_lt lt_a1_vb1
  have lt_t1_vb1 : t1 < vb1 := Nat.lt_of_lt_of_le A_1.lt hbv
  have ne_t1_vb1 : t1 ≠ vb1 := Nat.ne_of_lt lt_t1_vb1
  have lt_a2_vb1 : a2 < vb1 := Nat.lt_of_lt_of_le E_2.lt hbv
  have ne_a2_vb1 : a2 ≠ vb1 := Nat.ne_of_lt lt_a2_vb1
  have lt_t2_vb1 : t2 < vb1 := Nat.lt_of_lt_of_le A_2.lt hbv
  have ne_t2_vb1 : t2 ≠ vb1 := Nat.ne_of_lt lt_t2_vb1
  have lt_b1_vb1 : b1 < vb1 := Nat.lt_of_lt_of_le E_b1.lt hbv
  have ne_b1_vb1 : b1 ≠ vb1 := Nat.ne_of_lt lt_b1_vb1
  have Kp := Kp.trans Kq (allS (P := fun x => x ∈ ([] : List Addr) ∨ h0.size ≤ x) (Or.inr s_b1) all0)
  have hsf : ∀ x ∈ ([b1] : List Addr), Safe Z own_EL vm0 h1 x := (sfS (Safe.exa hZ.alike E_b1 (by decide) (by decide)) sf0)
  have S_vb1 := S_vb1.keep Kq hsf H
  have CR := CR.trans (CHr.keep Kq hsf H)
  have H := H.keep Kq hsf
  have hk := Nat.le_trans hk Kq.1
  have S_C := own_sta_keep S_C Kq (nsS (own_ns_exa E_b1) ns0)
  have E_1 := E_1.keep Kq
  have C_1 := C_1.keep Kq (ninS ne_a1_b1 nin0)
  have V_1 := V_1.keep Kq (ninS ne_a1_b1 nin0)
  have A_1 := A_1.keep Kq (ninS ne_t1_b1 nin0)
  have E_2 := E_2.keep Kq
  have C_2 := C_2.keep Kq (ninS ne_a2_b1 nin0)
  have V_2 := V_2.keep Kq (ninS ne_a2_b1 nin0)
  have A_2 := A_2.keep Kq (ninS ne_t2_b1 nin0)
  have E_b1 := E_b1.keep Kq
  have Z0 := Nat.le_trans Z0 Kq.1
  have S_b1 : Safe Z own_EL vm0 h2 b1 := Safe.exa hZ.alike E_b1 (by decide) (by decide)
  show own_W _ _ _ _ _ _ _ _ [(.ref b1)]
  refine own_aloadN X hx (hb hby own36_7) (pc' := 8) rfl rfl rfl ?_
  refine own_callV X hx hZ (y := (⟨"java/lang/StringBuilder", "append", "(Ljava/lang/String;)Ljava/lang/StringBuilder;"⟩ : MethodName)) b1 [(.ref a1)] hown (own_w hw 48 rfl) (own_w hw 49 rfl) (own_w hw 51 rfl) (own_w hw 50 rfl) (own_w hw 32 rfl) (own_w hw 52 rfl) (by decide) (rm_sap l Z a0 hw [] b1 vb1 a1 t1 cs (0 : Int32) nl1 c1 0 n1 vs1 [(.int (0 : Int32)), (.int (0 : Int32)), (.int (0 : Int32)), (.int (0 : Int32)), (.int (0 : Int32)), (.int (0 : Int32)), (.int (0 : Int32)), (.int (0 : Int32)), (.int (0 : Int32)), (.int (0 : Int32)), (.int (0 : Int32)), (.int (0 : Int32)), (.int (0 : Int32)), (.int (0 : Int32)), (.int (0 : Int32)), (.int (0 : Int32))] w1 _ h2 n0 Z0 S_C hcs E_b1 N_b1 C_b1 V_b1 A_vb1 E_1 C_1 V_1 _ A_1 z_b1 ne_b1_vb1 ne_a1_b1 ne_t1_b1 z_vb1 ne_a1_vb1 ne_t1_vb1 q1) E_b1 eT (W := 0) (by decide) (by decide) (cells' := 2) (slots' := 20) rfl rfl (by decide) (by decide) (by rw [hml]; rfl) (lenOf own_pd_28Ljava2flang2fString3b29Ljava2flang2fStringBuilder3b rfl) rfl (S := []) rfl (Nat.le_of_eq rfl) (hb hby own36_8) (pc' := 11) rfl ?_
  intro v T h3 L lc X eT hq fN
  obtain ⟨rfl, Nq, Kq, N_n, C_n, V_n, A_n⟩ := hq
  have N := fN _ N Nq
  have hsf : ∀ x ∈ ([b1, vb1] : List Addr), Safe Z own_EL vm0 h2 x := (sfS S_b1 (sfS S_vb1 sf0))
  have S_vb1 := S_vb1.keep Kq hsf H
  have S_b1 := S_b1.keep Kq hsf H
  have CR := CR.trans (CHr.keep Kq hsf H)
  have H := H.keep Kq hsf
  have hk := Nat.le_trans hk Kq.1
  have S_C := own_sta_keep S_C Kq (nsS (own_ns_exa E_b1) (nsS (own_ns_arv A_vb1) ns0))
  have E_1 := E_1.keep Kq
  have C_1 := C_1.keep Kq (ninS ne_a1_b1 (ninS ne_a1_vb1 nin0))
  have V_1 := V_1.keep Kq (ninS ne_a1_b1 (ninS ne_a1_vb1 nin0))
  have A_1 := A_1.keep Kq (ninS ne_t1_b1 (ninS ne_t1_vb1 nin0))
  have E_2 := E_2.keep Kq
  have C_2 := C_2.keep Kq (ninS ne_a2_b1 (ninS ne_a2_vb1 nin0))
  have V_2 := V_2.keep Kq (ninS ne_a2_b1 (ninS ne_a2_vb1 nin0))
  have A_2 := A_2.keep Kq (ninS ne_t2_b1 (ninS ne_t2_vb1 nin0))
  have E_b1 := E_b1.keep Kq
  have Z0 := Nat.le_trans Z0 Kq.1
  have Kp := Kp.trans Kq (allS (P := fun x => x ∈ ([] : List Addr) ∨ h0.size ≤ x) (Or.inr s_b1) (allS (P := fun x => x ∈ ([] : List Addr) ∨ h0.size ≤ x) (Or.inr s_vb1) all0))
  have N_b1 := N_n
  have C_b1 := C_n
  have V_b1 := V_n
  have A_vb1 := A_n
  show own_W _ _ _ _ _ _ _ _ [(.ref b1)]
  refine own_ldcS X hx hZ hown (own_w hw 96 rfl) (own_wS hw) eT hS hk hEL own_mem_96 H [(.int (46 : Int32))] (1 : Int32) own_txt_96 (by decide) rfl (hb hby own36_11) (pc' := 13) rfl 4 (by decide) (by decide) (cells' := 4) (slots' := 28) rfl rfl (by decide) (by decide) ?_
  intro sa4 T h4 k1 sb4 k_sb4 vm0 X eT E hS hk hZ hown E_sa4 FC_sa4 FV_sa4 A_sb4 CQ hne_sa4
  have S_vb1 := CQ.safe A_vb1.lt S_vb1
  have S_b1 := CQ.safe E_b1.lt S_b1
  have CR := CR.trans CQ
  have H := CQ.1
  have S_C := S_C.ext E
  have E_1 := E_1.ext E
  have C_1 := C_1.ext E
  have V_1 := V_1.ext E
  have A_1 := A_1.ext E
  have E_2 := E_2.ext E
  have C_2 := C_2.ext E
  have V_2 := V_2.ext E
  have A_2 := A_2.ext E
  have E_b1 := E_b1.ext E
  have V_b1 := V_b1.ext E
  have C_b1 := C_b1.ext E
  have N_b1 := N_b1.ext E
  have A_vb1 := A_vb1.ext E
  have Z0 := Nat.le_trans Z0 E.1
  have Kp := Kp.ext E
  have ne_vb1_sa4 := (hne_sa4 _ S_vb1).1
  have ne_vb1_sb4 := (hne_sa4 _ S_vb1).2
  have ne_b1_sa4 := (hne_sa4 _ S_b1).1
  have ne_b1_sb4 := (hne_sa4 _ S_b1).2
  refine own_callV X hx hZ (y := (⟨"java/lang/StringBuilder", "append", "(Ljava/lang/String;)Ljava/lang/StringBuilder;"⟩ : MethodName)) b1 [(.ref sa4)] hown (own_w hw 48 rfl) (own_w hw 49 rfl) (own_w hw 51 rfl) (own_w hw 50 rfl) (own_w hw 32 rfl) (own_w hw 52 rfl) (by decide) (rm_sap l Z a0 hw [] b1 vb1 sa4 sb4 cs c1 (1 : Int32) c2 x1 1 [(.int (46 : Int32))] w1 w2 _ h4 n0 Z0 S_C hcs E_b1 N_b1 C_b1 V_b1 A_vb1 E_sa4 FC_sa4 FV_sa4 _ A_sb4 z_b1 ne_b1_vb1 (Ne.symm ne_b1_sa4) (Ne.symm ne_b1_sb4) z_vb1 (Ne.symm ne_vb1_sa4) (Ne.symm ne_vb1_sb4) q2) E_b1 eT (W := 0) (by decide) (by decide) (cells' := 4) (slots' := 28) rfl rfl (by decide) (by decide) (by rw [hml]; rfl) (lenOf own_pd_28Ljava2flang2fString3b29Ljava2flang2fStringBuilder3b rfl) rfl (S := []) rfl (Nat.le_of_eq rfl) (hb hby own36_13) (pc' := 16) rfl ?_
  intro v T h5 L lc X eT hq fN
  obtain ⟨rfl, Nq, Kq, N_n, C_n, V_n, A_n⟩ := hq
  have N := fN _ N Nq
  have hsf : ∀ x ∈ ([b1, vb1] : List Addr), Safe Z own_EL vm0 h4 x := (sfS S_b1 (sfS S_vb1 sf0))
  have S_vb1 := S_vb1.keep Kq hsf H
  have S_b1 := S_b1.keep Kq hsf H
  have CR := CR.trans (CHr.keep Kq hsf H)
  have H := H.keep Kq hsf
  have hk := Nat.le_trans hk Kq.1
  have S_C := own_sta_keep S_C Kq (nsS (own_ns_exa E_b1) (nsS (own_ns_arv A_vb1) ns0))
  have E_1 := E_1.keep Kq
  have C_1 := C_1.keep Kq (ninS ne_a1_b1 (ninS ne_a1_vb1 nin0))
  have V_1 := V_1.keep Kq (ninS ne_a1_b1 (ninS ne_a1_vb1 nin0))
  have A_1 := A_1.keep Kq (ninS ne_t1_b1 (ninS ne_t1_vb1 nin0))
  have E_2 := E_2.keep Kq
  have C_2 := C_2.keep Kq (ninS ne_a2_b1 (ninS ne_a2_vb1 nin0))
  have V_2 := V_2.keep Kq (ninS ne_a2_b1 (ninS ne_a2_vb1 nin0))
  have A_2 := A_2.keep Kq (ninS ne_t2_b1 (ninS ne_t2_vb1 nin0))
  have E_b1 := E_b1.keep Kq
  have Z0 := Nat.le_trans Z0 Kq.1
  have Kp := Kp.trans Kq (allS (P := fun x => x ∈ ([] : List Addr) ∨ h0.size ≤ x) (Or.inr s_b1) (allS (P := fun x => x ∈ ([] : List Addr) ∨ h0.size ≤ x) (Or.inr s_vb1) all0))
  have N_b1 := N_n
  have C_b1 := C_n
  have V_b1 := V_n
  have A_vb1 := A_n
  show own_W _ _ _ _ _ _ _ _ [(.ref b1)]
  refine own_aloadN X hx (hb hby own36_16) (pc' := 17) rfl rfl rfl ?_
  refine own_callV X hx hZ (y := (⟨"java/lang/StringBuilder", "append", "(Ljava/lang/String;)Ljava/lang/StringBuilder;"⟩ : MethodName)) b1 [(.ref a2)] hown (own_w hw 48 rfl) (own_w hw 49 rfl) (own_w hw 51 rfl) (own_w hw 50 rfl) (own_w hw 32 rfl) (own_w hw 52 rfl) (by decide) (rm_sap l Z a0 hw [] b1 vb1 a2 t2 cs c2 nl2 c3 x2 n2 vs2 w2 w3 _ h5 n0 Z0 S_C hcs E_b1 N_b1 C_b1 V_b1 A_vb1 E_2 C_2 V_2 _ A_2 z_b1 ne_b1_vb1 ne_a2_b1 ne_t2_b1 z_vb1 ne_a2_vb1 ne_t2_vb1 q3) E_b1 eT (W := 0) (by decide) (by decide) (cells' := 4) (slots' := 28) rfl rfl (by decide) (by decide) (by rw [hml]; rfl) (lenOf own_pd_28Ljava2flang2fString3b29Ljava2flang2fStringBuilder3b rfl) rfl (S := []) rfl (Nat.le_of_eq rfl) (hb hby own36_17) (pc' := 20) rfl ?_
  intro v T h6 L lc X eT hq fN
  obtain ⟨rfl, Nq, Kq, N_n, C_n, V_n, A_n⟩ := hq
  have N := fN _ N Nq
  have hsf : ∀ x ∈ ([b1, vb1] : List Addr), Safe Z own_EL vm0 h5 x := (sfS S_b1 (sfS S_vb1 sf0))
  have S_vb1 := S_vb1.keep Kq hsf H
  have S_b1 := S_b1.keep Kq hsf H
  have CR := CR.trans (CHr.keep Kq hsf H)
  have H := H.keep Kq hsf
  have hk := Nat.le_trans hk Kq.1
  have S_C := own_sta_keep S_C Kq (nsS (own_ns_exa E_b1) (nsS (own_ns_arv A_vb1) ns0))
  have E_1 := E_1.keep Kq
  have C_1 := C_1.keep Kq (ninS ne_a1_b1 (ninS ne_a1_vb1 nin0))
  have V_1 := V_1.keep Kq (ninS ne_a1_b1 (ninS ne_a1_vb1 nin0))
  have A_1 := A_1.keep Kq (ninS ne_t1_b1 (ninS ne_t1_vb1 nin0))
  have E_2 := E_2.keep Kq
  have C_2 := C_2.keep Kq (ninS ne_a2_b1 (ninS ne_a2_vb1 nin0))
  have V_2 := V_2.keep Kq (ninS ne_a2_b1 (ninS ne_a2_vb1 nin0))
  have A_2 := A_2.keep Kq (ninS ne_t2_b1 (ninS ne_t2_vb1 nin0))
  have E_b1 := E_b1.keep Kq
  have Z0 := Nat.le_trans Z0 Kq.1
  have Kp := Kp.trans Kq (allS (P := fun x => x ∈ ([] : List Addr) ∨ h0.size ≤ x) (Or.inr s_b1) (allS (P := fun x => x ∈ ([] : List Addr) ∨ h0.size ≤ x) (Or.inr s_vb1) all0))
  have N_b1 := N_n
  have C_b1 := C_n
  have V_b1 := V_n
  have A_vb1 := A_n
  show own_W _ _ _ _ _ _ _ _ [(.ref b1)]
  refine own_callV X hx hZ (y := (⟨"java/lang/StringBuilder", "toString", "()Ljava/lang/String;"⟩ : MethodName)) b1 [] hown (own_w hw 97 rfl) (own_w hw 98 rfl) (own_w hw 100 rfl) (own_w hw 99 rfl) (own_w hw 32 rfl) (own_w hw 101 rfl) (by decide) (rm_ts l Z a0 hw [] b1 vb1 cs c3 x3 w3 es h6 n0 Z0 S_C hcs E_b1 N_b1 C_b1 V_b1 _ A_vb1 q4) E_b1 eT (W := 0) (by decide) (by decide) (cells' := 6) (slots' := 40) rfl rfl (by decide) (by decide) (by rw [hml]; rfl) (lenOf own_pd_2829Ljava2flang2fString3b rfl) rfl (S := []) rfl (Nat.le_of_eq rfl) (hb hby own36_20) (pc' := 23) rfl ?_
  intro v T h7 L lc X eT hq fN
  obtain ⟨ea, eb, k_e, rfl, Nq, Kq, hsa, hsb, E_e, C_e, V_e, A_e⟩ := hq
  have N := fN _ N Nq
  have lt_a1_ea : a1 < ea := Nat.lt_of_lt_of_le E_1.lt hsa
  have ne_a1_ea : a1 ≠ ea := Nat.ne_of_lt lt_a1_ea
  have lt_t1_ea : t1 < ea := Nat.lt_of_lt_of_le A_1.lt hsa
  have ne_t1_ea : t1 ≠ ea := Nat.ne_of_lt lt_t1_ea
  have lt_a2_ea : a2 < ea := Nat.lt_of_lt_of_le E_2.lt hsa
  have ne_a2_ea : a2 ≠ ea := Nat.ne_of_lt lt_a2_ea
  have lt_t2_ea : t2 < ea := Nat.lt_of_lt_of_le A_2.lt hsa
  have ne_t2_ea : t2 ≠ ea := Nat.ne_of_lt lt_t2_ea
  have lt_b1_ea : b1 < ea := Nat.lt_of_lt_of_le E_b1.lt hsa
  have ne_b1_ea : b1 ≠ ea := Nat.ne_of_lt lt_b1_ea
  have lt_vb1_ea : vb1 < ea := Nat.lt_of_lt_of_le A_vb1.lt hsa
  have ne_vb1_ea : vb1 ≠ ea := Nat.ne_of_lt lt_vb1_ea
  have lt_a1_eb : a1 < eb := Nat.lt_of_lt_of_le E_1.lt hsb
  have ne_a1_eb : a1 ≠ eb := Nat.ne_of_lt lt_a1_eb
  have lt_t1_eb : t1 < eb := Nat.lt_of_lt_of_le A_1.lt hsb
  have ne_t1_eb : t1 ≠ eb := Nat.ne_of_lt lt_t1_eb
  have lt_a2_eb : a2 < eb := Nat.lt_of_lt_of_le E_2.lt hsb
  have ne_a2_eb : a2 ≠ eb := Nat.ne_of_lt lt_a2_eb
  have lt_t2_eb : t2 < eb := Nat.lt_of_lt_of_le A_2.lt hsb
  have ne_t2_eb : t2 ≠ eb := Nat.ne_of_lt lt_t2_eb
  have lt_b1_eb : b1 < eb := Nat.lt_of_lt_of_le E_b1.lt hsb
  have ne_b1_eb : b1 ≠ eb := Nat.ne_of_lt lt_b1_eb
  have lt_vb1_eb : vb1 < eb := Nat.lt_of_lt_of_le A_vb1.lt hsb
  have ne_vb1_eb : vb1 ≠ eb := Nat.ne_of_lt lt_vb1_eb
  have z_ea : n0 ≤ ea := Nat.le_trans Z0 hsa
  have s_ea : h0.size ≤ ea := Nat.le_trans Kp.1 hsa
  have z_eb : n0 ≤ eb := Nat.le_trans Z0 hsb
  have s_eb : h0.size ≤ eb := Nat.le_trans Kp.1 hsb
  have hsf : ∀ x ∈ ([] : List Addr), Safe Z own_EL vm0 h6 x := sf0
  have S_vb1 := S_vb1.keep Kq hsf H
  have S_b1 := S_b1.keep Kq hsf H
  have CR := CR.trans (CHr.keep Kq hsf H)
  have H := H.keep Kq hsf
  have hk := Nat.le_trans hk Kq.1
  have S_C := own_sta_keep S_C Kq ns0
  have E_1 := E_1.keep Kq
  have C_1 := C_1.keep Kq nin0
  have V_1 := V_1.keep Kq nin0
  have A_1 := A_1.keep Kq nin0
  have E_2 := E_2.keep Kq
  have C_2 := C_2.keep Kq nin0
  have V_2 := V_2.keep Kq nin0
  have A_2 := A_2.keep Kq nin0
  have E_b1 := E_b1.keep Kq
  have V_b1 := V_b1.keep Kq nin0
  have C_b1 := C_b1.keep Kq nin0
  have N_b1 := N_b1.keep Kq nin0
  have A_vb1 := A_vb1.keep Kq nin0
  have Z0 := Nat.le_trans Z0 Kq.1
  have Kp := Kp.trans Kq all0
  show own_W _ _ _ _ _ _ _ _ [(.ref ea)]
  refine own_astoreN X hx (hb hby own36_23) (pc' := 24) rfl rfl (Ls' := #[.val (.ref a1), .val (.ref a2), .val (.ref ea)]) rfl ?_
  refine own_new X hx hZ hown (own_w hw 142 rfl) (own_w hw 143 rfl) (own_w hw 28 rfl) eT (hb hby own36_24) (pc' := 27) rfl (cells' := 7) (slots' := 42) rfl rfl (by decide) (by decide) ?_
  intro T h8 b8 X eT E gb8 E_b8 Db8
  have lt_a1_b8 : a1 < b8 := Nat.lt_of_lt_of_le E_1.lt (Nat.le_of_eq gb8.symm)
  have ne_a1_b8 : a1 ≠ b8 := Nat.ne_of_lt lt_a1_b8
  have lt_t1_b8 : t1 < b8 := Nat.lt_of_lt_of_le A_1.lt (Nat.le_of_eq gb8.symm)
  have ne_t1_b8 : t1 ≠ b8 := Nat.ne_of_lt lt_t1_b8
  have lt_a2_b8 : a2 < b8 := Nat.lt_of_lt_of_le E_2.lt (Nat.le_of_eq gb8.symm)
  have ne_a2_b8 : a2 ≠ b8 := Nat.ne_of_lt lt_a2_b8
  have lt_t2_b8 : t2 < b8 := Nat.lt_of_lt_of_le A_2.lt (Nat.le_of_eq gb8.symm)
  have ne_t2_b8 : t2 ≠ b8 := Nat.ne_of_lt lt_t2_b8
  have lt_ea_b8 : ea < b8 := Nat.lt_of_lt_of_le E_e.lt (Nat.le_of_eq gb8.symm)
  have ne_ea_b8 : ea ≠ b8 := Nat.ne_of_lt lt_ea_b8
  have lt_eb_b8 : eb < b8 := Nat.lt_of_lt_of_le A_e.lt (Nat.le_of_eq gb8.symm)
  have ne_eb_b8 : eb ≠ b8 := Nat.ne_of_lt lt_eb_b8
  have z_b8 : n0 ≤ b8 := Nat.le_trans Z0 (Nat.le_of_eq gb8.symm)
  have s_b8 : h0.size ≤ b8 := Nat.le_trans Kp.1 (Nat.le_of_eq gb8.symm)
  have CR := CR.trans (CHr.ext E H)
  have H := H.ext E
  have hk := Nat.le_trans hk E.1
  have S_C := S_C.ext E
  have E_1 := E_1.ext E
  have C_1 := C_1.ext E
  have V_1 := V_1.ext E
  have A_1 := A_1.ext E
  have E_2 := E_2.ext E
  have C_2 := C_2.ext E
  have V_2 := V_2.ext E
  have A_2 := A_2.ext E
  have E_e := E_e.ext E
  have C_e := C_e.ext E
  have V_e := V_e.ext E
  have A_e := A_e.ext E
  have Z0 := Nat.le_trans Z0 E.1
  have Kp := Kp.ext E
  have F_exchange_b8 : Fld Z h8 b8 "com/example/runnel/runnel/broker/Pipe" "exchange" "Ljava/lang/String;" .null := Db8 (Or.inr (own_w hw 154 rfl)) (ty := (.object "java/lang/String")) (by decide)
  have F_queue_b8 : Fld Z h8 b8 "com/example/runnel/runnel/broker/Pipe" "queue" "Ljava/lang/String;" .null := Db8 (Or.inr (own_w hw 156 rfl)) (ty := (.object "java/lang/String")) (by decide)
  refine own_dup X hx (hb hby own36_27) (pc' := 28) rfl rfl ?_
  refine own_aloadN X hx (hb hby own36_28) (pc' := 29) rfl rfl rfl ?_
  refine own_new X hx hZ hown (own_w hw 30 rfl) (own_w hw 31 rfl) (own_w hw 32 rfl) eT (hb hby own36_29) (pc' := 32) rfl (cells' := 8) (slots' := 46) rfl rfl (by decide) (by decide) ?_
  intro T h9 b9 X eT E gb9 E_b9 Db9
  have lt_a1_b9 : a1 < b9 := Nat.lt_of_lt_of_le E_1.lt (Nat.le_of_eq gb9.symm)
  have ne_a1_b9 : a1 ≠ b9 := Nat.ne_of_lt lt_a1_b9
  have lt_t1_b9 : t1 < b9 := Nat.lt_of_lt_of_le A_1.lt (Nat.le_of_eq gb9.symm)
  have ne_t1_b9 : t1 ≠ b9 := Nat.ne_of_lt lt_t1_b9
  have lt_a2_b9 : a2 < b9 := Nat.lt_of_lt_of_le E_2.lt (Nat.le_of_eq gb9.symm)
  have ne_a2_b9 : a2 ≠ b9 := Nat.ne_of_lt lt_a2_b9
  have lt_t2_b9 : t2 < b9 := Nat.lt_of_lt_of_le A_2.lt (Nat.le_of_eq gb9.symm)
  have ne_t2_b9 : t2 ≠ b9 := Nat.ne_of_lt lt_t2_b9
  have lt_ea_b9 : ea < b9 := Nat.lt_of_lt_of_le E_e.lt (Nat.le_of_eq gb9.symm)
  have ne_ea_b9 : ea ≠ b9 := Nat.ne_of_lt lt_ea_b9
  have lt_eb_b9 : eb < b9 := Nat.lt_of_lt_of_le A_e.lt (Nat.le_of_eq gb9.symm)
  have ne_eb_b9 : eb ≠ b9 := Nat.ne_of_lt lt_eb_b9
  have lt_b8_b9 : b8 < b9 := Nat.lt_of_lt_of_le E_b8.lt (Nat.le_of_eq gb9.symm)
  have ne_b8_b9 : b8 ≠ b9 := Nat.ne_of_lt lt_b8_b9
  have z_b9 : n0 ≤ b9 := Nat.le_trans Z0 (Nat.le_of_eq gb9.symm)
  have s_b9 : h0.size ≤ b9 := Nat.le_trans Kp.1 (Nat.le_of_eq gb9.symm)
  have CR := CR.trans (CHr.ext E H)
  have H := H.ext E
  have hk := Nat.le_trans hk E.1
  have S_C := S_C.ext E
  have E_1 := E_1.ext E
  have C_1 := C_1.ext E
  have V_1 := V_1.ext E
  have A_1 := A_1.ext E
  have E_2 := E_2.ext E
  have C_2 := C_2.ext E
  have V_2 := V_2.ext E
  have A_2 := A_2.ext E
  have E_e := E_e.ext E
  have C_e := C_e.ext E
  have V_e := V_e.ext E
  have A_e := A_e.ext E
  have E_b8 := E_b8.ext E
  have F_exchange_b8 := F_exchange_b8.ext E
  have F_queue_b8 := F_queue_b8.ext E
  have Z0 := Nat.le_trans Z0 E.1
  have Kp := Kp.ext E
  have F_value_b9 : Fld Z h9 b9 "java/lang/AbstractStringBuilder" "value" "[B" .null := Db9 (Or.inl (own_w hw 45 rfl)) (ty := (.array .byte)) (by decide)
  have F_coder_b9 : Fld Z h9 b9 "java/lang/AbstractStringBuilder" "coder" "B" (.int (0 : Int32)) := Db9 (Or.inl (own_w hw 47 rfl)) (ty := .byte) (by decide)
  have F_count_b9 : Fld Z h9 b9 "java/lang/AbstractStringBuilder" "count" "I" (.int (0 : Int32)) := Db9 (Or.inl (own_w hw 70 rfl)) (ty := .int) (by decide)
  refine own_dup X hx (hb hby own36_32) (pc' := 33) rfl rfl ?_
  refine own_callN X hx hZ b9 [] rfl hown (own_w hw 33 rfl) (own_w hw 34 rfl) (own_w hw 32 rfl) (own_w hw 35 rfl) (by decide) (rm_si l Z a0 hw [] b9 cs h9 n0 Z0 S_C hcs _ _ E_b9 F_value_b9 F_coder_b9 F_count_b9 z_b9) eT (W := 4) (by decide) (by decide) (cells' := 9) (slots' := 62) rfl rfl (by decide) (by decide) (by rw [hml]; rfl) (lenOf own_pd_2829V rfl) rfl (S := [(.ref b9), (.ref ea), (.ref b8), (.ref b8)]) rfl (Nat.le_of_eq rfl) (hb hby own36_33) (pc' := 36) rfl ?_
  intro v T h10 L lc X eT hq fN
  obtain ⟨rfl, Nq, Kq, vb9, kb, hbv, V_b9, C_b9, N_b9, A_vb9⟩ := hq
  have N := fN _ N Nq
  have S_vb9 : Safe Z own_EL vm0 h9 vb9 := Safe.new hbv
  have z_vb9 : n0 ≤ vb9 := Nat.le_trans Z0 hbv
  have s_vb9 : h0.size ≤ vb9 := Nat.le_trans Kp.1 hbv
  have lt_a1_vb9 : a1 < vb9 := Nat.lt_of_lt_of_le E_1.lt hbv
  have ne_a1_vb9 : a1 ≠ vb9 := Nat.ne_of_lt lt_a1_vb9
  have lt_t1_vb9 : t1 < vb9 := Nat.lt_of_lt_of_le A_1.lt hbv
  have ne_t1_vb9 : t1 ≠ vb9 := Nat.ne_of_lt lt_t1_vb9
  have lt_a2_vb9 : a2 < vb9 := Nat.lt_of_lt_of_le E_2.lt hbv
  have ne_a2_vb9 : a2 ≠ vb9 := Nat.ne_of_lt lt_a2_vb9
  have lt_t2_vb9 : t2 < vb9 := Nat.lt_of_lt_of_le A_2.lt hbv
  have ne_t2_vb9 : t2 ≠ vb9 := Nat.ne_of_lt lt_t2_vb9
  have lt_ea_vb9 : ea < vb9 := Nat.lt_of_lt_of_le E_e.lt hbv
  have ne_ea_vb9 : ea ≠ vb9 := Nat.ne_of_lt lt_ea_vb9
  have lt_eb_vb9 : eb < vb9 := Nat.lt_of_lt_of_le A_e.lt hbv
  have ne_eb_vb9 : eb ≠ vb9 := Nat.ne_of_lt lt_eb_vb9
  have lt_b8_vb9 : b8 < vb9 := Nat.lt_of_lt_of_le E_b8.lt hbv
  have ne_b8_vb9 : b8 ≠ vb9 := Nat.ne_of_lt lt_b8_vb9
  have lt_b9_vb9 : b9 < vb9 := Nat.lt_of_lt_of_le E_b9.lt hbv
  have ne_b9_vb9 : b9 ≠ vb9 := Nat.ne_of_lt lt_b9_vb9
  have Kp := Kp.trans Kq (allS (P := fun x => x ∈ ([] : List Addr) ∨ h0.size ≤ x) (Or.inr s_b9) all0)
  have hsf : ∀ x ∈ ([b9] : List Addr), Safe Z own_EL vm0 h9 x := (sfS (Safe.exa hZ.alike E_b9 (by decide) (by decide)) sf0)
  have S_vb9 := S_vb9.keep Kq hsf H
  have CR := CR.trans (CHr.keep Kq hsf H)
  have H := H.keep Kq hsf
  have hk := Nat.le_trans hk Kq.1
  have S_C := own_sta_keep S_C Kq (nsS (own_ns_exa E_b9) ns0)
  have E_1 := E_1.keep Kq
  have C_1 := C_1.keep Kq (ninS ne_a1_b9 nin0)
  have V_1 := V_1.keep Kq (ninS ne_a1_b9 nin0)
  have A_1 := A_1.keep Kq (ninS ne_t1_b9 nin0)
  have E_2 := E_2.keep Kq
  have C_2 := C_2.keep Kq (ninS ne_a2_b9 nin0)
  have V_2 := V_2.keep Kq (ninS ne_a2_b9 nin0)
  have A_2 := A_2.keep Kq (ninS ne_t2_b9 nin0)
  have E_e := E_e.keep Kq
  have C_e := C_e.keep Kq (ninS ne_ea_b9 nin0)
  have V_e := V_e.keep Kq (ninS ne_ea_b9 nin0)
  have A_e := A_e.keep Kq (ninS ne_eb_b9 nin0)
  have E_b8 := E_b8.keep Kq
  have F_exchange_b8 := F_exchange_b8.keep Kq (ninS ne_b8_b9 nin0)
  have F_queue_b8 := F_queue_b8.keep Kq (ninS ne_b8_b9 nin0)
  have E_b9 := E_b9.keep Kq
  have Z0 := Nat.le_trans Z0 Kq.1
  have S_b9 : Safe Z own_EL vm0 h10 b9 := Safe.exa hZ.alike E_b9 (by decide) (by decide)
  show own_W _ _ _ _ _ _ _ _ [(.ref b9), (.ref ea), (.ref b8), (.ref b8)]
  refine own_aloadN X hx (hb hby own36_36) (pc' := 37) rfl rfl rfl ?_
  refine own_callV X hx hZ (y := (⟨"java/lang/StringBuilder", "append", "(Ljava/lang/String;)Ljava/lang/StringBuilder;"⟩ : MethodName)) b9 [(.ref ea)] hown (own_w hw 48 rfl) (own_w hw 49 rfl) (own_w hw 51 rfl) (own_w hw 50 rfl) (own_w hw 32 rfl) (own_w hw 52 rfl) (by decide) (rm_sap l Z a0 hw [] b9 vb9 ea eb cs (0 : Int32) c3 g1 0 x3 es [(.int (0 : Int32)), (.int (0 : Int32)), (.int (0 : Int32)), (.int (0 : Int32)), (.int (0 : Int32)), (.int (0 : Int32)), (.int (0 : Int32)), (.int (0 : Int32)), (.int (0 : Int32)), (.int (0 : Int32)), (.int (0 : Int32)), (.int (0 : Int32)), (.int (0 : Int32)), (.int (0 : Int32)), (.int (0 : Int32)), (.int (0 : Int32))] y1 _ h10 n0 Z0 S_C hcs E_b9 N_b9 C_b9 V_b9 A_vb9 E_e C_e V_e _ A_e z_b9 ne_b9_vb9 ne_ea_b9 ne_eb_b9 z_vb9 ne_ea_vb9 ne_eb_vb9 q5) E_b9 eT (W := 3) (by decide) (by decide) (cells' := 9) (slots' := 62) rfl rfl (by decide) (by decide) (by rw [hml]; rfl) (lenOf own_pd_28Ljava2flang2fString3b29Ljava2flang2fStringBuilder3b rfl) rfl (S := [(.ref ea), (.ref b8), (.ref b8)]) rfl (Nat.le_of_eq rfl) (hb hby own36_37) (pc' := 40) rfl ?_
  intro v T h11 L lc X eT hq fN
  obtain ⟨rfl, Nq, Kq, N_n, C_n, V_n, A_n⟩ := hq
  have N := fN _ N Nq
  have hsf : ∀ x ∈ ([b9, vb9] : List Addr), Safe Z own_EL vm0 h10 x := (sfS S_b9 (sfS S_vb9 sf0))
  have S_vb9 := S_vb9.keep Kq hsf H
  have S_b9 := S_b9.keep Kq hsf H
  have CR := CR.trans (CHr.keep Kq hsf H)
  have H := H.keep Kq hsf
  have hk := Nat.le_trans hk Kq.1
  have S_C := own_sta_keep S_C Kq (nsS (own_ns_exa E_b9) (nsS (own_ns_arv A_vb9) ns0))
  have E_1 := E_1.keep Kq
  have C_1 := C_1.keep Kq (ninS ne_a1_b9 (ninS ne_a1_vb9 nin0))
  have V_1 := V_1.keep Kq (ninS ne_a1_b9 (ninS ne_a1_vb9 nin0))
  have A_1 := A_1.keep Kq (ninS ne_t1_b9 (ninS ne_t1_vb9 nin0))
  have E_2 := E_2.keep Kq
  have C_2 := C_2.keep Kq (ninS ne_a2_b9 (ninS ne_a2_vb9 nin0))
  have V_2 := V_2.keep Kq (ninS ne_a2_b9 (ninS ne_a2_vb9 nin0))
  have A_2 := A_2.keep Kq (ninS ne_t2_b9 (ninS ne_t2_vb9 nin0))
  have E_e := E_e.keep Kq
  have C_e := C_e.keep Kq (ninS ne_ea_b9 (ninS ne_ea_vb9 nin0))
  have V_e := V_e.keep Kq (ninS ne_ea_b9 (ninS ne_ea_vb9 nin0))
  have A_e := A_e.keep Kq (ninS ne_eb_b9 (ninS ne_eb_vb9 nin0))
  have E_b8 := E_b8.keep Kq
  have F_exchange_b8 := F_exchange_b8.keep Kq (ninS ne_b8_b9 (ninS ne_b8_vb9 nin0))
  have F_queue_b8 := F_queue_b8.keep Kq (ninS ne_b8_b9 (ninS ne_b8_vb9 nin0))
  have E_b9 := E_b9.keep Kq
  have Z0 := Nat.le_trans Z0 Kq.1
  have Kp := Kp.trans Kq (allS (P := fun x => x ∈ ([] : List Addr) ∨ h0.size ≤ x) (Or.inr s_b9) (allS (P := fun x => x ∈ ([] : List Addr) ∨ h0.size ≤ x) (Or.inr s_vb9) all0))
  have N_b9 := N_n
  have C_b9 := C_n
  have V_b9 := V_n
  have A_vb9 := A_n
  show own_W _ _ _ _ _ _ _ _ [(.ref b9), (.ref ea), (.ref b8), (.ref b8)]
  refine own_ldcS X hx hZ hown (own_w hw 96 rfl) (own_wS hw) eT hS hk hEL own_mem_96 H [(.int (46 : Int32))] (1 : Int32) own_txt_96 (by decide) rfl (hb hby own36_40) (pc' := 42) rfl 4 (by decide) (by decide) (cells' := 11) (slots' := 70) rfl rfl (by decide) (by decide) ?_
  intro sa12 T h12 k1 sb12 k_sb12 vm0 X eT E hS hk hZ hown E_sa12 FC_sa12 FV_sa12 A_sb12 CQ hne_sa12
  have S_vb9 := CQ.safe A_vb9.lt S_vb9
  have S_b9 := CQ.safe E_b9.lt S_b9
  have CR := CR.trans CQ
  have H := CQ.1
  have S_C := S_C.ext E
  have E_1 := E_1.ext E
  have C_1 := C_1.ext E
  have V_1 := V_1.ext E
  have A_1 := A_1.ext E
  have E_2 := E_2.ext E
  have C_2 := C_2.ext E
  have V_2 := V_2.ext E
  have A_2 := A_2.ext E
  have E_e := E_e.ext E
  have C_e := C_e.ext E
  have V_e := V_e.ext E
  have A_e := A_e.ext E
  have E_b8 := E_b8.ext E
  have F_exchange_b8 := F_exchange_b8.ext E
  have F_queue_b8 := F_queue_b8.ext E
  have E_b9 := E_b9.ext E
  have V_b9 := V_b9.ext E
  have C_b9 := C_b9.ext E
  have N_b9 := N_b9.ext E
  have A_vb9 := A_vb9.ext E
  have Z0 := Nat.le_trans Z0 E.1
  have Kp := Kp.ext E
  have ne_vb9_sa12 := (hne_sa12 _ S_vb9).1
  have ne_vb9_sb12 := (hne_sa12 _ S_vb9).2
  have ne_b9_sa12 := (hne_sa12 _ S_b9).1
  have ne_b9_sb12 := (hne_sa12 _ S_b9).2
  refine own_callV X hx hZ (y := (⟨"java/lang/StringBuilder", "append", "(Ljava/lang/String;)Ljava/lang/StringBuilder;"⟩ : MethodName)) b9 [(.ref sa12)] hown (own_w hw 48 rfl) (own_w hw 49 rfl) (own_w hw 51 rfl) (own_w hw 50 rfl) (own_w hw 32 rfl) (own_w hw 52 rfl) (by decide) (rm_sap l Z a0 hw [] b9 vb9 sa12 sb12 cs g1 (1 : Int32) g2 z1 1 [(.int (46 : Int32))] y1 y2 _ h12 n0 Z0 S_C hcs E_b9 N_b9 C_b9 V_b9 A_vb9 E_sa12 FC_sa12 FV_sa12 _ A_sb12 z_b9 ne_b9_vb9 (Ne.symm ne_b9_sa12) (Ne.symm ne_b9_sb12) z_vb9 (Ne.symm ne_vb9_sa12) (Ne.symm ne_vb9_sb12) q6) E_b9 eT (W := 3) (by decide) (by decide) (cells' := 11) (slots' := 70) rfl rfl (by decide) (by decide) (by rw [hml]; rfl) (lenOf own_pd_28Ljava2flang2fString3b29Ljava2flang2fStringBuilder3b rfl) rfl (S := [(.ref ea), (.ref b8), (.ref b8)]) rfl (Nat.le_of_eq rfl) (hb hby own36_42) (pc' := 45) rfl ?_
  intro v T h13 L lc X eT hq fN
  obtain ⟨rfl, Nq, Kq, N_n, C_n, V_n, A_n⟩ := hq
  have N := fN _ N Nq
  have hsf : ∀ x ∈ ([b9, vb9] : List Addr), Safe Z own_EL vm0 h12 x := (sfS S_b9 (sfS S_vb9 sf0))
  have S_vb9 := S_vb9.keep Kq hsf H
  have S_b9 := S_b9.keep Kq hsf H
  have CR := CR.trans (CHr.keep Kq hsf H)
  have H := H.keep Kq hsf
  have hk := Nat.le_trans hk Kq.1
  have S_C := own_sta_keep S_C Kq (nsS (own_ns_exa E_b9) (nsS (own_ns_arv A_vb9) ns0))
  have E_1 := E_1.keep Kq
  have C_1 := C_1.keep Kq (ninS ne_a1_b9 (ninS ne_a1_vb9 nin0))
  have V_1 := V_1.keep Kq (ninS ne_a1_b9 (ninS ne_a1_vb9 nin0))
  have A_1 := A_1.keep Kq (ninS ne_t1_b9 (ninS ne_t1_vb9 nin0))
  have E_2 := E_2.keep Kq
  have C_2 := C_2.keep Kq (ninS ne_a2_b9 (ninS ne_a2_vb9 nin0))
  have V_2 := V_2.keep Kq (ninS ne_a2_b9 (ninS ne_a2_vb9 nin0))
  have A_2 := A_2.keep Kq (ninS ne_t2_b9 (ninS ne_t2_vb9 nin0))
  have E_e := E_e.keep Kq
  have C_e := C_e.keep Kq (ninS ne_ea_b9 (ninS ne_ea_vb9 nin0))
  have V_e := V_e.keep Kq (ninS ne_ea_b9 (ninS ne_ea_vb9 nin0))
  have A_e := A_e.keep Kq (ninS ne_eb_b9 (ninS ne_eb_vb9 nin0))
  have E_b8 := E_b8.keep Kq
  have F_exchange_b8 := F_exchange_b8.keep Kq (ninS ne_b8_b9 (ninS ne_b8_vb9 nin0))
  have F_queue_b8 := F_queue_b8.keep Kq (ninS ne_b8_b9 (ninS ne_b8_vb9 nin0))
  have E_b9 := E_b9.keep Kq
  have Z0 := Nat.le_trans Z0 Kq.1
  have Kp := Kp.trans Kq (allS (P := fun x => x ∈ ([] : List Addr) ∨ h0.size ≤ x) (Or.inr s_b9) (allS (P := fun x => x ∈ ([] : List Addr) ∨ h0.size ≤ x) (Or.inr s_vb9) all0))
  have N_b9 := N_n
  have C_b9 := C_n
  have V_b9 := V_n
  have A_vb9 := A_n
  show own_W _ _ _ _ _ _ _ _ [(.ref b9), (.ref ea), (.ref b8), (.ref b8)]
  refine own_aloadN X hx (hb hby own36_45) (pc' := 46) rfl rfl rfl ?_
  refine own_callV X hx hZ (y := (⟨"java/lang/StringBuilder", "append", "(Ljava/lang/String;)Ljava/lang/StringBuilder;"⟩ : MethodName)) b9 [(.ref a1)] hown (own_w hw 48 rfl) (own_w hw 49 rfl) (own_w hw 51 rfl) (own_w hw 50 rfl) (own_w hw 32 rfl) (own_w hw 52 rfl) (by decide) (rm_sap l Z a0 hw [] b9 vb9 a1 t1 cs g2 nl1 g3 z2 n1 vs1 y2 y3 _ h13 n0 Z0 S_C hcs E_b9 N_b9 C_b9 V_b9 A_vb9 E_1 C_1 V_1 _ A_1 z_b9 ne_b9_vb9 ne_a1_b9 ne_t1_b9 z_vb9 ne_a1_vb9 ne_t1_vb9 q7) E_b9 eT (W := 3) (by decide) (by decide) (cells' := 11) (slots' := 70) rfl rfl (by decide) (by decide) (by rw [hml]; rfl) (lenOf own_pd_28Ljava2flang2fString3b29Ljava2flang2fStringBuilder3b rfl) rfl (S := [(.ref ea), (.ref b8), (.ref b8)]) rfl (Nat.le_of_eq rfl) (hb hby own36_46) (pc' := 49) rfl ?_
  intro v T h14 L lc X eT hq fN
  obtain ⟨rfl, Nq, Kq, N_n, C_n, V_n, A_n⟩ := hq
  have N := fN _ N Nq
  have hsf : ∀ x ∈ ([b9, vb9] : List Addr), Safe Z own_EL vm0 h13 x := (sfS S_b9 (sfS S_vb9 sf0))
  have S_vb9 := S_vb9.keep Kq hsf H
  have S_b9 := S_b9.keep Kq hsf H
  have CR := CR.trans (CHr.keep Kq hsf H)
  have H := H.keep Kq hsf
  have hk := Nat.le_trans hk Kq.1
  have S_C := own_sta_keep S_C Kq (nsS (own_ns_exa E_b9) (nsS (own_ns_arv A_vb9) ns0))
  have E_1 := E_1.keep Kq
  have C_1 := C_1.keep Kq (ninS ne_a1_b9 (ninS ne_a1_vb9 nin0))
  have V_1 := V_1.keep Kq (ninS ne_a1_b9 (ninS ne_a1_vb9 nin0))
  have A_1 := A_1.keep Kq (ninS ne_t1_b9 (ninS ne_t1_vb9 nin0))
  have E_2 := E_2.keep Kq
  have C_2 := C_2.keep Kq (ninS ne_a2_b9 (ninS ne_a2_vb9 nin0))
  have V_2 := V_2.keep Kq (ninS ne_a2_b9 (ninS ne_a2_vb9 nin0))
  have A_2 := A_2.keep Kq (ninS ne_t2_b9 (ninS ne_t2_vb9 nin0))
  have E_e := E_e.keep Kq
  have C_e := C_e.keep Kq (ninS ne_ea_b9 (ninS ne_ea_vb9 nin0))
  have V_e := V_e.keep Kq (ninS ne_ea_b9 (ninS ne_ea_vb9 nin0))
  have A_e := A_e.keep Kq (ninS ne_eb_b9 (ninS ne_eb_vb9 nin0))
  have E_b8 := E_b8.keep Kq
  have F_exchange_b8 := F_exchange_b8.keep Kq (ninS ne_b8_b9 (ninS ne_b8_vb9 nin0))
  have F_queue_b8 := F_queue_b8.keep Kq (ninS ne_b8_b9 (ninS ne_b8_vb9 nin0))
  have E_b9 := E_b9.keep Kq
  have Z0 := Nat.le_trans Z0 Kq.1
  have Kp := Kp.trans Kq (allS (P := fun x => x ∈ ([] : List Addr) ∨ h0.size ≤ x) (Or.inr s_b9) (allS (P := fun x => x ∈ ([] : List Addr) ∨ h0.size ≤ x) (Or.inr s_vb9) all0))
  have N_b9 := N_n
  have C_b9 := C_n
  have V_b9 := V_n
  have A_vb9 := A_n
  show own_W _ _ _ _ _ _ _ _ [(.ref b9), (.ref ea), (.ref b8), (.ref b8)]
  refine own_callV X hx hZ (y := (⟨"java/lang/StringBuilder", "toString", "()Ljava/lang/String;"⟩ : MethodName)) b9 [] hown (own_w hw 97 rfl) (own_w hw 98 rfl) (own_w hw 100 rfl) (own_w hw 99 rfl) (own_w hw 32 rfl) (own_w hw 101 rfl) (by decide) (rm_ts l Z a0 hw [] b9 vb9 cs g3 z3 y3 qs h14 n0 Z0 S_C hcs E_b9 N_b9 C_b9 V_b9 _ A_vb9 q8) E_b9 eT (W := 3) (by decide) (by decide) (cells' := 13) (slots' := 82) rfl rfl (by decide) (by decide) (by rw [hml]; rfl) (lenOf own_pd_2829Ljava2flang2fString3b rfl) rfl (S := [(.ref ea), (.ref b8), (.ref b8)]) rfl (Nat.le_of_eq rfl) (hb hby own36_49) (pc' := 52) rfl ?_
  intro v T h15 L lc X eT hq fN
  obtain ⟨qa, qb, k_q, rfl, Nq, Kq, hsa, hsb, E_q, C_q, V_q, A_q⟩ := hq
  have N := fN _ N Nq
  have lt_a1_qa : a1 < qa := Nat.lt_of_lt_of_le E_1.lt hsa
  have ne_a1_qa : a1 ≠ qa := Nat.ne_of_lt lt_a1_qa
  have lt_t1_qa : t1 < qa := Nat.lt_of_lt_of_le A_1.lt hsa
  have ne_t1_qa : t1 ≠ qa := Nat.ne_of_lt lt_t1_qa
  have lt_a2_qa : a2 < qa := Nat.lt_of_lt_of_le E_2.lt hsa
  have ne_a2_qa : a2 ≠ qa := Nat.ne_of_lt lt_a2_qa
  have lt_t2_qa : t2 < qa := Nat.lt_of_lt_of_le A_2.lt hsa
  have ne_t2_qa : t2 ≠ qa := Nat.ne_of_lt lt_t2_qa
  have lt_ea_qa : ea < qa := Nat.lt_of_lt_of_le E_e.lt hsa
  have ne_ea_qa : ea ≠ qa := Nat.ne_of_lt lt_ea_qa
  have lt_eb_qa : eb < qa := Nat.lt_of_lt_of_le A_e.lt hsa
  have ne_eb_qa : eb ≠ qa := Nat.ne_of_lt lt_eb_qa
  have lt_b8_qa : b8 < qa := Nat.lt_of_lt_of_le E_b8.lt hsa
  have ne_b8_qa : b8 ≠ qa := Nat.ne_of_lt lt_b8_qa
  have lt_b9_qa : b9 < qa := Nat.lt_of_lt_of_le E_b9.lt hsa
  have ne_b9_qa : b9 ≠ qa := Nat.ne_of_lt lt_b9_qa
  have lt_vb9_qa : vb9 < qa := Nat.lt_of_lt_of_le A_vb9.lt hsa
  have ne_vb9_qa : vb9 ≠ qa := Nat.ne_of_lt lt_vb9_qa
  have lt_a1_qb : a1 < qb := Nat.lt_of_lt_of_le E_1.lt hsb
  have ne_a1_qb : a1 ≠ qb := Nat.ne_of_lt lt_a1_qb
  have lt_t1_qb : t1 < qb := Nat.lt_of_lt_of_le A_1.lt hsb
  have ne_t1_qb : t1 ≠ qb := Nat.ne_of_lt lt_t1_qb
  have lt_a2_qb : a2 < qb := Nat.lt_of_lt_of_le E_2.lt hsb
  have ne_a2_qb : a2 ≠ qb := Nat.ne_of_lt lt_a2_qb
  have lt_t2_qb : t2 < qb := Nat.lt_of_lt_of_le A_2.lt hsb
  have ne_t2_qb : t2 ≠ qb := Nat.ne_of_lt lt_t2_qb
  have lt_ea_qb : ea < qb := Nat.lt_of_lt_of_le E_e.lt hsb
  have ne_ea_qb : ea ≠ qb := Nat.ne_of_lt lt_ea_qb
  have lt_eb_qb : eb < qb := Nat.lt_of_lt_of_le A_e.lt hsb
  have ne_eb_qb : eb ≠ qb := Nat.ne_of_lt lt_eb_qb
  have lt_b8_qb : b8 < qb := Nat.lt_of_lt_of_le E_b8.lt hsb
  have ne_b8_qb : b8 ≠ qb := Nat.ne_of_lt lt_b8_qb
  have lt_b9_qb : b9 < qb := Nat.lt_of_lt_of_le E_b9.lt hsb
  have ne_b9_qb : b9 ≠ qb := Nat.ne_of_lt lt_b9_qb
  have lt_vb9_qb : vb9 < qb := Nat.lt_of_lt_of_le A_vb9.lt hsb
  have ne_vb9_qb : vb9 ≠ qb := Nat.ne_of_lt lt_vb9_qb
  have z_qa : n0 ≤ qa := Nat.le_trans Z0 hsa
  have s_qa : h0.size ≤ qa := Nat.le_trans Kp.1 hsa
  have z_qb : n0 ≤ qb := Nat.le_trans Z0 hsb
  have s_qb : h0.size ≤ qb := Nat.le_trans Kp.1 hsb
  have hsf : ∀ x ∈ ([] : List Addr), Safe Z own_EL vm0 h14 x := sf0
  have S_vb9 := S_vb9.keep Kq hsf H
  have S_b9 := S_b9.keep Kq hsf H
  have CR := CR.trans (CHr.keep Kq hsf H)
  have H := H.keep Kq hsf
  have hk := Nat.le_trans hk Kq.1
  have S_C := own_sta_keep S_C Kq ns0
  have E_1 := E_1.keep Kq
  have C_1 := C_1.keep Kq nin0
  have V_1 := V_1.keep Kq nin0
  have A_1 := A_1.keep Kq nin0
  have E_2 := E_2.keep Kq
  have C_2 := C_2.keep Kq nin0
  have V_2 := V_2.keep Kq nin0
  have A_2 := A_2.keep Kq nin0
  have E_e := E_e.keep Kq
  have C_e := C_e.keep Kq nin0
  have V_e := V_e.keep Kq nin0
  have A_e := A_e.keep Kq nin0
  have E_b8 := E_b8.keep Kq
  have F_exchange_b8 := F_exchange_b8.keep Kq nin0
  have F_queue_b8 := F_queue_b8.keep Kq nin0
  have E_b9 := E_b9.keep Kq
  have V_b9 := V_b9.keep Kq nin0
  have C_b9 := C_b9.keep Kq nin0
  have N_b9 := N_b9.keep Kq nin0
  have A_vb9 := A_vb9.keep Kq nin0
  have Z0 := Nat.le_trans Z0 Kq.1
  have Kp := Kp.trans Kq all0
  show own_W _ _ _ _ _ _ _ _ [(.ref qa), (.ref ea), (.ref b8), (.ref b8)]
  refine own_callN X hx hZ b8 [(.ref ea), (.ref qa)] rfl hown (own_w hw 144 rfl) (own_w hw 145 rfl) (own_w hw 28 rfl) (own_w hw 146 rfl) (by decide) (rm_pn l Z a0 hw [] b8 ea qa h15 n0 Z0 E_b8 F_exchange_b8 F_queue_b8 z_b8) eT (W := 1) (by decide) (by decide) (cells' := 13) (slots' := 82) rfl rfl (by decide) (by decide) (by rw [hml]; rfl) (lenOf own_pd_28Ljava2flang2fString3bLjava2flang2fString3b29V rfl) rfl (S := [(.ref b8)]) rfl (Nat.le_of_eq rfl) (hb hby own36_52) (pc' := 55) rfl ?_
  intro v T h16 L lc X eT hq fN
  obtain ⟨rfl, Nq, Kq, F_x, F_q⟩ := hq
  have N := fN _ N Nq
  have Kp := Kp.trans Kq (allS (P := fun x => x ∈ ([] : List Addr) ∨ h0.size ≤ x) (Or.inr s_b8) all0)
  have hsf : ∀ x ∈ ([b8] : List Addr), Safe Z own_EL vm0 h15 x := (sfS (Safe.exa hZ.alike E_b8 (by decide) (by decide)) sf0)
  have CR := CR.trans (CHr.keep Kq hsf H)
  have H := H.keep Kq hsf
  have hk := Nat.le_trans hk Kq.1
  have S_C := own_sta_keep S_C Kq (nsS (own_ns_exa E_b8) ns0)
  have E_1 := E_1.keep Kq
  have C_1 := C_1.keep Kq (ninS ne_a1_b8 nin0)
  have V_1 := V_1.keep Kq (ninS ne_a1_b8 nin0)
  have A_1 := A_1.keep Kq (ninS ne_t1_b8 nin0)
  have E_2 := E_2.keep Kq
  have C_2 := C_2.keep Kq (ninS ne_a2_b8 nin0)
  have V_2 := V_2.keep Kq (ninS ne_a2_b8 nin0)
  have A_2 := A_2.keep Kq (ninS ne_t2_b8 nin0)
  have E_e := E_e.keep Kq
  have C_e := C_e.keep Kq (ninS ne_ea_b8 nin0)
  have V_e := V_e.keep Kq (ninS ne_ea_b8 nin0)
  have A_e := A_e.keep Kq (ninS ne_eb_b8 nin0)
  have E_b8 := E_b8.keep Kq
  have E_q := E_q.keep Kq
  have C_q := C_q.keep Kq (ninS (Ne.symm ne_b8_qa) nin0)
  have V_q := V_q.keep Kq (ninS (Ne.symm ne_b8_qa) nin0)
  have A_q := A_q.keep Kq (ninS (Ne.symm ne_b8_qb) nin0)
  have Z0 := Nat.le_trans Z0 Kq.1
  show own_W _ _ _ _ _ _ _ _ [(.ref b8)]
  refine own_retAS X hx hlk hZ eT hh hS hk hEL H CR Bd.returns (hb hby own36_55) rfl rfl rfl (by decide) (by decide) ?_
  rw [eT]
  exact ⟨b8, ea, eb, qa, qb, _, _, rfl, N, Kp, E_b8, F_x, F_q, ⟨E_e, C_e, V_e, A_e⟩, ⟨E_q, C_q, V_q, A_q⟩⟩
theorem own37_0 : decode method_4_code 0 = .ok (.iload_n 1, 1) := by decide +kernel
theorem own37_1 : decode method_4_code 1 = .ok (.aload_n 0, 1) := by decide +kernel
theorem own37_2 : decode method_4_code 2 = .ok (.invokevirtual 26, 3) := by decide +kernel
theorem own37_5 : decode method_4_code 5 = .ok (.if_icmp .ge 9, 3) := by decide +kernel
theorem own37_14 : decode method_4_code 14 = .ok (.iconst (-1), 1) := by decide +kernel
theorem own37_15 : decode method_4_code 15 = .ok (.ireturn, 1) := by decide +kernel
theorem own37_8 : decode method_4_code 8 = .ok (.aload_n 0, 1) := by decide +kernel
theorem own37_9 : decode method_4_code 9 = .ok (.iload_n 1, 1) := by decide +kernel
theorem own37_10 : decode method_4_code 10 = .ok (.invokevirtual 42, 3) := by decide +kernel
theorem own_pd_28I29C : parseMethodDescriptor "(I)C" = some ⟨[.int], some .char⟩ := by decide +kernel
theorem own37_13 : decode method_4_code 13 = .ok (.ireturn, 1) := by decide +kernel
def Q_at (Z : State) (a1 t1 : Addr) (p1 nl1 cs : Int32) (fm : Value) (vs1 : List Value) (h0 : Heap) (n0 : Nat) (v : Option Value) (h : Heap) (L : List Loc) : Prop := v = some (.int (own_at nl1 vs1 p1)) ∧ Fr n0 L ∧ h = h0
set_option maxRecDepth 65536 in
set_option maxHeartbeats 40000000 in
theorem rm_at (l : Launch) (Z : State) (a0 : Array Value) (hw : ∀ d ∈ tables_1, d.before a0 Z = true) (ws : List Jvm.Cond) (a1 t1 : Addr) (p1 nl1 cs : Int32) (fm : Value) (vs1 : List Value) (h0 : Heap) (n0 : Nat) (Z0 : n0 ≤ h0.size) (S_C : Sta Z h0 "java/lang/String" "COMPACT_STRINGS" "Z" (.int cs)) (hcs : ¬ cs = 0) (S_F : Sta Z h0 "jdk/internal/util/Preconditions" "SIOOBE_FORMATTER" "Ljava/util/function/BiFunction;" fm) (hfm : fm.isRef = true) (E_1 : Exa Z h0 a1 "java/lang/String") (C_1 : Fld Z h0 a1 "java/lang/String" "coder" "B" (.int (0 : Int32))) (V_1 : Fld Z h0 a1 "java/lang/String" "value" "[B" (.ref t1)) (k_1 : ClassId) (A_1 : Arv Z h0 t1 k_1 .byte nl1 vs1 (.int (0 : Int32))) (hi1 : own_ints vs1) (hj0 : ¬ p1 < 0) : own_Met l Z ⟨"com/example/runnel/runnel/broker/PipeAfterPinLaw", "at", "(Ljava/lang/String;I)I"⟩ method_4_code 2 (some .int) ws ⟨4, 0, 0, 58⟩ #[(.ref a1), (.int p1)] h0 (Q_at Z a1 t1 p1 nl1 cs fm vs1 h0 n0) := by
  refine own_met n0 own_pn_com_example_runnel_runnel_broker_PipeAfterPinLaw (fun m => ef2RI m a1 p1) ?_
  intro p e s m below meth c T lc hret hx hZ hby hml hown hnm hlk X eT N
  refine own_iloadN X hx (hb hby own37_0) (pc' := 1) rfl rfl ?_
  refine own_aloadN X hx (hb hby own37_1) (pc' := 2) rfl rfl rfl ?_
  refine own_callV X hx hZ (y := (⟨"java/lang/String", "length", "()I"⟩ : MethodName)) a1 [] hown (own_w hw 167 rfl) (own_w hw 59 rfl) (own_w hw 61 rfl) (own_w hw 60 rfl) (own_w hw 6 rfl) (own_w hw 62 rfl) (by decide) (rm_len l Z a0 hw [] a1 t1 cs nl1 h0 n0 Z0 S_C hcs E_1 C_1 V_1 _ _ A_1) E_1 eT (W := 1) (by decide) (by decide) (cells' := 0) (slots' := 0) rfl rfl (by decide) (by decide) (by rw [hml]; rfl) (lenOf own_pd_2829I rfl) rfl (S := [(.int p1)]) rfl (Nat.le_of_eq rfl) (hb hby own37_2) (pc' := 5) rfl ?_
  intro v T h1 L lc X eT hq fN
  obtain ⟨rfl, Nq, hqe⟩ := hq
  have N := fN _ N Nq
  rw [hqe] at eT
  show own_W _ _ _ _ _ _ _ _ [(.int nl1), (.int p1)]
  refine own_icmp X hx (hb hby own37_5) (by decide) (pcY := 14) (pcN := 8) rfl rfl (fun (hc5 : ¬ (p1 < nl1)) => ?_) (fun (hc5 : p1 < nl1) => ?_)
  · refine own_iconst X hx (-1 : Int32) (hb hby own37_14) (pc' := 15) rfl rfl ?_
    refine own_retI X hx hlk (t := .int) (w' := (.int (-1 : Int32))) hret (hb hby own37_15) rfl rfl (by simp) (by decide) (by decide) ?_
    rw [eT]
    exact ⟨congrArg (fun z => some (Value.int z)) (own_at_ge hc5).symm, N, rfl⟩
  · refine own_aloadN X hx (hb hby own37_8) (pc' := 9) rfl rfl rfl ?_
    refine own_iloadN X hx (hb hby own37_9) (pc' := 10) rfl rfl ?_
    refine own_callV X hx hZ (y := (⟨"java/lang/String", "charAt", "(I)C"⟩ : MethodName)) a1 [(.int p1)] hown (own_w hw 174 rfl) (own_w hw 175 rfl) (own_w hw 177 rfl) (own_w hw 176 rfl) (own_w hw 6 rfl) (own_w hw 178 rfl) (by decide) (rm_chAt l Z a0 hw [] a1 t1 p1 (own_bv vs1 p1) cs fm h0 n0 Z0 S_C hcs S_F hfm E_1 nl1 C_1 V_1 _ _ A_1 hj0 hc5 (own_bv_at hi1 p1)) E_1 eT (W := 0) (by decide) (by decide) (cells' := 0) (slots' := 0) rfl rfl (by decide) (by decide) (by rw [hml]; rfl) (lenOf own_pd_28I29C rfl) rfl (S := []) rfl (Nat.le_of_eq rfl) (hb hby own37_10) (pc' := 13) rfl ?_
    intro v T h2 L lc X eT hq fN
    obtain ⟨rfl, Nq, hqe⟩ := hq
    have N := fN _ N Nq
    rw [hqe] at eT
    show own_W _ _ _ _ _ _ _ _ [(.int (own_cx (own_bv vs1 p1)))]
    refine own_retI X hx hlk (t := .int) (w' := (.int (own_cx (own_bv vs1 p1)))) hret (hb hby own37_13) rfl rfl (by simp) (by decide) (by decide) ?_
    rw [eT]
    exact ⟨congrArg (fun z => some (Value.int z)) (own_at_lt hc5).symm, N, rfl⟩
theorem own38_0 : decode method_5_code 0 = .ok (.aload_n 0, 1) := by decide +kernel
theorem own38_1 : decode method_5_code 1 = .ok (.invokevirtual 26, 3) := by decide +kernel
theorem own38_4 : decode method_5_code 4 = .ok (.istore_n 3, 1) := by decide +kernel
theorem own38_5 : decode method_5_code 5 = .ok (.iload_n 2, 1) := by decide +kernel
theorem own38_6 : decode method_5_code 6 = .ok (.iload_n 3, 1) := by decide +kernel
theorem own38_7 : decode method_5_code 7 = .ok (.if_icmp .ge 9, 3) := by decide +kernel
theorem own38_16 : decode method_5_code 16 = .ok (.iload_n 2, 1) := by decide +kernel
theorem own38_17 : decode method_5_code 17 = .ok (.iload_n 3, 1) := by decide +kernel
theorem own38_18 : decode method_5_code 18 = .ok (.if_icmp .ne 6, 3) := by decide +kernel
theorem own38_24 : decode method_5_code 24 = .ok (.aload_n 1, 1) := by decide +kernel
theorem own38_25 : decode method_5_code 25 = .ok (.iload_n 2, 1) := by decide +kernel
theorem own38_26 : decode method_5_code 26 = .ok (.iload_n 3, 1) := by decide +kernel
theorem own38_27 : decode method_5_code 27 = .ok (.isub, 1) := by decide +kernel
theorem own38_28 : decode method_5_code 28 = .ok (.iconst 1, 1) := by decide +kernel
theorem own38_29 : decode method_5_code 29 = .ok (.isub, 1) := by decide +kernel
theorem own38_30 : decode method_5_code 30 = .ok (.invokestatic 46, 3) := by decide +kernel
theorem own_pd_28Ljava2flang2fString3bI29I : parseMethodDescriptor "(Ljava/lang/String;I)I" = some ⟨[(.object "java/lang/String"), .int], some .int⟩ := by decide +kernel
theorem own38_33 : decode method_5_code 33 = .ok (.ireturn, 1) := by decide +kernel
theorem own38_21 : decode method_5_code 21 = .ok (.bipush 46, 2) := by decide +kernel
theorem own38_23 : decode method_5_code 23 = .ok (.ireturn, 1) := by decide +kernel
theorem own38_10 : decode method_5_code 10 = .ok (.aload_n 0, 1) := by decide +kernel
theorem own38_11 : decode method_5_code 11 = .ok (.iload_n 2, 1) := by decide +kernel
theorem own38_12 : decode method_5_code 12 = .ok (.invokevirtual 42, 3) := by decide +kernel
theorem own38_15 : decode method_5_code 15 = .ok (.ireturn, 1) := by decide +kernel
theorem ef4RRI (m : MethodId) (x0 : Addr) (x1 : Addr) (x2 : Int32) : entryFrame m #[(.ref x0), (.ref x1), (.int x2)] 4 = mkF m 0 #[.val (.ref x0), .val (.ref x1), .val (.int x2), .unset] [] := by first | (simp [entryFrame, mkF, argsToLocals, Value.category]; done) | rfl
def Q_ee (Z : State) (a1 t1 a2 t2 : Addr) (p2 nl1 nl2 cs : Int32) (fm : Value) (vs1 vs2 : List Value) (h0 : Heap) (n0 : Nat) (v : Option Value) (h : Heap) (L : List Loc) : Prop := v = some (.int (own_ee nl1 vs1 nl2 vs2 p2)) ∧ Fr n0 L ∧ h = h0
set_option maxRecDepth 65536 in
set_option maxHeartbeats 40000000 in
theorem rm_ee (l : Launch) (Z : State) (a0 : Array Value) (hw : ∀ d ∈ tables_1, d.before a0 Z = true) (ws : List Jvm.Cond) (a1 t1 a2 t2 : Addr) (p2 nl1 nl2 cs : Int32) (fm : Value) (vs1 vs2 : List Value) (h0 : Heap) (n0 : Nat) (Z0 : n0 ≤ h0.size) (S_C : Sta Z h0 "java/lang/String" "COMPACT_STRINGS" "Z" (.int cs)) (hcs : ¬ cs = 0) (S_F : Sta Z h0 "jdk/internal/util/Preconditions" "SIOOBE_FORMATTER" "Ljava/util/function/BiFunction;" fm) (hfm : fm.isRef = true) (E_1 : Exa Z h0 a1 "java/lang/String") (C_1 : Fld Z h0 a1 "java/lang/String" "coder" "B" (.int (0 : Int32))) (V_1 : Fld Z h0 a1 "java/lang/String" "value" "[B" (.ref t1)) (k_1 : ClassId) (A_1 : Arv Z h0 t1 k_1 .byte nl1 vs1 (.int (0 : Int32))) (E_2 : Exa Z h0 a2 "java/lang/String") (C_2 : Fld Z h0 a2 "java/lang/String" "coder" "B" (.int (0 : Int32))) (V_2 : Fld Z h0 a2 "java/lang/String" "value" "[B" (.ref t2)) (k_2 : ClassId) (A_2 : Arv Z h0 t2 k_2 .byte nl2 vs2 (.int (0 : Int32))) (hi1 : own_ints vs1) (hi2 : own_ints vs2) (hj0 : ¬ p2 < 0) (hd : ¬ p2 < nl1 → ¬ p2 = nl1 → ¬ (p2 - nl1) - (1 : Int32) < 0) : own_Met l Z ⟨"com/example/runnel/runnel/broker/PipeAfterPinLaw", "expEx", "(Ljava/lang/String;Ljava/lang/String;I)I"⟩ method_5_code 4 (some .int) ws ⟨5, 0, 0, 76⟩ #[(.ref a1), (.ref a2), (.int p2)] h0 (Q_ee Z a1 t1 a2 t2 p2 nl1 nl2 cs fm vs1 vs2 h0 n0) := by
  refine own_met n0 own_pn_com_example_runnel_runnel_broker_PipeAfterPinLaw (fun m => ef4RRI m a1 a2 p2) ?_
  intro p e s m below meth c T lc hret hx hZ hby hml hown hnm hlk X eT N
  refine own_aloadN X hx (hb hby own38_0) (pc' := 1) rfl rfl rfl ?_
  refine own_callV X hx hZ (y := (⟨"java/lang/String", "length", "()I"⟩ : MethodName)) a1 [] hown (own_w hw 167 rfl) (own_w hw 59 rfl) (own_w hw 61 rfl) (own_w hw 60 rfl) (own_w hw 6 rfl) (own_w hw 62 rfl) (by decide) (rm_len l Z a0 hw [] a1 t1 cs nl1 h0 n0 Z0 S_C hcs E_1 C_1 V_1 _ _ A_1) E_1 eT (W := 0) (by decide) (by decide) (cells' := 0) (slots' := 0) rfl rfl (by decide) (by decide) (by rw [hml]; rfl) (lenOf own_pd_2829I rfl) rfl (S := []) rfl (Nat.le_of_eq rfl) (hb hby own38_1) (pc' := 4) rfl ?_
  intro v T h1 L lc X eT hq fN
  obtain ⟨rfl, Nq, hqe⟩ := hq
  have N := fN _ N Nq
  rw [hqe] at eT
  show own_W _ _ _ _ _ _ _ _ [(.int nl1)]
  refine own_istoreN X hx (hb hby own38_4) (pc' := 5) rfl (Ls' := #[.val (.ref a1), .val (.ref a2), .val (.int p2), .val (.int nl1)]) rfl ?_
  refine own_iloadN X hx (hb hby own38_5) (pc' := 6) rfl rfl ?_
  refine own_iloadN X hx (hb hby own38_6) (pc' := 7) rfl rfl ?_
  refine own_icmp X hx (hb hby own38_7) (by decide) (pcY := 16) (pcN := 10) rfl rfl (fun (hc7 : ¬ (p2 < nl1)) => ?_) (fun (hc7 : p2 < nl1) => ?_)
  · refine own_iloadN X hx (hb hby own38_16) (pc' := 17) rfl rfl ?_
    refine own_iloadN X hx (hb hby own38_17) (pc' := 18) rfl rfl ?_
    refine own_icmp X hx (hb hby own38_18) (by decide) (pcY := 24) (pcN := 21) rfl rfl (fun (hc18 : ¬ (p2 = nl1)) => ?_) (fun (hc18 : p2 = nl1) => ?_)
    · refine own_aloadN X hx (hb hby own38_24) (pc' := 25) rfl rfl rfl ?_
      refine own_iloadN X hx (hb hby own38_25) (pc' := 26) rfl rfl ?_
      refine own_iloadN X hx (hb hby own38_26) (pc' := 27) rfl rfl ?_
      refine own_isub X hx (hb hby own38_27) (pc' := 28) rfl ?_
      refine own_iconst X hx (1 : Int32) (hb hby own38_28) (pc' := 29) rfl rfl ?_
      refine own_isub X hx (hb hby own38_29) (pc' := 30) rfl ?_
      refine own_callS X hx hZ [(.ref a2), (.int ((p2 - nl1) - (1 : Int32)))] hown (own_w hw 171 rfl) (own_w hw 172 rfl) (own_w hw 2 rfl) (own_w hw 173 rfl) (by decide) (rm_at l Z a0 hw [] a2 t2 ((p2 - nl1) - (1 : Int32)) nl2 cs fm vs2 h0 n0 Z0 S_C hcs S_F hfm E_2 C_2 V_2 _ A_2 hi2 (hd hc7 hc18)) eT (W := 0) (by decide) (by decide) (cells' := 0) (slots' := 0) rfl rfl (by decide) (by decide) (by rw [hml]; rfl) (lenOf own_pd_28Ljava2flang2fString3bI29I rfl) rfl (S := []) rfl (Nat.le_of_eq rfl) (hb hby own38_30) (pc' := 33) rfl ?_
      intro v T h2 L lc X eT hq fN
      obtain ⟨rfl, Nq, hqe⟩ := hq
      have N := fN _ N Nq
      rw [hqe] at eT
      show own_W _ _ _ _ _ _ _ _ [(.int (own_at nl2 vs2 ((p2 - nl1) - (1 : Int32))))]
      refine own_retI X hx hlk (t := .int) (w' := (.int (own_at nl2 vs2 ((p2 - nl1) - (1 : Int32))))) hret (hb hby own38_33) rfl rfl (by simp) (by decide) (by decide) ?_
      rw [eT]
      exact ⟨congrArg (fun z => some (Value.int z)) (own_ee3 hc7 hc18).symm, N, rfl⟩
    · refine own_bipush X hx (46 : Int32) (hb hby own38_21) (pc' := 23) rfl rfl ?_
      refine own_retI X hx hlk (t := .int) (w' := (.int (46 : Int32))) hret (hb hby own38_23) rfl rfl (by simp) (by decide) (by decide) ?_
      rw [eT]
      exact ⟨congrArg (fun z => some (Value.int z)) (own_ee2 hc7 hc18).symm, N, rfl⟩
  · refine own_aloadN X hx (hb hby own38_10) (pc' := 11) rfl rfl rfl ?_
    refine own_iloadN X hx (hb hby own38_11) (pc' := 12) rfl rfl ?_
    refine own_callV X hx hZ (y := (⟨"java/lang/String", "charAt", "(I)C"⟩ : MethodName)) a1 [(.int p2)] hown (own_w hw 174 rfl) (own_w hw 175 rfl) (own_w hw 177 rfl) (own_w hw 176 rfl) (own_w hw 6 rfl) (own_w hw 178 rfl) (by decide) (rm_chAt l Z a0 hw [] a1 t1 p2 (own_bv vs1 p2) cs fm h0 n0 Z0 S_C hcs S_F hfm E_1 nl1 C_1 V_1 _ _ A_1 hj0 hc7 (own_bv_at hi1 p2)) E_1 eT (W := 0) (by decide) (by decide) (cells' := 0) (slots' := 0) rfl rfl (by decide) (by decide) (by rw [hml]; rfl) (lenOf own_pd_28I29C rfl) rfl (S := []) rfl (Nat.le_of_eq rfl) (hb hby own38_12) (pc' := 15) rfl ?_
    intro v T h3 L lc X eT hq fN
    obtain ⟨rfl, Nq, hqe⟩ := hq
    have N := fN _ N Nq
    rw [hqe] at eT
    show own_W _ _ _ _ _ _ _ _ [(.int (own_cx (own_bv vs1 p2)))]
    refine own_retI X hx hlk (t := .int) (w' := (.int (own_cx (own_bv vs1 p2)))) hret (hb hby own38_15) rfl rfl (by simp) (by decide) (by decide) ?_
    rw [eT]
    exact ⟨congrArg (fun z => some (Value.int z)) (own_ee1 hc7).symm, N, rfl⟩
theorem own39_0 : decode method_6_code 0 = .ok (.aload_n 0, 1) := by decide +kernel
theorem own39_1 : decode method_6_code 1 = .ok (.invokevirtual 26, 3) := by decide +kernel
theorem own39_4 : decode method_6_code 4 = .ok (.iconst 1, 1) := by decide +kernel
theorem own39_5 : decode method_6_code 5 = .ok (.iadd, 1) := by decide +kernel
theorem own39_6 : decode method_6_code 6 = .ok (.aload_n 1, 1) := by decide +kernel
theorem own39_7 : decode method_6_code 7 = .ok (.invokevirtual 26, 3) := by decide +kernel
theorem own39_10 : decode method_6_code 10 = .ok (.iadd, 1) := by decide +kernel
theorem own39_11 : decode method_6_code 11 = .ok (.istore_n 3, 1) := by decide +kernel
theorem own39_12 : decode method_6_code 12 = .ok (.iload_n 2, 1) := by decide +kernel
theorem own39_13 : decode method_6_code 13 = .ok (.iload_n 3, 1) := by decide +kernel
theorem own39_14 : decode method_6_code 14 = .ok (.if_icmp .ge 10, 3) := by decide +kernel
theorem own39_24 : decode method_6_code 24 = .ok (.iload_n 2, 1) := by decide +kernel
theorem own39_25 : decode method_6_code 25 = .ok (.iload_n 3, 1) := by decide +kernel
theorem own39_26 : decode method_6_code 26 = .ok (.if_icmp .ne 6, 3) := by decide +kernel
theorem own39_32 : decode method_6_code 32 = .ok (.aload_n 0, 1) := by decide +kernel
theorem own39_33 : decode method_6_code 33 = .ok (.iload_n 2, 1) := by decide +kernel
theorem own39_34 : decode method_6_code 34 = .ok (.iload_n 3, 1) := by decide +kernel
theorem own39_35 : decode method_6_code 35 = .ok (.isub, 1) := by decide +kernel
theorem own39_36 : decode method_6_code 36 = .ok (.iconst 1, 1) := by decide +kernel
theorem own39_37 : decode method_6_code 37 = .ok (.isub, 1) := by decide +kernel
theorem own39_38 : decode method_6_code 38 = .ok (.invokestatic 46, 3) := by decide +kernel
theorem own39_41 : decode method_6_code 41 = .ok (.ireturn, 1) := by decide +kernel
theorem own39_29 : decode method_6_code 29 = .ok (.bipush 46, 2) := by decide +kernel
theorem own39_31 : decode method_6_code 31 = .ok (.ireturn, 1) := by decide +kernel
theorem own39_17 : decode method_6_code 17 = .ok (.aload_n 0, 1) := by decide +kernel
theorem own39_18 : decode method_6_code 18 = .ok (.aload_n 1, 1) := by decide +kernel
theorem own39_19 : decode method_6_code 19 = .ok (.iload_n 2, 1) := by decide +kernel
theorem own39_20 : decode method_6_code 20 = .ok (.invokestatic 50, 3) := by decide +kernel
theorem own_pd_28Ljava2flang2fString3bLjava2flang2fString3bI29I : parseMethodDescriptor "(Ljava/lang/String;Ljava/lang/String;I)I" = some ⟨[(.object "java/lang/String"), (.object "java/lang/String"), .int], some .int⟩ := by decide +kernel
theorem own39_23 : decode method_6_code 23 = .ok (.ireturn, 1) := by decide +kernel
def Q_qq (Z : State) (a1 t1 a2 t2 : Addr) (p2 nl1 nl2 cs : Int32) (fm : Value) (vs1 vs2 : List Value) (ee : Int32) (h0 : Heap) (n0 : Nat) (v : Option Value) (h : Heap) (L : List Loc) : Prop := v = some (.int (own_qq nl1 vs1 nl2 vs2 ee p2)) ∧ Fr n0 L ∧ h = h0
set_option maxRecDepth 65536 in
set_option maxHeartbeats 40000000 in
theorem rm_qq (l : Launch) (Z : State) (a0 : Array Value) (hw : ∀ d ∈ tables_1, d.before a0 Z = true) (ws : List Jvm.Cond) (a1 t1 a2 t2 : Addr) (p2 nl1 nl2 cs : Int32) (fm : Value) (vs1 vs2 : List Value) (ee : Int32) (h0 : Heap) (n0 : Nat) (Z0 : n0 ≤ h0.size) (S_C : Sta Z h0 "java/lang/String" "COMPACT_STRINGS" "Z" (.int cs)) (hcs : ¬ cs = 0) (S_F : Sta Z h0 "jdk/internal/util/Preconditions" "SIOOBE_FORMATTER" "Ljava/util/function/BiFunction;" fm) (hfm : fm.isRef = true) (E_1 : Exa Z h0 a1 "java/lang/String") (C_1 : Fld Z h0 a1 "java/lang/String" "coder" "B" (.int (0 : Int32))) (V_1 : Fld Z h0 a1 "java/lang/String" "value" "[B" (.ref t1)) (k_1 : ClassId) (A_1 : Arv Z h0 t1 k_1 .byte nl1 vs1 (.int (0 : Int32))) (E_2 : Exa Z h0 a2 "java/lang/String") (C_2 : Fld Z h0 a2 "java/lang/String" "coder" "B" (.int (0 : Int32))) (V_2 : Fld Z h0 a2 "java/lang/String" "value" "[B" (.ref t2)) (k_2 : ClassId) (A_2 : Arv Z h0 t2 k_2 .byte nl2 vs2 (.int (0 : Int32))) (hi1 : own_ints vs1) (hi2 : own_ints vs2) (hj0 : ¬ p2 < 0) (hd : ¬ p2 < nl1 → ¬ p2 = nl1 → ¬ (p2 - nl1) - (1 : Int32) < 0) (he : (nl1 + (1 : Int32)) + nl2 = ee) (hd2 : ¬ p2 < ee → ¬ p2 = ee → ¬ (p2 - ee) - (1 : Int32) < 0) : own_Met l Z ⟨"com/example/runnel/runnel/broker/PipeAfterPinLaw", "expQ", "(Ljava/lang/String;Ljava/lang/String;I)I"⟩ method_6_code 4 (some .int) ws ⟨6, 0, 0, 96⟩ #[(.ref a1), (.ref a2), (.int p2)] h0 (Q_qq Z a1 t1 a2 t2 p2 nl1 nl2 cs fm vs1 vs2 ee h0 n0) := by
  refine own_met n0 own_pn_com_example_runnel_runnel_broker_PipeAfterPinLaw (fun m => ef4RRI m a1 a2 p2) ?_
  intro p e s m below meth c T lc hret hx hZ hby hml hown hnm hlk X eT N
  refine own_aloadN X hx (hb hby own39_0) (pc' := 1) rfl rfl rfl ?_
  refine own_callV X hx hZ (y := (⟨"java/lang/String", "length", "()I"⟩ : MethodName)) a1 [] hown (own_w hw 167 rfl) (own_w hw 59 rfl) (own_w hw 61 rfl) (own_w hw 60 rfl) (own_w hw 6 rfl) (own_w hw 62 rfl) (by decide) (rm_len l Z a0 hw [] a1 t1 cs nl1 h0 n0 Z0 S_C hcs E_1 C_1 V_1 _ _ A_1) E_1 eT (W := 0) (by decide) (by decide) (cells' := 0) (slots' := 0) rfl rfl (by decide) (by decide) (by rw [hml]; rfl) (lenOf own_pd_2829I rfl) rfl (S := []) rfl (Nat.le_of_eq rfl) (hb hby own39_1) (pc' := 4) rfl ?_
  intro v T h1 L lc X eT hq fN
  obtain ⟨rfl, Nq, hqe⟩ := hq
  have N := fN _ N Nq
  rw [hqe] at eT
  show own_W _ _ _ _ _ _ _ _ [(.int nl1)]
  refine own_iconst X hx (1 : Int32) (hb hby own39_4) (pc' := 5) rfl rfl ?_
  refine own_iadd X hx (hb hby own39_5) (pc' := 6) rfl ?_
  refine own_aloadN X hx (hb hby own39_6) (pc' := 7) rfl rfl rfl ?_
  refine own_callV X hx hZ (y := (⟨"java/lang/String", "length", "()I"⟩ : MethodName)) a2 [] hown (own_w hw 167 rfl) (own_w hw 59 rfl) (own_w hw 61 rfl) (own_w hw 60 rfl) (own_w hw 6 rfl) (own_w hw 62 rfl) (by decide) (rm_len l Z a0 hw [] a2 t2 cs nl2 h0 n0 Z0 S_C hcs E_2 C_2 V_2 _ _ A_2) E_2 eT (W := 1) (by decide) (by decide) (cells' := 0) (slots' := 0) rfl rfl (by decide) (by decide) (by rw [hml]; rfl) (lenOf own_pd_2829I rfl) rfl (S := [(.int (nl1 + (1 : Int32)))]) rfl (Nat.le_of_eq rfl) (hb hby own39_7) (pc' := 10) rfl ?_
  intro v T h2 L lc X eT hq fN
  obtain ⟨rfl, Nq, hqe⟩ := hq
  have N := fN _ N Nq
  rw [hqe] at eT
  show own_W _ _ _ _ _ _ _ _ [(.int nl2), (.int (nl1 + (1 : Int32)))]
  refine own_iadd X hx (hb hby own39_10) (pc' := 11) rfl ?_
  rw [he]
  refine own_istoreN X hx (hb hby own39_11) (pc' := 12) rfl (Ls' := #[.val (.ref a1), .val (.ref a2), .val (.int p2), .val (.int ee)]) rfl ?_
  refine own_iloadN X hx (hb hby own39_12) (pc' := 13) rfl rfl ?_
  refine own_iloadN X hx (hb hby own39_13) (pc' := 14) rfl rfl ?_
  refine own_icmp X hx (hb hby own39_14) (by decide) (pcY := 24) (pcN := 17) rfl rfl (fun (hc14 : ¬ (p2 < ee)) => ?_) (fun (hc14 : p2 < ee) => ?_)
  · refine own_iloadN X hx (hb hby own39_24) (pc' := 25) rfl rfl ?_
    refine own_iloadN X hx (hb hby own39_25) (pc' := 26) rfl rfl ?_
    refine own_icmp X hx (hb hby own39_26) (by decide) (pcY := 32) (pcN := 29) rfl rfl (fun (hc26 : ¬ (p2 = ee)) => ?_) (fun (hc26 : p2 = ee) => ?_)
    · refine own_aloadN X hx (hb hby own39_32) (pc' := 33) rfl rfl rfl ?_
      refine own_iloadN X hx (hb hby own39_33) (pc' := 34) rfl rfl ?_
      refine own_iloadN X hx (hb hby own39_34) (pc' := 35) rfl rfl ?_
      refine own_isub X hx (hb hby own39_35) (pc' := 36) rfl ?_
      refine own_iconst X hx (1 : Int32) (hb hby own39_36) (pc' := 37) rfl rfl ?_
      refine own_isub X hx (hb hby own39_37) (pc' := 38) rfl ?_
      refine own_callS X hx hZ [(.ref a1), (.int ((p2 - ee) - (1 : Int32)))] hown (own_w hw 171 rfl) (own_w hw 172 rfl) (own_w hw 2 rfl) (own_w hw 173 rfl) (by decide) (rm_at l Z a0 hw [] a1 t1 ((p2 - ee) - (1 : Int32)) nl1 cs fm vs1 h0 n0 Z0 S_C hcs S_F hfm E_1 C_1 V_1 _ A_1 hi1 (hd2 hc14 hc26)) eT (W := 0) (by decide) (by decide) (cells' := 0) (slots' := 0) rfl rfl (by decide) (by decide) (by rw [hml]; rfl) (lenOf own_pd_28Ljava2flang2fString3bI29I rfl) rfl (S := []) rfl (Nat.le_of_eq rfl) (hb hby own39_38) (pc' := 41) rfl ?_
      intro v T h3 L lc X eT hq fN
      obtain ⟨rfl, Nq, hqe⟩ := hq
      have N := fN _ N Nq
      rw [hqe] at eT
      show own_W _ _ _ _ _ _ _ _ [(.int (own_at nl1 vs1 ((p2 - ee) - (1 : Int32))))]
      refine own_retI X hx hlk (t := .int) (w' := (.int (own_at nl1 vs1 ((p2 - ee) - (1 : Int32))))) hret (hb hby own39_41) rfl rfl (by simp) (by decide) (by decide) ?_
      rw [eT]
      exact ⟨congrArg (fun z => some (Value.int z)) (own_qq3 hc14 hc26).symm, N, rfl⟩
    · refine own_bipush X hx (46 : Int32) (hb hby own39_29) (pc' := 31) rfl rfl ?_
      refine own_retI X hx hlk (t := .int) (w' := (.int (46 : Int32))) hret (hb hby own39_31) rfl rfl (by simp) (by decide) (by decide) ?_
      rw [eT]
      exact ⟨congrArg (fun z => some (Value.int z)) (own_qq2 hc14 hc26).symm, N, rfl⟩
  · refine own_aloadN X hx (hb hby own39_17) (pc' := 18) rfl rfl rfl ?_
    refine own_aloadN X hx (hb hby own39_18) (pc' := 19) rfl rfl rfl ?_
    refine own_iloadN X hx (hb hby own39_19) (pc' := 20) rfl rfl ?_
    refine own_callS X hx hZ [(.ref a1), (.ref a2), (.int p2)] hown (own_w hw 196 rfl) (own_w hw 197 rfl) (own_w hw 2 rfl) (own_w hw 198 rfl) (by decide) (rm_ee l Z a0 hw [] a1 t1 a2 t2 p2 nl1 nl2 cs fm vs1 vs2 h0 n0 Z0 S_C hcs S_F hfm E_1 C_1 V_1 _ A_1 E_2 C_2 V_2 _ A_2 hi1 hi2 hj0 hd) eT (W := 0) (by decide) (by decide) (cells' := 0) (slots' := 0) rfl rfl (by decide) (by decide) (by rw [hml]; rfl) (lenOf own_pd_28Ljava2flang2fString3bLjava2flang2fString3bI29I rfl) rfl (S := []) rfl (Nat.le_of_eq rfl) (hb hby own39_20) (pc' := 23) rfl ?_
    intro v T h4 L lc X eT hq fN
    obtain ⟨rfl, Nq, hqe⟩ := hq
    have N := fN _ N Nq
    rw [hqe] at eT
    show own_W _ _ _ _ _ _ _ _ [(.int (own_ee nl1 vs1 nl2 vs2 p2))]
    refine own_retI X hx hlk (t := .int) (w' := (.int (own_ee nl1 vs1 nl2 vs2 p2))) hret (hb hby own39_23) rfl rfl (by simp) (by decide) (by decide) ?_
    rw [eT]
    exact ⟨congrArg (fun z => some (Value.int z)) (own_qq1 hc14).symm, N, rfl⟩
theorem own40_0 : decode method_7_code 0 = .ok (.aload_n 0, 1) := by decide +kernel
theorem own40_1 : decode method_7_code 1 = .ok (.iload_n 3, 1) := by decide +kernel
theorem own40_2 : decode method_7_code 2 = .ok (.invokestatic 46, 3) := by decide +kernel
theorem own40_5 : decode method_7_code 5 = .ok (.aload_n 1, 1) := by decide +kernel
theorem own40_6 : decode method_7_code 6 = .ok (.aload_n 2, 1) := by decide +kernel
theorem own40_7 : decode method_7_code 7 = .ok (.iload_n 3, 1) := by decide +kernel
theorem own40_8 : decode method_7_code 8 = .ok (.invokestatic 50, 3) := by decide +kernel
theorem own40_11 : decode method_7_code 11 = .ok (.if_icmp .ne 7, 3) := by decide +kernel
theorem own40_14 : decode method_7_code 14 = .ok (.iconst 1, 1) := by decide +kernel
theorem own40_15 : decode method_7_code 15 = .ok (.goto 4, 3) := by decide +kernel
theorem own40_19 : decode method_7_code 19 = .ok (.ireturn, 1) := by decide +kernel
theorem ef4RRRI (m : MethodId) (x0 : Addr) (x1 : Addr) (x2 : Addr) (x3 : Int32) : entryFrame m #[(.ref x0), (.ref x1), (.ref x2), (.int x3)] 4 = mkF m 0 #[.val (.ref x0), .val (.ref x1), .val (.ref x2), .val (.int x3)] [] := by first | (simp [entryFrame, mkF, argsToLocals, Value.category]; done) | rfl
def Q_xo (Z : State) (a3 t3 : Addr) (nl3 : Int32) (vs3 : List Value) (a1 t1 a2 t2 : Addr) (p2 nl1 nl2 cs : Int32) (fm : Value) (vs1 vs2 : List Value) (h0 : Heap) (n0 : Nat) (v : Option Value) (h : Heap) (L : List Loc) : Prop := v = some (.int (1 : Int32)) ∧ Fr n0 L ∧ h = h0
set_option maxRecDepth 65536 in
set_option maxHeartbeats 40000000 in
theorem rm_xo (l : Launch) (Z : State) (a0 : Array Value) (hw : ∀ d ∈ tables_1, d.before a0 Z = true) (ws : List Jvm.Cond) (a3 t3 : Addr) (nl3 : Int32) (vs3 : List Value) (a1 t1 a2 t2 : Addr) (p2 nl1 nl2 cs : Int32) (fm : Value) (vs1 vs2 : List Value) (h0 : Heap) (n0 : Nat) (Z0 : n0 ≤ h0.size) (S_C : Sta Z h0 "java/lang/String" "COMPACT_STRINGS" "Z" (.int cs)) (hcs : ¬ cs = 0) (S_F : Sta Z h0 "jdk/internal/util/Preconditions" "SIOOBE_FORMATTER" "Ljava/util/function/BiFunction;" fm) (hfm : fm.isRef = true) (E_1 : Exa Z h0 a1 "java/lang/String") (C_1 : Fld Z h0 a1 "java/lang/String" "coder" "B" (.int (0 : Int32))) (V_1 : Fld Z h0 a1 "java/lang/String" "value" "[B" (.ref t1)) (k_1 : ClassId) (A_1 : Arv Z h0 t1 k_1 .byte nl1 vs1 (.int (0 : Int32))) (E_2 : Exa Z h0 a2 "java/lang/String") (C_2 : Fld Z h0 a2 "java/lang/String" "coder" "B" (.int (0 : Int32))) (V_2 : Fld Z h0 a2 "java/lang/String" "value" "[B" (.ref t2)) (k_2 : ClassId) (A_2 : Arv Z h0 t2 k_2 .byte nl2 vs2 (.int (0 : Int32))) (hi1 : own_ints vs1) (hi2 : own_ints vs2) (hj0 : ¬ p2 < 0) (E_3 : Exa Z h0 a3 "java/lang/String") (C_3 : Fld Z h0 a3 "java/lang/String" "coder" "B" (.int (0 : Int32))) (V_3 : Fld Z h0 a3 "java/lang/String" "value" "[B" (.ref t3)) (k_3 : ClassId) (A_3 : Arv Z h0 t3 k_3 .byte nl3 vs3 (.int (0 : Int32))) (hi3 : own_ints vs3) (hd : ¬ p2 < nl1 → ¬ p2 = nl1 → ¬ (p2 - nl1) - (1 : Int32) < 0) (heq : own_at nl3 vs3 p2 = (own_ee nl1 vs1 nl2 vs2 p2)) : own_Met l Z ⟨"com/example/runnel/runnel/broker/PipeAfterPinLaw", "exOk", "(Ljava/lang/String;Ljava/lang/String;Ljava/lang/String;I)Z"⟩ method_7_code 4 (some .boolean) ws ⟨6, 0, 0, 96⟩ #[(.ref a3), (.ref a1), (.ref a2), (.int p2)] h0 (Q_xo Z a3 t3 nl3 vs3 a1 t1 a2 t2 p2 nl1 nl2 cs fm vs1 vs2 h0 n0) := by
  refine own_met n0 own_pn_com_example_runnel_runnel_broker_PipeAfterPinLaw (fun m => ef4RRRI m a3 a1 a2 p2) ?_
  intro p e s m below meth c T lc hret hx hZ hby hml hown hnm hlk X eT N
  refine own_aloadN X hx (hb hby own40_0) (pc' := 1) rfl rfl rfl ?_
  refine own_iloadN X hx (hb hby own40_1) (pc' := 2) rfl rfl ?_
  refine own_callS X hx hZ [(.ref a3), (.int p2)] hown (own_w hw 171 rfl) (own_w hw 172 rfl) (own_w hw 2 rfl) (own_w hw 173 rfl) (by decide) (rm_at l Z a0 hw [] a3 t3 p2 nl3 cs fm vs3 h0 n0 Z0 S_C hcs S_F hfm E_3 C_3 V_3 _ A_3 hi3 hj0) eT (W := 0) (by decide) (by decide) (cells' := 0) (slots' := 0) rfl rfl (by decide) (by decide) (by rw [hml]; rfl) (lenOf own_pd_28Ljava2flang2fString3bI29I rfl) rfl (S := []) rfl (Nat.le_of_eq rfl) (hb hby own40_2) (pc' := 5) rfl ?_
  intro v T h1 L lc X eT hq fN
  obtain ⟨rfl, Nq, hqe⟩ := hq
  have N := fN _ N Nq
  rw [hqe] at eT
  show own_W _ _ _ _ _ _ _ _ [(.int (own_at nl3 vs3 p2))]
  refine own_aloadN X hx (hb hby own40_5) (pc' := 6) rfl rfl rfl ?_
  refine own_aloadN X hx (hb hby own40_6) (pc' := 7) rfl rfl rfl ?_
  refine own_iloadN X hx (hb hby own40_7) (pc' := 8) rfl rfl ?_
  refine own_callS X hx hZ [(.ref a1), (.ref a2), (.int p2)] hown (own_w hw 196 rfl) (own_w hw 197 rfl) (own_w hw 2 rfl) (own_w hw 198 rfl) (by decide) (rm_ee l Z a0 hw [] a1 t1 a2 t2 p2 nl1 nl2 cs fm vs1 vs2 h0 n0 Z0 S_C hcs S_F hfm E_1 C_1 V_1 _ A_1 E_2 C_2 V_2 _ A_2 hi1 hi2 hj0 hd) eT (W := 1) (by decide) (by decide) (cells' := 0) (slots' := 0) rfl rfl (by decide) (by decide) (by rw [hml]; rfl) (lenOf own_pd_28Ljava2flang2fString3bLjava2flang2fString3bI29I rfl) rfl (S := [(.int (own_at nl3 vs3 p2))]) rfl (Nat.le_of_eq rfl) (hb hby own40_8) (pc' := 11) rfl ?_
  intro v T h2 L lc X eT hq fN
  obtain ⟨rfl, Nq, hqe⟩ := hq
  have N := fN _ N Nq
  rw [hqe] at eT
  show own_W _ _ _ _ _ _ _ _ [(.int (own_ee nl1 vs1 nl2 vs2 p2)), (.int (own_at nl3 vs3 p2))]
  refine own_icmpN X hx (hb hby own40_11) (pc' := 14) rfl (show (own_at nl3 vs3 p2) = (own_ee nl1 vs1 nl2 vs2 p2) from heq) ?_
  refine own_iconst X hx (1 : Int32) (hb hby own40_14) (pc' := 15) rfl rfl ?_
  refine own_goto X hx (hb hby own40_15) (by decide) (pc' := 19) rfl ?_
  refine own_retI X hx hlk (t := .boolean) (w' := (.int (1 : Int32))) hret (hb hby own40_19) rfl rfl (by simp) (by decide) (by decide) ?_
  rw [eT]
  exact ⟨rfl, N, rfl⟩
theorem own41_0 : decode method_8_code 0 = .ok (.aload_n 0, 1) := by decide +kernel
theorem own41_1 : decode method_8_code 1 = .ok (.iload_n 3, 1) := by decide +kernel
theorem own41_2 : decode method_8_code 2 = .ok (.invokestatic 46, 3) := by decide +kernel
theorem own41_5 : decode method_8_code 5 = .ok (.aload_n 1, 1) := by decide +kernel
theorem own41_6 : decode method_8_code 6 = .ok (.aload_n 2, 1) := by decide +kernel
theorem own41_7 : decode method_8_code 7 = .ok (.iload_n 3, 1) := by decide +kernel
theorem own41_8 : decode method_8_code 8 = .ok (.invokestatic 54, 3) := by decide +kernel
theorem own41_11 : decode method_8_code 11 = .ok (.if_icmp .ne 7, 3) := by decide +kernel
theorem own41_14 : decode method_8_code 14 = .ok (.iconst 1, 1) := by decide +kernel
theorem own41_15 : decode method_8_code 15 = .ok (.goto 4, 3) := by decide +kernel
theorem own41_19 : decode method_8_code 19 = .ok (.ireturn, 1) := by decide +kernel
def Q_qo (Z : State) (a3 t3 : Addr) (nl3 : Int32) (vs3 : List Value) (a1 t1 a2 t2 : Addr) (p2 nl1 nl2 cs : Int32) (fm : Value) (vs1 vs2 : List Value) (ee : Int32) (h0 : Heap) (n0 : Nat) (v : Option Value) (h : Heap) (L : List Loc) : Prop := v = some (.int (1 : Int32)) ∧ Fr n0 L ∧ h = h0
set_option maxRecDepth 65536 in
set_option maxHeartbeats 40000000 in
theorem rm_qo (l : Launch) (Z : State) (a0 : Array Value) (hw : ∀ d ∈ tables_1, d.before a0 Z = true) (ws : List Jvm.Cond) (a3 t3 : Addr) (nl3 : Int32) (vs3 : List Value) (a1 t1 a2 t2 : Addr) (p2 nl1 nl2 cs : Int32) (fm : Value) (vs1 vs2 : List Value) (ee : Int32) (h0 : Heap) (n0 : Nat) (Z0 : n0 ≤ h0.size) (S_C : Sta Z h0 "java/lang/String" "COMPACT_STRINGS" "Z" (.int cs)) (hcs : ¬ cs = 0) (S_F : Sta Z h0 "jdk/internal/util/Preconditions" "SIOOBE_FORMATTER" "Ljava/util/function/BiFunction;" fm) (hfm : fm.isRef = true) (E_1 : Exa Z h0 a1 "java/lang/String") (C_1 : Fld Z h0 a1 "java/lang/String" "coder" "B" (.int (0 : Int32))) (V_1 : Fld Z h0 a1 "java/lang/String" "value" "[B" (.ref t1)) (k_1 : ClassId) (A_1 : Arv Z h0 t1 k_1 .byte nl1 vs1 (.int (0 : Int32))) (E_2 : Exa Z h0 a2 "java/lang/String") (C_2 : Fld Z h0 a2 "java/lang/String" "coder" "B" (.int (0 : Int32))) (V_2 : Fld Z h0 a2 "java/lang/String" "value" "[B" (.ref t2)) (k_2 : ClassId) (A_2 : Arv Z h0 t2 k_2 .byte nl2 vs2 (.int (0 : Int32))) (hi1 : own_ints vs1) (hi2 : own_ints vs2) (hj0 : ¬ p2 < 0) (E_3 : Exa Z h0 a3 "java/lang/String") (C_3 : Fld Z h0 a3 "java/lang/String" "coder" "B" (.int (0 : Int32))) (V_3 : Fld Z h0 a3 "java/lang/String" "value" "[B" (.ref t3)) (k_3 : ClassId) (A_3 : Arv Z h0 t3 k_3 .byte nl3 vs3 (.int (0 : Int32))) (hi3 : own_ints vs3) (hd : ¬ p2 < nl1 → ¬ p2 = nl1 → ¬ (p2 - nl1) - (1 : Int32) < 0) (he : (nl1 + (1 : Int32)) + nl2 = ee) (hd2 : ¬ p2 < ee → ¬ p2 = ee → ¬ (p2 - ee) - (1 : Int32) < 0) (heq : own_at nl3 vs3 p2 = (own_qq nl1 vs1 nl2 vs2 ee p2)) : own_Met l Z ⟨"com/example/runnel/runnel/broker/PipeAfterPinLaw", "qOk", "(Ljava/lang/String;Ljava/lang/String;Ljava/lang/String;I)Z"⟩ method_8_code 4 (some .boolean) ws ⟨7, 0, 0, 116⟩ #[(.ref a3), (.ref a1), (.ref a2), (.int p2)] h0 (Q_qo Z a3 t3 nl3 vs3 a1 t1 a2 t2 p2 nl1 nl2 cs fm vs1 vs2 ee h0 n0) := by
  refine own_met n0 own_pn_com_example_runnel_runnel_broker_PipeAfterPinLaw (fun m => ef4RRRI m a3 a1 a2 p2) ?_
  intro p e s m below meth c T lc hret hx hZ hby hml hown hnm hlk X eT N
  refine own_aloadN X hx (hb hby own41_0) (pc' := 1) rfl rfl rfl ?_
  refine own_iloadN X hx (hb hby own41_1) (pc' := 2) rfl rfl ?_
  refine own_callS X hx hZ [(.ref a3), (.int p2)] hown (own_w hw 171 rfl) (own_w hw 172 rfl) (own_w hw 2 rfl) (own_w hw 173 rfl) (by decide) (rm_at l Z a0 hw [] a3 t3 p2 nl3 cs fm vs3 h0 n0 Z0 S_C hcs S_F hfm E_3 C_3 V_3 _ A_3 hi3 hj0) eT (W := 0) (by decide) (by decide) (cells' := 0) (slots' := 0) rfl rfl (by decide) (by decide) (by rw [hml]; rfl) (lenOf own_pd_28Ljava2flang2fString3bI29I rfl) rfl (S := []) rfl (Nat.le_of_eq rfl) (hb hby own41_2) (pc' := 5) rfl ?_
  intro v T h1 L lc X eT hq fN
  obtain ⟨rfl, Nq, hqe⟩ := hq
  have N := fN _ N Nq
  rw [hqe] at eT
  show own_W _ _ _ _ _ _ _ _ [(.int (own_at nl3 vs3 p2))]
  refine own_aloadN X hx (hb hby own41_5) (pc' := 6) rfl rfl rfl ?_
  refine own_aloadN X hx (hb hby own41_6) (pc' := 7) rfl rfl rfl ?_
  refine own_iloadN X hx (hb hby own41_7) (pc' := 8) rfl rfl ?_
  refine own_callS X hx hZ [(.ref a1), (.ref a2), (.int p2)] hown (own_w hw 202 rfl) (own_w hw 203 rfl) (own_w hw 2 rfl) (own_w hw 204 rfl) (by decide) (rm_qq l Z a0 hw [] a1 t1 a2 t2 p2 nl1 nl2 cs fm vs1 vs2 ee h0 n0 Z0 S_C hcs S_F hfm E_1 C_1 V_1 _ A_1 E_2 C_2 V_2 _ A_2 hi1 hi2 hj0 hd he hd2) eT (W := 1) (by decide) (by decide) (cells' := 0) (slots' := 0) rfl rfl (by decide) (by decide) (by rw [hml]; rfl) (lenOf own_pd_28Ljava2flang2fString3bLjava2flang2fString3bI29I rfl) rfl (S := [(.int (own_at nl3 vs3 p2))]) rfl (Nat.le_of_eq rfl) (hb hby own41_8) (pc' := 11) rfl ?_
  intro v T h2 L lc X eT hq fN
  obtain ⟨rfl, Nq, hqe⟩ := hq
  have N := fN _ N Nq
  rw [hqe] at eT
  show own_W _ _ _ _ _ _ _ _ [(.int (own_qq nl1 vs1 nl2 vs2 ee p2)), (.int (own_at nl3 vs3 p2))]
  refine own_icmpN X hx (hb hby own41_11) (pc' := 14) rfl (show (own_at nl3 vs3 p2) = (own_qq nl1 vs1 nl2 vs2 ee p2) from heq) ?_
  refine own_iconst X hx (1 : Int32) (hb hby own41_14) (pc' := 15) rfl rfl ?_
  refine own_goto X hx (hb hby own41_15) (by decide) (pc' := 19) rfl ?_
  refine own_retI X hx hlk (t := .boolean) (w' := (.int (1 : Int32))) hret (hb hby own41_19) rfl rfl (by simp) (by decide) (by decide) ?_
  rw [eT]
  exact ⟨rfl, N, rfl⟩
theorem own_pd_28I29Ljava2flang2fString3b : parseMethodDescriptor "(I)Ljava/lang/String;" = some ⟨[.int], some (.object "java/lang/String")⟩ := by decide +kernel
theorem own_f0 : ¬ (0 : Int32) < (0 : Int32) - (16 : Int32) := by decide
theorem own_f1 : (0 : Int32) + (0 : Int32) = (0 : Int32) := by decide
theorem own_f2 : ((0 : Int32) <<< ((0 : Int32) &&& 31)) = (0 : Int32) := by decide
theorem own_f3 : (0 : Int32) = Int32.ofNat 0 := by decide
theorem own_f4 : 0 + 0 ≤ (0 : Int32).toNatClampNeg := by decide
theorem own_f5 : 0 + 0 ≤ (16 : Int32).toNatClampNeg := by decide
theorem own_f6 : ¬ (0 : Int32) < (1 : Int32) - (16 : Int32) := by decide
theorem own_f7 : (0 : Int32) + (1 : Int32) = (1 : Int32) := by decide
theorem own_f8 : (1 : Int32) = Int32.ofNat 1 := by decide
theorem own_f9 : 0 + 1 ≤ (1 : Int32).toNatClampNeg := by decide
theorem own_f10 : 0 + 1 ≤ (16 : Int32).toNatClampNeg := by decide
theorem own_f11 : (1 : Int32) + (0 : Int32) = (1 : Int32) := by decide
theorem own_f12 : ((1 : Int32) <<< ((0 : Int32) &&& 31)) = (1 : Int32) := by decide
theorem own_f13 : 1 + 0 ≤ (16 : Int32).toNatClampNeg := by decide
theorem own_f14 : ¬ (0 : Int32) < (2 : Int32) - (16 : Int32) := by decide
theorem own_f15 : (1 : Int32) + (1 : Int32) = (2 : Int32) := by decide
theorem own_f16 : 1 + 1 ≤ (16 : Int32).toNatClampNeg := by decide
theorem own_f17 : (2 : Int32) + (0 : Int32) = (2 : Int32) := by decide
theorem own_f18 : ((2 : Int32) <<< ((0 : Int32) &&& 31)) = (2 : Int32) := by decide
theorem own_f19 : (2 : Int32) = Int32.ofNat 2 := by decide
theorem own_f20 : 2 + 0 ≤ (16 : Int32).toNatClampNeg := by decide
theorem own_f21 : ¬ (1 : Int32) < 0 := by decide
theorem own_f22 : (1 : Int32) - (0 : Int32) = (1 : Int32) := by decide
theorem own_f23 : (1 : Int32).toNatClampNeg ≤ 8 := by decide
theorem own_f24 : (1 : Int32) < (16 : Int32) := by decide
theorem own_f25 : ¬ (1 : Int32) = (16 : Int32) := by decide
theorem own_f26 : ¬ (2 : Int32) < 0 := by decide
theorem own_f27 : (2 : Int32) - (0 : Int32) = (2 : Int32) := by decide
theorem own_f28 : (2 : Int32).toNatClampNeg ≤ 8 := by decide
theorem own_f29 : (2 : Int32) < (16 : Int32) := by decide
theorem own_f30 : ¬ (2 : Int32) = (16 : Int32) := by decide
theorem own_f31 : 0 + 2 ≤ (16 : Int32).toNatClampNeg := by decide
theorem own_f32 : 0 + 2 ≤ (2 : Int32).toNatClampNeg := by decide
theorem own_pd_28Ljava2flang2fString3bLjava2flang2fString3b29Lcom2fexample2frunnel2frunnel2fbroker2fPipe3b : parseMethodDescriptor "(Ljava/lang/String;Ljava/lang/String;)Lcom/example/runnel/runnel/broker/Pipe;" = some ⟨[(.object "java/lang/String"), (.object "java/lang/String")], some (.object "com/example/runnel/runnel/broker/Pipe")⟩ := by decide +kernel
theorem own_f33 : (0 : Int32) < (1 : Int32) := by decide
theorem own_f34 : (0 : Int32).toNatClampNeg = 0 := by decide
theorem own_f35 : ¬ (0 : Int32) < (0 : Int32) := by decide
theorem own_f36 : (0 : Int32) = (0 : Int32) := by decide
theorem own_f37 : ¬ (0 : Int32) < 0 := by decide
theorem own_f38 : ¬ (0 : Int32) < (0 : Int32) → ¬ (0 : Int32) = (0 : Int32) → ¬ ((0 : Int32) - (0 : Int32)) - (1 : Int32) < 0 := by decide
theorem own_pd_28Ljava2flang2fString3bLjava2flang2fString3bLjava2flang2fString3bI29Z : parseMethodDescriptor "(Ljava/lang/String;Ljava/lang/String;Ljava/lang/String;I)Z" = some ⟨[(.object "java/lang/String"), (.object "java/lang/String"), (.object "java/lang/String"), .int], some .boolean⟩ := by decide +kernel
theorem own_f39 : ¬ (1 : Int32) < (1 : Int32) := by decide
theorem own_f40 : ¬ ((1 : Int32) - (0 : Int32) - (1 : Int32)) < (0 : Int32) := by decide
theorem own_f41 : ¬ (1 : Int32) < (0 : Int32) := by decide
theorem own_f42 : ¬ (1 : Int32) = (0 : Int32) := by decide
theorem own_f43 : ¬ (1 : Int32) < (0 : Int32) → ¬ (1 : Int32) = (0 : Int32) → ¬ ((1 : Int32) - (0 : Int32)) - (1 : Int32) < 0 := by decide
theorem own_f44 : ¬ (2 : Int32) < (1 : Int32) := by decide
theorem own_f45 : ¬ ((2 : Int32) - (0 : Int32) - (1 : Int32)) < (0 : Int32) := by decide
theorem own_f46 : ¬ (2 : Int32) < (0 : Int32) := by decide
theorem own_f47 : ¬ (2 : Int32) = (0 : Int32) := by decide
theorem own_f48 : ¬ (2 : Int32) < (0 : Int32) → ¬ (2 : Int32) = (0 : Int32) → ¬ ((2 : Int32) - (0 : Int32)) - (1 : Int32) < 0 := by decide
theorem own_f49 : ¬ (3 : Int32) < (1 : Int32) := by decide
theorem own_f50 : ¬ ((3 : Int32) - (0 : Int32) - (1 : Int32)) < (0 : Int32) := by decide
theorem own_f51 : ¬ (3 : Int32) < (0 : Int32) := by decide
theorem own_f52 : ¬ (3 : Int32) = (0 : Int32) := by decide
theorem own_f53 : ¬ (3 : Int32) < 0 := by decide
theorem own_f54 : ¬ (3 : Int32) < (0 : Int32) → ¬ (3 : Int32) = (0 : Int32) → ¬ ((3 : Int32) - (0 : Int32)) - (1 : Int32) < 0 := by decide
theorem own_f55 : ¬ (4 : Int32) < (1 : Int32) := by decide
theorem own_f56 : ¬ ((4 : Int32) - (0 : Int32) - (1 : Int32)) < (0 : Int32) := by decide
theorem own_f57 : ¬ (4 : Int32) < (0 : Int32) := by decide
theorem own_f58 : ¬ (4 : Int32) = (0 : Int32) := by decide
theorem own_f59 : ¬ (4 : Int32) < 0 := by decide
theorem own_f60 : ¬ (4 : Int32) < (0 : Int32) → ¬ (4 : Int32) = (0 : Int32) → ¬ ((4 : Int32) - (0 : Int32)) - (1 : Int32) < 0 := by decide
theorem own_f61 : (0 : Int32) < (2 : Int32) := by decide
theorem own_f62 : ((0 : Int32) + (1 : Int32)) + (0 : Int32) = (1 : Int32) := by decide
theorem own_f63 : ¬ (0 : Int32) < (1 : Int32) → ¬ (0 : Int32) = (1 : Int32) → ¬ ((0 : Int32) - (1 : Int32)) - (1 : Int32) < 0 := by decide
theorem own_f64 : (1 : Int32) < (2 : Int32) := by decide
theorem own_f65 : (1 : Int32).toNatClampNeg = 1 := by decide
theorem own_f66 : (1 : Int32) = (1 : Int32) := by decide
theorem own_f67 : ¬ (1 : Int32) < (1 : Int32) → ¬ (1 : Int32) = (1 : Int32) → ¬ ((1 : Int32) - (1 : Int32)) - (1 : Int32) < 0 := by decide
theorem own_f68 : ¬ (2 : Int32) < (2 : Int32) := by decide
theorem own_f69 : ¬ ((2 : Int32) - (1 : Int32) - (1 : Int32)) < (0 : Int32) := by decide
theorem own_f70 : ¬ (2 : Int32) = (1 : Int32) := by decide
theorem own_f71 : ¬ (2 : Int32) < (1 : Int32) → ¬ (2 : Int32) = (1 : Int32) → ¬ ((2 : Int32) - (1 : Int32)) - (1 : Int32) < 0 := by decide
theorem own_f72 : ¬ (3 : Int32) < (2 : Int32) := by decide
theorem own_f73 : ¬ ((3 : Int32) - (1 : Int32) - (1 : Int32)) < (0 : Int32) := by decide
theorem own_f74 : ¬ (3 : Int32) = (1 : Int32) := by decide
theorem own_f75 : ¬ (3 : Int32) < (1 : Int32) → ¬ (3 : Int32) = (1 : Int32) → ¬ ((3 : Int32) - (1 : Int32)) - (1 : Int32) < 0 := by decide
theorem own_f76 : ¬ (4 : Int32) < (2 : Int32) := by decide
theorem own_f77 : ¬ ((4 : Int32) - (1 : Int32) - (1 : Int32)) < (0 : Int32) := by decide
theorem own_f78 : ¬ (4 : Int32) = (1 : Int32) := by decide
theorem own_f79 : ¬ (4 : Int32) < (1 : Int32) → ¬ (4 : Int32) = (1 : Int32) → ¬ ((4 : Int32) - (1 : Int32)) - (1 : Int32) < 0 := by decide
theorem own_f80 : ¬ (5 : Int32) < (2 : Int32) := by decide
theorem own_f81 : ¬ ((5 : Int32) - (1 : Int32) - (1 : Int32)) < (0 : Int32) := by decide
theorem own_f82 : ¬ (5 : Int32) < (1 : Int32) := by decide
theorem own_f83 : ¬ (5 : Int32) = (1 : Int32) := by decide
theorem own_f84 : ¬ (5 : Int32) < 0 := by decide
theorem own_f85 : ¬ (5 : Int32) < (0 : Int32) → ¬ (5 : Int32) = (0 : Int32) → ¬ ((5 : Int32) - (0 : Int32)) - (1 : Int32) < 0 := by decide
theorem own_f86 : ¬ (5 : Int32) < (1 : Int32) → ¬ (5 : Int32) = (1 : Int32) → ¬ ((5 : Int32) - (1 : Int32)) - (1 : Int32) < 0 := by decide
theorem own_f87 : ¬ (6 : Int32) < (2 : Int32) := by decide
theorem own_f88 : ¬ ((6 : Int32) - (1 : Int32) - (1 : Int32)) < (0 : Int32) := by decide
theorem own_f89 : ¬ (6 : Int32) < (1 : Int32) := by decide
theorem own_f90 : ¬ (6 : Int32) = (1 : Int32) := by decide
theorem own_f91 : ¬ (6 : Int32) < 0 := by decide
theorem own_f92 : ¬ (6 : Int32) < (0 : Int32) → ¬ (6 : Int32) = (0 : Int32) → ¬ ((6 : Int32) - (0 : Int32)) - (1 : Int32) < 0 := by decide
theorem own_f93 : ¬ (6 : Int32) < (1 : Int32) → ¬ (6 : Int32) = (1 : Int32) → ¬ ((6 : Int32) - (1 : Int32)) - (1 : Int32) < 0 := by decide
theorem own_f94 : ¬ (7 : Int32) < (2 : Int32) := by decide
theorem own_f95 : ¬ ((7 : Int32) - (1 : Int32) - (1 : Int32)) < (0 : Int32) := by decide
theorem own_f96 : ¬ (7 : Int32) < (1 : Int32) := by decide
theorem own_f97 : ¬ (7 : Int32) = (1 : Int32) := by decide
theorem own_f98 : ¬ (7 : Int32) < 0 := by decide
theorem own_f99 : ¬ (7 : Int32) < (0 : Int32) → ¬ (7 : Int32) = (0 : Int32) → ¬ ((7 : Int32) - (0 : Int32)) - (1 : Int32) < 0 := by decide
theorem own_f100 : ¬ (7 : Int32) < (1 : Int32) → ¬ (7 : Int32) = (1 : Int32) → ¬ ((7 : Int32) - (1 : Int32)) - (1 : Int32) < 0 := by decide
theorem own_f101 : (0 : Int32) + (2 : Int32) = (2 : Int32) := by decide
theorem own_f102 : ¬ (0 : Int32) < (3 : Int32) - (16 : Int32) := by decide
theorem own_f103 : (2 : Int32) + (1 : Int32) = (3 : Int32) := by decide
theorem own_f104 : 2 + 1 ≤ (16 : Int32).toNatClampNeg := by decide
theorem own_f105 : (3 : Int32) + (0 : Int32) = (3 : Int32) := by decide
theorem own_f106 : ((3 : Int32) <<< ((0 : Int32) &&& 31)) = (3 : Int32) := by decide
theorem own_f107 : (3 : Int32) = Int32.ofNat 3 := by decide
theorem own_f108 : 3 + 0 ≤ (16 : Int32).toNatClampNeg := by decide
theorem own_f109 : (3 : Int32) - (0 : Int32) = (3 : Int32) := by decide
theorem own_f110 : (3 : Int32).toNatClampNeg ≤ 8 := by decide
theorem own_f111 : (3 : Int32) < (16 : Int32) := by decide
theorem own_f112 : ¬ (3 : Int32) = (16 : Int32) := by decide
theorem own_f113 : 0 + 3 ≤ (16 : Int32).toNatClampNeg := by decide
theorem own_f114 : 0 + 3 ≤ (3 : Int32).toNatClampNeg := by decide
theorem own_f115 : ((1 : Int32) - (0 : Int32) - (1 : Int32)) < (1 : Int32) := by decide
theorem own_f116 : ((1 : Int32) - (0 : Int32) - (1 : Int32)).toNatClampNeg = 0 := by decide
theorem own_f117 : ¬ ((2 : Int32) - (0 : Int32) - (1 : Int32)) < (1 : Int32) := by decide
theorem own_f118 : ¬ ((3 : Int32) - (0 : Int32) - (1 : Int32)) < (1 : Int32) := by decide
theorem own_f119 : ¬ ((4 : Int32) - (0 : Int32) - (1 : Int32)) < (1 : Int32) := by decide
theorem own_f120 : (0 : Int32) < (3 : Int32) := by decide
theorem own_f121 : ((0 : Int32) + (1 : Int32)) + (1 : Int32) = (2 : Int32) := by decide
theorem own_f122 : ¬ (0 : Int32) < (2 : Int32) → ¬ (0 : Int32) = (2 : Int32) → ¬ ((0 : Int32) - (2 : Int32)) - (1 : Int32) < 0 := by decide
theorem own_f123 : (1 : Int32) < (3 : Int32) := by decide
theorem own_f124 : ¬ (1 : Int32) < (2 : Int32) → ¬ (1 : Int32) = (2 : Int32) → ¬ ((1 : Int32) - (2 : Int32)) - (1 : Int32) < 0 := by decide
theorem own_f125 : (2 : Int32) < (3 : Int32) := by decide
theorem own_f126 : (2 : Int32).toNatClampNeg = 2 := by decide
theorem own_f127 : (2 : Int32) = (2 : Int32) := by decide
theorem own_f128 : ¬ (2 : Int32) < (2 : Int32) → ¬ (2 : Int32) = (2 : Int32) → ¬ ((2 : Int32) - (2 : Int32)) - (1 : Int32) < 0 := by decide
theorem own_f129 : ¬ (3 : Int32) < (3 : Int32) := by decide
theorem own_f130 : ¬ ((3 : Int32) - (2 : Int32) - (1 : Int32)) < (0 : Int32) := by decide
theorem own_f131 : ¬ (3 : Int32) = (2 : Int32) := by decide
theorem own_f132 : ¬ (3 : Int32) < (2 : Int32) → ¬ (3 : Int32) = (2 : Int32) → ¬ ((3 : Int32) - (2 : Int32)) - (1 : Int32) < 0 := by decide
theorem own_f133 : ¬ (4 : Int32) < (3 : Int32) := by decide
theorem own_f134 : ¬ ((4 : Int32) - (2 : Int32) - (1 : Int32)) < (0 : Int32) := by decide
theorem own_f135 : ¬ (4 : Int32) = (2 : Int32) := by decide
theorem own_f136 : ¬ (4 : Int32) < (2 : Int32) → ¬ (4 : Int32) = (2 : Int32) → ¬ ((4 : Int32) - (2 : Int32)) - (1 : Int32) < 0 := by decide
theorem own_f137 : ¬ (5 : Int32) < (3 : Int32) := by decide
theorem own_f138 : ¬ ((5 : Int32) - (2 : Int32) - (1 : Int32)) < (0 : Int32) := by decide
theorem own_f139 : ¬ (5 : Int32) = (2 : Int32) := by decide
theorem own_f140 : ¬ (5 : Int32) < (2 : Int32) → ¬ (5 : Int32) = (2 : Int32) → ¬ ((5 : Int32) - (2 : Int32)) - (1 : Int32) < 0 := by decide
theorem own_f141 : ¬ (6 : Int32) < (3 : Int32) := by decide
theorem own_f142 : ¬ ((6 : Int32) - (2 : Int32) - (1 : Int32)) < (0 : Int32) := by decide
theorem own_f143 : ¬ (6 : Int32) = (2 : Int32) := by decide
theorem own_f144 : ¬ (6 : Int32) < (2 : Int32) → ¬ (6 : Int32) = (2 : Int32) → ¬ ((6 : Int32) - (2 : Int32)) - (1 : Int32) < 0 := by decide
theorem own_f145 : ¬ (7 : Int32) < (3 : Int32) := by decide
theorem own_f146 : ¬ ((7 : Int32) - (2 : Int32) - (1 : Int32)) < (0 : Int32) := by decide
theorem own_f147 : ¬ (7 : Int32) = (2 : Int32) := by decide
theorem own_f148 : ¬ (7 : Int32) < (2 : Int32) → ¬ (7 : Int32) = (2 : Int32) → ¬ ((7 : Int32) - (2 : Int32)) - (1 : Int32) < 0 := by decide
theorem own_f149 : (1 : Int32) + (2 : Int32) = (3 : Int32) := by decide
theorem own_f150 : 1 + 2 ≤ (16 : Int32).toNatClampNeg := by decide
theorem own_f151 : (0 : Int32) + (3 : Int32) = (3 : Int32) := by decide
theorem own_f152 : ¬ (0 : Int32) < (4 : Int32) - (16 : Int32) := by decide
theorem own_f153 : (3 : Int32) + (1 : Int32) = (4 : Int32) := by decide
theorem own_f154 : 3 + 1 ≤ (16 : Int32).toNatClampNeg := by decide
theorem own_f155 : (4 : Int32) + (0 : Int32) = (4 : Int32) := by decide
theorem own_f156 : ((4 : Int32) <<< ((0 : Int32) &&& 31)) = (4 : Int32) := by decide
theorem own_f157 : (4 : Int32) = Int32.ofNat 4 := by decide
theorem own_f158 : 4 + 0 ≤ (16 : Int32).toNatClampNeg := by decide
theorem own_f159 : (4 : Int32) - (0 : Int32) = (4 : Int32) := by decide
theorem own_f160 : (4 : Int32).toNatClampNeg ≤ 8 := by decide
theorem own_f161 : (4 : Int32) < (16 : Int32) := by decide
theorem own_f162 : ¬ (4 : Int32) = (16 : Int32) := by decide
theorem own_f163 : 0 + 4 ≤ (16 : Int32).toNatClampNeg := by decide
theorem own_f164 : 0 + 4 ≤ (4 : Int32).toNatClampNeg := by decide
theorem own_f165 : ((1 : Int32) - (0 : Int32) - (1 : Int32)) < (2 : Int32) := by decide
theorem own_f166 : ((2 : Int32) - (0 : Int32) - (1 : Int32)) < (2 : Int32) := by decide
theorem own_f167 : ((2 : Int32) - (0 : Int32) - (1 : Int32)).toNatClampNeg = 1 := by decide
theorem own_f168 : ¬ ((3 : Int32) - (0 : Int32) - (1 : Int32)) < (2 : Int32) := by decide
theorem own_f169 : ¬ ((4 : Int32) - (0 : Int32) - (1 : Int32)) < (2 : Int32) := by decide
theorem own_f170 : (0 : Int32) < (4 : Int32) := by decide
theorem own_f171 : ((0 : Int32) + (1 : Int32)) + (2 : Int32) = (3 : Int32) := by decide
theorem own_f172 : ¬ (0 : Int32) < (3 : Int32) → ¬ (0 : Int32) = (3 : Int32) → ¬ ((0 : Int32) - (3 : Int32)) - (1 : Int32) < 0 := by decide
theorem own_f173 : (1 : Int32) < (4 : Int32) := by decide
theorem own_f174 : ¬ (1 : Int32) < (3 : Int32) → ¬ (1 : Int32) = (3 : Int32) → ¬ ((1 : Int32) - (3 : Int32)) - (1 : Int32) < 0 := by decide
theorem own_f175 : (2 : Int32) < (4 : Int32) := by decide
theorem own_f176 : ¬ (2 : Int32) < (3 : Int32) → ¬ (2 : Int32) = (3 : Int32) → ¬ ((2 : Int32) - (3 : Int32)) - (1 : Int32) < 0 := by decide
theorem own_f177 : (3 : Int32) < (4 : Int32) := by decide
theorem own_f178 : (3 : Int32).toNatClampNeg = 3 := by decide
theorem own_f179 : (3 : Int32) = (3 : Int32) := by decide
theorem own_f180 : ¬ (3 : Int32) < (3 : Int32) → ¬ (3 : Int32) = (3 : Int32) → ¬ ((3 : Int32) - (3 : Int32)) - (1 : Int32) < 0 := by decide
theorem own_f181 : ¬ (4 : Int32) < (4 : Int32) := by decide
theorem own_f182 : ¬ ((4 : Int32) - (3 : Int32) - (1 : Int32)) < (0 : Int32) := by decide
theorem own_f183 : ¬ (4 : Int32) = (3 : Int32) := by decide
theorem own_f184 : ¬ (4 : Int32) < (3 : Int32) → ¬ (4 : Int32) = (3 : Int32) → ¬ ((4 : Int32) - (3 : Int32)) - (1 : Int32) < 0 := by decide
theorem own_f185 : ¬ (5 : Int32) < (4 : Int32) := by decide
theorem own_f186 : ¬ ((5 : Int32) - (3 : Int32) - (1 : Int32)) < (0 : Int32) := by decide
theorem own_f187 : ¬ (5 : Int32) = (3 : Int32) := by decide
theorem own_f188 : ¬ (5 : Int32) < (3 : Int32) → ¬ (5 : Int32) = (3 : Int32) → ¬ ((5 : Int32) - (3 : Int32)) - (1 : Int32) < 0 := by decide
theorem own_f189 : ¬ (6 : Int32) < (4 : Int32) := by decide
theorem own_f190 : ¬ ((6 : Int32) - (3 : Int32) - (1 : Int32)) < (0 : Int32) := by decide
theorem own_f191 : ¬ (6 : Int32) = (3 : Int32) := by decide
theorem own_f192 : ¬ (6 : Int32) < (3 : Int32) → ¬ (6 : Int32) = (3 : Int32) → ¬ ((6 : Int32) - (3 : Int32)) - (1 : Int32) < 0 := by decide
theorem own_f193 : ¬ (7 : Int32) < (4 : Int32) := by decide
theorem own_f194 : ¬ ((7 : Int32) - (3 : Int32) - (1 : Int32)) < (0 : Int32) := by decide
theorem own_f195 : ¬ (7 : Int32) = (3 : Int32) := by decide
theorem own_f196 : ¬ (7 : Int32) < (3 : Int32) → ¬ (7 : Int32) = (3 : Int32) → ¬ ((7 : Int32) - (3 : Int32)) - (1 : Int32) < 0 := by decide
theorem own_f197 : ((1 : Int32) + (1 : Int32)) + (0 : Int32) = (2 : Int32) := by decide
theorem own_f198 : ((3 : Int32) - (2 : Int32) - (1 : Int32)) < (1 : Int32) := by decide
theorem own_f199 : ((3 : Int32) - (2 : Int32) - (1 : Int32)).toNatClampNeg = 0 := by decide
theorem own_f200 : ¬ ((4 : Int32) - (2 : Int32) - (1 : Int32)) < (1 : Int32) := by decide
theorem own_f201 : ¬ ((5 : Int32) - (2 : Int32) - (1 : Int32)) < (1 : Int32) := by decide
theorem own_f202 : ¬ ((6 : Int32) - (2 : Int32) - (1 : Int32)) < (1 : Int32) := by decide
theorem own_f203 : ¬ ((7 : Int32) - (2 : Int32) - (1 : Int32)) < (1 : Int32) := by decide
theorem own_f204 : ¬ (0 : Int32) < (5 : Int32) - (16 : Int32) := by decide
theorem own_f205 : (4 : Int32) + (1 : Int32) = (5 : Int32) := by decide
theorem own_f206 : 4 + 1 ≤ (16 : Int32).toNatClampNeg := by decide
theorem own_f207 : (5 : Int32) - (0 : Int32) = (5 : Int32) := by decide
theorem own_f208 : (5 : Int32).toNatClampNeg ≤ 8 := by decide
theorem own_f209 : (5 : Int32) = Int32.ofNat 5 := by decide
theorem own_f210 : (5 : Int32) < (16 : Int32) := by decide
theorem own_f211 : ¬ (5 : Int32) = (16 : Int32) := by decide
theorem own_f212 : 0 + 5 ≤ (16 : Int32).toNatClampNeg := by decide
theorem own_f213 : 0 + 5 ≤ (5 : Int32).toNatClampNeg := by decide
theorem own_f214 : ((2 : Int32) - (1 : Int32) - (1 : Int32)) < (1 : Int32) := by decide
theorem own_f215 : ((2 : Int32) - (1 : Int32) - (1 : Int32)).toNatClampNeg = 0 := by decide
theorem own_f216 : ¬ ((3 : Int32) - (1 : Int32) - (1 : Int32)) < (1 : Int32) := by decide
theorem own_f217 : ¬ ((4 : Int32) - (1 : Int32) - (1 : Int32)) < (1 : Int32) := by decide
theorem own_f218 : (0 : Int32) < (5 : Int32) := by decide
theorem own_f219 : ((1 : Int32) + (1 : Int32)) + (1 : Int32) = (3 : Int32) := by decide
theorem own_f220 : (1 : Int32) < (5 : Int32) := by decide
theorem own_f221 : (2 : Int32) < (5 : Int32) := by decide
theorem own_f222 : (3 : Int32) < (5 : Int32) := by decide
theorem own_f223 : (4 : Int32) < (5 : Int32) := by decide
theorem own_f224 : (4 : Int32).toNatClampNeg = 4 := by decide
theorem own_f225 : ((4 : Int32) - (3 : Int32) - (1 : Int32)) < (1 : Int32) := by decide
theorem own_f226 : ((4 : Int32) - (3 : Int32) - (1 : Int32)).toNatClampNeg = 0 := by decide
theorem own_f227 : ¬ (5 : Int32) < (5 : Int32) := by decide
theorem own_f228 : ¬ ((5 : Int32) - (3 : Int32) - (1 : Int32)) < (1 : Int32) := by decide
theorem own_f229 : ¬ (6 : Int32) < (5 : Int32) := by decide
theorem own_f230 : ¬ ((6 : Int32) - (3 : Int32) - (1 : Int32)) < (1 : Int32) := by decide
theorem own_f231 : ¬ (7 : Int32) < (5 : Int32) := by decide
theorem own_f232 : ¬ ((7 : Int32) - (3 : Int32) - (1 : Int32)) < (1 : Int32) := by decide
theorem own_f233 : (2 : Int32) + (2 : Int32) = (4 : Int32) := by decide
theorem own_f234 : 2 + 2 ≤ (16 : Int32).toNatClampNeg := by decide
theorem own_f235 : (0 : Int32) + (4 : Int32) = (4 : Int32) := by decide
theorem own_f236 : ¬ (0 : Int32) < (6 : Int32) - (16 : Int32) := by decide
theorem own_f237 : (5 : Int32) + (1 : Int32) = (6 : Int32) := by decide
theorem own_f238 : ((5 : Int32) <<< ((0 : Int32) &&& 31)) = (5 : Int32) := by decide
theorem own_f239 : 5 + 1 ≤ (16 : Int32).toNatClampNeg := by decide
theorem own_f240 : (6 : Int32) - (0 : Int32) = (6 : Int32) := by decide
theorem own_f241 : (6 : Int32).toNatClampNeg ≤ 8 := by decide
theorem own_f242 : (6 : Int32) = Int32.ofNat 6 := by decide
theorem own_f243 : (6 : Int32) < (16 : Int32) := by decide
theorem own_f244 : ¬ (6 : Int32) = (16 : Int32) := by decide
theorem own_f245 : 0 + 6 ≤ (16 : Int32).toNatClampNeg := by decide
theorem own_f246 : 0 + 6 ≤ (6 : Int32).toNatClampNeg := by decide
theorem own_f247 : ((2 : Int32) - (1 : Int32) - (1 : Int32)) < (2 : Int32) := by decide
theorem own_f248 : ((3 : Int32) - (1 : Int32) - (1 : Int32)) < (2 : Int32) := by decide
theorem own_f249 : ((3 : Int32) - (1 : Int32) - (1 : Int32)).toNatClampNeg = 1 := by decide
theorem own_f250 : ¬ ((4 : Int32) - (1 : Int32) - (1 : Int32)) < (2 : Int32) := by decide
theorem own_f251 : (0 : Int32) < (6 : Int32) := by decide
theorem own_f252 : ((1 : Int32) + (1 : Int32)) + (2 : Int32) = (4 : Int32) := by decide
theorem own_f253 : ¬ (0 : Int32) < (4 : Int32) → ¬ (0 : Int32) = (4 : Int32) → ¬ ((0 : Int32) - (4 : Int32)) - (1 : Int32) < 0 := by decide
theorem own_f254 : (1 : Int32) < (6 : Int32) := by decide
theorem own_f255 : ¬ (1 : Int32) < (4 : Int32) → ¬ (1 : Int32) = (4 : Int32) → ¬ ((1 : Int32) - (4 : Int32)) - (1 : Int32) < 0 := by decide
theorem own_f256 : (2 : Int32) < (6 : Int32) := by decide
theorem own_f257 : ¬ (2 : Int32) < (4 : Int32) → ¬ (2 : Int32) = (4 : Int32) → ¬ ((2 : Int32) - (4 : Int32)) - (1 : Int32) < 0 := by decide
theorem own_f258 : (3 : Int32) < (6 : Int32) := by decide
theorem own_f259 : ¬ (3 : Int32) < (4 : Int32) → ¬ (3 : Int32) = (4 : Int32) → ¬ ((3 : Int32) - (4 : Int32)) - (1 : Int32) < 0 := by decide
theorem own_f260 : (4 : Int32) < (6 : Int32) := by decide
theorem own_f261 : (4 : Int32) = (4 : Int32) := by decide
theorem own_f262 : ¬ (4 : Int32) < (4 : Int32) → ¬ (4 : Int32) = (4 : Int32) → ¬ ((4 : Int32) - (4 : Int32)) - (1 : Int32) < 0 := by decide
theorem own_f263 : (5 : Int32) < (6 : Int32) := by decide
theorem own_f264 : (5 : Int32).toNatClampNeg = 5 := by decide
theorem own_f265 : ((5 : Int32) - (4 : Int32) - (1 : Int32)) < (1 : Int32) := by decide
theorem own_f266 : ((5 : Int32) - (4 : Int32) - (1 : Int32)).toNatClampNeg = 0 := by decide
theorem own_f267 : ¬ (5 : Int32) = (4 : Int32) := by decide
theorem own_f268 : ¬ (5 : Int32) < (4 : Int32) → ¬ (5 : Int32) = (4 : Int32) → ¬ ((5 : Int32) - (4 : Int32)) - (1 : Int32) < 0 := by decide
theorem own_f269 : ¬ (6 : Int32) < (6 : Int32) := by decide
theorem own_f270 : ¬ ((6 : Int32) - (4 : Int32) - (1 : Int32)) < (1 : Int32) := by decide
theorem own_f271 : ¬ (6 : Int32) = (4 : Int32) := by decide
theorem own_f272 : ¬ (6 : Int32) < (4 : Int32) → ¬ (6 : Int32) = (4 : Int32) → ¬ ((6 : Int32) - (4 : Int32)) - (1 : Int32) < 0 := by decide
theorem own_f273 : ¬ (7 : Int32) < (6 : Int32) := by decide
theorem own_f274 : ¬ ((7 : Int32) - (4 : Int32) - (1 : Int32)) < (1 : Int32) := by decide
theorem own_f275 : ¬ (7 : Int32) = (4 : Int32) := by decide
theorem own_f276 : ¬ (7 : Int32) < (4 : Int32) → ¬ (7 : Int32) = (4 : Int32) → ¬ ((7 : Int32) - (4 : Int32)) - (1 : Int32) < 0 := by decide
theorem own_f277 : (4 : Int32) + (2 : Int32) = (6 : Int32) := by decide
theorem own_f278 : 4 + 2 ≤ (16 : Int32).toNatClampNeg := by decide
theorem own_f279 : ((2 : Int32) + (1 : Int32)) + (0 : Int32) = (3 : Int32) := by decide
theorem own_f280 : ((4 : Int32) - (3 : Int32) - (1 : Int32)) < (2 : Int32) := by decide
theorem own_f281 : ((5 : Int32) - (3 : Int32) - (1 : Int32)) < (2 : Int32) := by decide
theorem own_f282 : ((5 : Int32) - (3 : Int32) - (1 : Int32)).toNatClampNeg = 1 := by decide
theorem own_f283 : ¬ ((6 : Int32) - (3 : Int32) - (1 : Int32)) < (2 : Int32) := by decide
theorem own_f284 : ¬ ((7 : Int32) - (3 : Int32) - (1 : Int32)) < (2 : Int32) := by decide
theorem own_f285 : ¬ (0 : Int32) < (7 : Int32) - (16 : Int32) := by decide
theorem own_f286 : (5 : Int32) + (2 : Int32) = (7 : Int32) := by decide
theorem own_f287 : 5 + 2 ≤ (16 : Int32).toNatClampNeg := by decide
theorem own_f288 : (7 : Int32) - (0 : Int32) = (7 : Int32) := by decide
theorem own_f289 : (7 : Int32).toNatClampNeg ≤ 8 := by decide
theorem own_f290 : (7 : Int32) = Int32.ofNat 7 := by decide
theorem own_f291 : (7 : Int32) < (16 : Int32) := by decide
theorem own_f292 : ¬ (7 : Int32) = (16 : Int32) := by decide
theorem own_f293 : 0 + 7 ≤ (16 : Int32).toNatClampNeg := by decide
theorem own_f294 : 0 + 7 ≤ (7 : Int32).toNatClampNeg := by decide
theorem own_f295 : (0 : Int32) < (7 : Int32) := by decide
theorem own_f296 : ((2 : Int32) + (1 : Int32)) + (1 : Int32) = (4 : Int32) := by decide
theorem own_f297 : (1 : Int32) < (7 : Int32) := by decide
theorem own_f298 : (2 : Int32) < (7 : Int32) := by decide
theorem own_f299 : (3 : Int32) < (7 : Int32) := by decide
theorem own_f300 : (4 : Int32) < (7 : Int32) := by decide
theorem own_f301 : (5 : Int32) < (7 : Int32) := by decide
theorem own_f302 : ((5 : Int32) - (4 : Int32) - (1 : Int32)) < (2 : Int32) := by decide
theorem own_f303 : (6 : Int32) < (7 : Int32) := by decide
theorem own_f304 : (6 : Int32).toNatClampNeg = 6 := by decide
theorem own_f305 : ((6 : Int32) - (4 : Int32) - (1 : Int32)) < (2 : Int32) := by decide
theorem own_f306 : ((6 : Int32) - (4 : Int32) - (1 : Int32)).toNatClampNeg = 1 := by decide
theorem own_f307 : ¬ (7 : Int32) < (7 : Int32) := by decide
theorem own_f308 : ¬ ((7 : Int32) - (4 : Int32) - (1 : Int32)) < (2 : Int32) := by decide
theorem own_f309 : (3 : Int32) + (2 : Int32) = (5 : Int32) := by decide
theorem own_f310 : 3 + 2 ≤ (16 : Int32).toNatClampNeg := by decide
theorem own_f311 : (0 : Int32) + (5 : Int32) = (5 : Int32) := by decide
theorem own_f312 : ¬ (0 : Int32) < (8 : Int32) - (16 : Int32) := by decide
theorem own_f313 : (6 : Int32) + (2 : Int32) = (8 : Int32) := by decide
theorem own_f314 : ((6 : Int32) <<< ((0 : Int32) &&& 31)) = (6 : Int32) := by decide
theorem own_f315 : 6 + 2 ≤ (16 : Int32).toNatClampNeg := by decide
theorem own_f316 : ¬ (8 : Int32) < 0 := by decide
theorem own_f317 : (8 : Int32) - (0 : Int32) = (8 : Int32) := by decide
theorem own_f318 : (8 : Int32).toNatClampNeg ≤ 8 := by decide
theorem own_f319 : (8 : Int32) = Int32.ofNat 8 := by decide
theorem own_f320 : (8 : Int32) < (16 : Int32) := by decide
theorem own_f321 : ¬ (8 : Int32) = (16 : Int32) := by decide
theorem own_f322 : 0 + 8 ≤ (16 : Int32).toNatClampNeg := by decide
theorem own_f323 : 0 + 8 ≤ (8 : Int32).toNatClampNeg := by decide
theorem own_f324 : ((3 : Int32) - (2 : Int32) - (1 : Int32)) < (2 : Int32) := by decide
theorem own_f325 : ((4 : Int32) - (2 : Int32) - (1 : Int32)) < (2 : Int32) := by decide
theorem own_f326 : ((4 : Int32) - (2 : Int32) - (1 : Int32)).toNatClampNeg = 1 := by decide
theorem own_f327 : (0 : Int32) < (8 : Int32) := by decide
theorem own_f328 : ((2 : Int32) + (1 : Int32)) + (2 : Int32) = (5 : Int32) := by decide
theorem own_f329 : ¬ (0 : Int32) < (5 : Int32) → ¬ (0 : Int32) = (5 : Int32) → ¬ ((0 : Int32) - (5 : Int32)) - (1 : Int32) < 0 := by decide
theorem own_f330 : (1 : Int32) < (8 : Int32) := by decide
theorem own_f331 : ¬ (1 : Int32) < (5 : Int32) → ¬ (1 : Int32) = (5 : Int32) → ¬ ((1 : Int32) - (5 : Int32)) - (1 : Int32) < 0 := by decide
theorem own_f332 : (2 : Int32) < (8 : Int32) := by decide
theorem own_f333 : ¬ (2 : Int32) < (5 : Int32) → ¬ (2 : Int32) = (5 : Int32) → ¬ ((2 : Int32) - (5 : Int32)) - (1 : Int32) < 0 := by decide
theorem own_f334 : (3 : Int32) < (8 : Int32) := by decide
theorem own_f335 : ¬ (3 : Int32) < (5 : Int32) → ¬ (3 : Int32) = (5 : Int32) → ¬ ((3 : Int32) - (5 : Int32)) - (1 : Int32) < 0 := by decide
theorem own_f336 : (4 : Int32) < (8 : Int32) := by decide
theorem own_f337 : ¬ (4 : Int32) < (5 : Int32) → ¬ (4 : Int32) = (5 : Int32) → ¬ ((4 : Int32) - (5 : Int32)) - (1 : Int32) < 0 := by decide
theorem own_f338 : (5 : Int32) < (8 : Int32) := by decide
theorem own_f339 : (5 : Int32) = (5 : Int32) := by decide
theorem own_f340 : ¬ (5 : Int32) < (5 : Int32) → ¬ (5 : Int32) = (5 : Int32) → ¬ ((5 : Int32) - (5 : Int32)) - (1 : Int32) < 0 := by decide
theorem own_f341 : (6 : Int32) < (8 : Int32) := by decide
theorem own_f342 : ((6 : Int32) - (5 : Int32) - (1 : Int32)) < (2 : Int32) := by decide
theorem own_f343 : ((6 : Int32) - (5 : Int32) - (1 : Int32)).toNatClampNeg = 0 := by decide
theorem own_f344 : ¬ (6 : Int32) = (5 : Int32) := by decide
theorem own_f345 : ¬ (6 : Int32) < (5 : Int32) → ¬ (6 : Int32) = (5 : Int32) → ¬ ((6 : Int32) - (5 : Int32)) - (1 : Int32) < 0 := by decide
theorem own_f346 : (7 : Int32) < (8 : Int32) := by decide
theorem own_f347 : (7 : Int32).toNatClampNeg = 7 := by decide
theorem own_f348 : ((7 : Int32) - (5 : Int32) - (1 : Int32)) < (2 : Int32) := by decide
theorem own_f349 : ((7 : Int32) - (5 : Int32) - (1 : Int32)).toNatClampNeg = 1 := by decide
theorem own_f350 : ¬ (7 : Int32) = (5 : Int32) := by decide
theorem own_f351 : ¬ (7 : Int32) < (5 : Int32) → ¬ (7 : Int32) = (5 : Int32) → ¬ ((7 : Int32) - (5 : Int32)) - (1 : Int32) < 0 := by decide
theorem ef_law (m : MethodId) (x0 : Int32) (x1 : Int32) : entryFrame m #[(.int x0), (.int x1)] maxLocals = mkF m 0 #[.val (.int x0), .val (.int x1), .unset, .unset, .unset, .unset, .unset, .unset, .unset, .unset, .unset] [] := by first | (simp [entryFrame, mkF, argsToLocals, Value.category, maxLocals]; done) | rfl
def Q_law (Z : State) (p0 p1 cs : Int32) (fm : Value) (h0 : Heap) (n0 : Nat) (v : Option Value) (h : Heap) (L : List Loc) : Prop := v = some (.int 1) ∧ Fr n0 L
set_option maxRecDepth 65536 in
set_option maxHeartbeats 40000000 in
theorem rm_law (l : Launch) (Z : State) (a0 : Array Value) (hw : ∀ d ∈ tables_1, d.before a0 Z = true) (hEL : EW Z a0 own_EL) (ws : List Jvm.Cond) (p0 p1 cs : Int32) (fm : Value) (h0 : Heap) (n0 : Nat) (Z0 : n0 ≤ h0.size) (S_C : Sta Z h0 "java/lang/String" "COMPACT_STRINGS" "Z" (.int cs)) (hcs : ¬ cs = 0) (S_F : Sta Z h0 "jdk/internal/util/Preconditions" "SIOOBE_FORMATTER" "Ljava/util/function/BiFunction;" fm) (hfm : fm.isRef = true) :
    MetFree l x (head1 (Jvm.Cond.code x code maxLocals ret :: ws) room_1) (fun a U => a = #[(.int p0), (.int p1)] ∧ Z.Warmed39 U.vm ∧ U.heap = h0 ∧ CHv Z own_EL U.vm h0) (fun _ _ _ _ _ => True) (fun _ U o U' => ∃ v L, o = .returned v ∧ Q_law Z p0 p1 cs fm h0 n0 v U'.heap L ∧ CHr Z own_EL U.vm U.heap U'.vm U'.heap ∧ ReturnedEndW U o U' L room_1.cells room_1.slots) := by
  refine MetFree.of_bodySF (plainFor_of_name own_pn_com_example_runnel_runnel_broker_PipeAfterPinLaw) hisR ?_
  intro p e s m args below meth c s₁ Bd hml0 hP hK
  obtain ⟨rfl, hZ, hh, H⟩ := hP
  have hx := Bd.exec
  have hby := Bd.bytes
  have hml : c.maxLocals = 11 := hml0
  have hown : s.vm.findClass "com/example/runnel/runnel/broker/PipeAfterPinLaw" = some m.cls := findClass_of_methodNamed Bd.named
  have hnm := (name_of_methodNamed Bd.named Bd.method).1
  have hlk := Bd.notSynchronized
  obtain ⟨lc, hlc⟩ : ∃ lc : List Loc, lc = [] := ⟨_, rfl⟩
  have X : Stand p l e room_1 s m #[(.int p0), (.int p1)] below meth c s₁ lc 0 0 := hlc ▸ Stand.of_body Bd
  have eT : s₁.heap = h0 := by rw [← hh, Bd.state]; rfl
  have N : Fr n0 lc := hlc ▸ Fr.nil n0
  obtain ⟨vm0, hvm⟩ : ∃ v : Vm, v = s.vm := ⟨_, rfl⟩
  have X : Stand p l e room_1 (s.setVm vm0) m #[(.int p0), (.int p1)] below meth c s₁ lc 0 0 := by rw [hvm]; exact X
  have hZ : Z.Warmed39 (s.setVm vm0).vm := by rw [hvm]; exact hZ
  have hown : (s.setVm vm0).vm.findClass "com/example/runnel/runnel/broker/PipeAfterPinLaw" = some m.cls := by rw [hvm]; exact hown
  have hS : s.Since vm0 h0.size := by rw [hvm]; exact (State.WarmedH.refl s).since _
  have hk : h0.size ≤ h0.size := Nat.le_refl _
  have CR : CHr Z own_EL s.vm h0 vm0 h0 := by rw [hvm]; exact CHr.refl H
  have H : CHv Z own_EL vm0 h0 := by rw [hvm]; exact H
  refine own_enterS (ef_law m p0 p1) ?_
  obtain ⟨T, hT⟩ : ∃ T : State, T = s₁ := ⟨_, rfl⟩
  rw [← hT] at X eT ⊢
  show own_W _ _ _ _ _ _ _ _ []
  refine own_iloadN X hx (hb hby at_0) (pc' := 1) rfl rfl ?_
  refine own_callSS X hx hZ [(.int p0)] hown (own_w hw 0 rfl) (own_w hw 1 rfl) (own_w hw 2 rfl) (own_w hw 3 rfl) (by decide) (rm_str l Z a0 hw hEL [] p0 cs h0 n0 Z0 S_C hcs) eT hS hk hEL H (W := 0) (by decide) (by decide) (cells' := 6) (slots' := 14) rfl rfl (by decide) (by decide) (by rw [hml]; rfl) (lenOf own_pd_28I29Ljava2flang2fString3b rfl) rfl (S := []) rfl (Nat.le_of_eq rfl) (hb hby at_1) (pc' := 4) rfl ?_
  intro v T h1 L lc vm0 k1 X eT hS hk hZ hown CQ hq fN
  obtain ⟨sa1, sb1, k_1, rfl, Nq, Kq, E_1, C_1, V_1, hv⟩ := hq
  have N := fN _ N Nq
  have CR := CR.trans CQ
  have H := CQ.1
  have S_C := own_sta_keep S_C Kq ns0
  have S_F := own_sta_keep S_F Kq ns0
  have Z0 := Nat.le_trans Z0 Kq.1
  rcases hv with A_1 | ⟨d0, A_1⟩ | ⟨d0, d1, A_1⟩
  · show own_W _ _ _ _ _ _ _ _ [(.ref sa1)]
    refine own_astoreN X hx (hb hby at_4) (pc' := 5) rfl rfl (Ls' := #[.val (.int p0), .val (.int p1), .val (.ref sa1), .unset, .unset, .unset, .unset, .unset, .unset, .unset, .unset]) rfl ?_
    refine own_iloadN X hx (hb hby at_5) (pc' := 6) rfl rfl ?_
    refine own_callSS X hx hZ [(.int p1)] hown (own_w hw 0 rfl) (own_w hw 1 rfl) (own_w hw 2 rfl) (own_w hw 3 rfl) (by decide) (rm_str l Z a0 hw hEL [] p1 cs h1 n0 Z0 S_C hcs) eT hS hk hEL H (W := 0) (by decide) (by decide) (cells' := 12) (slots' := 28) rfl rfl (by decide) (by decide) (by rw [hml]; rfl) (lenOf own_pd_28I29Ljava2flang2fString3b rfl) rfl (S := []) rfl (Nat.le_of_eq rfl) (hb hby at_6) (pc' := 9) rfl ?_
    intro v T h2 L lc vm0 k1 X eT hS hk hZ hown CQ hq fN
    obtain ⟨sa2, sb2, k_2, rfl, Nq, Kq, E_2, C_2, V_2, hv⟩ := hq
    have N := fN _ N Nq
    have CR := CR.trans CQ
    have H := CQ.1
    have S_C := own_sta_keep S_C Kq ns0
    have S_F := own_sta_keep S_F Kq ns0
    have E_1 := E_1.keep Kq
    have C_1 := C_1.keep Kq nin0
    have V_1 := V_1.keep Kq nin0
    have A_1 := A_1.keep Kq nin0
    have Z0 := Nat.le_trans Z0 Kq.1
    rcases hv with A_2 | ⟨f0, A_2⟩ | ⟨f0, f1, A_2⟩
    · show own_W _ _ _ _ _ _ _ _ [(.ref sa2)]
      refine own_astoreN X hx (hb hby at_9) (pc' := 10) rfl rfl (Ls' := #[.val (.int p0), .val (.int p1), .val (.ref sa1), .val (.ref sa2), .unset, .unset, .unset, .unset, .unset, .unset, .unset]) rfl ?_
      refine own_aloadN X hx (hb hby at_10) (pc' := 11) rfl rfl rfl ?_
      refine own_aloadN X hx (hb hby at_11) (pc' := 12) rfl rfl rfl ?_
      refine own_callSS X hx hZ [(.ref sa1), (.ref sa2)] hown (own_w hw 26 rfl) (own_w hw 27 rfl) (own_w hw 28 rfl) (own_w hw 29 rfl) (by decide) (rm_af l Z a0 hw hEL [] sa1 sa2 sb1 sb2 (0 : Int32) (0 : Int32) cs (0 : Int32) (1 : Int32) (1 : Int32) (1 : Int32) (2 : Int32) (2 : Int32) 0 0 0 1 1 1 2 2 [] [] [(.int (0 : Int32)), (.int (0 : Int32)), (.int (0 : Int32)), (.int (0 : Int32)), (.int (0 : Int32)), (.int (0 : Int32)), (.int (0 : Int32)), (.int (0 : Int32)), (.int (0 : Int32)), (.int (0 : Int32)), (.int (0 : Int32)), (.int (0 : Int32)), (.int (0 : Int32)), (.int (0 : Int32)), (.int (0 : Int32)), (.int (0 : Int32))] [(.int (46 : Int32)), (.int (0 : Int32)), (.int (0 : Int32)), (.int (0 : Int32)), (.int (0 : Int32)), (.int (0 : Int32)), (.int (0 : Int32)), (.int (0 : Int32)), (.int (0 : Int32)), (.int (0 : Int32)), (.int (0 : Int32)), (.int (0 : Int32)), (.int (0 : Int32)), (.int (0 : Int32)), (.int (0 : Int32)), (.int (0 : Int32))] [(.int (46 : Int32)), (.int (0 : Int32)), (.int (0 : Int32)), (.int (0 : Int32)), (.int (0 : Int32)), (.int (0 : Int32)), (.int (0 : Int32)), (.int (0 : Int32)), (.int (0 : Int32)), (.int (0 : Int32)), (.int (0 : Int32)), (.int (0 : Int32)), (.int (0 : Int32)), (.int (0 : Int32)), (.int (0 : Int32)), (.int (0 : Int32))] [(.int (46 : Int32)), (.int (0 : Int32)), (.int (0 : Int32)), (.int (0 : Int32)), (.int (0 : Int32)), (.int (0 : Int32)), (.int (0 : Int32)), (.int (0 : Int32)), (.int (0 : Int32)), (.int (0 : Int32)), (.int (0 : Int32)), (.int (0 : Int32)), (.int (0 : Int32)), (.int (0 : Int32)), (.int (0 : Int32)), (.int (0 : Int32))] [(.int (46 : Int32)), (.int (46 : Int32)), (.int (0 : Int32)), (.int (0 : Int32)), (.int (0 : Int32)), (.int (0 : Int32)), (.int (0 : Int32)), (.int (0 : Int32)), (.int (0 : Int32)), (.int (0 : Int32)), (.int (0 : Int32)), (.int (0 : Int32)), (.int (0 : Int32)), (.int (0 : Int32)), (.int (0 : Int32)), (.int (0 : Int32))] [(.int (46 : Int32)), (.int (46 : Int32)), (.int (0 : Int32)), (.int (0 : Int32)), (.int (0 : Int32)), (.int (0 : Int32)), (.int (0 : Int32)), (.int (0 : Int32)), (.int (0 : Int32)), (.int (0 : Int32)), (.int (0 : Int32)), (.int (0 : Int32)), (.int (0 : Int32)), (.int (0 : Int32)), (.int (0 : Int32)), (.int (0 : Int32))] [(.int (46 : Int32))] [(.int (46 : Int32)), (.int (46 : Int32))] h2 n0 Z0 S_C hcs E_1 C_1 V_1 _ A_1 E_2 C_2 V_2 _ A_2 ⟨own_f0, own_f1, own_f2, own_f3, own_f3, own_f4, own_f5, (Nat.le_of_ble_eq_true rfl), (Nat.le_of_ble_eq_true rfl), rfl⟩ ⟨own_f6, own_f7, own_f2, own_f3, own_f8, own_f9, own_f10, (Nat.le_of_ble_eq_true rfl), (Nat.le_of_ble_eq_true rfl), rfl⟩ ⟨own_f6, own_f11, own_f12, own_f8, own_f3, own_f4, own_f13, (Nat.le_of_ble_eq_true rfl), (Nat.le_of_ble_eq_true rfl), rfl⟩ ⟨own_f6, own_f7, own_f2, own_f3, own_f8, own_f9, own_f10, (Nat.le_of_ble_eq_true rfl), (Nat.le_of_ble_eq_true rfl), rfl⟩ ⟨own_f14, own_f15, own_f12, own_f8, own_f8, own_f9, own_f16, (Nat.le_of_ble_eq_true rfl), (Nat.le_of_ble_eq_true rfl), rfl⟩ ⟨own_f14, own_f17, own_f18, own_f19, own_f3, own_f4, own_f20, (Nat.le_of_ble_eq_true rfl), (Nat.le_of_ble_eq_true rfl), rfl⟩ ⟨own_f21, own_f22, own_f23, own_f8, own_f24, own_f25, own_f10, own_f9, (Nat.le_of_ble_eq_true rfl), rfl⟩ ⟨own_f26, own_f27, own_f28, own_f19, own_f29, own_f30, own_f31, own_f32, (Nat.le_of_ble_eq_true rfl), rfl⟩) eT hS hk hEL H (W := 0) (by decide) (by decide) (cells' := 25) (slots' := 110) rfl rfl (by decide) (by decide) (by rw [hml]; rfl) (lenOf own_pd_28Ljava2flang2fString3bLjava2flang2fString3b29Lcom2fexample2frunnel2frunnel2fbroker2fPipe3b rfl) rfl (S := []) rfl (Nat.le_of_eq rfl) (hb hby at_12) (pc' := 15) rfl ?_
      intro v T h3 L lc vm0 k1 X eT hS hk hZ hown CQ hq fN
      obtain ⟨pa, ea, eb, qa, qb, k_e, k_q, rfl, Nq, Kq, E_p, F_x, F_q, ⟨E_e, C_e, V_e, A_e⟩, ⟨E_q, C_q, V_q, A_q⟩⟩ := hq
      have N := fN _ N Nq
      have CR := CR.trans CQ
      have H := CQ.1
      have S_C := own_sta_keep S_C Kq ns0
      have S_F := own_sta_keep S_F Kq ns0
      have E_1 := E_1.keep Kq
      have C_1 := C_1.keep Kq nin0
      have V_1 := V_1.keep Kq nin0
      have A_1 := A_1.keep Kq nin0
      have E_2 := E_2.keep Kq
      have C_2 := C_2.keep Kq nin0
      have V_2 := V_2.keep Kq nin0
      have A_2 := A_2.keep Kq nin0
      have Z0 := Nat.le_trans Z0 Kq.1
      show own_W _ _ _ _ _ _ _ _ [(.ref pa)]
      refine own_astore X hx (hb hby at_15) (pc' := 17) rfl rfl (Ls' := #[.val (.int p0), .val (.int p1), .val (.ref sa1), .val (.ref sa2), .val (.ref pa), .unset, .unset, .unset, .unset, .unset, .unset]) rfl ?_
      refine own_aload X hx (hb hby at_17) (pc' := 19) rfl rfl rfl ?_
      refine own_callV X hx hZ (y := (⟨"com/example/runnel/runnel/broker/Pipe", "exchange", "()Ljava/lang/String;"⟩ : MethodName)) pa [] hown (own_w hw 157 rfl) (own_w hw 158 rfl) (own_w hw 160 rfl) (own_w hw 159 rfl) (own_w hw 28 rfl) (own_w hw 161 rfl) (by decide) (rm_ex l Z a0 hw [] pa ea h3 n0 Z0 F_x) E_p eT (W := 0) (by decide) (by decide) (cells' := 25) (slots' := 110) rfl rfl (by decide) (by decide) (by rw [hml]; rfl) (lenOf own_pd_2829Ljava2flang2fString3b rfl) rfl (S := []) rfl (Nat.le_of_eq rfl) (hb hby at_19) (pc' := 22) rfl ?_
      intro v T h4 L lc X eT hq fN
      obtain ⟨rfl, Nq, hqe⟩ := hq
      have N := fN _ N Nq
      rw [hqe] at eT
      show own_W _ _ _ _ _ _ _ _ [(.ref ea)]
      refine own_astore X hx (hb hby at_22) (pc' := 24) rfl rfl (Ls' := #[.val (.int p0), .val (.int p1), .val (.ref sa1), .val (.ref sa2), .val (.ref pa), .val (.ref ea), .unset, .unset, .unset, .unset, .unset]) rfl ?_
      refine own_aload X hx (hb hby at_24) (pc' := 26) rfl rfl rfl ?_
      refine own_callV X hx hZ (y := (⟨"com/example/runnel/runnel/broker/Pipe", "queue", "()Ljava/lang/String;"⟩ : MethodName)) pa [] hown (own_w hw 162 rfl) (own_w hw 163 rfl) (own_w hw 165 rfl) (own_w hw 164 rfl) (own_w hw 28 rfl) (own_w hw 166 rfl) (by decide) (rm_qu l Z a0 hw [] pa qa h3 n0 Z0 F_q) E_p eT (W := 0) (by decide) (by decide) (cells' := 25) (slots' := 110) rfl rfl (by decide) (by decide) (by rw [hml]; rfl) (lenOf own_pd_2829Ljava2flang2fString3b rfl) rfl (S := []) rfl (Nat.le_of_eq rfl) (hb hby at_26) (pc' := 29) rfl ?_
      intro v T h5 L lc X eT hq fN
      obtain ⟨rfl, Nq, hqe⟩ := hq
      have N := fN _ N Nq
      rw [hqe] at eT
      show own_W _ _ _ _ _ _ _ _ [(.ref qa)]
      refine own_astore X hx (hb hby at_29) (pc' := 31) rfl rfl (Ls' := #[.val (.int p0), .val (.int p1), .val (.ref sa1), .val (.ref sa2), .val (.ref pa), .val (.ref ea), .val (.ref qa), .unset, .unset, .unset, .unset]) rfl ?_
      refine own_aload X hx (hb hby at_31) (pc' := 33) rfl rfl rfl ?_
      refine own_ifnullN X hx (hb hby at_33) (pc' := 36) rfl ?_
      refine own_aload X hx (hb hby at_36) (pc' := 38) rfl rfl rfl ?_
      refine own_ifnonnullY X hx (hb hby at_38) (by decide) (pc' := 43) rfl ?_
      refine own_aloadN X hx (hb hby at_43) (pc' := 44) rfl rfl rfl ?_
      refine own_callV X hx hZ (y := (⟨"java/lang/String", "length", "()I"⟩ : MethodName)) sa1 [] hown (own_w hw 167 rfl) (own_w hw 59 rfl) (own_w hw 61 rfl) (own_w hw 60 rfl) (own_w hw 6 rfl) (own_w hw 62 rfl) (by decide) (rm_len l Z a0 hw [] sa1 sb1 cs (0 : Int32) h3 n0 Z0 S_C hcs E_1 C_1 V_1 _ _ A_1) E_1 eT (W := 0) (by decide) (by decide) (cells' := 25) (slots' := 110) rfl rfl (by decide) (by decide) (by rw [hml]; rfl) (lenOf own_pd_2829I rfl) rfl (S := []) rfl (Nat.le_of_eq rfl) (hb hby at_44) (pc' := 47) rfl ?_
      intro v T h6 L lc X eT hq fN
      obtain ⟨rfl, Nq, hqe⟩ := hq
      have N := fN _ N Nq
      rw [hqe] at eT
      show own_W _ _ _ _ _ _ _ _ [(.int (0 : Int32))]
      refine own_istore X hx (hb hby at_47) (pc' := 49) rfl (Ls' := #[.val (.int p0), .val (.int p1), .val (.ref sa1), .val (.ref sa2), .val (.ref pa), .val (.ref ea), .val (.ref qa), .val (.int (0 : Int32)), .unset, .unset, .unset]) rfl ?_
      refine own_aloadN X hx (hb hby at_49) (pc' := 50) rfl rfl rfl ?_
      refine own_callV X hx hZ (y := (⟨"java/lang/String", "length", "()I"⟩ : MethodName)) sa2 [] hown (own_w hw 167 rfl) (own_w hw 59 rfl) (own_w hw 61 rfl) (own_w hw 60 rfl) (own_w hw 6 rfl) (own_w hw 62 rfl) (by decide) (rm_len l Z a0 hw [] sa2 sb2 cs (0 : Int32) h3 n0 Z0 S_C hcs E_2 C_2 V_2 _ _ A_2) E_2 eT (W := 0) (by decide) (by decide) (cells' := 25) (slots' := 110) rfl rfl (by decide) (by decide) (by rw [hml]; rfl) (lenOf own_pd_2829I rfl) rfl (S := []) rfl (Nat.le_of_eq rfl) (hb hby at_50) (pc' := 53) rfl ?_
      intro v T h7 L lc X eT hq fN
      obtain ⟨rfl, Nq, hqe⟩ := hq
      have N := fN _ N Nq
      rw [hqe] at eT
      show own_W _ _ _ _ _ _ _ _ [(.int (0 : Int32))]
      refine own_istore X hx (hb hby at_53) (pc' := 55) rfl (Ls' := #[.val (.int p0), .val (.int p1), .val (.ref sa1), .val (.ref sa2), .val (.ref pa), .val (.ref ea), .val (.ref qa), .val (.int (0 : Int32)), .val (.int (0 : Int32)), .unset, .unset]) rfl ?_
      refine own_iload X hx (hb hby at_55) (pc' := 57) rfl rfl ?_
      refine own_iconst X hx (1 : Int32) (hb hby at_57) (pc' := 58) rfl rfl ?_
      refine own_iadd X hx (hb hby at_58) (pc' := 59) rfl ?_
      rw [show ((0 : Int32) + (1 : Int32)) = (1 : Int32) from by decide]
      refine own_iload X hx (hb hby at_59) (pc' := 61) rfl rfl ?_
      refine own_iadd X hx (hb hby at_61) (pc' := 62) rfl ?_
      rw [show ((1 : Int32) + (0 : Int32)) = (1 : Int32) from by decide]
      refine own_istore X hx (hb hby at_62) (pc' := 64) rfl (Ls' := #[.val (.int p0), .val (.int p1), .val (.ref sa1), .val (.ref sa2), .val (.ref pa), .val (.ref ea), .val (.ref qa), .val (.int (0 : Int32)), .val (.int (0 : Int32)), .val (.int (1 : Int32)), .unset]) rfl ?_
      refine own_aload X hx (hb hby at_64) (pc' := 66) rfl rfl rfl ?_
      refine own_callV X hx hZ (y := (⟨"java/lang/String", "length", "()I"⟩ : MethodName)) ea [] hown (own_w hw 167 rfl) (own_w hw 59 rfl) (own_w hw 61 rfl) (own_w hw 60 rfl) (own_w hw 6 rfl) (own_w hw 62 rfl) (by decide) (rm_len l Z a0 hw [] ea eb cs (1 : Int32) h3 n0 Z0 S_C hcs E_e C_e V_e _ _ A_e) E_e eT (W := 0) (by decide) (by decide) (cells' := 25) (slots' := 110) rfl rfl (by decide) (by decide) (by rw [hml]; rfl) (lenOf own_pd_2829I rfl) rfl (S := []) rfl (Nat.le_of_eq rfl) (hb hby at_66) (pc' := 69) rfl ?_
      intro v T h8 L lc X eT hq fN
      obtain ⟨rfl, Nq, hqe⟩ := hq
      have N := fN _ N Nq
      rw [hqe] at eT
      show own_W _ _ _ _ _ _ _ _ [(.int (1 : Int32))]
      refine own_iload X hx (hb hby at_69) (pc' := 71) rfl rfl ?_
      refine own_icmpY X hx (hb hby at_71) (by decide) (pc' := 76) rfl (show (1 : Int32) = (1 : Int32) from (by decide)) ?_
      refine own_aload X hx (hb hby at_76) (pc' := 78) rfl rfl rfl ?_
      refine own_callV X hx hZ (y := (⟨"java/lang/String", "length", "()I"⟩ : MethodName)) qa [] hown (own_w hw 167 rfl) (own_w hw 59 rfl) (own_w hw 61 rfl) (own_w hw 60 rfl) (own_w hw 6 rfl) (own_w hw 62 rfl) (by decide) (rm_len l Z a0 hw [] qa qb cs (2 : Int32) h3 n0 Z0 S_C hcs E_q C_q V_q _ _ A_q) E_q eT (W := 0) (by decide) (by decide) (cells' := 25) (slots' := 110) rfl rfl (by decide) (by decide) (by rw [hml]; rfl) (lenOf own_pd_2829I rfl) rfl (S := []) rfl (Nat.le_of_eq rfl) (hb hby at_78) (pc' := 81) rfl ?_
      intro v T h9 L lc X eT hq fN
      obtain ⟨rfl, Nq, hqe⟩ := hq
      have N := fN _ N Nq
      rw [hqe] at eT
      show own_W _ _ _ _ _ _ _ _ [(.int (2 : Int32))]
      refine own_iload X hx (hb hby at_81) (pc' := 83) rfl rfl ?_
      refine own_iconst X hx (1 : Int32) (hb hby at_83) (pc' := 84) rfl rfl ?_
      refine own_iadd X hx (hb hby at_84) (pc' := 85) rfl ?_
      rw [show ((1 : Int32) + (1 : Int32)) = (2 : Int32) from by decide]
      refine own_iload X hx (hb hby at_85) (pc' := 87) rfl rfl ?_
      refine own_iadd X hx (hb hby at_87) (pc' := 88) rfl ?_
      rw [show ((2 : Int32) + (0 : Int32)) = (2 : Int32) from by decide]
      refine own_icmpY X hx (hb hby at_88) (by decide) (pc' := 93) rfl (show (2 : Int32) = (2 : Int32) from (by decide)) ?_
      refine own_aload X hx (hb hby at_93) (pc' := 95) rfl rfl rfl ?_
      refine own_aloadN X hx (hb hby at_95) (pc' := 96) rfl rfl rfl ?_
      refine own_aloadN X hx (hb hby at_96) (pc' := 97) rfl rfl rfl ?_
      refine own_iconst X hx (0 : Int32) (hb hby at_97) (pc' := 98) rfl rfl ?_
      refine own_callS X hx hZ [(.ref ea), (.ref sa1), (.ref sa2), (.int (0 : Int32))] hown (own_w hw 168 rfl) (own_w hw 169 rfl) (own_w hw 2 rfl) (own_w hw 170 rfl) (by decide) (rm_xo l Z a0 hw [] ea eb (1 : Int32) [(.int (46 : Int32))] sa1 sb1 sa2 sb2 (0 : Int32) (0 : Int32) (0 : Int32) cs fm [] [] h3 n0 Z0 S_C hcs S_F hfm E_1 C_1 V_1 _ A_1 E_2 C_2 V_2 _ A_2 own_in0 own_in0 own_f37 E_e C_e V_e _ A_e (own_inS own_in0) own_f38 (((own_at_lt own_f33).trans (congrArg own_cx (own_bv_eq (46 : Int32) own_f34 rfl))).trans (Eq.trans own_cx46 (own_ee2 own_f35 own_f36).symm))) eT (W := 0) (by decide) (by decide) (cells' := 25) (slots' := 110) rfl rfl (by decide) (by decide) (by rw [hml]; rfl) (lenOf own_pd_28Ljava2flang2fString3bLjava2flang2fString3bLjava2flang2fString3bI29Z rfl) rfl (S := []) rfl (Nat.le_of_eq rfl) (hb hby at_98) (pc' := 101) rfl ?_
      intro v T h10 L lc X eT hq fN
      obtain ⟨rfl, Nq, hqe⟩ := hq
      have N := fN _ N Nq
      rw [hqe] at eT
      show own_W _ _ _ _ _ _ _ _ [(.int (1 : Int32))]
      refine own_ifN X hx (hb hby at_101) (pc' := 104) rfl (show ¬ ((1 : Int32) = (0 : Int32)) from (by decide)) ?_
      refine own_aload X hx (hb hby at_104) (pc' := 106) rfl rfl rfl ?_
      refine own_aloadN X hx (hb hby at_106) (pc' := 107) rfl rfl rfl ?_
      refine own_aloadN X hx (hb hby at_107) (pc' := 108) rfl rfl rfl ?_
      refine own_iconst X hx (1 : Int32) (hb hby at_108) (pc' := 109) rfl rfl ?_
      refine own_callS X hx hZ [(.ref ea), (.ref sa1), (.ref sa2), (.int (1 : Int32))] hown (own_w hw 168 rfl) (own_w hw 169 rfl) (own_w hw 2 rfl) (own_w hw 170 rfl) (by decide) (rm_xo l Z a0 hw [] ea eb (1 : Int32) [(.int (46 : Int32))] sa1 sb1 sa2 sb2 (1 : Int32) (0 : Int32) (0 : Int32) cs fm [] [] h3 n0 Z0 S_C hcs S_F hfm E_1 C_1 V_1 _ A_1 E_2 C_2 V_2 _ A_2 own_in0 own_in0 own_f21 E_e C_e V_e _ A_e (own_inS own_in0) own_f43 ((own_at_ge own_f39).trans ((own_ee3 own_f41 own_f42).trans (own_at_ge own_f40)).symm)) eT (W := 0) (by decide) (by decide) (cells' := 25) (slots' := 110) rfl rfl (by decide) (by decide) (by rw [hml]; rfl) (lenOf own_pd_28Ljava2flang2fString3bLjava2flang2fString3bLjava2flang2fString3bI29Z rfl) rfl (S := []) rfl (Nat.le_of_eq rfl) (hb hby at_109) (pc' := 112) rfl ?_
      intro v T h11 L lc X eT hq fN
      obtain ⟨rfl, Nq, hqe⟩ := hq
      have N := fN _ N Nq
      rw [hqe] at eT
      show own_W _ _ _ _ _ _ _ _ [(.int (1 : Int32))]
      refine own_ifN X hx (hb hby at_112) (pc' := 115) rfl (show ¬ ((1 : Int32) = (0 : Int32)) from (by decide)) ?_
      refine own_aload X hx (hb hby at_115) (pc' := 117) rfl rfl rfl ?_
      refine own_aloadN X hx (hb hby at_117) (pc' := 118) rfl rfl rfl ?_
      refine own_aloadN X hx (hb hby at_118) (pc' := 119) rfl rfl rfl ?_
      refine own_iconst X hx (2 : Int32) (hb hby at_119) (pc' := 120) rfl rfl ?_
      refine own_callS X hx hZ [(.ref ea), (.ref sa1), (.ref sa2), (.int (2 : Int32))] hown (own_w hw 168 rfl) (own_w hw 169 rfl) (own_w hw 2 rfl) (own_w hw 170 rfl) (by decide) (rm_xo l Z a0 hw [] ea eb (1 : Int32) [(.int (46 : Int32))] sa1 sb1 sa2 sb2 (2 : Int32) (0 : Int32) (0 : Int32) cs fm [] [] h3 n0 Z0 S_C hcs S_F hfm E_1 C_1 V_1 _ A_1 E_2 C_2 V_2 _ A_2 own_in0 own_in0 own_f26 E_e C_e V_e _ A_e (own_inS own_in0) own_f48 ((own_at_ge own_f44).trans ((own_ee3 own_f46 own_f47).trans (own_at_ge own_f45)).symm)) eT (W := 0) (by decide) (by decide) (cells' := 25) (slots' := 110) rfl rfl (by decide) (by decide) (by rw [hml]; rfl) (lenOf own_pd_28Ljava2flang2fString3bLjava2flang2fString3bLjava2flang2fString3bI29Z rfl) rfl (S := []) rfl (Nat.le_of_eq rfl) (hb hby at_120) (pc' := 123) rfl ?_
      intro v T h12 L lc X eT hq fN
      obtain ⟨rfl, Nq, hqe⟩ := hq
      have N := fN _ N Nq
      rw [hqe] at eT
      show own_W _ _ _ _ _ _ _ _ [(.int (1 : Int32))]
      refine own_ifN X hx (hb hby at_123) (pc' := 126) rfl (show ¬ ((1 : Int32) = (0 : Int32)) from (by decide)) ?_
      refine own_aload X hx (hb hby at_126) (pc' := 128) rfl rfl rfl ?_
      refine own_aloadN X hx (hb hby at_128) (pc' := 129) rfl rfl rfl ?_
      refine own_aloadN X hx (hb hby at_129) (pc' := 130) rfl rfl rfl ?_
      refine own_iconst X hx (3 : Int32) (hb hby at_130) (pc' := 131) rfl rfl ?_
      refine own_callS X hx hZ [(.ref ea), (.ref sa1), (.ref sa2), (.int (3 : Int32))] hown (own_w hw 168 rfl) (own_w hw 169 rfl) (own_w hw 2 rfl) (own_w hw 170 rfl) (by decide) (rm_xo l Z a0 hw [] ea eb (1 : Int32) [(.int (46 : Int32))] sa1 sb1 sa2 sb2 (3 : Int32) (0 : Int32) (0 : Int32) cs fm [] [] h3 n0 Z0 S_C hcs S_F hfm E_1 C_1 V_1 _ A_1 E_2 C_2 V_2 _ A_2 own_in0 own_in0 own_f53 E_e C_e V_e _ A_e (own_inS own_in0) own_f54 ((own_at_ge own_f49).trans ((own_ee3 own_f51 own_f52).trans (own_at_ge own_f50)).symm)) eT (W := 0) (by decide) (by decide) (cells' := 25) (slots' := 110) rfl rfl (by decide) (by decide) (by rw [hml]; rfl) (lenOf own_pd_28Ljava2flang2fString3bLjava2flang2fString3bLjava2flang2fString3bI29Z rfl) rfl (S := []) rfl (Nat.le_of_eq rfl) (hb hby at_131) (pc' := 134) rfl ?_
      intro v T h13 L lc X eT hq fN
      obtain ⟨rfl, Nq, hqe⟩ := hq
      have N := fN _ N Nq
      rw [hqe] at eT
      show own_W _ _ _ _ _ _ _ _ [(.int (1 : Int32))]
      refine own_ifN X hx (hb hby at_134) (pc' := 137) rfl (show ¬ ((1 : Int32) = (0 : Int32)) from (by decide)) ?_
      refine own_aload X hx (hb hby at_137) (pc' := 139) rfl rfl rfl ?_
      refine own_aloadN X hx (hb hby at_139) (pc' := 140) rfl rfl rfl ?_
      refine own_aloadN X hx (hb hby at_140) (pc' := 141) rfl rfl rfl ?_
      refine own_iconst X hx (4 : Int32) (hb hby at_141) (pc' := 142) rfl rfl ?_
      refine own_callS X hx hZ [(.ref ea), (.ref sa1), (.ref sa2), (.int (4 : Int32))] hown (own_w hw 168 rfl) (own_w hw 169 rfl) (own_w hw 2 rfl) (own_w hw 170 rfl) (by decide) (rm_xo l Z a0 hw [] ea eb (1 : Int32) [(.int (46 : Int32))] sa1 sb1 sa2 sb2 (4 : Int32) (0 : Int32) (0 : Int32) cs fm [] [] h3 n0 Z0 S_C hcs S_F hfm E_1 C_1 V_1 _ A_1 E_2 C_2 V_2 _ A_2 own_in0 own_in0 own_f59 E_e C_e V_e _ A_e (own_inS own_in0) own_f60 ((own_at_ge own_f55).trans ((own_ee3 own_f57 own_f58).trans (own_at_ge own_f56)).symm)) eT (W := 0) (by decide) (by decide) (cells' := 25) (slots' := 110) rfl rfl (by decide) (by decide) (by rw [hml]; rfl) (lenOf own_pd_28Ljava2flang2fString3bLjava2flang2fString3bLjava2flang2fString3bI29Z rfl) rfl (S := []) rfl (Nat.le_of_eq rfl) (hb hby at_142) (pc' := 145) rfl ?_
      intro v T h14 L lc X eT hq fN
      obtain ⟨rfl, Nq, hqe⟩ := hq
      have N := fN _ N Nq
      rw [hqe] at eT
      show own_W _ _ _ _ _ _ _ _ [(.int (1 : Int32))]
      refine own_ifN X hx (hb hby at_145) (pc' := 148) rfl (show ¬ ((1 : Int32) = (0 : Int32)) from (by decide)) ?_
      refine own_iconst X hx (1 : Int32) (hb hby at_148) (pc' := 149) rfl rfl ?_
      refine own_goto X hx (hb hby at_149) (by decide) (pc' := 153) rfl ?_
      refine own_istore X hx (hb hby at_153) (pc' := 155) rfl (Ls' := #[.val (.int p0), .val (.int p1), .val (.ref sa1), .val (.ref sa2), .val (.ref pa), .val (.ref ea), .val (.ref qa), .val (.int (0 : Int32)), .val (.int (0 : Int32)), .val (.int (1 : Int32)), .val (.int (1 : Int32))]) rfl ?_
      refine own_iload X hx (hb hby at_155) (pc' := 157) rfl rfl ?_
      refine own_ifN X hx (hb hby at_157) (pc' := 160) rfl (show ¬ ((1 : Int32) = (0 : Int32)) from (by decide)) ?_
      refine own_aload X hx (hb hby at_160) (pc' := 162) rfl rfl rfl ?_
      refine own_aloadN X hx (hb hby at_162) (pc' := 163) rfl rfl rfl ?_
      refine own_aloadN X hx (hb hby at_163) (pc' := 164) rfl rfl rfl ?_
      refine own_iconst X hx (0 : Int32) (hb hby at_164) (pc' := 165) rfl rfl ?_
      refine own_callS X hx hZ [(.ref qa), (.ref sa1), (.ref sa2), (.int (0 : Int32))] hown (own_w hw 199 rfl) (own_w hw 200 rfl) (own_w hw 2 rfl) (own_w hw 201 rfl) (by decide) (rm_qo l Z a0 hw [] qa qb (2 : Int32) [(.int (46 : Int32)), (.int (46 : Int32))] sa1 sb1 sa2 sb2 (0 : Int32) (0 : Int32) (0 : Int32) cs fm [] [] (1 : Int32) h3 n0 Z0 S_C hcs S_F hfm E_1 C_1 V_1 _ A_1 E_2 C_2 V_2 _ A_2 own_in0 own_in0 own_f37 E_q C_q V_q _ A_q (own_inS (own_inS own_in0)) own_f38 own_f62 own_f63 (((own_at_lt own_f61).trans (congrArg own_cx (own_bv_eq (46 : Int32) own_f34 rfl))).trans (Eq.trans own_cx46 ((own_qq1 own_f33).trans (own_ee2 own_f35 own_f36)).symm))) eT (W := 0) (by decide) (by decide) (cells' := 25) (slots' := 110) rfl rfl (by decide) (by decide) (by rw [hml]; rfl) (lenOf own_pd_28Ljava2flang2fString3bLjava2flang2fString3bLjava2flang2fString3bI29Z rfl) rfl (S := []) rfl (Nat.le_of_eq rfl) (hb hby at_165) (pc' := 168) rfl ?_
      intro v T h15 L lc X eT hq fN
      obtain ⟨rfl, Nq, hqe⟩ := hq
      have N := fN _ N Nq
      rw [hqe] at eT
      show own_W _ _ _ _ _ _ _ _ [(.int (1 : Int32))]
      refine own_ifN X hx (hb hby at_168) (pc' := 171) rfl (show ¬ ((1 : Int32) = (0 : Int32)) from (by decide)) ?_
      refine own_aload X hx (hb hby at_171) (pc' := 173) rfl rfl rfl ?_
      refine own_aloadN X hx (hb hby at_173) (pc' := 174) rfl rfl rfl ?_
      refine own_aloadN X hx (hb hby at_174) (pc' := 175) rfl rfl rfl ?_
      refine own_iconst X hx (1 : Int32) (hb hby at_175) (pc' := 176) rfl rfl ?_
      refine own_callS X hx hZ [(.ref qa), (.ref sa1), (.ref sa2), (.int (1 : Int32))] hown (own_w hw 199 rfl) (own_w hw 200 rfl) (own_w hw 2 rfl) (own_w hw 201 rfl) (by decide) (rm_qo l Z a0 hw [] qa qb (2 : Int32) [(.int (46 : Int32)), (.int (46 : Int32))] sa1 sb1 sa2 sb2 (1 : Int32) (0 : Int32) (0 : Int32) cs fm [] [] (1 : Int32) h3 n0 Z0 S_C hcs S_F hfm E_1 C_1 V_1 _ A_1 E_2 C_2 V_2 _ A_2 own_in0 own_in0 own_f21 E_q C_q V_q _ A_q (own_inS (own_inS own_in0)) own_f43 own_f62 own_f67 (((own_at_lt own_f64).trans (congrArg own_cx (own_bv_eq (46 : Int32) own_f65 rfl))).trans (Eq.trans own_cx46 (own_qq2 own_f39 own_f66).symm))) eT (W := 0) (by decide) (by decide) (cells' := 25) (slots' := 110) rfl rfl (by decide) (by decide) (by rw [hml]; rfl) (lenOf own_pd_28Ljava2flang2fString3bLjava2flang2fString3bLjava2flang2fString3bI29Z rfl) rfl (S := []) rfl (Nat.le_of_eq rfl) (hb hby at_176) (pc' := 179) rfl ?_
      intro v T h16 L lc X eT hq fN
      obtain ⟨rfl, Nq, hqe⟩ := hq
      have N := fN _ N Nq
      rw [hqe] at eT
      show own_W _ _ _ _ _ _ _ _ [(.int (1 : Int32))]
      refine own_ifN X hx (hb hby at_179) (pc' := 182) rfl (show ¬ ((1 : Int32) = (0 : Int32)) from (by decide)) ?_
      refine own_aload X hx (hb hby at_182) (pc' := 184) rfl rfl rfl ?_
      refine own_aloadN X hx (hb hby at_184) (pc' := 185) rfl rfl rfl ?_
      refine own_aloadN X hx (hb hby at_185) (pc' := 186) rfl rfl rfl ?_
      refine own_iconst X hx (2 : Int32) (hb hby at_186) (pc' := 187) rfl rfl ?_
      refine own_callS X hx hZ [(.ref qa), (.ref sa1), (.ref sa2), (.int (2 : Int32))] hown (own_w hw 199 rfl) (own_w hw 200 rfl) (own_w hw 2 rfl) (own_w hw 201 rfl) (by decide) (rm_qo l Z a0 hw [] qa qb (2 : Int32) [(.int (46 : Int32)), (.int (46 : Int32))] sa1 sb1 sa2 sb2 (2 : Int32) (0 : Int32) (0 : Int32) cs fm [] [] (1 : Int32) h3 n0 Z0 S_C hcs S_F hfm E_1 C_1 V_1 _ A_1 E_2 C_2 V_2 _ A_2 own_in0 own_in0 own_f26 E_q C_q V_q _ A_q (own_inS (own_inS own_in0)) own_f48 own_f62 own_f71 ((own_at_ge own_f68).trans ((own_qq3 own_f44 own_f70).trans (own_at_ge own_f69)).symm)) eT (W := 0) (by decide) (by decide) (cells' := 25) (slots' := 110) rfl rfl (by decide) (by decide) (by rw [hml]; rfl) (lenOf own_pd_28Ljava2flang2fString3bLjava2flang2fString3bLjava2flang2fString3bI29Z rfl) rfl (S := []) rfl (Nat.le_of_eq rfl) (hb hby at_187) (pc' := 190) rfl ?_
      intro v T h17 L lc X eT hq fN
      obtain ⟨rfl, Nq, hqe⟩ := hq
      have N := fN _ N Nq
      rw [hqe] at eT
      show own_W _ _ _ _ _ _ _ _ [(.int (1 : Int32))]
      refine own_ifN X hx (hb hby at_190) (pc' := 193) rfl (show ¬ ((1 : Int32) = (0 : Int32)) from (by decide)) ?_
      refine own_aload X hx (hb hby at_193) (pc' := 195) rfl rfl rfl ?_
      refine own_aloadN X hx (hb hby at_195) (pc' := 196) rfl rfl rfl ?_
      refine own_aloadN X hx (hb hby at_196) (pc' := 197) rfl rfl rfl ?_
      refine own_iconst X hx (3 : Int32) (hb hby at_197) (pc' := 198) rfl rfl ?_
      refine own_callS X hx hZ [(.ref qa), (.ref sa1), (.ref sa2), (.int (3 : Int32))] hown (own_w hw 199 rfl) (own_w hw 200 rfl) (own_w hw 2 rfl) (own_w hw 201 rfl) (by decide) (rm_qo l Z a0 hw [] qa qb (2 : Int32) [(.int (46 : Int32)), (.int (46 : Int32))] sa1 sb1 sa2 sb2 (3 : Int32) (0 : Int32) (0 : Int32) cs fm [] [] (1 : Int32) h3 n0 Z0 S_C hcs S_F hfm E_1 C_1 V_1 _ A_1 E_2 C_2 V_2 _ A_2 own_in0 own_in0 own_f53 E_q C_q V_q _ A_q (own_inS (own_inS own_in0)) own_f54 own_f62 own_f75 ((own_at_ge own_f72).trans ((own_qq3 own_f49 own_f74).trans (own_at_ge own_f73)).symm)) eT (W := 0) (by decide) (by decide) (cells' := 25) (slots' := 110) rfl rfl (by decide) (by decide) (by rw [hml]; rfl) (lenOf own_pd_28Ljava2flang2fString3bLjava2flang2fString3bLjava2flang2fString3bI29Z rfl) rfl (S := []) rfl (Nat.le_of_eq rfl) (hb hby at_198) (pc' := 201) rfl ?_
      intro v T h18 L lc X eT hq fN
      obtain ⟨rfl, Nq, hqe⟩ := hq
      have N := fN _ N Nq
      rw [hqe] at eT
      show own_W _ _ _ _ _ _ _ _ [(.int (1 : Int32))]
      refine own_ifN X hx (hb hby at_201) (pc' := 204) rfl (show ¬ ((1 : Int32) = (0 : Int32)) from (by decide)) ?_
      refine own_aload X hx (hb hby at_204) (pc' := 206) rfl rfl rfl ?_
      refine own_aloadN X hx (hb hby at_206) (pc' := 207) rfl rfl rfl ?_
      refine own_aloadN X hx (hb hby at_207) (pc' := 208) rfl rfl rfl ?_
      refine own_iconst X hx (4 : Int32) (hb hby at_208) (pc' := 209) rfl rfl ?_
      refine own_callS X hx hZ [(.ref qa), (.ref sa1), (.ref sa2), (.int (4 : Int32))] hown (own_w hw 199 rfl) (own_w hw 200 rfl) (own_w hw 2 rfl) (own_w hw 201 rfl) (by decide) (rm_qo l Z a0 hw [] qa qb (2 : Int32) [(.int (46 : Int32)), (.int (46 : Int32))] sa1 sb1 sa2 sb2 (4 : Int32) (0 : Int32) (0 : Int32) cs fm [] [] (1 : Int32) h3 n0 Z0 S_C hcs S_F hfm E_1 C_1 V_1 _ A_1 E_2 C_2 V_2 _ A_2 own_in0 own_in0 own_f59 E_q C_q V_q _ A_q (own_inS (own_inS own_in0)) own_f60 own_f62 own_f79 ((own_at_ge own_f76).trans ((own_qq3 own_f55 own_f78).trans (own_at_ge own_f77)).symm)) eT (W := 0) (by decide) (by decide) (cells' := 25) (slots' := 110) rfl rfl (by decide) (by decide) (by rw [hml]; rfl) (lenOf own_pd_28Ljava2flang2fString3bLjava2flang2fString3bLjava2flang2fString3bI29Z rfl) rfl (S := []) rfl (Nat.le_of_eq rfl) (hb hby at_209) (pc' := 212) rfl ?_
      intro v T h19 L lc X eT hq fN
      obtain ⟨rfl, Nq, hqe⟩ := hq
      have N := fN _ N Nq
      rw [hqe] at eT
      show own_W _ _ _ _ _ _ _ _ [(.int (1 : Int32))]
      refine own_ifN X hx (hb hby at_212) (pc' := 215) rfl (show ¬ ((1 : Int32) = (0 : Int32)) from (by decide)) ?_
      refine own_aload X hx (hb hby at_215) (pc' := 217) rfl rfl rfl ?_
      refine own_aloadN X hx (hb hby at_217) (pc' := 218) rfl rfl rfl ?_
      refine own_aloadN X hx (hb hby at_218) (pc' := 219) rfl rfl rfl ?_
      refine own_iconst X hx (5 : Int32) (hb hby at_219) (pc' := 220) rfl rfl ?_
      refine own_callS X hx hZ [(.ref qa), (.ref sa1), (.ref sa2), (.int (5 : Int32))] hown (own_w hw 199 rfl) (own_w hw 200 rfl) (own_w hw 2 rfl) (own_w hw 201 rfl) (by decide) (rm_qo l Z a0 hw [] qa qb (2 : Int32) [(.int (46 : Int32)), (.int (46 : Int32))] sa1 sb1 sa2 sb2 (5 : Int32) (0 : Int32) (0 : Int32) cs fm [] [] (1 : Int32) h3 n0 Z0 S_C hcs S_F hfm E_1 C_1 V_1 _ A_1 E_2 C_2 V_2 _ A_2 own_in0 own_in0 own_f84 E_q C_q V_q _ A_q (own_inS (own_inS own_in0)) own_f85 own_f62 own_f86 ((own_at_ge own_f80).trans ((own_qq3 own_f82 own_f83).trans (own_at_ge own_f81)).symm)) eT (W := 0) (by decide) (by decide) (cells' := 25) (slots' := 110) rfl rfl (by decide) (by decide) (by rw [hml]; rfl) (lenOf own_pd_28Ljava2flang2fString3bLjava2flang2fString3bLjava2flang2fString3bI29Z rfl) rfl (S := []) rfl (Nat.le_of_eq rfl) (hb hby at_220) (pc' := 223) rfl ?_
      intro v T h20 L lc X eT hq fN
      obtain ⟨rfl, Nq, hqe⟩ := hq
      have N := fN _ N Nq
      rw [hqe] at eT
      show own_W _ _ _ _ _ _ _ _ [(.int (1 : Int32))]
      refine own_ifN X hx (hb hby at_223) (pc' := 226) rfl (show ¬ ((1 : Int32) = (0 : Int32)) from (by decide)) ?_
      refine own_aload X hx (hb hby at_226) (pc' := 228) rfl rfl rfl ?_
      refine own_aloadN X hx (hb hby at_228) (pc' := 229) rfl rfl rfl ?_
      refine own_aloadN X hx (hb hby at_229) (pc' := 230) rfl rfl rfl ?_
      refine own_bipush X hx (6 : Int32) (hb hby at_230) (pc' := 232) rfl rfl ?_
      refine own_callS X hx hZ [(.ref qa), (.ref sa1), (.ref sa2), (.int (6 : Int32))] hown (own_w hw 199 rfl) (own_w hw 200 rfl) (own_w hw 2 rfl) (own_w hw 201 rfl) (by decide) (rm_qo l Z a0 hw [] qa qb (2 : Int32) [(.int (46 : Int32)), (.int (46 : Int32))] sa1 sb1 sa2 sb2 (6 : Int32) (0 : Int32) (0 : Int32) cs fm [] [] (1 : Int32) h3 n0 Z0 S_C hcs S_F hfm E_1 C_1 V_1 _ A_1 E_2 C_2 V_2 _ A_2 own_in0 own_in0 own_f91 E_q C_q V_q _ A_q (own_inS (own_inS own_in0)) own_f92 own_f62 own_f93 ((own_at_ge own_f87).trans ((own_qq3 own_f89 own_f90).trans (own_at_ge own_f88)).symm)) eT (W := 0) (by decide) (by decide) (cells' := 25) (slots' := 110) rfl rfl (by decide) (by decide) (by rw [hml]; rfl) (lenOf own_pd_28Ljava2flang2fString3bLjava2flang2fString3bLjava2flang2fString3bI29Z rfl) rfl (S := []) rfl (Nat.le_of_eq rfl) (hb hby at_232) (pc' := 235) rfl ?_
      intro v T h21 L lc X eT hq fN
      obtain ⟨rfl, Nq, hqe⟩ := hq
      have N := fN _ N Nq
      rw [hqe] at eT
      show own_W _ _ _ _ _ _ _ _ [(.int (1 : Int32))]
      refine own_ifN X hx (hb hby at_235) (pc' := 238) rfl (show ¬ ((1 : Int32) = (0 : Int32)) from (by decide)) ?_
      refine own_aload X hx (hb hby at_238) (pc' := 240) rfl rfl rfl ?_
      refine own_aloadN X hx (hb hby at_240) (pc' := 241) rfl rfl rfl ?_
      refine own_aloadN X hx (hb hby at_241) (pc' := 242) rfl rfl rfl ?_
      refine own_bipush X hx (7 : Int32) (hb hby at_242) (pc' := 244) rfl rfl ?_
      refine own_callS X hx hZ [(.ref qa), (.ref sa1), (.ref sa2), (.int (7 : Int32))] hown (own_w hw 199 rfl) (own_w hw 200 rfl) (own_w hw 2 rfl) (own_w hw 201 rfl) (by decide) (rm_qo l Z a0 hw [] qa qb (2 : Int32) [(.int (46 : Int32)), (.int (46 : Int32))] sa1 sb1 sa2 sb2 (7 : Int32) (0 : Int32) (0 : Int32) cs fm [] [] (1 : Int32) h3 n0 Z0 S_C hcs S_F hfm E_1 C_1 V_1 _ A_1 E_2 C_2 V_2 _ A_2 own_in0 own_in0 own_f98 E_q C_q V_q _ A_q (own_inS (own_inS own_in0)) own_f99 own_f62 own_f100 ((own_at_ge own_f94).trans ((own_qq3 own_f96 own_f97).trans (own_at_ge own_f95)).symm)) eT (W := 0) (by decide) (by decide) (cells' := 25) (slots' := 110) rfl rfl (by decide) (by decide) (by rw [hml]; rfl) (lenOf own_pd_28Ljava2flang2fString3bLjava2flang2fString3bLjava2flang2fString3bI29Z rfl) rfl (S := []) rfl (Nat.le_of_eq rfl) (hb hby at_244) (pc' := 247) rfl ?_
      intro v T h22 L lc X eT hq fN
      obtain ⟨rfl, Nq, hqe⟩ := hq
      have N := fN _ N Nq
      rw [hqe] at eT
      show own_W _ _ _ _ _ _ _ _ [(.int (1 : Int32))]
      refine own_ifN X hx (hb hby at_247) (pc' := 250) rfl (show ¬ ((1 : Int32) = (0 : Int32)) from (by decide)) ?_
      refine own_iconst X hx (1 : Int32) (hb hby at_250) (pc' := 251) rfl rfl ?_
      refine own_goto X hx (hb hby at_251) (by decide) (pc' := 255) rfl ?_
      refine own_istore X hx (hb hby at_255) (pc' := 257) rfl (Ls' := #[.val (.int p0), .val (.int p1), .val (.ref sa1), .val (.ref sa2), .val (.ref pa), .val (.ref ea), .val (.ref qa), .val (.int (0 : Int32)), .val (.int (0 : Int32)), .val (.int (1 : Int32)), .val (.int (1 : Int32))]) rfl ?_
      refine own_iload X hx (hb hby at_257) (pc' := 259) rfl rfl ?_
      refine own_retIS X hx hlk hZ eT hh hS hk hEL H CR (t := .boolean) (w' := (.int (1 : Int32))) Bd.returns (hb hby at_259) rfl rfl (by simp) (by decide) (by decide) ?_
      rw [eT]
      exact ⟨rfl, N⟩
    · show own_W _ _ _ _ _ _ _ _ [(.ref sa2)]
      refine own_astoreN X hx (hb hby at_9) (pc' := 10) rfl rfl (Ls' := #[.val (.int p0), .val (.int p1), .val (.ref sa1), .val (.ref sa2), .unset, .unset, .unset, .unset, .unset, .unset, .unset]) rfl ?_
      refine own_aloadN X hx (hb hby at_10) (pc' := 11) rfl rfl rfl ?_
      refine own_aloadN X hx (hb hby at_11) (pc' := 12) rfl rfl rfl ?_
      refine own_callSS X hx hZ [(.ref sa1), (.ref sa2)] hown (own_w hw 26 rfl) (own_w hw 27 rfl) (own_w hw 28 rfl) (own_w hw 29 rfl) (by decide) (rm_af l Z a0 hw hEL [] sa1 sa2 sb1 sb2 (0 : Int32) (1 : Int32) cs (0 : Int32) (1 : Int32) (2 : Int32) (2 : Int32) (3 : Int32) (3 : Int32) 0 1 0 1 2 2 3 3 [] [(.int f0)] [(.int (0 : Int32)), (.int (0 : Int32)), (.int (0 : Int32)), (.int (0 : Int32)), (.int (0 : Int32)), (.int (0 : Int32)), (.int (0 : Int32)), (.int (0 : Int32)), (.int (0 : Int32)), (.int (0 : Int32)), (.int (0 : Int32)), (.int (0 : Int32)), (.int (0 : Int32)), (.int (0 : Int32)), (.int (0 : Int32)), (.int (0 : Int32))] [(.int (46 : Int32)), (.int (0 : Int32)), (.int (0 : Int32)), (.int (0 : Int32)), (.int (0 : Int32)), (.int (0 : Int32)), (.int (0 : Int32)), (.int (0 : Int32)), (.int (0 : Int32)), (.int (0 : Int32)), (.int (0 : Int32)), (.int (0 : Int32)), (.int (0 : Int32)), (.int (0 : Int32)), (.int (0 : Int32)), (.int (0 : Int32))] [(.int (46 : Int32)), (.int f0), (.int (0 : Int32)), (.int (0 : Int32)), (.int (0 : Int32)), (.int (0 : Int32)), (.int (0 : Int32)), (.int (0 : Int32)), (.int (0 : Int32)), (.int (0 : Int32)), (.int (0 : Int32)), (.int (0 : Int32)), (.int (0 : Int32)), (.int (0 : Int32)), (.int (0 : Int32)), (.int (0 : Int32))] [(.int (46 : Int32)), (.int f0), (.int (0 : Int32)), (.int (0 : Int32)), (.int (0 : Int32)), (.int (0 : Int32)), (.int (0 : Int32)), (.int (0 : Int32)), (.int (0 : Int32)), (.int (0 : Int32)), (.int (0 : Int32)), (.int (0 : Int32)), (.int (0 : Int32)), (.int (0 : Int32)), (.int (0 : Int32)), (.int (0 : Int32))] [(.int (46 : Int32)), (.int f0), (.int (46 : Int32)), (.int (0 : Int32)), (.int (0 : Int32)), (.int (0 : Int32)), (.int (0 : Int32)), (.int (0 : Int32)), (.int (0 : Int32)), (.int (0 : Int32)), (.int (0 : Int32)), (.int (0 : Int32)), (.int (0 : Int32)), (.int (0 : Int32)), (.int (0 : Int32)), (.int (0 : Int32))] [(.int (46 : Int32)), (.int f0), (.int (46 : Int32)), (.int (0 : Int32)), (.int (0 : Int32)), (.int (0 : Int32)), (.int (0 : Int32)), (.int (0 : Int32)), (.int (0 : Int32)), (.int (0 : Int32)), (.int (0 : Int32)), (.int (0 : Int32)), (.int (0 : Int32)), (.int (0 : Int32)), (.int (0 : Int32)), (.int (0 : Int32))] [(.int (46 : Int32)), (.int f0)] [(.int (46 : Int32)), (.int f0), (.int (46 : Int32))] h2 n0 Z0 S_C hcs E_1 C_1 V_1 _ A_1 E_2 C_2 V_2 _ A_2 ⟨own_f0, own_f1, own_f2, own_f3, own_f3, own_f4, own_f5, (Nat.le_of_ble_eq_true rfl), (Nat.le_of_ble_eq_true rfl), rfl⟩ ⟨own_f6, own_f7, own_f2, own_f3, own_f8, own_f9, own_f10, (Nat.le_of_ble_eq_true rfl), (Nat.le_of_ble_eq_true rfl), rfl⟩ ⟨own_f14, own_f15, own_f12, own_f8, own_f8, own_f9, own_f16, (Nat.le_of_ble_eq_true rfl), (Nat.le_of_ble_eq_true rfl), rfl⟩ ⟨own_f14, own_f101, own_f2, own_f3, own_f19, own_f32, own_f31, (Nat.le_of_ble_eq_true rfl), (Nat.le_of_ble_eq_true rfl), rfl⟩ ⟨own_f102, own_f103, own_f18, own_f19, own_f8, own_f9, own_f104, (Nat.le_of_ble_eq_true rfl), (Nat.le_of_ble_eq_true rfl), rfl⟩ ⟨own_f102, own_f105, own_f106, own_f107, own_f3, own_f4, own_f108, (Nat.le_of_ble_eq_true rfl), (Nat.le_of_ble_eq_true rfl), rfl⟩ ⟨own_f26, own_f27, own_f28, own_f19, own_f29, own_f30, own_f31, own_f32, (Nat.le_of_ble_eq_true rfl), rfl⟩ ⟨own_f53, own_f109, own_f110, own_f107, own_f111, own_f112, own_f113, own_f114, (Nat.le_of_ble_eq_true rfl), rfl⟩) eT hS hk hEL H (W := 0) (by decide) (by decide) (cells' := 25) (slots' := 110) rfl rfl (by decide) (by decide) (by rw [hml]; rfl) (lenOf own_pd_28Ljava2flang2fString3bLjava2flang2fString3b29Lcom2fexample2frunnel2frunnel2fbroker2fPipe3b rfl) rfl (S := []) rfl (Nat.le_of_eq rfl) (hb hby at_12) (pc' := 15) rfl ?_
      intro v T h23 L lc vm0 k1 X eT hS hk hZ hown CQ hq fN
      obtain ⟨pa, ea, eb, qa, qb, k_e, k_q, rfl, Nq, Kq, E_p, F_x, F_q, ⟨E_e, C_e, V_e, A_e⟩, ⟨E_q, C_q, V_q, A_q⟩⟩ := hq
      have N := fN _ N Nq
      have CR := CR.trans CQ
      have H := CQ.1
      have S_C := own_sta_keep S_C Kq ns0
      have S_F := own_sta_keep S_F Kq ns0
      have E_1 := E_1.keep Kq
      have C_1 := C_1.keep Kq nin0
      have V_1 := V_1.keep Kq nin0
      have A_1 := A_1.keep Kq nin0
      have E_2 := E_2.keep Kq
      have C_2 := C_2.keep Kq nin0
      have V_2 := V_2.keep Kq nin0
      have A_2 := A_2.keep Kq nin0
      have Z0 := Nat.le_trans Z0 Kq.1
      show own_W _ _ _ _ _ _ _ _ [(.ref pa)]
      refine own_astore X hx (hb hby at_15) (pc' := 17) rfl rfl (Ls' := #[.val (.int p0), .val (.int p1), .val (.ref sa1), .val (.ref sa2), .val (.ref pa), .unset, .unset, .unset, .unset, .unset, .unset]) rfl ?_
      refine own_aload X hx (hb hby at_17) (pc' := 19) rfl rfl rfl ?_
      refine own_callV X hx hZ (y := (⟨"com/example/runnel/runnel/broker/Pipe", "exchange", "()Ljava/lang/String;"⟩ : MethodName)) pa [] hown (own_w hw 157 rfl) (own_w hw 158 rfl) (own_w hw 160 rfl) (own_w hw 159 rfl) (own_w hw 28 rfl) (own_w hw 161 rfl) (by decide) (rm_ex l Z a0 hw [] pa ea h23 n0 Z0 F_x) E_p eT (W := 0) (by decide) (by decide) (cells' := 25) (slots' := 110) rfl rfl (by decide) (by decide) (by rw [hml]; rfl) (lenOf own_pd_2829Ljava2flang2fString3b rfl) rfl (S := []) rfl (Nat.le_of_eq rfl) (hb hby at_19) (pc' := 22) rfl ?_
      intro v T h24 L lc X eT hq fN
      obtain ⟨rfl, Nq, hqe⟩ := hq
      have N := fN _ N Nq
      rw [hqe] at eT
      show own_W _ _ _ _ _ _ _ _ [(.ref ea)]
      refine own_astore X hx (hb hby at_22) (pc' := 24) rfl rfl (Ls' := #[.val (.int p0), .val (.int p1), .val (.ref sa1), .val (.ref sa2), .val (.ref pa), .val (.ref ea), .unset, .unset, .unset, .unset, .unset]) rfl ?_
      refine own_aload X hx (hb hby at_24) (pc' := 26) rfl rfl rfl ?_
      refine own_callV X hx hZ (y := (⟨"com/example/runnel/runnel/broker/Pipe", "queue", "()Ljava/lang/String;"⟩ : MethodName)) pa [] hown (own_w hw 162 rfl) (own_w hw 163 rfl) (own_w hw 165 rfl) (own_w hw 164 rfl) (own_w hw 28 rfl) (own_w hw 166 rfl) (by decide) (rm_qu l Z a0 hw [] pa qa h23 n0 Z0 F_q) E_p eT (W := 0) (by decide) (by decide) (cells' := 25) (slots' := 110) rfl rfl (by decide) (by decide) (by rw [hml]; rfl) (lenOf own_pd_2829Ljava2flang2fString3b rfl) rfl (S := []) rfl (Nat.le_of_eq rfl) (hb hby at_26) (pc' := 29) rfl ?_
      intro v T h25 L lc X eT hq fN
      obtain ⟨rfl, Nq, hqe⟩ := hq
      have N := fN _ N Nq
      rw [hqe] at eT
      show own_W _ _ _ _ _ _ _ _ [(.ref qa)]
      refine own_astore X hx (hb hby at_29) (pc' := 31) rfl rfl (Ls' := #[.val (.int p0), .val (.int p1), .val (.ref sa1), .val (.ref sa2), .val (.ref pa), .val (.ref ea), .val (.ref qa), .unset, .unset, .unset, .unset]) rfl ?_
      refine own_aload X hx (hb hby at_31) (pc' := 33) rfl rfl rfl ?_
      refine own_ifnullN X hx (hb hby at_33) (pc' := 36) rfl ?_
      refine own_aload X hx (hb hby at_36) (pc' := 38) rfl rfl rfl ?_
      refine own_ifnonnullY X hx (hb hby at_38) (by decide) (pc' := 43) rfl ?_
      refine own_aloadN X hx (hb hby at_43) (pc' := 44) rfl rfl rfl ?_
      refine own_callV X hx hZ (y := (⟨"java/lang/String", "length", "()I"⟩ : MethodName)) sa1 [] hown (own_w hw 167 rfl) (own_w hw 59 rfl) (own_w hw 61 rfl) (own_w hw 60 rfl) (own_w hw 6 rfl) (own_w hw 62 rfl) (by decide) (rm_len l Z a0 hw [] sa1 sb1 cs (0 : Int32) h23 n0 Z0 S_C hcs E_1 C_1 V_1 _ _ A_1) E_1 eT (W := 0) (by decide) (by decide) (cells' := 25) (slots' := 110) rfl rfl (by decide) (by decide) (by rw [hml]; rfl) (lenOf own_pd_2829I rfl) rfl (S := []) rfl (Nat.le_of_eq rfl) (hb hby at_44) (pc' := 47) rfl ?_
      intro v T h26 L lc X eT hq fN
      obtain ⟨rfl, Nq, hqe⟩ := hq
      have N := fN _ N Nq
      rw [hqe] at eT
      show own_W _ _ _ _ _ _ _ _ [(.int (0 : Int32))]
      refine own_istore X hx (hb hby at_47) (pc' := 49) rfl (Ls' := #[.val (.int p0), .val (.int p1), .val (.ref sa1), .val (.ref sa2), .val (.ref pa), .val (.ref ea), .val (.ref qa), .val (.int (0 : Int32)), .unset, .unset, .unset]) rfl ?_
      refine own_aloadN X hx (hb hby at_49) (pc' := 50) rfl rfl rfl ?_
      refine own_callV X hx hZ (y := (⟨"java/lang/String", "length", "()I"⟩ : MethodName)) sa2 [] hown (own_w hw 167 rfl) (own_w hw 59 rfl) (own_w hw 61 rfl) (own_w hw 60 rfl) (own_w hw 6 rfl) (own_w hw 62 rfl) (by decide) (rm_len l Z a0 hw [] sa2 sb2 cs (1 : Int32) h23 n0 Z0 S_C hcs E_2 C_2 V_2 _ _ A_2) E_2 eT (W := 0) (by decide) (by decide) (cells' := 25) (slots' := 110) rfl rfl (by decide) (by decide) (by rw [hml]; rfl) (lenOf own_pd_2829I rfl) rfl (S := []) rfl (Nat.le_of_eq rfl) (hb hby at_50) (pc' := 53) rfl ?_
      intro v T h27 L lc X eT hq fN
      obtain ⟨rfl, Nq, hqe⟩ := hq
      have N := fN _ N Nq
      rw [hqe] at eT
      show own_W _ _ _ _ _ _ _ _ [(.int (1 : Int32))]
      refine own_istore X hx (hb hby at_53) (pc' := 55) rfl (Ls' := #[.val (.int p0), .val (.int p1), .val (.ref sa1), .val (.ref sa2), .val (.ref pa), .val (.ref ea), .val (.ref qa), .val (.int (0 : Int32)), .val (.int (1 : Int32)), .unset, .unset]) rfl ?_
      refine own_iload X hx (hb hby at_55) (pc' := 57) rfl rfl ?_
      refine own_iconst X hx (1 : Int32) (hb hby at_57) (pc' := 58) rfl rfl ?_
      refine own_iadd X hx (hb hby at_58) (pc' := 59) rfl ?_
      rw [show ((0 : Int32) + (1 : Int32)) = (1 : Int32) from by decide]
      refine own_iload X hx (hb hby at_59) (pc' := 61) rfl rfl ?_
      refine own_iadd X hx (hb hby at_61) (pc' := 62) rfl ?_
      rw [show ((1 : Int32) + (1 : Int32)) = (2 : Int32) from by decide]
      refine own_istore X hx (hb hby at_62) (pc' := 64) rfl (Ls' := #[.val (.int p0), .val (.int p1), .val (.ref sa1), .val (.ref sa2), .val (.ref pa), .val (.ref ea), .val (.ref qa), .val (.int (0 : Int32)), .val (.int (1 : Int32)), .val (.int (2 : Int32)), .unset]) rfl ?_
      refine own_aload X hx (hb hby at_64) (pc' := 66) rfl rfl rfl ?_
      refine own_callV X hx hZ (y := (⟨"java/lang/String", "length", "()I"⟩ : MethodName)) ea [] hown (own_w hw 167 rfl) (own_w hw 59 rfl) (own_w hw 61 rfl) (own_w hw 60 rfl) (own_w hw 6 rfl) (own_w hw 62 rfl) (by decide) (rm_len l Z a0 hw [] ea eb cs (2 : Int32) h23 n0 Z0 S_C hcs E_e C_e V_e _ _ A_e) E_e eT (W := 0) (by decide) (by decide) (cells' := 25) (slots' := 110) rfl rfl (by decide) (by decide) (by rw [hml]; rfl) (lenOf own_pd_2829I rfl) rfl (S := []) rfl (Nat.le_of_eq rfl) (hb hby at_66) (pc' := 69) rfl ?_
      intro v T h28 L lc X eT hq fN
      obtain ⟨rfl, Nq, hqe⟩ := hq
      have N := fN _ N Nq
      rw [hqe] at eT
      show own_W _ _ _ _ _ _ _ _ [(.int (2 : Int32))]
      refine own_iload X hx (hb hby at_69) (pc' := 71) rfl rfl ?_
      refine own_icmpY X hx (hb hby at_71) (by decide) (pc' := 76) rfl (show (2 : Int32) = (2 : Int32) from (by decide)) ?_
      refine own_aload X hx (hb hby at_76) (pc' := 78) rfl rfl rfl ?_
      refine own_callV X hx hZ (y := (⟨"java/lang/String", "length", "()I"⟩ : MethodName)) qa [] hown (own_w hw 167 rfl) (own_w hw 59 rfl) (own_w hw 61 rfl) (own_w hw 60 rfl) (own_w hw 6 rfl) (own_w hw 62 rfl) (by decide) (rm_len l Z a0 hw [] qa qb cs (3 : Int32) h23 n0 Z0 S_C hcs E_q C_q V_q _ _ A_q) E_q eT (W := 0) (by decide) (by decide) (cells' := 25) (slots' := 110) rfl rfl (by decide) (by decide) (by rw [hml]; rfl) (lenOf own_pd_2829I rfl) rfl (S := []) rfl (Nat.le_of_eq rfl) (hb hby at_78) (pc' := 81) rfl ?_
      intro v T h29 L lc X eT hq fN
      obtain ⟨rfl, Nq, hqe⟩ := hq
      have N := fN _ N Nq
      rw [hqe] at eT
      show own_W _ _ _ _ _ _ _ _ [(.int (3 : Int32))]
      refine own_iload X hx (hb hby at_81) (pc' := 83) rfl rfl ?_
      refine own_iconst X hx (1 : Int32) (hb hby at_83) (pc' := 84) rfl rfl ?_
      refine own_iadd X hx (hb hby at_84) (pc' := 85) rfl ?_
      rw [show ((2 : Int32) + (1 : Int32)) = (3 : Int32) from by decide]
      refine own_iload X hx (hb hby at_85) (pc' := 87) rfl rfl ?_
      refine own_iadd X hx (hb hby at_87) (pc' := 88) rfl ?_
      rw [show ((3 : Int32) + (0 : Int32)) = (3 : Int32) from by decide]
      refine own_icmpY X hx (hb hby at_88) (by decide) (pc' := 93) rfl (show (3 : Int32) = (3 : Int32) from (by decide)) ?_
      refine own_aload X hx (hb hby at_93) (pc' := 95) rfl rfl rfl ?_
      refine own_aloadN X hx (hb hby at_95) (pc' := 96) rfl rfl rfl ?_
      refine own_aloadN X hx (hb hby at_96) (pc' := 97) rfl rfl rfl ?_
      refine own_iconst X hx (0 : Int32) (hb hby at_97) (pc' := 98) rfl rfl ?_
      refine own_callS X hx hZ [(.ref ea), (.ref sa1), (.ref sa2), (.int (0 : Int32))] hown (own_w hw 168 rfl) (own_w hw 169 rfl) (own_w hw 2 rfl) (own_w hw 170 rfl) (by decide) (rm_xo l Z a0 hw [] ea eb (2 : Int32) [(.int (46 : Int32)), (.int f0)] sa1 sb1 sa2 sb2 (0 : Int32) (0 : Int32) (1 : Int32) cs fm [] [(.int f0)] h23 n0 Z0 S_C hcs S_F hfm E_1 C_1 V_1 _ A_1 E_2 C_2 V_2 _ A_2 own_in0 (own_inS own_in0) own_f37 E_e C_e V_e _ A_e (own_inS (own_inS own_in0)) own_f38 (((own_at_lt own_f61).trans (congrArg own_cx (own_bv_eq (46 : Int32) own_f34 rfl))).trans (Eq.trans own_cx46 (own_ee2 own_f35 own_f36).symm))) eT (W := 0) (by decide) (by decide) (cells' := 25) (slots' := 110) rfl rfl (by decide) (by decide) (by rw [hml]; rfl) (lenOf own_pd_28Ljava2flang2fString3bLjava2flang2fString3bLjava2flang2fString3bI29Z rfl) rfl (S := []) rfl (Nat.le_of_eq rfl) (hb hby at_98) (pc' := 101) rfl ?_
      intro v T h30 L lc X eT hq fN
      obtain ⟨rfl, Nq, hqe⟩ := hq
      have N := fN _ N Nq
      rw [hqe] at eT
      show own_W _ _ _ _ _ _ _ _ [(.int (1 : Int32))]
      refine own_ifN X hx (hb hby at_101) (pc' := 104) rfl (show ¬ ((1 : Int32) = (0 : Int32)) from (by decide)) ?_
      refine own_aload X hx (hb hby at_104) (pc' := 106) rfl rfl rfl ?_
      refine own_aloadN X hx (hb hby at_106) (pc' := 107) rfl rfl rfl ?_
      refine own_aloadN X hx (hb hby at_107) (pc' := 108) rfl rfl rfl ?_
      refine own_iconst X hx (1 : Int32) (hb hby at_108) (pc' := 109) rfl rfl ?_
      refine own_callS X hx hZ [(.ref ea), (.ref sa1), (.ref sa2), (.int (1 : Int32))] hown (own_w hw 168 rfl) (own_w hw 169 rfl) (own_w hw 2 rfl) (own_w hw 170 rfl) (by decide) (rm_xo l Z a0 hw [] ea eb (2 : Int32) [(.int (46 : Int32)), (.int f0)] sa1 sb1 sa2 sb2 (1 : Int32) (0 : Int32) (1 : Int32) cs fm [] [(.int f0)] h23 n0 Z0 S_C hcs S_F hfm E_1 C_1 V_1 _ A_1 E_2 C_2 V_2 _ A_2 own_in0 (own_inS own_in0) own_f21 E_e C_e V_e _ A_e (own_inS (own_inS own_in0)) own_f43 (((own_at_lt own_f64).trans (congrArg own_cx (own_bv_eq f0 own_f65 rfl))).trans ((own_ee3 own_f41 own_f42).trans ((own_at_lt own_f115).trans (congrArg own_cx (own_bv_eq f0 own_f116 rfl)))).symm)) eT (W := 0) (by decide) (by decide) (cells' := 25) (slots' := 110) rfl rfl (by decide) (by decide) (by rw [hml]; rfl) (lenOf own_pd_28Ljava2flang2fString3bLjava2flang2fString3bLjava2flang2fString3bI29Z rfl) rfl (S := []) rfl (Nat.le_of_eq rfl) (hb hby at_109) (pc' := 112) rfl ?_
      intro v T h31 L lc X eT hq fN
      obtain ⟨rfl, Nq, hqe⟩ := hq
      have N := fN _ N Nq
      rw [hqe] at eT
      show own_W _ _ _ _ _ _ _ _ [(.int (1 : Int32))]
      refine own_ifN X hx (hb hby at_112) (pc' := 115) rfl (show ¬ ((1 : Int32) = (0 : Int32)) from (by decide)) ?_
      refine own_aload X hx (hb hby at_115) (pc' := 117) rfl rfl rfl ?_
      refine own_aloadN X hx (hb hby at_117) (pc' := 118) rfl rfl rfl ?_
      refine own_aloadN X hx (hb hby at_118) (pc' := 119) rfl rfl rfl ?_
      refine own_iconst X hx (2 : Int32) (hb hby at_119) (pc' := 120) rfl rfl ?_
      refine own_callS X hx hZ [(.ref ea), (.ref sa1), (.ref sa2), (.int (2 : Int32))] hown (own_w hw 168 rfl) (own_w hw 169 rfl) (own_w hw 2 rfl) (own_w hw 170 rfl) (by decide) (rm_xo l Z a0 hw [] ea eb (2 : Int32) [(.int (46 : Int32)), (.int f0)] sa1 sb1 sa2 sb2 (2 : Int32) (0 : Int32) (1 : Int32) cs fm [] [(.int f0)] h23 n0 Z0 S_C hcs S_F hfm E_1 C_1 V_1 _ A_1 E_2 C_2 V_2 _ A_2 own_in0 (own_inS own_in0) own_f26 E_e C_e V_e _ A_e (own_inS (own_inS own_in0)) own_f48 ((own_at_ge own_f68).trans ((own_ee3 own_f46 own_f47).trans (own_at_ge own_f117)).symm)) eT (W := 0) (by decide) (by decide) (cells' := 25) (slots' := 110) rfl rfl (by decide) (by decide) (by rw [hml]; rfl) (lenOf own_pd_28Ljava2flang2fString3bLjava2flang2fString3bLjava2flang2fString3bI29Z rfl) rfl (S := []) rfl (Nat.le_of_eq rfl) (hb hby at_120) (pc' := 123) rfl ?_
      intro v T h32 L lc X eT hq fN
      obtain ⟨rfl, Nq, hqe⟩ := hq
      have N := fN _ N Nq
      rw [hqe] at eT
      show own_W _ _ _ _ _ _ _ _ [(.int (1 : Int32))]
      refine own_ifN X hx (hb hby at_123) (pc' := 126) rfl (show ¬ ((1 : Int32) = (0 : Int32)) from (by decide)) ?_
      refine own_aload X hx (hb hby at_126) (pc' := 128) rfl rfl rfl ?_
      refine own_aloadN X hx (hb hby at_128) (pc' := 129) rfl rfl rfl ?_
      refine own_aloadN X hx (hb hby at_129) (pc' := 130) rfl rfl rfl ?_
      refine own_iconst X hx (3 : Int32) (hb hby at_130) (pc' := 131) rfl rfl ?_
      refine own_callS X hx hZ [(.ref ea), (.ref sa1), (.ref sa2), (.int (3 : Int32))] hown (own_w hw 168 rfl) (own_w hw 169 rfl) (own_w hw 2 rfl) (own_w hw 170 rfl) (by decide) (rm_xo l Z a0 hw [] ea eb (2 : Int32) [(.int (46 : Int32)), (.int f0)] sa1 sb1 sa2 sb2 (3 : Int32) (0 : Int32) (1 : Int32) cs fm [] [(.int f0)] h23 n0 Z0 S_C hcs S_F hfm E_1 C_1 V_1 _ A_1 E_2 C_2 V_2 _ A_2 own_in0 (own_inS own_in0) own_f53 E_e C_e V_e _ A_e (own_inS (own_inS own_in0)) own_f54 ((own_at_ge own_f72).trans ((own_ee3 own_f51 own_f52).trans (own_at_ge own_f118)).symm)) eT (W := 0) (by decide) (by decide) (cells' := 25) (slots' := 110) rfl rfl (by decide) (by decide) (by rw [hml]; rfl) (lenOf own_pd_28Ljava2flang2fString3bLjava2flang2fString3bLjava2flang2fString3bI29Z rfl) rfl (S := []) rfl (Nat.le_of_eq rfl) (hb hby at_131) (pc' := 134) rfl ?_
      intro v T h33 L lc X eT hq fN
      obtain ⟨rfl, Nq, hqe⟩ := hq
      have N := fN _ N Nq
      rw [hqe] at eT
      show own_W _ _ _ _ _ _ _ _ [(.int (1 : Int32))]
      refine own_ifN X hx (hb hby at_134) (pc' := 137) rfl (show ¬ ((1 : Int32) = (0 : Int32)) from (by decide)) ?_
      refine own_aload X hx (hb hby at_137) (pc' := 139) rfl rfl rfl ?_
      refine own_aloadN X hx (hb hby at_139) (pc' := 140) rfl rfl rfl ?_
      refine own_aloadN X hx (hb hby at_140) (pc' := 141) rfl rfl rfl ?_
      refine own_iconst X hx (4 : Int32) (hb hby at_141) (pc' := 142) rfl rfl ?_
      refine own_callS X hx hZ [(.ref ea), (.ref sa1), (.ref sa2), (.int (4 : Int32))] hown (own_w hw 168 rfl) (own_w hw 169 rfl) (own_w hw 2 rfl) (own_w hw 170 rfl) (by decide) (rm_xo l Z a0 hw [] ea eb (2 : Int32) [(.int (46 : Int32)), (.int f0)] sa1 sb1 sa2 sb2 (4 : Int32) (0 : Int32) (1 : Int32) cs fm [] [(.int f0)] h23 n0 Z0 S_C hcs S_F hfm E_1 C_1 V_1 _ A_1 E_2 C_2 V_2 _ A_2 own_in0 (own_inS own_in0) own_f59 E_e C_e V_e _ A_e (own_inS (own_inS own_in0)) own_f60 ((own_at_ge own_f76).trans ((own_ee3 own_f57 own_f58).trans (own_at_ge own_f119)).symm)) eT (W := 0) (by decide) (by decide) (cells' := 25) (slots' := 110) rfl rfl (by decide) (by decide) (by rw [hml]; rfl) (lenOf own_pd_28Ljava2flang2fString3bLjava2flang2fString3bLjava2flang2fString3bI29Z rfl) rfl (S := []) rfl (Nat.le_of_eq rfl) (hb hby at_142) (pc' := 145) rfl ?_
      intro v T h34 L lc X eT hq fN
      obtain ⟨rfl, Nq, hqe⟩ := hq
      have N := fN _ N Nq
      rw [hqe] at eT
      show own_W _ _ _ _ _ _ _ _ [(.int (1 : Int32))]
      refine own_ifN X hx (hb hby at_145) (pc' := 148) rfl (show ¬ ((1 : Int32) = (0 : Int32)) from (by decide)) ?_
      refine own_iconst X hx (1 : Int32) (hb hby at_148) (pc' := 149) rfl rfl ?_
      refine own_goto X hx (hb hby at_149) (by decide) (pc' := 153) rfl ?_
      refine own_istore X hx (hb hby at_153) (pc' := 155) rfl (Ls' := #[.val (.int p0), .val (.int p1), .val (.ref sa1), .val (.ref sa2), .val (.ref pa), .val (.ref ea), .val (.ref qa), .val (.int (0 : Int32)), .val (.int (1 : Int32)), .val (.int (2 : Int32)), .val (.int (1 : Int32))]) rfl ?_
      refine own_iload X hx (hb hby at_155) (pc' := 157) rfl rfl ?_
      refine own_ifN X hx (hb hby at_157) (pc' := 160) rfl (show ¬ ((1 : Int32) = (0 : Int32)) from (by decide)) ?_
      refine own_aload X hx (hb hby at_160) (pc' := 162) rfl rfl rfl ?_
      refine own_aloadN X hx (hb hby at_162) (pc' := 163) rfl rfl rfl ?_
      refine own_aloadN X hx (hb hby at_163) (pc' := 164) rfl rfl rfl ?_
      refine own_iconst X hx (0 : Int32) (hb hby at_164) (pc' := 165) rfl rfl ?_
      refine own_callS X hx hZ [(.ref qa), (.ref sa1), (.ref sa2), (.int (0 : Int32))] hown (own_w hw 199 rfl) (own_w hw 200 rfl) (own_w hw 2 rfl) (own_w hw 201 rfl) (by decide) (rm_qo l Z a0 hw [] qa qb (3 : Int32) [(.int (46 : Int32)), (.int f0), (.int (46 : Int32))] sa1 sb1 sa2 sb2 (0 : Int32) (0 : Int32) (1 : Int32) cs fm [] [(.int f0)] (2 : Int32) h23 n0 Z0 S_C hcs S_F hfm E_1 C_1 V_1 _ A_1 E_2 C_2 V_2 _ A_2 own_in0 (own_inS own_in0) own_f37 E_q C_q V_q _ A_q (own_inS (own_inS (own_inS own_in0))) own_f38 own_f121 own_f122 (((own_at_lt own_f120).trans (congrArg own_cx (own_bv_eq (46 : Int32) own_f34 rfl))).trans (Eq.trans own_cx46 ((own_qq1 own_f61).trans (own_ee2 own_f35 own_f36)).symm))) eT (W := 0) (by decide) (by decide) (cells' := 25) (slots' := 110) rfl rfl (by decide) (by decide) (by rw [hml]; rfl) (lenOf own_pd_28Ljava2flang2fString3bLjava2flang2fString3bLjava2flang2fString3bI29Z rfl) rfl (S := []) rfl (Nat.le_of_eq rfl) (hb hby at_165) (pc' := 168) rfl ?_
      intro v T h35 L lc X eT hq fN
      obtain ⟨rfl, Nq, hqe⟩ := hq
      have N := fN _ N Nq
      rw [hqe] at eT
      show own_W _ _ _ _ _ _ _ _ [(.int (1 : Int32))]
      refine own_ifN X hx (hb hby at_168) (pc' := 171) rfl (show ¬ ((1 : Int32) = (0 : Int32)) from (by decide)) ?_
      refine own_aload X hx (hb hby at_171) (pc' := 173) rfl rfl rfl ?_
      refine own_aloadN X hx (hb hby at_173) (pc' := 174) rfl rfl rfl ?_
      refine own_aloadN X hx (hb hby at_174) (pc' := 175) rfl rfl rfl ?_
      refine own_iconst X hx (1 : Int32) (hb hby at_175) (pc' := 176) rfl rfl ?_
      refine own_callS X hx hZ [(.ref qa), (.ref sa1), (.ref sa2), (.int (1 : Int32))] hown (own_w hw 199 rfl) (own_w hw 200 rfl) (own_w hw 2 rfl) (own_w hw 201 rfl) (by decide) (rm_qo l Z a0 hw [] qa qb (3 : Int32) [(.int (46 : Int32)), (.int f0), (.int (46 : Int32))] sa1 sb1 sa2 sb2 (1 : Int32) (0 : Int32) (1 : Int32) cs fm [] [(.int f0)] (2 : Int32) h23 n0 Z0 S_C hcs S_F hfm E_1 C_1 V_1 _ A_1 E_2 C_2 V_2 _ A_2 own_in0 (own_inS own_in0) own_f21 E_q C_q V_q _ A_q (own_inS (own_inS (own_inS own_in0))) own_f43 own_f121 own_f124 (((own_at_lt own_f123).trans (congrArg own_cx (own_bv_eq f0 own_f65 rfl))).trans ((own_qq1 own_f64).trans ((own_ee3 own_f41 own_f42).trans ((own_at_lt own_f115).trans (congrArg own_cx (own_bv_eq f0 own_f116 rfl))))).symm)) eT (W := 0) (by decide) (by decide) (cells' := 25) (slots' := 110) rfl rfl (by decide) (by decide) (by rw [hml]; rfl) (lenOf own_pd_28Ljava2flang2fString3bLjava2flang2fString3bLjava2flang2fString3bI29Z rfl) rfl (S := []) rfl (Nat.le_of_eq rfl) (hb hby at_176) (pc' := 179) rfl ?_
      intro v T h36 L lc X eT hq fN
      obtain ⟨rfl, Nq, hqe⟩ := hq
      have N := fN _ N Nq
      rw [hqe] at eT
      show own_W _ _ _ _ _ _ _ _ [(.int (1 : Int32))]
      refine own_ifN X hx (hb hby at_179) (pc' := 182) rfl (show ¬ ((1 : Int32) = (0 : Int32)) from (by decide)) ?_
      refine own_aload X hx (hb hby at_182) (pc' := 184) rfl rfl rfl ?_
      refine own_aloadN X hx (hb hby at_184) (pc' := 185) rfl rfl rfl ?_
      refine own_aloadN X hx (hb hby at_185) (pc' := 186) rfl rfl rfl ?_
      refine own_iconst X hx (2 : Int32) (hb hby at_186) (pc' := 187) rfl rfl ?_
      refine own_callS X hx hZ [(.ref qa), (.ref sa1), (.ref sa2), (.int (2 : Int32))] hown (own_w hw 199 rfl) (own_w hw 200 rfl) (own_w hw 2 rfl) (own_w hw 201 rfl) (by decide) (rm_qo l Z a0 hw [] qa qb (3 : Int32) [(.int (46 : Int32)), (.int f0), (.int (46 : Int32))] sa1 sb1 sa2 sb2 (2 : Int32) (0 : Int32) (1 : Int32) cs fm [] [(.int f0)] (2 : Int32) h23 n0 Z0 S_C hcs S_F hfm E_1 C_1 V_1 _ A_1 E_2 C_2 V_2 _ A_2 own_in0 (own_inS own_in0) own_f26 E_q C_q V_q _ A_q (own_inS (own_inS (own_inS own_in0))) own_f48 own_f121 own_f128 (((own_at_lt own_f125).trans (congrArg own_cx (own_bv_eq (46 : Int32) own_f126 rfl))).trans (Eq.trans own_cx46 (own_qq2 own_f68 own_f127).symm))) eT (W := 0) (by decide) (by decide) (cells' := 25) (slots' := 110) rfl rfl (by decide) (by decide) (by rw [hml]; rfl) (lenOf own_pd_28Ljava2flang2fString3bLjava2flang2fString3bLjava2flang2fString3bI29Z rfl) rfl (S := []) rfl (Nat.le_of_eq rfl) (hb hby at_187) (pc' := 190) rfl ?_
      intro v T h37 L lc X eT hq fN
      obtain ⟨rfl, Nq, hqe⟩ := hq
      have N := fN _ N Nq
      rw [hqe] at eT
      show own_W _ _ _ _ _ _ _ _ [(.int (1 : Int32))]
      refine own_ifN X hx (hb hby at_190) (pc' := 193) rfl (show ¬ ((1 : Int32) = (0 : Int32)) from (by decide)) ?_
      refine own_aload X hx (hb hby at_193) (pc' := 195) rfl rfl rfl ?_
      refine own_aloadN X hx (hb hby at_195) (pc' := 196) rfl rfl rfl ?_
      refine own_aloadN X hx (hb hby at_196) (pc' := 197) rfl rfl rfl ?_
      refine own_iconst X hx (3 : Int32) (hb hby at_197) (pc' := 198) rfl rfl ?_
      refine own_callS X hx hZ [(.ref qa), (.ref sa1), (.ref sa2), (.int (3 : Int32))] hown (own_w hw 199 rfl) (own_w hw 200 rfl) (own_w hw 2 rfl) (own_w hw 201 rfl) (by decide) (rm_qo l Z a0 hw [] qa qb (3 : Int32) [(.int (46 : Int32)), (.int f0), (.int (46 : Int32))] sa1 sb1 sa2 sb2 (3 : Int32) (0 : Int32) (1 : Int32) cs fm [] [(.int f0)] (2 : Int32) h23 n0 Z0 S_C hcs S_F hfm E_1 C_1 V_1 _ A_1 E_2 C_2 V_2 _ A_2 own_in0 (own_inS own_in0) own_f53 E_q C_q V_q _ A_q (own_inS (own_inS (own_inS own_in0))) own_f54 own_f121 own_f132 ((own_at_ge own_f129).trans ((own_qq3 own_f72 own_f131).trans (own_at_ge own_f130)).symm)) eT (W := 0) (by decide) (by decide) (cells' := 25) (slots' := 110) rfl rfl (by decide) (by decide) (by rw [hml]; rfl) (lenOf own_pd_28Ljava2flang2fString3bLjava2flang2fString3bLjava2flang2fString3bI29Z rfl) rfl (S := []) rfl (Nat.le_of_eq rfl) (hb hby at_198) (pc' := 201) rfl ?_
      intro v T h38 L lc X eT hq fN
      obtain ⟨rfl, Nq, hqe⟩ := hq
      have N := fN _ N Nq
      rw [hqe] at eT
      show own_W _ _ _ _ _ _ _ _ [(.int (1 : Int32))]
      refine own_ifN X hx (hb hby at_201) (pc' := 204) rfl (show ¬ ((1 : Int32) = (0 : Int32)) from (by decide)) ?_
      refine own_aload X hx (hb hby at_204) (pc' := 206) rfl rfl rfl ?_
      refine own_aloadN X hx (hb hby at_206) (pc' := 207) rfl rfl rfl ?_
      refine own_aloadN X hx (hb hby at_207) (pc' := 208) rfl rfl rfl ?_
      refine own_iconst X hx (4 : Int32) (hb hby at_208) (pc' := 209) rfl rfl ?_
      refine own_callS X hx hZ [(.ref qa), (.ref sa1), (.ref sa2), (.int (4 : Int32))] hown (own_w hw 199 rfl) (own_w hw 200 rfl) (own_w hw 2 rfl) (own_w hw 201 rfl) (by decide) (rm_qo l Z a0 hw [] qa qb (3 : Int32) [(.int (46 : Int32)), (.int f0), (.int (46 : Int32))] sa1 sb1 sa2 sb2 (4 : Int32) (0 : Int32) (1 : Int32) cs fm [] [(.int f0)] (2 : Int32) h23 n0 Z0 S_C hcs S_F hfm E_1 C_1 V_1 _ A_1 E_2 C_2 V_2 _ A_2 own_in0 (own_inS own_in0) own_f59 E_q C_q V_q _ A_q (own_inS (own_inS (own_inS own_in0))) own_f60 own_f121 own_f136 ((own_at_ge own_f133).trans ((own_qq3 own_f76 own_f135).trans (own_at_ge own_f134)).symm)) eT (W := 0) (by decide) (by decide) (cells' := 25) (slots' := 110) rfl rfl (by decide) (by decide) (by rw [hml]; rfl) (lenOf own_pd_28Ljava2flang2fString3bLjava2flang2fString3bLjava2flang2fString3bI29Z rfl) rfl (S := []) rfl (Nat.le_of_eq rfl) (hb hby at_209) (pc' := 212) rfl ?_
      intro v T h39 L lc X eT hq fN
      obtain ⟨rfl, Nq, hqe⟩ := hq
      have N := fN _ N Nq
      rw [hqe] at eT
      show own_W _ _ _ _ _ _ _ _ [(.int (1 : Int32))]
      refine own_ifN X hx (hb hby at_212) (pc' := 215) rfl (show ¬ ((1 : Int32) = (0 : Int32)) from (by decide)) ?_
      refine own_aload X hx (hb hby at_215) (pc' := 217) rfl rfl rfl ?_
      refine own_aloadN X hx (hb hby at_217) (pc' := 218) rfl rfl rfl ?_
      refine own_aloadN X hx (hb hby at_218) (pc' := 219) rfl rfl rfl ?_
      refine own_iconst X hx (5 : Int32) (hb hby at_219) (pc' := 220) rfl rfl ?_
      refine own_callS X hx hZ [(.ref qa), (.ref sa1), (.ref sa2), (.int (5 : Int32))] hown (own_w hw 199 rfl) (own_w hw 200 rfl) (own_w hw 2 rfl) (own_w hw 201 rfl) (by decide) (rm_qo l Z a0 hw [] qa qb (3 : Int32) [(.int (46 : Int32)), (.int f0), (.int (46 : Int32))] sa1 sb1 sa2 sb2 (5 : Int32) (0 : Int32) (1 : Int32) cs fm [] [(.int f0)] (2 : Int32) h23 n0 Z0 S_C hcs S_F hfm E_1 C_1 V_1 _ A_1 E_2 C_2 V_2 _ A_2 own_in0 (own_inS own_in0) own_f84 E_q C_q V_q _ A_q (own_inS (own_inS (own_inS own_in0))) own_f85 own_f121 own_f140 ((own_at_ge own_f137).trans ((own_qq3 own_f80 own_f139).trans (own_at_ge own_f138)).symm)) eT (W := 0) (by decide) (by decide) (cells' := 25) (slots' := 110) rfl rfl (by decide) (by decide) (by rw [hml]; rfl) (lenOf own_pd_28Ljava2flang2fString3bLjava2flang2fString3bLjava2flang2fString3bI29Z rfl) rfl (S := []) rfl (Nat.le_of_eq rfl) (hb hby at_220) (pc' := 223) rfl ?_
      intro v T h40 L lc X eT hq fN
      obtain ⟨rfl, Nq, hqe⟩ := hq
      have N := fN _ N Nq
      rw [hqe] at eT
      show own_W _ _ _ _ _ _ _ _ [(.int (1 : Int32))]
      refine own_ifN X hx (hb hby at_223) (pc' := 226) rfl (show ¬ ((1 : Int32) = (0 : Int32)) from (by decide)) ?_
      refine own_aload X hx (hb hby at_226) (pc' := 228) rfl rfl rfl ?_
      refine own_aloadN X hx (hb hby at_228) (pc' := 229) rfl rfl rfl ?_
      refine own_aloadN X hx (hb hby at_229) (pc' := 230) rfl rfl rfl ?_
      refine own_bipush X hx (6 : Int32) (hb hby at_230) (pc' := 232) rfl rfl ?_
      refine own_callS X hx hZ [(.ref qa), (.ref sa1), (.ref sa2), (.int (6 : Int32))] hown (own_w hw 199 rfl) (own_w hw 200 rfl) (own_w hw 2 rfl) (own_w hw 201 rfl) (by decide) (rm_qo l Z a0 hw [] qa qb (3 : Int32) [(.int (46 : Int32)), (.int f0), (.int (46 : Int32))] sa1 sb1 sa2 sb2 (6 : Int32) (0 : Int32) (1 : Int32) cs fm [] [(.int f0)] (2 : Int32) h23 n0 Z0 S_C hcs S_F hfm E_1 C_1 V_1 _ A_1 E_2 C_2 V_2 _ A_2 own_in0 (own_inS own_in0) own_f91 E_q C_q V_q _ A_q (own_inS (own_inS (own_inS own_in0))) own_f92 own_f121 own_f144 ((own_at_ge own_f141).trans ((own_qq3 own_f87 own_f143).trans (own_at_ge own_f142)).symm)) eT (W := 0) (by decide) (by decide) (cells' := 25) (slots' := 110) rfl rfl (by decide) (by decide) (by rw [hml]; rfl) (lenOf own_pd_28Ljava2flang2fString3bLjava2flang2fString3bLjava2flang2fString3bI29Z rfl) rfl (S := []) rfl (Nat.le_of_eq rfl) (hb hby at_232) (pc' := 235) rfl ?_
      intro v T h41 L lc X eT hq fN
      obtain ⟨rfl, Nq, hqe⟩ := hq
      have N := fN _ N Nq
      rw [hqe] at eT
      show own_W _ _ _ _ _ _ _ _ [(.int (1 : Int32))]
      refine own_ifN X hx (hb hby at_235) (pc' := 238) rfl (show ¬ ((1 : Int32) = (0 : Int32)) from (by decide)) ?_
      refine own_aload X hx (hb hby at_238) (pc' := 240) rfl rfl rfl ?_
      refine own_aloadN X hx (hb hby at_240) (pc' := 241) rfl rfl rfl ?_
      refine own_aloadN X hx (hb hby at_241) (pc' := 242) rfl rfl rfl ?_
      refine own_bipush X hx (7 : Int32) (hb hby at_242) (pc' := 244) rfl rfl ?_
      refine own_callS X hx hZ [(.ref qa), (.ref sa1), (.ref sa2), (.int (7 : Int32))] hown (own_w hw 199 rfl) (own_w hw 200 rfl) (own_w hw 2 rfl) (own_w hw 201 rfl) (by decide) (rm_qo l Z a0 hw [] qa qb (3 : Int32) [(.int (46 : Int32)), (.int f0), (.int (46 : Int32))] sa1 sb1 sa2 sb2 (7 : Int32) (0 : Int32) (1 : Int32) cs fm [] [(.int f0)] (2 : Int32) h23 n0 Z0 S_C hcs S_F hfm E_1 C_1 V_1 _ A_1 E_2 C_2 V_2 _ A_2 own_in0 (own_inS own_in0) own_f98 E_q C_q V_q _ A_q (own_inS (own_inS (own_inS own_in0))) own_f99 own_f121 own_f148 ((own_at_ge own_f145).trans ((own_qq3 own_f94 own_f147).trans (own_at_ge own_f146)).symm)) eT (W := 0) (by decide) (by decide) (cells' := 25) (slots' := 110) rfl rfl (by decide) (by decide) (by rw [hml]; rfl) (lenOf own_pd_28Ljava2flang2fString3bLjava2flang2fString3bLjava2flang2fString3bI29Z rfl) rfl (S := []) rfl (Nat.le_of_eq rfl) (hb hby at_244) (pc' := 247) rfl ?_
      intro v T h42 L lc X eT hq fN
      obtain ⟨rfl, Nq, hqe⟩ := hq
      have N := fN _ N Nq
      rw [hqe] at eT
      show own_W _ _ _ _ _ _ _ _ [(.int (1 : Int32))]
      refine own_ifN X hx (hb hby at_247) (pc' := 250) rfl (show ¬ ((1 : Int32) = (0 : Int32)) from (by decide)) ?_
      refine own_iconst X hx (1 : Int32) (hb hby at_250) (pc' := 251) rfl rfl ?_
      refine own_goto X hx (hb hby at_251) (by decide) (pc' := 255) rfl ?_
      refine own_istore X hx (hb hby at_255) (pc' := 257) rfl (Ls' := #[.val (.int p0), .val (.int p1), .val (.ref sa1), .val (.ref sa2), .val (.ref pa), .val (.ref ea), .val (.ref qa), .val (.int (0 : Int32)), .val (.int (1 : Int32)), .val (.int (2 : Int32)), .val (.int (1 : Int32))]) rfl ?_
      refine own_iload X hx (hb hby at_257) (pc' := 259) rfl rfl ?_
      refine own_retIS X hx hlk hZ eT hh hS hk hEL H CR (t := .boolean) (w' := (.int (1 : Int32))) Bd.returns (hb hby at_259) rfl rfl (by simp) (by decide) (by decide) ?_
      rw [eT]
      exact ⟨rfl, N⟩
    · show own_W _ _ _ _ _ _ _ _ [(.ref sa2)]
      refine own_astoreN X hx (hb hby at_9) (pc' := 10) rfl rfl (Ls' := #[.val (.int p0), .val (.int p1), .val (.ref sa1), .val (.ref sa2), .unset, .unset, .unset, .unset, .unset, .unset, .unset]) rfl ?_
      refine own_aloadN X hx (hb hby at_10) (pc' := 11) rfl rfl rfl ?_
      refine own_aloadN X hx (hb hby at_11) (pc' := 12) rfl rfl rfl ?_
      refine own_callSS X hx hZ [(.ref sa1), (.ref sa2)] hown (own_w hw 26 rfl) (own_w hw 27 rfl) (own_w hw 28 rfl) (own_w hw 29 rfl) (by decide) (rm_af l Z a0 hw hEL [] sa1 sa2 sb1 sb2 (0 : Int32) (2 : Int32) cs (0 : Int32) (1 : Int32) (3 : Int32) (3 : Int32) (4 : Int32) (4 : Int32) 0 2 0 1 3 3 4 4 [] [(.int f0), (.int f1)] [(.int (0 : Int32)), (.int (0 : Int32)), (.int (0 : Int32)), (.int (0 : Int32)), (.int (0 : Int32)), (.int (0 : Int32)), (.int (0 : Int32)), (.int (0 : Int32)), (.int (0 : Int32)), (.int (0 : Int32)), (.int (0 : Int32)), (.int (0 : Int32)), (.int (0 : Int32)), (.int (0 : Int32)), (.int (0 : Int32)), (.int (0 : Int32))] [(.int (46 : Int32)), (.int (0 : Int32)), (.int (0 : Int32)), (.int (0 : Int32)), (.int (0 : Int32)), (.int (0 : Int32)), (.int (0 : Int32)), (.int (0 : Int32)), (.int (0 : Int32)), (.int (0 : Int32)), (.int (0 : Int32)), (.int (0 : Int32)), (.int (0 : Int32)), (.int (0 : Int32)), (.int (0 : Int32)), (.int (0 : Int32))] [(.int (46 : Int32)), (.int f0), (.int f1), (.int (0 : Int32)), (.int (0 : Int32)), (.int (0 : Int32)), (.int (0 : Int32)), (.int (0 : Int32)), (.int (0 : Int32)), (.int (0 : Int32)), (.int (0 : Int32)), (.int (0 : Int32)), (.int (0 : Int32)), (.int (0 : Int32)), (.int (0 : Int32)), (.int (0 : Int32))] [(.int (46 : Int32)), (.int f0), (.int f1), (.int (0 : Int32)), (.int (0 : Int32)), (.int (0 : Int32)), (.int (0 : Int32)), (.int (0 : Int32)), (.int (0 : Int32)), (.int (0 : Int32)), (.int (0 : Int32)), (.int (0 : Int32)), (.int (0 : Int32)), (.int (0 : Int32)), (.int (0 : Int32)), (.int (0 : Int32))] [(.int (46 : Int32)), (.int f0), (.int f1), (.int (46 : Int32)), (.int (0 : Int32)), (.int (0 : Int32)), (.int (0 : Int32)), (.int (0 : Int32)), (.int (0 : Int32)), (.int (0 : Int32)), (.int (0 : Int32)), (.int (0 : Int32)), (.int (0 : Int32)), (.int (0 : Int32)), (.int (0 : Int32)), (.int (0 : Int32))] [(.int (46 : Int32)), (.int f0), (.int f1), (.int (46 : Int32)), (.int (0 : Int32)), (.int (0 : Int32)), (.int (0 : Int32)), (.int (0 : Int32)), (.int (0 : Int32)), (.int (0 : Int32)), (.int (0 : Int32)), (.int (0 : Int32)), (.int (0 : Int32)), (.int (0 : Int32)), (.int (0 : Int32)), (.int (0 : Int32))] [(.int (46 : Int32)), (.int f0), (.int f1)] [(.int (46 : Int32)), (.int f0), (.int f1), (.int (46 : Int32))] h2 n0 Z0 S_C hcs E_1 C_1 V_1 _ A_1 E_2 C_2 V_2 _ A_2 ⟨own_f0, own_f1, own_f2, own_f3, own_f3, own_f4, own_f5, (Nat.le_of_ble_eq_true rfl), (Nat.le_of_ble_eq_true rfl), rfl⟩ ⟨own_f6, own_f7, own_f2, own_f3, own_f8, own_f9, own_f10, (Nat.le_of_ble_eq_true rfl), (Nat.le_of_ble_eq_true rfl), rfl⟩ ⟨own_f102, own_f149, own_f12, own_f8, own_f19, own_f32, own_f150, (Nat.le_of_ble_eq_true rfl), (Nat.le_of_ble_eq_true rfl), rfl⟩ ⟨own_f102, own_f151, own_f2, own_f3, own_f107, own_f114, own_f113, (Nat.le_of_ble_eq_true rfl), (Nat.le_of_ble_eq_true rfl), rfl⟩ ⟨own_f152, own_f153, own_f106, own_f107, own_f8, own_f9, own_f154, (Nat.le_of_ble_eq_true rfl), (Nat.le_of_ble_eq_true rfl), rfl⟩ ⟨own_f152, own_f155, own_f156, own_f157, own_f3, own_f4, own_f158, (Nat.le_of_ble_eq_true rfl), (Nat.le_of_ble_eq_true rfl), rfl⟩ ⟨own_f53, own_f109, own_f110, own_f107, own_f111, own_f112, own_f113, own_f114, (Nat.le_of_ble_eq_true rfl), rfl⟩ ⟨own_f59, own_f159, own_f160, own_f157, own_f161, own_f162, own_f163, own_f164, (Nat.le_of_ble_eq_true rfl), rfl⟩) eT hS hk hEL H (W := 0) (by decide) (by decide) (cells' := 25) (slots' := 110) rfl rfl (by decide) (by decide) (by rw [hml]; rfl) (lenOf own_pd_28Ljava2flang2fString3bLjava2flang2fString3b29Lcom2fexample2frunnel2frunnel2fbroker2fPipe3b rfl) rfl (S := []) rfl (Nat.le_of_eq rfl) (hb hby at_12) (pc' := 15) rfl ?_
      intro v T h43 L lc vm0 k1 X eT hS hk hZ hown CQ hq fN
      obtain ⟨pa, ea, eb, qa, qb, k_e, k_q, rfl, Nq, Kq, E_p, F_x, F_q, ⟨E_e, C_e, V_e, A_e⟩, ⟨E_q, C_q, V_q, A_q⟩⟩ := hq
      have N := fN _ N Nq
      have CR := CR.trans CQ
      have H := CQ.1
      have S_C := own_sta_keep S_C Kq ns0
      have S_F := own_sta_keep S_F Kq ns0
      have E_1 := E_1.keep Kq
      have C_1 := C_1.keep Kq nin0
      have V_1 := V_1.keep Kq nin0
      have A_1 := A_1.keep Kq nin0
      have E_2 := E_2.keep Kq
      have C_2 := C_2.keep Kq nin0
      have V_2 := V_2.keep Kq nin0
      have A_2 := A_2.keep Kq nin0
      have Z0 := Nat.le_trans Z0 Kq.1
      show own_W _ _ _ _ _ _ _ _ [(.ref pa)]
      refine own_astore X hx (hb hby at_15) (pc' := 17) rfl rfl (Ls' := #[.val (.int p0), .val (.int p1), .val (.ref sa1), .val (.ref sa2), .val (.ref pa), .unset, .unset, .unset, .unset, .unset, .unset]) rfl ?_
      refine own_aload X hx (hb hby at_17) (pc' := 19) rfl rfl rfl ?_
      refine own_callV X hx hZ (y := (⟨"com/example/runnel/runnel/broker/Pipe", "exchange", "()Ljava/lang/String;"⟩ : MethodName)) pa [] hown (own_w hw 157 rfl) (own_w hw 158 rfl) (own_w hw 160 rfl) (own_w hw 159 rfl) (own_w hw 28 rfl) (own_w hw 161 rfl) (by decide) (rm_ex l Z a0 hw [] pa ea h43 n0 Z0 F_x) E_p eT (W := 0) (by decide) (by decide) (cells' := 25) (slots' := 110) rfl rfl (by decide) (by decide) (by rw [hml]; rfl) (lenOf own_pd_2829Ljava2flang2fString3b rfl) rfl (S := []) rfl (Nat.le_of_eq rfl) (hb hby at_19) (pc' := 22) rfl ?_
      intro v T h44 L lc X eT hq fN
      obtain ⟨rfl, Nq, hqe⟩ := hq
      have N := fN _ N Nq
      rw [hqe] at eT
      show own_W _ _ _ _ _ _ _ _ [(.ref ea)]
      refine own_astore X hx (hb hby at_22) (pc' := 24) rfl rfl (Ls' := #[.val (.int p0), .val (.int p1), .val (.ref sa1), .val (.ref sa2), .val (.ref pa), .val (.ref ea), .unset, .unset, .unset, .unset, .unset]) rfl ?_
      refine own_aload X hx (hb hby at_24) (pc' := 26) rfl rfl rfl ?_
      refine own_callV X hx hZ (y := (⟨"com/example/runnel/runnel/broker/Pipe", "queue", "()Ljava/lang/String;"⟩ : MethodName)) pa [] hown (own_w hw 162 rfl) (own_w hw 163 rfl) (own_w hw 165 rfl) (own_w hw 164 rfl) (own_w hw 28 rfl) (own_w hw 166 rfl) (by decide) (rm_qu l Z a0 hw [] pa qa h43 n0 Z0 F_q) E_p eT (W := 0) (by decide) (by decide) (cells' := 25) (slots' := 110) rfl rfl (by decide) (by decide) (by rw [hml]; rfl) (lenOf own_pd_2829Ljava2flang2fString3b rfl) rfl (S := []) rfl (Nat.le_of_eq rfl) (hb hby at_26) (pc' := 29) rfl ?_
      intro v T h45 L lc X eT hq fN
      obtain ⟨rfl, Nq, hqe⟩ := hq
      have N := fN _ N Nq
      rw [hqe] at eT
      show own_W _ _ _ _ _ _ _ _ [(.ref qa)]
      refine own_astore X hx (hb hby at_29) (pc' := 31) rfl rfl (Ls' := #[.val (.int p0), .val (.int p1), .val (.ref sa1), .val (.ref sa2), .val (.ref pa), .val (.ref ea), .val (.ref qa), .unset, .unset, .unset, .unset]) rfl ?_
      refine own_aload X hx (hb hby at_31) (pc' := 33) rfl rfl rfl ?_
      refine own_ifnullN X hx (hb hby at_33) (pc' := 36) rfl ?_
      refine own_aload X hx (hb hby at_36) (pc' := 38) rfl rfl rfl ?_
      refine own_ifnonnullY X hx (hb hby at_38) (by decide) (pc' := 43) rfl ?_
      refine own_aloadN X hx (hb hby at_43) (pc' := 44) rfl rfl rfl ?_
      refine own_callV X hx hZ (y := (⟨"java/lang/String", "length", "()I"⟩ : MethodName)) sa1 [] hown (own_w hw 167 rfl) (own_w hw 59 rfl) (own_w hw 61 rfl) (own_w hw 60 rfl) (own_w hw 6 rfl) (own_w hw 62 rfl) (by decide) (rm_len l Z a0 hw [] sa1 sb1 cs (0 : Int32) h43 n0 Z0 S_C hcs E_1 C_1 V_1 _ _ A_1) E_1 eT (W := 0) (by decide) (by decide) (cells' := 25) (slots' := 110) rfl rfl (by decide) (by decide) (by rw [hml]; rfl) (lenOf own_pd_2829I rfl) rfl (S := []) rfl (Nat.le_of_eq rfl) (hb hby at_44) (pc' := 47) rfl ?_
      intro v T h46 L lc X eT hq fN
      obtain ⟨rfl, Nq, hqe⟩ := hq
      have N := fN _ N Nq
      rw [hqe] at eT
      show own_W _ _ _ _ _ _ _ _ [(.int (0 : Int32))]
      refine own_istore X hx (hb hby at_47) (pc' := 49) rfl (Ls' := #[.val (.int p0), .val (.int p1), .val (.ref sa1), .val (.ref sa2), .val (.ref pa), .val (.ref ea), .val (.ref qa), .val (.int (0 : Int32)), .unset, .unset, .unset]) rfl ?_
      refine own_aloadN X hx (hb hby at_49) (pc' := 50) rfl rfl rfl ?_
      refine own_callV X hx hZ (y := (⟨"java/lang/String", "length", "()I"⟩ : MethodName)) sa2 [] hown (own_w hw 167 rfl) (own_w hw 59 rfl) (own_w hw 61 rfl) (own_w hw 60 rfl) (own_w hw 6 rfl) (own_w hw 62 rfl) (by decide) (rm_len l Z a0 hw [] sa2 sb2 cs (2 : Int32) h43 n0 Z0 S_C hcs E_2 C_2 V_2 _ _ A_2) E_2 eT (W := 0) (by decide) (by decide) (cells' := 25) (slots' := 110) rfl rfl (by decide) (by decide) (by rw [hml]; rfl) (lenOf own_pd_2829I rfl) rfl (S := []) rfl (Nat.le_of_eq rfl) (hb hby at_50) (pc' := 53) rfl ?_
      intro v T h47 L lc X eT hq fN
      obtain ⟨rfl, Nq, hqe⟩ := hq
      have N := fN _ N Nq
      rw [hqe] at eT
      show own_W _ _ _ _ _ _ _ _ [(.int (2 : Int32))]
      refine own_istore X hx (hb hby at_53) (pc' := 55) rfl (Ls' := #[.val (.int p0), .val (.int p1), .val (.ref sa1), .val (.ref sa2), .val (.ref pa), .val (.ref ea), .val (.ref qa), .val (.int (0 : Int32)), .val (.int (2 : Int32)), .unset, .unset]) rfl ?_
      refine own_iload X hx (hb hby at_55) (pc' := 57) rfl rfl ?_
      refine own_iconst X hx (1 : Int32) (hb hby at_57) (pc' := 58) rfl rfl ?_
      refine own_iadd X hx (hb hby at_58) (pc' := 59) rfl ?_
      rw [show ((0 : Int32) + (1 : Int32)) = (1 : Int32) from by decide]
      refine own_iload X hx (hb hby at_59) (pc' := 61) rfl rfl ?_
      refine own_iadd X hx (hb hby at_61) (pc' := 62) rfl ?_
      rw [show ((1 : Int32) + (2 : Int32)) = (3 : Int32) from by decide]
      refine own_istore X hx (hb hby at_62) (pc' := 64) rfl (Ls' := #[.val (.int p0), .val (.int p1), .val (.ref sa1), .val (.ref sa2), .val (.ref pa), .val (.ref ea), .val (.ref qa), .val (.int (0 : Int32)), .val (.int (2 : Int32)), .val (.int (3 : Int32)), .unset]) rfl ?_
      refine own_aload X hx (hb hby at_64) (pc' := 66) rfl rfl rfl ?_
      refine own_callV X hx hZ (y := (⟨"java/lang/String", "length", "()I"⟩ : MethodName)) ea [] hown (own_w hw 167 rfl) (own_w hw 59 rfl) (own_w hw 61 rfl) (own_w hw 60 rfl) (own_w hw 6 rfl) (own_w hw 62 rfl) (by decide) (rm_len l Z a0 hw [] ea eb cs (3 : Int32) h43 n0 Z0 S_C hcs E_e C_e V_e _ _ A_e) E_e eT (W := 0) (by decide) (by decide) (cells' := 25) (slots' := 110) rfl rfl (by decide) (by decide) (by rw [hml]; rfl) (lenOf own_pd_2829I rfl) rfl (S := []) rfl (Nat.le_of_eq rfl) (hb hby at_66) (pc' := 69) rfl ?_
      intro v T h48 L lc X eT hq fN
      obtain ⟨rfl, Nq, hqe⟩ := hq
      have N := fN _ N Nq
      rw [hqe] at eT
      show own_W _ _ _ _ _ _ _ _ [(.int (3 : Int32))]
      refine own_iload X hx (hb hby at_69) (pc' := 71) rfl rfl ?_
      refine own_icmpY X hx (hb hby at_71) (by decide) (pc' := 76) rfl (show (3 : Int32) = (3 : Int32) from (by decide)) ?_
      refine own_aload X hx (hb hby at_76) (pc' := 78) rfl rfl rfl ?_
      refine own_callV X hx hZ (y := (⟨"java/lang/String", "length", "()I"⟩ : MethodName)) qa [] hown (own_w hw 167 rfl) (own_w hw 59 rfl) (own_w hw 61 rfl) (own_w hw 60 rfl) (own_w hw 6 rfl) (own_w hw 62 rfl) (by decide) (rm_len l Z a0 hw [] qa qb cs (4 : Int32) h43 n0 Z0 S_C hcs E_q C_q V_q _ _ A_q) E_q eT (W := 0) (by decide) (by decide) (cells' := 25) (slots' := 110) rfl rfl (by decide) (by decide) (by rw [hml]; rfl) (lenOf own_pd_2829I rfl) rfl (S := []) rfl (Nat.le_of_eq rfl) (hb hby at_78) (pc' := 81) rfl ?_
      intro v T h49 L lc X eT hq fN
      obtain ⟨rfl, Nq, hqe⟩ := hq
      have N := fN _ N Nq
      rw [hqe] at eT
      show own_W _ _ _ _ _ _ _ _ [(.int (4 : Int32))]
      refine own_iload X hx (hb hby at_81) (pc' := 83) rfl rfl ?_
      refine own_iconst X hx (1 : Int32) (hb hby at_83) (pc' := 84) rfl rfl ?_
      refine own_iadd X hx (hb hby at_84) (pc' := 85) rfl ?_
      rw [show ((3 : Int32) + (1 : Int32)) = (4 : Int32) from by decide]
      refine own_iload X hx (hb hby at_85) (pc' := 87) rfl rfl ?_
      refine own_iadd X hx (hb hby at_87) (pc' := 88) rfl ?_
      rw [show ((4 : Int32) + (0 : Int32)) = (4 : Int32) from by decide]
      refine own_icmpY X hx (hb hby at_88) (by decide) (pc' := 93) rfl (show (4 : Int32) = (4 : Int32) from (by decide)) ?_
      refine own_aload X hx (hb hby at_93) (pc' := 95) rfl rfl rfl ?_
      refine own_aloadN X hx (hb hby at_95) (pc' := 96) rfl rfl rfl ?_
      refine own_aloadN X hx (hb hby at_96) (pc' := 97) rfl rfl rfl ?_
      refine own_iconst X hx (0 : Int32) (hb hby at_97) (pc' := 98) rfl rfl ?_
      refine own_callS X hx hZ [(.ref ea), (.ref sa1), (.ref sa2), (.int (0 : Int32))] hown (own_w hw 168 rfl) (own_w hw 169 rfl) (own_w hw 2 rfl) (own_w hw 170 rfl) (by decide) (rm_xo l Z a0 hw [] ea eb (3 : Int32) [(.int (46 : Int32)), (.int f0), (.int f1)] sa1 sb1 sa2 sb2 (0 : Int32) (0 : Int32) (2 : Int32) cs fm [] [(.int f0), (.int f1)] h43 n0 Z0 S_C hcs S_F hfm E_1 C_1 V_1 _ A_1 E_2 C_2 V_2 _ A_2 own_in0 (own_inS (own_inS own_in0)) own_f37 E_e C_e V_e _ A_e (own_inS (own_inS (own_inS own_in0))) own_f38 (((own_at_lt own_f120).trans (congrArg own_cx (own_bv_eq (46 : Int32) own_f34 rfl))).trans (Eq.trans own_cx46 (own_ee2 own_f35 own_f36).symm))) eT (W := 0) (by decide) (by decide) (cells' := 25) (slots' := 110) rfl rfl (by decide) (by decide) (by rw [hml]; rfl) (lenOf own_pd_28Ljava2flang2fString3bLjava2flang2fString3bLjava2flang2fString3bI29Z rfl) rfl (S := []) rfl (Nat.le_of_eq rfl) (hb hby at_98) (pc' := 101) rfl ?_
      intro v T h50 L lc X eT hq fN
      obtain ⟨rfl, Nq, hqe⟩ := hq
      have N := fN _ N Nq
      rw [hqe] at eT
      show own_W _ _ _ _ _ _ _ _ [(.int (1 : Int32))]
      refine own_ifN X hx (hb hby at_101) (pc' := 104) rfl (show ¬ ((1 : Int32) = (0 : Int32)) from (by decide)) ?_
      refine own_aload X hx (hb hby at_104) (pc' := 106) rfl rfl rfl ?_
      refine own_aloadN X hx (hb hby at_106) (pc' := 107) rfl rfl rfl ?_
      refine own_aloadN X hx (hb hby at_107) (pc' := 108) rfl rfl rfl ?_
      refine own_iconst X hx (1 : Int32) (hb hby at_108) (pc' := 109) rfl rfl ?_
      refine own_callS X hx hZ [(.ref ea), (.ref sa1), (.ref sa2), (.int (1 : Int32))] hown (own_w hw 168 rfl) (own_w hw 169 rfl) (own_w hw 2 rfl) (own_w hw 170 rfl) (by decide) (rm_xo l Z a0 hw [] ea eb (3 : Int32) [(.int (46 : Int32)), (.int f0), (.int f1)] sa1 sb1 sa2 sb2 (1 : Int32) (0 : Int32) (2 : Int32) cs fm [] [(.int f0), (.int f1)] h43 n0 Z0 S_C hcs S_F hfm E_1 C_1 V_1 _ A_1 E_2 C_2 V_2 _ A_2 own_in0 (own_inS (own_inS own_in0)) own_f21 E_e C_e V_e _ A_e (own_inS (own_inS (own_inS own_in0))) own_f43 (((own_at_lt own_f123).trans (congrArg own_cx (own_bv_eq f0 own_f65 rfl))).trans ((own_ee3 own_f41 own_f42).trans ((own_at_lt own_f165).trans (congrArg own_cx (own_bv_eq f0 own_f116 rfl)))).symm)) eT (W := 0) (by decide) (by decide) (cells' := 25) (slots' := 110) rfl rfl (by decide) (by decide) (by rw [hml]; rfl) (lenOf own_pd_28Ljava2flang2fString3bLjava2flang2fString3bLjava2flang2fString3bI29Z rfl) rfl (S := []) rfl (Nat.le_of_eq rfl) (hb hby at_109) (pc' := 112) rfl ?_
      intro v T h51 L lc X eT hq fN
      obtain ⟨rfl, Nq, hqe⟩ := hq
      have N := fN _ N Nq
      rw [hqe] at eT
      show own_W _ _ _ _ _ _ _ _ [(.int (1 : Int32))]
      refine own_ifN X hx (hb hby at_112) (pc' := 115) rfl (show ¬ ((1 : Int32) = (0 : Int32)) from (by decide)) ?_
      refine own_aload X hx (hb hby at_115) (pc' := 117) rfl rfl rfl ?_
      refine own_aloadN X hx (hb hby at_117) (pc' := 118) rfl rfl rfl ?_
      refine own_aloadN X hx (hb hby at_118) (pc' := 119) rfl rfl rfl ?_
      refine own_iconst X hx (2 : Int32) (hb hby at_119) (pc' := 120) rfl rfl ?_
      refine own_callS X hx hZ [(.ref ea), (.ref sa1), (.ref sa2), (.int (2 : Int32))] hown (own_w hw 168 rfl) (own_w hw 169 rfl) (own_w hw 2 rfl) (own_w hw 170 rfl) (by decide) (rm_xo l Z a0 hw [] ea eb (3 : Int32) [(.int (46 : Int32)), (.int f0), (.int f1)] sa1 sb1 sa2 sb2 (2 : Int32) (0 : Int32) (2 : Int32) cs fm [] [(.int f0), (.int f1)] h43 n0 Z0 S_C hcs S_F hfm E_1 C_1 V_1 _ A_1 E_2 C_2 V_2 _ A_2 own_in0 (own_inS (own_inS own_in0)) own_f26 E_e C_e V_e _ A_e (own_inS (own_inS (own_inS own_in0))) own_f48 (((own_at_lt own_f125).trans (congrArg own_cx (own_bv_eq f1 own_f126 rfl))).trans ((own_ee3 own_f46 own_f47).trans ((own_at_lt own_f166).trans (congrArg own_cx (own_bv_eq f1 own_f167 rfl)))).symm)) eT (W := 0) (by decide) (by decide) (cells' := 25) (slots' := 110) rfl rfl (by decide) (by decide) (by rw [hml]; rfl) (lenOf own_pd_28Ljava2flang2fString3bLjava2flang2fString3bLjava2flang2fString3bI29Z rfl) rfl (S := []) rfl (Nat.le_of_eq rfl) (hb hby at_120) (pc' := 123) rfl ?_
      intro v T h52 L lc X eT hq fN
      obtain ⟨rfl, Nq, hqe⟩ := hq
      have N := fN _ N Nq
      rw [hqe] at eT
      show own_W _ _ _ _ _ _ _ _ [(.int (1 : Int32))]
      refine own_ifN X hx (hb hby at_123) (pc' := 126) rfl (show ¬ ((1 : Int32) = (0 : Int32)) from (by decide)) ?_
      refine own_aload X hx (hb hby at_126) (pc' := 128) rfl rfl rfl ?_
      refine own_aloadN X hx (hb hby at_128) (pc' := 129) rfl rfl rfl ?_
      refine own_aloadN X hx (hb hby at_129) (pc' := 130) rfl rfl rfl ?_
      refine own_iconst X hx (3 : Int32) (hb hby at_130) (pc' := 131) rfl rfl ?_
      refine own_callS X hx hZ [(.ref ea), (.ref sa1), (.ref sa2), (.int (3 : Int32))] hown (own_w hw 168 rfl) (own_w hw 169 rfl) (own_w hw 2 rfl) (own_w hw 170 rfl) (by decide) (rm_xo l Z a0 hw [] ea eb (3 : Int32) [(.int (46 : Int32)), (.int f0), (.int f1)] sa1 sb1 sa2 sb2 (3 : Int32) (0 : Int32) (2 : Int32) cs fm [] [(.int f0), (.int f1)] h43 n0 Z0 S_C hcs S_F hfm E_1 C_1 V_1 _ A_1 E_2 C_2 V_2 _ A_2 own_in0 (own_inS (own_inS own_in0)) own_f53 E_e C_e V_e _ A_e (own_inS (own_inS (own_inS own_in0))) own_f54 ((own_at_ge own_f129).trans ((own_ee3 own_f51 own_f52).trans (own_at_ge own_f168)).symm)) eT (W := 0) (by decide) (by decide) (cells' := 25) (slots' := 110) rfl rfl (by decide) (by decide) (by rw [hml]; rfl) (lenOf own_pd_28Ljava2flang2fString3bLjava2flang2fString3bLjava2flang2fString3bI29Z rfl) rfl (S := []) rfl (Nat.le_of_eq rfl) (hb hby at_131) (pc' := 134) rfl ?_
      intro v T h53 L lc X eT hq fN
      obtain ⟨rfl, Nq, hqe⟩ := hq
      have N := fN _ N Nq
      rw [hqe] at eT
      show own_W _ _ _ _ _ _ _ _ [(.int (1 : Int32))]
      refine own_ifN X hx (hb hby at_134) (pc' := 137) rfl (show ¬ ((1 : Int32) = (0 : Int32)) from (by decide)) ?_
      refine own_aload X hx (hb hby at_137) (pc' := 139) rfl rfl rfl ?_
      refine own_aloadN X hx (hb hby at_139) (pc' := 140) rfl rfl rfl ?_
      refine own_aloadN X hx (hb hby at_140) (pc' := 141) rfl rfl rfl ?_
      refine own_iconst X hx (4 : Int32) (hb hby at_141) (pc' := 142) rfl rfl ?_
      refine own_callS X hx hZ [(.ref ea), (.ref sa1), (.ref sa2), (.int (4 : Int32))] hown (own_w hw 168 rfl) (own_w hw 169 rfl) (own_w hw 2 rfl) (own_w hw 170 rfl) (by decide) (rm_xo l Z a0 hw [] ea eb (3 : Int32) [(.int (46 : Int32)), (.int f0), (.int f1)] sa1 sb1 sa2 sb2 (4 : Int32) (0 : Int32) (2 : Int32) cs fm [] [(.int f0), (.int f1)] h43 n0 Z0 S_C hcs S_F hfm E_1 C_1 V_1 _ A_1 E_2 C_2 V_2 _ A_2 own_in0 (own_inS (own_inS own_in0)) own_f59 E_e C_e V_e _ A_e (own_inS (own_inS (own_inS own_in0))) own_f60 ((own_at_ge own_f133).trans ((own_ee3 own_f57 own_f58).trans (own_at_ge own_f169)).symm)) eT (W := 0) (by decide) (by decide) (cells' := 25) (slots' := 110) rfl rfl (by decide) (by decide) (by rw [hml]; rfl) (lenOf own_pd_28Ljava2flang2fString3bLjava2flang2fString3bLjava2flang2fString3bI29Z rfl) rfl (S := []) rfl (Nat.le_of_eq rfl) (hb hby at_142) (pc' := 145) rfl ?_
      intro v T h54 L lc X eT hq fN
      obtain ⟨rfl, Nq, hqe⟩ := hq
      have N := fN _ N Nq
      rw [hqe] at eT
      show own_W _ _ _ _ _ _ _ _ [(.int (1 : Int32))]
      refine own_ifN X hx (hb hby at_145) (pc' := 148) rfl (show ¬ ((1 : Int32) = (0 : Int32)) from (by decide)) ?_
      refine own_iconst X hx (1 : Int32) (hb hby at_148) (pc' := 149) rfl rfl ?_
      refine own_goto X hx (hb hby at_149) (by decide) (pc' := 153) rfl ?_
      refine own_istore X hx (hb hby at_153) (pc' := 155) rfl (Ls' := #[.val (.int p0), .val (.int p1), .val (.ref sa1), .val (.ref sa2), .val (.ref pa), .val (.ref ea), .val (.ref qa), .val (.int (0 : Int32)), .val (.int (2 : Int32)), .val (.int (3 : Int32)), .val (.int (1 : Int32))]) rfl ?_
      refine own_iload X hx (hb hby at_155) (pc' := 157) rfl rfl ?_
      refine own_ifN X hx (hb hby at_157) (pc' := 160) rfl (show ¬ ((1 : Int32) = (0 : Int32)) from (by decide)) ?_
      refine own_aload X hx (hb hby at_160) (pc' := 162) rfl rfl rfl ?_
      refine own_aloadN X hx (hb hby at_162) (pc' := 163) rfl rfl rfl ?_
      refine own_aloadN X hx (hb hby at_163) (pc' := 164) rfl rfl rfl ?_
      refine own_iconst X hx (0 : Int32) (hb hby at_164) (pc' := 165) rfl rfl ?_
      refine own_callS X hx hZ [(.ref qa), (.ref sa1), (.ref sa2), (.int (0 : Int32))] hown (own_w hw 199 rfl) (own_w hw 200 rfl) (own_w hw 2 rfl) (own_w hw 201 rfl) (by decide) (rm_qo l Z a0 hw [] qa qb (4 : Int32) [(.int (46 : Int32)), (.int f0), (.int f1), (.int (46 : Int32))] sa1 sb1 sa2 sb2 (0 : Int32) (0 : Int32) (2 : Int32) cs fm [] [(.int f0), (.int f1)] (3 : Int32) h43 n0 Z0 S_C hcs S_F hfm E_1 C_1 V_1 _ A_1 E_2 C_2 V_2 _ A_2 own_in0 (own_inS (own_inS own_in0)) own_f37 E_q C_q V_q _ A_q (own_inS (own_inS (own_inS (own_inS own_in0)))) own_f38 own_f171 own_f172 (((own_at_lt own_f170).trans (congrArg own_cx (own_bv_eq (46 : Int32) own_f34 rfl))).trans (Eq.trans own_cx46 ((own_qq1 own_f120).trans (own_ee2 own_f35 own_f36)).symm))) eT (W := 0) (by decide) (by decide) (cells' := 25) (slots' := 110) rfl rfl (by decide) (by decide) (by rw [hml]; rfl) (lenOf own_pd_28Ljava2flang2fString3bLjava2flang2fString3bLjava2flang2fString3bI29Z rfl) rfl (S := []) rfl (Nat.le_of_eq rfl) (hb hby at_165) (pc' := 168) rfl ?_
      intro v T h55 L lc X eT hq fN
      obtain ⟨rfl, Nq, hqe⟩ := hq
      have N := fN _ N Nq
      rw [hqe] at eT
      show own_W _ _ _ _ _ _ _ _ [(.int (1 : Int32))]
      refine own_ifN X hx (hb hby at_168) (pc' := 171) rfl (show ¬ ((1 : Int32) = (0 : Int32)) from (by decide)) ?_
      refine own_aload X hx (hb hby at_171) (pc' := 173) rfl rfl rfl ?_
      refine own_aloadN X hx (hb hby at_173) (pc' := 174) rfl rfl rfl ?_
      refine own_aloadN X hx (hb hby at_174) (pc' := 175) rfl rfl rfl ?_
      refine own_iconst X hx (1 : Int32) (hb hby at_175) (pc' := 176) rfl rfl ?_
      refine own_callS X hx hZ [(.ref qa), (.ref sa1), (.ref sa2), (.int (1 : Int32))] hown (own_w hw 199 rfl) (own_w hw 200 rfl) (own_w hw 2 rfl) (own_w hw 201 rfl) (by decide) (rm_qo l Z a0 hw [] qa qb (4 : Int32) [(.int (46 : Int32)), (.int f0), (.int f1), (.int (46 : Int32))] sa1 sb1 sa2 sb2 (1 : Int32) (0 : Int32) (2 : Int32) cs fm [] [(.int f0), (.int f1)] (3 : Int32) h43 n0 Z0 S_C hcs S_F hfm E_1 C_1 V_1 _ A_1 E_2 C_2 V_2 _ A_2 own_in0 (own_inS (own_inS own_in0)) own_f21 E_q C_q V_q _ A_q (own_inS (own_inS (own_inS (own_inS own_in0)))) own_f43 own_f171 own_f174 (((own_at_lt own_f173).trans (congrArg own_cx (own_bv_eq f0 own_f65 rfl))).trans ((own_qq1 own_f123).trans ((own_ee3 own_f41 own_f42).trans ((own_at_lt own_f165).trans (congrArg own_cx (own_bv_eq f0 own_f116 rfl))))).symm)) eT (W := 0) (by decide) (by decide) (cells' := 25) (slots' := 110) rfl rfl (by decide) (by decide) (by rw [hml]; rfl) (lenOf own_pd_28Ljava2flang2fString3bLjava2flang2fString3bLjava2flang2fString3bI29Z rfl) rfl (S := []) rfl (Nat.le_of_eq rfl) (hb hby at_176) (pc' := 179) rfl ?_
      intro v T h56 L lc X eT hq fN
      obtain ⟨rfl, Nq, hqe⟩ := hq
      have N := fN _ N Nq
      rw [hqe] at eT
      show own_W _ _ _ _ _ _ _ _ [(.int (1 : Int32))]
      refine own_ifN X hx (hb hby at_179) (pc' := 182) rfl (show ¬ ((1 : Int32) = (0 : Int32)) from (by decide)) ?_
      refine own_aload X hx (hb hby at_182) (pc' := 184) rfl rfl rfl ?_
      refine own_aloadN X hx (hb hby at_184) (pc' := 185) rfl rfl rfl ?_
      refine own_aloadN X hx (hb hby at_185) (pc' := 186) rfl rfl rfl ?_
      refine own_iconst X hx (2 : Int32) (hb hby at_186) (pc' := 187) rfl rfl ?_
      refine own_callS X hx hZ [(.ref qa), (.ref sa1), (.ref sa2), (.int (2 : Int32))] hown (own_w hw 199 rfl) (own_w hw 200 rfl) (own_w hw 2 rfl) (own_w hw 201 rfl) (by decide) (rm_qo l Z a0 hw [] qa qb (4 : Int32) [(.int (46 : Int32)), (.int f0), (.int f1), (.int (46 : Int32))] sa1 sb1 sa2 sb2 (2 : Int32) (0 : Int32) (2 : Int32) cs fm [] [(.int f0), (.int f1)] (3 : Int32) h43 n0 Z0 S_C hcs S_F hfm E_1 C_1 V_1 _ A_1 E_2 C_2 V_2 _ A_2 own_in0 (own_inS (own_inS own_in0)) own_f26 E_q C_q V_q _ A_q (own_inS (own_inS (own_inS (own_inS own_in0)))) own_f48 own_f171 own_f176 (((own_at_lt own_f175).trans (congrArg own_cx (own_bv_eq f1 own_f126 rfl))).trans ((own_qq1 own_f125).trans ((own_ee3 own_f46 own_f47).trans ((own_at_lt own_f166).trans (congrArg own_cx (own_bv_eq f1 own_f167 rfl))))).symm)) eT (W := 0) (by decide) (by decide) (cells' := 25) (slots' := 110) rfl rfl (by decide) (by decide) (by rw [hml]; rfl) (lenOf own_pd_28Ljava2flang2fString3bLjava2flang2fString3bLjava2flang2fString3bI29Z rfl) rfl (S := []) rfl (Nat.le_of_eq rfl) (hb hby at_187) (pc' := 190) rfl ?_
      intro v T h57 L lc X eT hq fN
      obtain ⟨rfl, Nq, hqe⟩ := hq
      have N := fN _ N Nq
      rw [hqe] at eT
      show own_W _ _ _ _ _ _ _ _ [(.int (1 : Int32))]
      refine own_ifN X hx (hb hby at_190) (pc' := 193) rfl (show ¬ ((1 : Int32) = (0 : Int32)) from (by decide)) ?_
      refine own_aload X hx (hb hby at_193) (pc' := 195) rfl rfl rfl ?_
      refine own_aloadN X hx (hb hby at_195) (pc' := 196) rfl rfl rfl ?_
      refine own_aloadN X hx (hb hby at_196) (pc' := 197) rfl rfl rfl ?_
      refine own_iconst X hx (3 : Int32) (hb hby at_197) (pc' := 198) rfl rfl ?_
      refine own_callS X hx hZ [(.ref qa), (.ref sa1), (.ref sa2), (.int (3 : Int32))] hown (own_w hw 199 rfl) (own_w hw 200 rfl) (own_w hw 2 rfl) (own_w hw 201 rfl) (by decide) (rm_qo l Z a0 hw [] qa qb (4 : Int32) [(.int (46 : Int32)), (.int f0), (.int f1), (.int (46 : Int32))] sa1 sb1 sa2 sb2 (3 : Int32) (0 : Int32) (2 : Int32) cs fm [] [(.int f0), (.int f1)] (3 : Int32) h43 n0 Z0 S_C hcs S_F hfm E_1 C_1 V_1 _ A_1 E_2 C_2 V_2 _ A_2 own_in0 (own_inS (own_inS own_in0)) own_f53 E_q C_q V_q _ A_q (own_inS (own_inS (own_inS (own_inS own_in0)))) own_f54 own_f171 own_f180 (((own_at_lt own_f177).trans (congrArg own_cx (own_bv_eq (46 : Int32) own_f178 rfl))).trans (Eq.trans own_cx46 (own_qq2 own_f129 own_f179).symm))) eT (W := 0) (by decide) (by decide) (cells' := 25) (slots' := 110) rfl rfl (by decide) (by decide) (by rw [hml]; rfl) (lenOf own_pd_28Ljava2flang2fString3bLjava2flang2fString3bLjava2flang2fString3bI29Z rfl) rfl (S := []) rfl (Nat.le_of_eq rfl) (hb hby at_198) (pc' := 201) rfl ?_
      intro v T h58 L lc X eT hq fN
      obtain ⟨rfl, Nq, hqe⟩ := hq
      have N := fN _ N Nq
      rw [hqe] at eT
      show own_W _ _ _ _ _ _ _ _ [(.int (1 : Int32))]
      refine own_ifN X hx (hb hby at_201) (pc' := 204) rfl (show ¬ ((1 : Int32) = (0 : Int32)) from (by decide)) ?_
      refine own_aload X hx (hb hby at_204) (pc' := 206) rfl rfl rfl ?_
      refine own_aloadN X hx (hb hby at_206) (pc' := 207) rfl rfl rfl ?_
      refine own_aloadN X hx (hb hby at_207) (pc' := 208) rfl rfl rfl ?_
      refine own_iconst X hx (4 : Int32) (hb hby at_208) (pc' := 209) rfl rfl ?_
      refine own_callS X hx hZ [(.ref qa), (.ref sa1), (.ref sa2), (.int (4 : Int32))] hown (own_w hw 199 rfl) (own_w hw 200 rfl) (own_w hw 2 rfl) (own_w hw 201 rfl) (by decide) (rm_qo l Z a0 hw [] qa qb (4 : Int32) [(.int (46 : Int32)), (.int f0), (.int f1), (.int (46 : Int32))] sa1 sb1 sa2 sb2 (4 : Int32) (0 : Int32) (2 : Int32) cs fm [] [(.int f0), (.int f1)] (3 : Int32) h43 n0 Z0 S_C hcs S_F hfm E_1 C_1 V_1 _ A_1 E_2 C_2 V_2 _ A_2 own_in0 (own_inS (own_inS own_in0)) own_f59 E_q C_q V_q _ A_q (own_inS (own_inS (own_inS (own_inS own_in0)))) own_f60 own_f171 own_f184 ((own_at_ge own_f181).trans ((own_qq3 own_f133 own_f183).trans (own_at_ge own_f182)).symm)) eT (W := 0) (by decide) (by decide) (cells' := 25) (slots' := 110) rfl rfl (by decide) (by decide) (by rw [hml]; rfl) (lenOf own_pd_28Ljava2flang2fString3bLjava2flang2fString3bLjava2flang2fString3bI29Z rfl) rfl (S := []) rfl (Nat.le_of_eq rfl) (hb hby at_209) (pc' := 212) rfl ?_
      intro v T h59 L lc X eT hq fN
      obtain ⟨rfl, Nq, hqe⟩ := hq
      have N := fN _ N Nq
      rw [hqe] at eT
      show own_W _ _ _ _ _ _ _ _ [(.int (1 : Int32))]
      refine own_ifN X hx (hb hby at_212) (pc' := 215) rfl (show ¬ ((1 : Int32) = (0 : Int32)) from (by decide)) ?_
      refine own_aload X hx (hb hby at_215) (pc' := 217) rfl rfl rfl ?_
      refine own_aloadN X hx (hb hby at_217) (pc' := 218) rfl rfl rfl ?_
      refine own_aloadN X hx (hb hby at_218) (pc' := 219) rfl rfl rfl ?_
      refine own_iconst X hx (5 : Int32) (hb hby at_219) (pc' := 220) rfl rfl ?_
      refine own_callS X hx hZ [(.ref qa), (.ref sa1), (.ref sa2), (.int (5 : Int32))] hown (own_w hw 199 rfl) (own_w hw 200 rfl) (own_w hw 2 rfl) (own_w hw 201 rfl) (by decide) (rm_qo l Z a0 hw [] qa qb (4 : Int32) [(.int (46 : Int32)), (.int f0), (.int f1), (.int (46 : Int32))] sa1 sb1 sa2 sb2 (5 : Int32) (0 : Int32) (2 : Int32) cs fm [] [(.int f0), (.int f1)] (3 : Int32) h43 n0 Z0 S_C hcs S_F hfm E_1 C_1 V_1 _ A_1 E_2 C_2 V_2 _ A_2 own_in0 (own_inS (own_inS own_in0)) own_f84 E_q C_q V_q _ A_q (own_inS (own_inS (own_inS (own_inS own_in0)))) own_f85 own_f171 own_f188 ((own_at_ge own_f185).trans ((own_qq3 own_f137 own_f187).trans (own_at_ge own_f186)).symm)) eT (W := 0) (by decide) (by decide) (cells' := 25) (slots' := 110) rfl rfl (by decide) (by decide) (by rw [hml]; rfl) (lenOf own_pd_28Ljava2flang2fString3bLjava2flang2fString3bLjava2flang2fString3bI29Z rfl) rfl (S := []) rfl (Nat.le_of_eq rfl) (hb hby at_220) (pc' := 223) rfl ?_
      intro v T h60 L lc X eT hq fN
      obtain ⟨rfl, Nq, hqe⟩ := hq
      have N := fN _ N Nq
      rw [hqe] at eT
      show own_W _ _ _ _ _ _ _ _ [(.int (1 : Int32))]
      refine own_ifN X hx (hb hby at_223) (pc' := 226) rfl (show ¬ ((1 : Int32) = (0 : Int32)) from (by decide)) ?_
      refine own_aload X hx (hb hby at_226) (pc' := 228) rfl rfl rfl ?_
      refine own_aloadN X hx (hb hby at_228) (pc' := 229) rfl rfl rfl ?_
      refine own_aloadN X hx (hb hby at_229) (pc' := 230) rfl rfl rfl ?_
      refine own_bipush X hx (6 : Int32) (hb hby at_230) (pc' := 232) rfl rfl ?_
      refine own_callS X hx hZ [(.ref qa), (.ref sa1), (.ref sa2), (.int (6 : Int32))] hown (own_w hw 199 rfl) (own_w hw 200 rfl) (own_w hw 2 rfl) (own_w hw 201 rfl) (by decide) (rm_qo l Z a0 hw [] qa qb (4 : Int32) [(.int (46 : Int32)), (.int f0), (.int f1), (.int (46 : Int32))] sa1 sb1 sa2 sb2 (6 : Int32) (0 : Int32) (2 : Int32) cs fm [] [(.int f0), (.int f1)] (3 : Int32) h43 n0 Z0 S_C hcs S_F hfm E_1 C_1 V_1 _ A_1 E_2 C_2 V_2 _ A_2 own_in0 (own_inS (own_inS own_in0)) own_f91 E_q C_q V_q _ A_q (own_inS (own_inS (own_inS (own_inS own_in0)))) own_f92 own_f171 own_f192 ((own_at_ge own_f189).trans ((own_qq3 own_f141 own_f191).trans (own_at_ge own_f190)).symm)) eT (W := 0) (by decide) (by decide) (cells' := 25) (slots' := 110) rfl rfl (by decide) (by decide) (by rw [hml]; rfl) (lenOf own_pd_28Ljava2flang2fString3bLjava2flang2fString3bLjava2flang2fString3bI29Z rfl) rfl (S := []) rfl (Nat.le_of_eq rfl) (hb hby at_232) (pc' := 235) rfl ?_
      intro v T h61 L lc X eT hq fN
      obtain ⟨rfl, Nq, hqe⟩ := hq
      have N := fN _ N Nq
      rw [hqe] at eT
      show own_W _ _ _ _ _ _ _ _ [(.int (1 : Int32))]
      refine own_ifN X hx (hb hby at_235) (pc' := 238) rfl (show ¬ ((1 : Int32) = (0 : Int32)) from (by decide)) ?_
      refine own_aload X hx (hb hby at_238) (pc' := 240) rfl rfl rfl ?_
      refine own_aloadN X hx (hb hby at_240) (pc' := 241) rfl rfl rfl ?_
      refine own_aloadN X hx (hb hby at_241) (pc' := 242) rfl rfl rfl ?_
      refine own_bipush X hx (7 : Int32) (hb hby at_242) (pc' := 244) rfl rfl ?_
      refine own_callS X hx hZ [(.ref qa), (.ref sa1), (.ref sa2), (.int (7 : Int32))] hown (own_w hw 199 rfl) (own_w hw 200 rfl) (own_w hw 2 rfl) (own_w hw 201 rfl) (by decide) (rm_qo l Z a0 hw [] qa qb (4 : Int32) [(.int (46 : Int32)), (.int f0), (.int f1), (.int (46 : Int32))] sa1 sb1 sa2 sb2 (7 : Int32) (0 : Int32) (2 : Int32) cs fm [] [(.int f0), (.int f1)] (3 : Int32) h43 n0 Z0 S_C hcs S_F hfm E_1 C_1 V_1 _ A_1 E_2 C_2 V_2 _ A_2 own_in0 (own_inS (own_inS own_in0)) own_f98 E_q C_q V_q _ A_q (own_inS (own_inS (own_inS (own_inS own_in0)))) own_f99 own_f171 own_f196 ((own_at_ge own_f193).trans ((own_qq3 own_f145 own_f195).trans (own_at_ge own_f194)).symm)) eT (W := 0) (by decide) (by decide) (cells' := 25) (slots' := 110) rfl rfl (by decide) (by decide) (by rw [hml]; rfl) (lenOf own_pd_28Ljava2flang2fString3bLjava2flang2fString3bLjava2flang2fString3bI29Z rfl) rfl (S := []) rfl (Nat.le_of_eq rfl) (hb hby at_244) (pc' := 247) rfl ?_
      intro v T h62 L lc X eT hq fN
      obtain ⟨rfl, Nq, hqe⟩ := hq
      have N := fN _ N Nq
      rw [hqe] at eT
      show own_W _ _ _ _ _ _ _ _ [(.int (1 : Int32))]
      refine own_ifN X hx (hb hby at_247) (pc' := 250) rfl (show ¬ ((1 : Int32) = (0 : Int32)) from (by decide)) ?_
      refine own_iconst X hx (1 : Int32) (hb hby at_250) (pc' := 251) rfl rfl ?_
      refine own_goto X hx (hb hby at_251) (by decide) (pc' := 255) rfl ?_
      refine own_istore X hx (hb hby at_255) (pc' := 257) rfl (Ls' := #[.val (.int p0), .val (.int p1), .val (.ref sa1), .val (.ref sa2), .val (.ref pa), .val (.ref ea), .val (.ref qa), .val (.int (0 : Int32)), .val (.int (2 : Int32)), .val (.int (3 : Int32)), .val (.int (1 : Int32))]) rfl ?_
      refine own_iload X hx (hb hby at_257) (pc' := 259) rfl rfl ?_
      refine own_retIS X hx hlk hZ eT hh hS hk hEL H CR (t := .boolean) (w' := (.int (1 : Int32))) Bd.returns (hb hby at_259) rfl rfl (by simp) (by decide) (by decide) ?_
      rw [eT]
      exact ⟨rfl, N⟩
  · show own_W _ _ _ _ _ _ _ _ [(.ref sa1)]
    refine own_astoreN X hx (hb hby at_4) (pc' := 5) rfl rfl (Ls' := #[.val (.int p0), .val (.int p1), .val (.ref sa1), .unset, .unset, .unset, .unset, .unset, .unset, .unset, .unset]) rfl ?_
    refine own_iloadN X hx (hb hby at_5) (pc' := 6) rfl rfl ?_
    refine own_callSS X hx hZ [(.int p1)] hown (own_w hw 0 rfl) (own_w hw 1 rfl) (own_w hw 2 rfl) (own_w hw 3 rfl) (by decide) (rm_str l Z a0 hw hEL [] p1 cs h1 n0 Z0 S_C hcs) eT hS hk hEL H (W := 0) (by decide) (by decide) (cells' := 12) (slots' := 28) rfl rfl (by decide) (by decide) (by rw [hml]; rfl) (lenOf own_pd_28I29Ljava2flang2fString3b rfl) rfl (S := []) rfl (Nat.le_of_eq rfl) (hb hby at_6) (pc' := 9) rfl ?_
    intro v T h63 L lc vm0 k1 X eT hS hk hZ hown CQ hq fN
    obtain ⟨sa2, sb2, k_2, rfl, Nq, Kq, E_2, C_2, V_2, hv⟩ := hq
    have N := fN _ N Nq
    have CR := CR.trans CQ
    have H := CQ.1
    have S_C := own_sta_keep S_C Kq ns0
    have S_F := own_sta_keep S_F Kq ns0
    have E_1 := E_1.keep Kq
    have C_1 := C_1.keep Kq nin0
    have V_1 := V_1.keep Kq nin0
    have A_1 := A_1.keep Kq nin0
    have Z0 := Nat.le_trans Z0 Kq.1
    rcases hv with A_2 | ⟨f0, A_2⟩ | ⟨f0, f1, A_2⟩
    · show own_W _ _ _ _ _ _ _ _ [(.ref sa2)]
      refine own_astoreN X hx (hb hby at_9) (pc' := 10) rfl rfl (Ls' := #[.val (.int p0), .val (.int p1), .val (.ref sa1), .val (.ref sa2), .unset, .unset, .unset, .unset, .unset, .unset, .unset]) rfl ?_
      refine own_aloadN X hx (hb hby at_10) (pc' := 11) rfl rfl rfl ?_
      refine own_aloadN X hx (hb hby at_11) (pc' := 12) rfl rfl rfl ?_
      refine own_callSS X hx hZ [(.ref sa1), (.ref sa2)] hown (own_w hw 26 rfl) (own_w hw 27 rfl) (own_w hw 28 rfl) (own_w hw 29 rfl) (by decide) (rm_af l Z a0 hw hEL [] sa1 sa2 sb1 sb2 (1 : Int32) (0 : Int32) cs (1 : Int32) (2 : Int32) (2 : Int32) (2 : Int32) (3 : Int32) (4 : Int32) 1 0 1 2 2 2 3 4 [(.int d0)] [] [(.int d0), (.int (0 : Int32)), (.int (0 : Int32)), (.int (0 : Int32)), (.int (0 : Int32)), (.int (0 : Int32)), (.int (0 : Int32)), (.int (0 : Int32)), (.int (0 : Int32)), (.int (0 : Int32)), (.int (0 : Int32)), (.int (0 : Int32)), (.int (0 : Int32)), (.int (0 : Int32)), (.int (0 : Int32)), (.int (0 : Int32))] [(.int d0), (.int (46 : Int32)), (.int (0 : Int32)), (.int (0 : Int32)), (.int (0 : Int32)), (.int (0 : Int32)), (.int (0 : Int32)), (.int (0 : Int32)), (.int (0 : Int32)), (.int (0 : Int32)), (.int (0 : Int32)), (.int (0 : Int32)), (.int (0 : Int32)), (.int (0 : Int32)), (.int (0 : Int32)), (.int (0 : Int32))] [(.int d0), (.int (46 : Int32)), (.int (0 : Int32)), (.int (0 : Int32)), (.int (0 : Int32)), (.int (0 : Int32)), (.int (0 : Int32)), (.int (0 : Int32)), (.int (0 : Int32)), (.int (0 : Int32)), (.int (0 : Int32)), (.int (0 : Int32)), (.int (0 : Int32)), (.int (0 : Int32)), (.int (0 : Int32)), (.int (0 : Int32))] [(.int d0), (.int (46 : Int32)), (.int (0 : Int32)), (.int (0 : Int32)), (.int (0 : Int32)), (.int (0 : Int32)), (.int (0 : Int32)), (.int (0 : Int32)), (.int (0 : Int32)), (.int (0 : Int32)), (.int (0 : Int32)), (.int (0 : Int32)), (.int (0 : Int32)), (.int (0 : Int32)), (.int (0 : Int32)), (.int (0 : Int32))] [(.int d0), (.int (46 : Int32)), (.int (46 : Int32)), (.int (0 : Int32)), (.int (0 : Int32)), (.int (0 : Int32)), (.int (0 : Int32)), (.int (0 : Int32)), (.int (0 : Int32)), (.int (0 : Int32)), (.int (0 : Int32)), (.int (0 : Int32)), (.int (0 : Int32)), (.int (0 : Int32)), (.int (0 : Int32)), (.int (0 : Int32))] [(.int d0), (.int (46 : Int32)), (.int (46 : Int32)), (.int d0), (.int (0 : Int32)), (.int (0 : Int32)), (.int (0 : Int32)), (.int (0 : Int32)), (.int (0 : Int32)), (.int (0 : Int32)), (.int (0 : Int32)), (.int (0 : Int32)), (.int (0 : Int32)), (.int (0 : Int32)), (.int (0 : Int32)), (.int (0 : Int32))] [(.int d0), (.int (46 : Int32))] [(.int d0), (.int (46 : Int32)), (.int (46 : Int32)), (.int d0)] h63 n0 Z0 S_C hcs E_1 C_1 V_1 _ A_1 E_2 C_2 V_2 _ A_2 ⟨own_f6, own_f7, own_f2, own_f3, own_f8, own_f9, own_f10, (Nat.le_of_ble_eq_true rfl), (Nat.le_of_ble_eq_true rfl), rfl⟩ ⟨own_f14, own_f15, own_f12, own_f8, own_f8, own_f9, own_f16, (Nat.le_of_ble_eq_true rfl), (Nat.le_of_ble_eq_true rfl), rfl⟩ ⟨own_f14, own_f17, own_f18, own_f19, own_f3, own_f4, own_f20, (Nat.le_of_ble_eq_true rfl), (Nat.le_of_ble_eq_true rfl), rfl⟩ ⟨own_f14, own_f101, own_f2, own_f3, own_f19, own_f32, own_f31, (Nat.le_of_ble_eq_true rfl), (Nat.le_of_ble_eq_true rfl), rfl⟩ ⟨own_f102, own_f103, own_f18, own_f19, own_f8, own_f9, own_f104, (Nat.le_of_ble_eq_true rfl), (Nat.le_of_ble_eq_true rfl), rfl⟩ ⟨own_f152, own_f153, own_f106, own_f107, own_f8, own_f9, own_f154, (Nat.le_of_ble_eq_true rfl), (Nat.le_of_ble_eq_true rfl), rfl⟩ ⟨own_f26, own_f27, own_f28, own_f19, own_f29, own_f30, own_f31, own_f32, (Nat.le_of_ble_eq_true rfl), rfl⟩ ⟨own_f59, own_f159, own_f160, own_f157, own_f161, own_f162, own_f163, own_f164, (Nat.le_of_ble_eq_true rfl), rfl⟩) eT hS hk hEL H (W := 0) (by decide) (by decide) (cells' := 25) (slots' := 110) rfl rfl (by decide) (by decide) (by rw [hml]; rfl) (lenOf own_pd_28Ljava2flang2fString3bLjava2flang2fString3b29Lcom2fexample2frunnel2frunnel2fbroker2fPipe3b rfl) rfl (S := []) rfl (Nat.le_of_eq rfl) (hb hby at_12) (pc' := 15) rfl ?_
      intro v T h64 L lc vm0 k1 X eT hS hk hZ hown CQ hq fN
      obtain ⟨pa, ea, eb, qa, qb, k_e, k_q, rfl, Nq, Kq, E_p, F_x, F_q, ⟨E_e, C_e, V_e, A_e⟩, ⟨E_q, C_q, V_q, A_q⟩⟩ := hq
      have N := fN _ N Nq
      have CR := CR.trans CQ
      have H := CQ.1
      have S_C := own_sta_keep S_C Kq ns0
      have S_F := own_sta_keep S_F Kq ns0
      have E_1 := E_1.keep Kq
      have C_1 := C_1.keep Kq nin0
      have V_1 := V_1.keep Kq nin0
      have A_1 := A_1.keep Kq nin0
      have E_2 := E_2.keep Kq
      have C_2 := C_2.keep Kq nin0
      have V_2 := V_2.keep Kq nin0
      have A_2 := A_2.keep Kq nin0
      have Z0 := Nat.le_trans Z0 Kq.1
      show own_W _ _ _ _ _ _ _ _ [(.ref pa)]
      refine own_astore X hx (hb hby at_15) (pc' := 17) rfl rfl (Ls' := #[.val (.int p0), .val (.int p1), .val (.ref sa1), .val (.ref sa2), .val (.ref pa), .unset, .unset, .unset, .unset, .unset, .unset]) rfl ?_
      refine own_aload X hx (hb hby at_17) (pc' := 19) rfl rfl rfl ?_
      refine own_callV X hx hZ (y := (⟨"com/example/runnel/runnel/broker/Pipe", "exchange", "()Ljava/lang/String;"⟩ : MethodName)) pa [] hown (own_w hw 157 rfl) (own_w hw 158 rfl) (own_w hw 160 rfl) (own_w hw 159 rfl) (own_w hw 28 rfl) (own_w hw 161 rfl) (by decide) (rm_ex l Z a0 hw [] pa ea h64 n0 Z0 F_x) E_p eT (W := 0) (by decide) (by decide) (cells' := 25) (slots' := 110) rfl rfl (by decide) (by decide) (by rw [hml]; rfl) (lenOf own_pd_2829Ljava2flang2fString3b rfl) rfl (S := []) rfl (Nat.le_of_eq rfl) (hb hby at_19) (pc' := 22) rfl ?_
      intro v T h65 L lc X eT hq fN
      obtain ⟨rfl, Nq, hqe⟩ := hq
      have N := fN _ N Nq
      rw [hqe] at eT
      show own_W _ _ _ _ _ _ _ _ [(.ref ea)]
      refine own_astore X hx (hb hby at_22) (pc' := 24) rfl rfl (Ls' := #[.val (.int p0), .val (.int p1), .val (.ref sa1), .val (.ref sa2), .val (.ref pa), .val (.ref ea), .unset, .unset, .unset, .unset, .unset]) rfl ?_
      refine own_aload X hx (hb hby at_24) (pc' := 26) rfl rfl rfl ?_
      refine own_callV X hx hZ (y := (⟨"com/example/runnel/runnel/broker/Pipe", "queue", "()Ljava/lang/String;"⟩ : MethodName)) pa [] hown (own_w hw 162 rfl) (own_w hw 163 rfl) (own_w hw 165 rfl) (own_w hw 164 rfl) (own_w hw 28 rfl) (own_w hw 166 rfl) (by decide) (rm_qu l Z a0 hw [] pa qa h64 n0 Z0 F_q) E_p eT (W := 0) (by decide) (by decide) (cells' := 25) (slots' := 110) rfl rfl (by decide) (by decide) (by rw [hml]; rfl) (lenOf own_pd_2829Ljava2flang2fString3b rfl) rfl (S := []) rfl (Nat.le_of_eq rfl) (hb hby at_26) (pc' := 29) rfl ?_
      intro v T h66 L lc X eT hq fN
      obtain ⟨rfl, Nq, hqe⟩ := hq
      have N := fN _ N Nq
      rw [hqe] at eT
      show own_W _ _ _ _ _ _ _ _ [(.ref qa)]
      refine own_astore X hx (hb hby at_29) (pc' := 31) rfl rfl (Ls' := #[.val (.int p0), .val (.int p1), .val (.ref sa1), .val (.ref sa2), .val (.ref pa), .val (.ref ea), .val (.ref qa), .unset, .unset, .unset, .unset]) rfl ?_
      refine own_aload X hx (hb hby at_31) (pc' := 33) rfl rfl rfl ?_
      refine own_ifnullN X hx (hb hby at_33) (pc' := 36) rfl ?_
      refine own_aload X hx (hb hby at_36) (pc' := 38) rfl rfl rfl ?_
      refine own_ifnonnullY X hx (hb hby at_38) (by decide) (pc' := 43) rfl ?_
      refine own_aloadN X hx (hb hby at_43) (pc' := 44) rfl rfl rfl ?_
      refine own_callV X hx hZ (y := (⟨"java/lang/String", "length", "()I"⟩ : MethodName)) sa1 [] hown (own_w hw 167 rfl) (own_w hw 59 rfl) (own_w hw 61 rfl) (own_w hw 60 rfl) (own_w hw 6 rfl) (own_w hw 62 rfl) (by decide) (rm_len l Z a0 hw [] sa1 sb1 cs (1 : Int32) h64 n0 Z0 S_C hcs E_1 C_1 V_1 _ _ A_1) E_1 eT (W := 0) (by decide) (by decide) (cells' := 25) (slots' := 110) rfl rfl (by decide) (by decide) (by rw [hml]; rfl) (lenOf own_pd_2829I rfl) rfl (S := []) rfl (Nat.le_of_eq rfl) (hb hby at_44) (pc' := 47) rfl ?_
      intro v T h67 L lc X eT hq fN
      obtain ⟨rfl, Nq, hqe⟩ := hq
      have N := fN _ N Nq
      rw [hqe] at eT
      show own_W _ _ _ _ _ _ _ _ [(.int (1 : Int32))]
      refine own_istore X hx (hb hby at_47) (pc' := 49) rfl (Ls' := #[.val (.int p0), .val (.int p1), .val (.ref sa1), .val (.ref sa2), .val (.ref pa), .val (.ref ea), .val (.ref qa), .val (.int (1 : Int32)), .unset, .unset, .unset]) rfl ?_
      refine own_aloadN X hx (hb hby at_49) (pc' := 50) rfl rfl rfl ?_
      refine own_callV X hx hZ (y := (⟨"java/lang/String", "length", "()I"⟩ : MethodName)) sa2 [] hown (own_w hw 167 rfl) (own_w hw 59 rfl) (own_w hw 61 rfl) (own_w hw 60 rfl) (own_w hw 6 rfl) (own_w hw 62 rfl) (by decide) (rm_len l Z a0 hw [] sa2 sb2 cs (0 : Int32) h64 n0 Z0 S_C hcs E_2 C_2 V_2 _ _ A_2) E_2 eT (W := 0) (by decide) (by decide) (cells' := 25) (slots' := 110) rfl rfl (by decide) (by decide) (by rw [hml]; rfl) (lenOf own_pd_2829I rfl) rfl (S := []) rfl (Nat.le_of_eq rfl) (hb hby at_50) (pc' := 53) rfl ?_
      intro v T h68 L lc X eT hq fN
      obtain ⟨rfl, Nq, hqe⟩ := hq
      have N := fN _ N Nq
      rw [hqe] at eT
      show own_W _ _ _ _ _ _ _ _ [(.int (0 : Int32))]
      refine own_istore X hx (hb hby at_53) (pc' := 55) rfl (Ls' := #[.val (.int p0), .val (.int p1), .val (.ref sa1), .val (.ref sa2), .val (.ref pa), .val (.ref ea), .val (.ref qa), .val (.int (1 : Int32)), .val (.int (0 : Int32)), .unset, .unset]) rfl ?_
      refine own_iload X hx (hb hby at_55) (pc' := 57) rfl rfl ?_
      refine own_iconst X hx (1 : Int32) (hb hby at_57) (pc' := 58) rfl rfl ?_
      refine own_iadd X hx (hb hby at_58) (pc' := 59) rfl ?_
      rw [show ((1 : Int32) + (1 : Int32)) = (2 : Int32) from by decide]
      refine own_iload X hx (hb hby at_59) (pc' := 61) rfl rfl ?_
      refine own_iadd X hx (hb hby at_61) (pc' := 62) rfl ?_
      rw [show ((2 : Int32) + (0 : Int32)) = (2 : Int32) from by decide]
      refine own_istore X hx (hb hby at_62) (pc' := 64) rfl (Ls' := #[.val (.int p0), .val (.int p1), .val (.ref sa1), .val (.ref sa2), .val (.ref pa), .val (.ref ea), .val (.ref qa), .val (.int (1 : Int32)), .val (.int (0 : Int32)), .val (.int (2 : Int32)), .unset]) rfl ?_
      refine own_aload X hx (hb hby at_64) (pc' := 66) rfl rfl rfl ?_
      refine own_callV X hx hZ (y := (⟨"java/lang/String", "length", "()I"⟩ : MethodName)) ea [] hown (own_w hw 167 rfl) (own_w hw 59 rfl) (own_w hw 61 rfl) (own_w hw 60 rfl) (own_w hw 6 rfl) (own_w hw 62 rfl) (by decide) (rm_len l Z a0 hw [] ea eb cs (2 : Int32) h64 n0 Z0 S_C hcs E_e C_e V_e _ _ A_e) E_e eT (W := 0) (by decide) (by decide) (cells' := 25) (slots' := 110) rfl rfl (by decide) (by decide) (by rw [hml]; rfl) (lenOf own_pd_2829I rfl) rfl (S := []) rfl (Nat.le_of_eq rfl) (hb hby at_66) (pc' := 69) rfl ?_
      intro v T h69 L lc X eT hq fN
      obtain ⟨rfl, Nq, hqe⟩ := hq
      have N := fN _ N Nq
      rw [hqe] at eT
      show own_W _ _ _ _ _ _ _ _ [(.int (2 : Int32))]
      refine own_iload X hx (hb hby at_69) (pc' := 71) rfl rfl ?_
      refine own_icmpY X hx (hb hby at_71) (by decide) (pc' := 76) rfl (show (2 : Int32) = (2 : Int32) from (by decide)) ?_
      refine own_aload X hx (hb hby at_76) (pc' := 78) rfl rfl rfl ?_
      refine own_callV X hx hZ (y := (⟨"java/lang/String", "length", "()I"⟩ : MethodName)) qa [] hown (own_w hw 167 rfl) (own_w hw 59 rfl) (own_w hw 61 rfl) (own_w hw 60 rfl) (own_w hw 6 rfl) (own_w hw 62 rfl) (by decide) (rm_len l Z a0 hw [] qa qb cs (4 : Int32) h64 n0 Z0 S_C hcs E_q C_q V_q _ _ A_q) E_q eT (W := 0) (by decide) (by decide) (cells' := 25) (slots' := 110) rfl rfl (by decide) (by decide) (by rw [hml]; rfl) (lenOf own_pd_2829I rfl) rfl (S := []) rfl (Nat.le_of_eq rfl) (hb hby at_78) (pc' := 81) rfl ?_
      intro v T h70 L lc X eT hq fN
      obtain ⟨rfl, Nq, hqe⟩ := hq
      have N := fN _ N Nq
      rw [hqe] at eT
      show own_W _ _ _ _ _ _ _ _ [(.int (4 : Int32))]
      refine own_iload X hx (hb hby at_81) (pc' := 83) rfl rfl ?_
      refine own_iconst X hx (1 : Int32) (hb hby at_83) (pc' := 84) rfl rfl ?_
      refine own_iadd X hx (hb hby at_84) (pc' := 85) rfl ?_
      rw [show ((2 : Int32) + (1 : Int32)) = (3 : Int32) from by decide]
      refine own_iload X hx (hb hby at_85) (pc' := 87) rfl rfl ?_
      refine own_iadd X hx (hb hby at_87) (pc' := 88) rfl ?_
      rw [show ((3 : Int32) + (1 : Int32)) = (4 : Int32) from by decide]
      refine own_icmpY X hx (hb hby at_88) (by decide) (pc' := 93) rfl (show (4 : Int32) = (4 : Int32) from (by decide)) ?_
      refine own_aload X hx (hb hby at_93) (pc' := 95) rfl rfl rfl ?_
      refine own_aloadN X hx (hb hby at_95) (pc' := 96) rfl rfl rfl ?_
      refine own_aloadN X hx (hb hby at_96) (pc' := 97) rfl rfl rfl ?_
      refine own_iconst X hx (0 : Int32) (hb hby at_97) (pc' := 98) rfl rfl ?_
      refine own_callS X hx hZ [(.ref ea), (.ref sa1), (.ref sa2), (.int (0 : Int32))] hown (own_w hw 168 rfl) (own_w hw 169 rfl) (own_w hw 2 rfl) (own_w hw 170 rfl) (by decide) (rm_xo l Z a0 hw [] ea eb (2 : Int32) [(.int d0), (.int (46 : Int32))] sa1 sb1 sa2 sb2 (0 : Int32) (1 : Int32) (0 : Int32) cs fm [(.int d0)] [] h64 n0 Z0 S_C hcs S_F hfm E_1 C_1 V_1 _ A_1 E_2 C_2 V_2 _ A_2 (own_inS own_in0) own_in0 own_f37 E_e C_e V_e _ A_e (own_inS (own_inS own_in0)) own_f63 (((own_at_lt own_f61).trans (congrArg own_cx (own_bv_eq d0 own_f34 rfl))).trans ((own_ee1 own_f33).trans (congrArg own_cx (own_bv_eq d0 own_f34 rfl))).symm)) eT (W := 0) (by decide) (by decide) (cells' := 25) (slots' := 110) rfl rfl (by decide) (by decide) (by rw [hml]; rfl) (lenOf own_pd_28Ljava2flang2fString3bLjava2flang2fString3bLjava2flang2fString3bI29Z rfl) rfl (S := []) rfl (Nat.le_of_eq rfl) (hb hby at_98) (pc' := 101) rfl ?_
      intro v T h71 L lc X eT hq fN
      obtain ⟨rfl, Nq, hqe⟩ := hq
      have N := fN _ N Nq
      rw [hqe] at eT
      show own_W _ _ _ _ _ _ _ _ [(.int (1 : Int32))]
      refine own_ifN X hx (hb hby at_101) (pc' := 104) rfl (show ¬ ((1 : Int32) = (0 : Int32)) from (by decide)) ?_
      refine own_aload X hx (hb hby at_104) (pc' := 106) rfl rfl rfl ?_
      refine own_aloadN X hx (hb hby at_106) (pc' := 107) rfl rfl rfl ?_
      refine own_aloadN X hx (hb hby at_107) (pc' := 108) rfl rfl rfl ?_
      refine own_iconst X hx (1 : Int32) (hb hby at_108) (pc' := 109) rfl rfl ?_
      refine own_callS X hx hZ [(.ref ea), (.ref sa1), (.ref sa2), (.int (1 : Int32))] hown (own_w hw 168 rfl) (own_w hw 169 rfl) (own_w hw 2 rfl) (own_w hw 170 rfl) (by decide) (rm_xo l Z a0 hw [] ea eb (2 : Int32) [(.int d0), (.int (46 : Int32))] sa1 sb1 sa2 sb2 (1 : Int32) (1 : Int32) (0 : Int32) cs fm [(.int d0)] [] h64 n0 Z0 S_C hcs S_F hfm E_1 C_1 V_1 _ A_1 E_2 C_2 V_2 _ A_2 (own_inS own_in0) own_in0 own_f21 E_e C_e V_e _ A_e (own_inS (own_inS own_in0)) own_f67 (((own_at_lt own_f64).trans (congrArg own_cx (own_bv_eq (46 : Int32) own_f65 rfl))).trans (Eq.trans own_cx46 (own_ee2 own_f39 own_f66).symm))) eT (W := 0) (by decide) (by decide) (cells' := 25) (slots' := 110) rfl rfl (by decide) (by decide) (by rw [hml]; rfl) (lenOf own_pd_28Ljava2flang2fString3bLjava2flang2fString3bLjava2flang2fString3bI29Z rfl) rfl (S := []) rfl (Nat.le_of_eq rfl) (hb hby at_109) (pc' := 112) rfl ?_
      intro v T h72 L lc X eT hq fN
      obtain ⟨rfl, Nq, hqe⟩ := hq
      have N := fN _ N Nq
      rw [hqe] at eT
      show own_W _ _ _ _ _ _ _ _ [(.int (1 : Int32))]
      refine own_ifN X hx (hb hby at_112) (pc' := 115) rfl (show ¬ ((1 : Int32) = (0 : Int32)) from (by decide)) ?_
      refine own_aload X hx (hb hby at_115) (pc' := 117) rfl rfl rfl ?_
      refine own_aloadN X hx (hb hby at_117) (pc' := 118) rfl rfl rfl ?_
      refine own_aloadN X hx (hb hby at_118) (pc' := 119) rfl rfl rfl ?_
      refine own_iconst X hx (2 : Int32) (hb hby at_119) (pc' := 120) rfl rfl ?_
      refine own_callS X hx hZ [(.ref ea), (.ref sa1), (.ref sa2), (.int (2 : Int32))] hown (own_w hw 168 rfl) (own_w hw 169 rfl) (own_w hw 2 rfl) (own_w hw 170 rfl) (by decide) (rm_xo l Z a0 hw [] ea eb (2 : Int32) [(.int d0), (.int (46 : Int32))] sa1 sb1 sa2 sb2 (2 : Int32) (1 : Int32) (0 : Int32) cs fm [(.int d0)] [] h64 n0 Z0 S_C hcs S_F hfm E_1 C_1 V_1 _ A_1 E_2 C_2 V_2 _ A_2 (own_inS own_in0) own_in0 own_f26 E_e C_e V_e _ A_e (own_inS (own_inS own_in0)) own_f71 ((own_at_ge own_f68).trans ((own_ee3 own_f44 own_f70).trans (own_at_ge own_f69)).symm)) eT (W := 0) (by decide) (by decide) (cells' := 25) (slots' := 110) rfl rfl (by decide) (by decide) (by rw [hml]; rfl) (lenOf own_pd_28Ljava2flang2fString3bLjava2flang2fString3bLjava2flang2fString3bI29Z rfl) rfl (S := []) rfl (Nat.le_of_eq rfl) (hb hby at_120) (pc' := 123) rfl ?_
      intro v T h73 L lc X eT hq fN
      obtain ⟨rfl, Nq, hqe⟩ := hq
      have N := fN _ N Nq
      rw [hqe] at eT
      show own_W _ _ _ _ _ _ _ _ [(.int (1 : Int32))]
      refine own_ifN X hx (hb hby at_123) (pc' := 126) rfl (show ¬ ((1 : Int32) = (0 : Int32)) from (by decide)) ?_
      refine own_aload X hx (hb hby at_126) (pc' := 128) rfl rfl rfl ?_
      refine own_aloadN X hx (hb hby at_128) (pc' := 129) rfl rfl rfl ?_
      refine own_aloadN X hx (hb hby at_129) (pc' := 130) rfl rfl rfl ?_
      refine own_iconst X hx (3 : Int32) (hb hby at_130) (pc' := 131) rfl rfl ?_
      refine own_callS X hx hZ [(.ref ea), (.ref sa1), (.ref sa2), (.int (3 : Int32))] hown (own_w hw 168 rfl) (own_w hw 169 rfl) (own_w hw 2 rfl) (own_w hw 170 rfl) (by decide) (rm_xo l Z a0 hw [] ea eb (2 : Int32) [(.int d0), (.int (46 : Int32))] sa1 sb1 sa2 sb2 (3 : Int32) (1 : Int32) (0 : Int32) cs fm [(.int d0)] [] h64 n0 Z0 S_C hcs S_F hfm E_1 C_1 V_1 _ A_1 E_2 C_2 V_2 _ A_2 (own_inS own_in0) own_in0 own_f53 E_e C_e V_e _ A_e (own_inS (own_inS own_in0)) own_f75 ((own_at_ge own_f72).trans ((own_ee3 own_f49 own_f74).trans (own_at_ge own_f73)).symm)) eT (W := 0) (by decide) (by decide) (cells' := 25) (slots' := 110) rfl rfl (by decide) (by decide) (by rw [hml]; rfl) (lenOf own_pd_28Ljava2flang2fString3bLjava2flang2fString3bLjava2flang2fString3bI29Z rfl) rfl (S := []) rfl (Nat.le_of_eq rfl) (hb hby at_131) (pc' := 134) rfl ?_
      intro v T h74 L lc X eT hq fN
      obtain ⟨rfl, Nq, hqe⟩ := hq
      have N := fN _ N Nq
      rw [hqe] at eT
      show own_W _ _ _ _ _ _ _ _ [(.int (1 : Int32))]
      refine own_ifN X hx (hb hby at_134) (pc' := 137) rfl (show ¬ ((1 : Int32) = (0 : Int32)) from (by decide)) ?_
      refine own_aload X hx (hb hby at_137) (pc' := 139) rfl rfl rfl ?_
      refine own_aloadN X hx (hb hby at_139) (pc' := 140) rfl rfl rfl ?_
      refine own_aloadN X hx (hb hby at_140) (pc' := 141) rfl rfl rfl ?_
      refine own_iconst X hx (4 : Int32) (hb hby at_141) (pc' := 142) rfl rfl ?_
      refine own_callS X hx hZ [(.ref ea), (.ref sa1), (.ref sa2), (.int (4 : Int32))] hown (own_w hw 168 rfl) (own_w hw 169 rfl) (own_w hw 2 rfl) (own_w hw 170 rfl) (by decide) (rm_xo l Z a0 hw [] ea eb (2 : Int32) [(.int d0), (.int (46 : Int32))] sa1 sb1 sa2 sb2 (4 : Int32) (1 : Int32) (0 : Int32) cs fm [(.int d0)] [] h64 n0 Z0 S_C hcs S_F hfm E_1 C_1 V_1 _ A_1 E_2 C_2 V_2 _ A_2 (own_inS own_in0) own_in0 own_f59 E_e C_e V_e _ A_e (own_inS (own_inS own_in0)) own_f79 ((own_at_ge own_f76).trans ((own_ee3 own_f55 own_f78).trans (own_at_ge own_f77)).symm)) eT (W := 0) (by decide) (by decide) (cells' := 25) (slots' := 110) rfl rfl (by decide) (by decide) (by rw [hml]; rfl) (lenOf own_pd_28Ljava2flang2fString3bLjava2flang2fString3bLjava2flang2fString3bI29Z rfl) rfl (S := []) rfl (Nat.le_of_eq rfl) (hb hby at_142) (pc' := 145) rfl ?_
      intro v T h75 L lc X eT hq fN
      obtain ⟨rfl, Nq, hqe⟩ := hq
      have N := fN _ N Nq
      rw [hqe] at eT
      show own_W _ _ _ _ _ _ _ _ [(.int (1 : Int32))]
      refine own_ifN X hx (hb hby at_145) (pc' := 148) rfl (show ¬ ((1 : Int32) = (0 : Int32)) from (by decide)) ?_
      refine own_iconst X hx (1 : Int32) (hb hby at_148) (pc' := 149) rfl rfl ?_
      refine own_goto X hx (hb hby at_149) (by decide) (pc' := 153) rfl ?_
      refine own_istore X hx (hb hby at_153) (pc' := 155) rfl (Ls' := #[.val (.int p0), .val (.int p1), .val (.ref sa1), .val (.ref sa2), .val (.ref pa), .val (.ref ea), .val (.ref qa), .val (.int (1 : Int32)), .val (.int (0 : Int32)), .val (.int (2 : Int32)), .val (.int (1 : Int32))]) rfl ?_
      refine own_iload X hx (hb hby at_155) (pc' := 157) rfl rfl ?_
      refine own_ifN X hx (hb hby at_157) (pc' := 160) rfl (show ¬ ((1 : Int32) = (0 : Int32)) from (by decide)) ?_
      refine own_aload X hx (hb hby at_160) (pc' := 162) rfl rfl rfl ?_
      refine own_aloadN X hx (hb hby at_162) (pc' := 163) rfl rfl rfl ?_
      refine own_aloadN X hx (hb hby at_163) (pc' := 164) rfl rfl rfl ?_
      refine own_iconst X hx (0 : Int32) (hb hby at_164) (pc' := 165) rfl rfl ?_
      refine own_callS X hx hZ [(.ref qa), (.ref sa1), (.ref sa2), (.int (0 : Int32))] hown (own_w hw 199 rfl) (own_w hw 200 rfl) (own_w hw 2 rfl) (own_w hw 201 rfl) (by decide) (rm_qo l Z a0 hw [] qa qb (4 : Int32) [(.int d0), (.int (46 : Int32)), (.int (46 : Int32)), (.int d0)] sa1 sb1 sa2 sb2 (0 : Int32) (1 : Int32) (0 : Int32) cs fm [(.int d0)] [] (2 : Int32) h64 n0 Z0 S_C hcs S_F hfm E_1 C_1 V_1 _ A_1 E_2 C_2 V_2 _ A_2 (own_inS own_in0) own_in0 own_f37 E_q C_q V_q _ A_q (own_inS (own_inS (own_inS (own_inS own_in0)))) own_f63 own_f197 own_f122 (((own_at_lt own_f170).trans (congrArg own_cx (own_bv_eq d0 own_f34 rfl))).trans ((own_qq1 own_f61).trans ((own_ee1 own_f33).trans (congrArg own_cx (own_bv_eq d0 own_f34 rfl)))).symm)) eT (W := 0) (by decide) (by decide) (cells' := 25) (slots' := 110) rfl rfl (by decide) (by decide) (by rw [hml]; rfl) (lenOf own_pd_28Ljava2flang2fString3bLjava2flang2fString3bLjava2flang2fString3bI29Z rfl) rfl (S := []) rfl (Nat.le_of_eq rfl) (hb hby at_165) (pc' := 168) rfl ?_
      intro v T h76 L lc X eT hq fN
      obtain ⟨rfl, Nq, hqe⟩ := hq
      have N := fN _ N Nq
      rw [hqe] at eT
      show own_W _ _ _ _ _ _ _ _ [(.int (1 : Int32))]
      refine own_ifN X hx (hb hby at_168) (pc' := 171) rfl (show ¬ ((1 : Int32) = (0 : Int32)) from (by decide)) ?_
      refine own_aload X hx (hb hby at_171) (pc' := 173) rfl rfl rfl ?_
      refine own_aloadN X hx (hb hby at_173) (pc' := 174) rfl rfl rfl ?_
      refine own_aloadN X hx (hb hby at_174) (pc' := 175) rfl rfl rfl ?_
      refine own_iconst X hx (1 : Int32) (hb hby at_175) (pc' := 176) rfl rfl ?_
      refine own_callS X hx hZ [(.ref qa), (.ref sa1), (.ref sa2), (.int (1 : Int32))] hown (own_w hw 199 rfl) (own_w hw 200 rfl) (own_w hw 2 rfl) (own_w hw 201 rfl) (by decide) (rm_qo l Z a0 hw [] qa qb (4 : Int32) [(.int d0), (.int (46 : Int32)), (.int (46 : Int32)), (.int d0)] sa1 sb1 sa2 sb2 (1 : Int32) (1 : Int32) (0 : Int32) cs fm [(.int d0)] [] (2 : Int32) h64 n0 Z0 S_C hcs S_F hfm E_1 C_1 V_1 _ A_1 E_2 C_2 V_2 _ A_2 (own_inS own_in0) own_in0 own_f21 E_q C_q V_q _ A_q (own_inS (own_inS (own_inS (own_inS own_in0)))) own_f67 own_f197 own_f124 (((own_at_lt own_f173).trans (congrArg own_cx (own_bv_eq (46 : Int32) own_f65 rfl))).trans (Eq.trans own_cx46 ((own_qq1 own_f64).trans (own_ee2 own_f39 own_f66)).symm))) eT (W := 0) (by decide) (by decide) (cells' := 25) (slots' := 110) rfl rfl (by decide) (by decide) (by rw [hml]; rfl) (lenOf own_pd_28Ljava2flang2fString3bLjava2flang2fString3bLjava2flang2fString3bI29Z rfl) rfl (S := []) rfl (Nat.le_of_eq rfl) (hb hby at_176) (pc' := 179) rfl ?_
      intro v T h77 L lc X eT hq fN
      obtain ⟨rfl, Nq, hqe⟩ := hq
      have N := fN _ N Nq
      rw [hqe] at eT
      show own_W _ _ _ _ _ _ _ _ [(.int (1 : Int32))]
      refine own_ifN X hx (hb hby at_179) (pc' := 182) rfl (show ¬ ((1 : Int32) = (0 : Int32)) from (by decide)) ?_
      refine own_aload X hx (hb hby at_182) (pc' := 184) rfl rfl rfl ?_
      refine own_aloadN X hx (hb hby at_184) (pc' := 185) rfl rfl rfl ?_
      refine own_aloadN X hx (hb hby at_185) (pc' := 186) rfl rfl rfl ?_
      refine own_iconst X hx (2 : Int32) (hb hby at_186) (pc' := 187) rfl rfl ?_
      refine own_callS X hx hZ [(.ref qa), (.ref sa1), (.ref sa2), (.int (2 : Int32))] hown (own_w hw 199 rfl) (own_w hw 200 rfl) (own_w hw 2 rfl) (own_w hw 201 rfl) (by decide) (rm_qo l Z a0 hw [] qa qb (4 : Int32) [(.int d0), (.int (46 : Int32)), (.int (46 : Int32)), (.int d0)] sa1 sb1 sa2 sb2 (2 : Int32) (1 : Int32) (0 : Int32) cs fm [(.int d0)] [] (2 : Int32) h64 n0 Z0 S_C hcs S_F hfm E_1 C_1 V_1 _ A_1 E_2 C_2 V_2 _ A_2 (own_inS own_in0) own_in0 own_f26 E_q C_q V_q _ A_q (own_inS (own_inS (own_inS (own_inS own_in0)))) own_f71 own_f197 own_f128 (((own_at_lt own_f175).trans (congrArg own_cx (own_bv_eq (46 : Int32) own_f126 rfl))).trans (Eq.trans own_cx46 (own_qq2 own_f68 own_f127).symm))) eT (W := 0) (by decide) (by decide) (cells' := 25) (slots' := 110) rfl rfl (by decide) (by decide) (by rw [hml]; rfl) (lenOf own_pd_28Ljava2flang2fString3bLjava2flang2fString3bLjava2flang2fString3bI29Z rfl) rfl (S := []) rfl (Nat.le_of_eq rfl) (hb hby at_187) (pc' := 190) rfl ?_
      intro v T h78 L lc X eT hq fN
      obtain ⟨rfl, Nq, hqe⟩ := hq
      have N := fN _ N Nq
      rw [hqe] at eT
      show own_W _ _ _ _ _ _ _ _ [(.int (1 : Int32))]
      refine own_ifN X hx (hb hby at_190) (pc' := 193) rfl (show ¬ ((1 : Int32) = (0 : Int32)) from (by decide)) ?_
      refine own_aload X hx (hb hby at_193) (pc' := 195) rfl rfl rfl ?_
      refine own_aloadN X hx (hb hby at_195) (pc' := 196) rfl rfl rfl ?_
      refine own_aloadN X hx (hb hby at_196) (pc' := 197) rfl rfl rfl ?_
      refine own_iconst X hx (3 : Int32) (hb hby at_197) (pc' := 198) rfl rfl ?_
      refine own_callS X hx hZ [(.ref qa), (.ref sa1), (.ref sa2), (.int (3 : Int32))] hown (own_w hw 199 rfl) (own_w hw 200 rfl) (own_w hw 2 rfl) (own_w hw 201 rfl) (by decide) (rm_qo l Z a0 hw [] qa qb (4 : Int32) [(.int d0), (.int (46 : Int32)), (.int (46 : Int32)), (.int d0)] sa1 sb1 sa2 sb2 (3 : Int32) (1 : Int32) (0 : Int32) cs fm [(.int d0)] [] (2 : Int32) h64 n0 Z0 S_C hcs S_F hfm E_1 C_1 V_1 _ A_1 E_2 C_2 V_2 _ A_2 (own_inS own_in0) own_in0 own_f53 E_q C_q V_q _ A_q (own_inS (own_inS (own_inS (own_inS own_in0)))) own_f75 own_f197 own_f132 (((own_at_lt own_f177).trans (congrArg own_cx (own_bv_eq d0 own_f178 rfl))).trans ((own_qq3 own_f72 own_f131).trans ((own_at_lt own_f198).trans (congrArg own_cx (own_bv_eq d0 own_f199 rfl)))).symm)) eT (W := 0) (by decide) (by decide) (cells' := 25) (slots' := 110) rfl rfl (by decide) (by decide) (by rw [hml]; rfl) (lenOf own_pd_28Ljava2flang2fString3bLjava2flang2fString3bLjava2flang2fString3bI29Z rfl) rfl (S := []) rfl (Nat.le_of_eq rfl) (hb hby at_198) (pc' := 201) rfl ?_
      intro v T h79 L lc X eT hq fN
      obtain ⟨rfl, Nq, hqe⟩ := hq
      have N := fN _ N Nq
      rw [hqe] at eT
      show own_W _ _ _ _ _ _ _ _ [(.int (1 : Int32))]
      refine own_ifN X hx (hb hby at_201) (pc' := 204) rfl (show ¬ ((1 : Int32) = (0 : Int32)) from (by decide)) ?_
      refine own_aload X hx (hb hby at_204) (pc' := 206) rfl rfl rfl ?_
      refine own_aloadN X hx (hb hby at_206) (pc' := 207) rfl rfl rfl ?_
      refine own_aloadN X hx (hb hby at_207) (pc' := 208) rfl rfl rfl ?_
      refine own_iconst X hx (4 : Int32) (hb hby at_208) (pc' := 209) rfl rfl ?_
      refine own_callS X hx hZ [(.ref qa), (.ref sa1), (.ref sa2), (.int (4 : Int32))] hown (own_w hw 199 rfl) (own_w hw 200 rfl) (own_w hw 2 rfl) (own_w hw 201 rfl) (by decide) (rm_qo l Z a0 hw [] qa qb (4 : Int32) [(.int d0), (.int (46 : Int32)), (.int (46 : Int32)), (.int d0)] sa1 sb1 sa2 sb2 (4 : Int32) (1 : Int32) (0 : Int32) cs fm [(.int d0)] [] (2 : Int32) h64 n0 Z0 S_C hcs S_F hfm E_1 C_1 V_1 _ A_1 E_2 C_2 V_2 _ A_2 (own_inS own_in0) own_in0 own_f59 E_q C_q V_q _ A_q (own_inS (own_inS (own_inS (own_inS own_in0)))) own_f79 own_f197 own_f136 ((own_at_ge own_f181).trans ((own_qq3 own_f76 own_f135).trans (own_at_ge own_f200)).symm)) eT (W := 0) (by decide) (by decide) (cells' := 25) (slots' := 110) rfl rfl (by decide) (by decide) (by rw [hml]; rfl) (lenOf own_pd_28Ljava2flang2fString3bLjava2flang2fString3bLjava2flang2fString3bI29Z rfl) rfl (S := []) rfl (Nat.le_of_eq rfl) (hb hby at_209) (pc' := 212) rfl ?_
      intro v T h80 L lc X eT hq fN
      obtain ⟨rfl, Nq, hqe⟩ := hq
      have N := fN _ N Nq
      rw [hqe] at eT
      show own_W _ _ _ _ _ _ _ _ [(.int (1 : Int32))]
      refine own_ifN X hx (hb hby at_212) (pc' := 215) rfl (show ¬ ((1 : Int32) = (0 : Int32)) from (by decide)) ?_
      refine own_aload X hx (hb hby at_215) (pc' := 217) rfl rfl rfl ?_
      refine own_aloadN X hx (hb hby at_217) (pc' := 218) rfl rfl rfl ?_
      refine own_aloadN X hx (hb hby at_218) (pc' := 219) rfl rfl rfl ?_
      refine own_iconst X hx (5 : Int32) (hb hby at_219) (pc' := 220) rfl rfl ?_
      refine own_callS X hx hZ [(.ref qa), (.ref sa1), (.ref sa2), (.int (5 : Int32))] hown (own_w hw 199 rfl) (own_w hw 200 rfl) (own_w hw 2 rfl) (own_w hw 201 rfl) (by decide) (rm_qo l Z a0 hw [] qa qb (4 : Int32) [(.int d0), (.int (46 : Int32)), (.int (46 : Int32)), (.int d0)] sa1 sb1 sa2 sb2 (5 : Int32) (1 : Int32) (0 : Int32) cs fm [(.int d0)] [] (2 : Int32) h64 n0 Z0 S_C hcs S_F hfm E_1 C_1 V_1 _ A_1 E_2 C_2 V_2 _ A_2 (own_inS own_in0) own_in0 own_f84 E_q C_q V_q _ A_q (own_inS (own_inS (own_inS (own_inS own_in0)))) own_f86 own_f197 own_f140 ((own_at_ge own_f185).trans ((own_qq3 own_f80 own_f139).trans (own_at_ge own_f201)).symm)) eT (W := 0) (by decide) (by decide) (cells' := 25) (slots' := 110) rfl rfl (by decide) (by decide) (by rw [hml]; rfl) (lenOf own_pd_28Ljava2flang2fString3bLjava2flang2fString3bLjava2flang2fString3bI29Z rfl) rfl (S := []) rfl (Nat.le_of_eq rfl) (hb hby at_220) (pc' := 223) rfl ?_
      intro v T h81 L lc X eT hq fN
      obtain ⟨rfl, Nq, hqe⟩ := hq
      have N := fN _ N Nq
      rw [hqe] at eT
      show own_W _ _ _ _ _ _ _ _ [(.int (1 : Int32))]
      refine own_ifN X hx (hb hby at_223) (pc' := 226) rfl (show ¬ ((1 : Int32) = (0 : Int32)) from (by decide)) ?_
      refine own_aload X hx (hb hby at_226) (pc' := 228) rfl rfl rfl ?_
      refine own_aloadN X hx (hb hby at_228) (pc' := 229) rfl rfl rfl ?_
      refine own_aloadN X hx (hb hby at_229) (pc' := 230) rfl rfl rfl ?_
      refine own_bipush X hx (6 : Int32) (hb hby at_230) (pc' := 232) rfl rfl ?_
      refine own_callS X hx hZ [(.ref qa), (.ref sa1), (.ref sa2), (.int (6 : Int32))] hown (own_w hw 199 rfl) (own_w hw 200 rfl) (own_w hw 2 rfl) (own_w hw 201 rfl) (by decide) (rm_qo l Z a0 hw [] qa qb (4 : Int32) [(.int d0), (.int (46 : Int32)), (.int (46 : Int32)), (.int d0)] sa1 sb1 sa2 sb2 (6 : Int32) (1 : Int32) (0 : Int32) cs fm [(.int d0)] [] (2 : Int32) h64 n0 Z0 S_C hcs S_F hfm E_1 C_1 V_1 _ A_1 E_2 C_2 V_2 _ A_2 (own_inS own_in0) own_in0 own_f91 E_q C_q V_q _ A_q (own_inS (own_inS (own_inS (own_inS own_in0)))) own_f93 own_f197 own_f144 ((own_at_ge own_f189).trans ((own_qq3 own_f87 own_f143).trans (own_at_ge own_f202)).symm)) eT (W := 0) (by decide) (by decide) (cells' := 25) (slots' := 110) rfl rfl (by decide) (by decide) (by rw [hml]; rfl) (lenOf own_pd_28Ljava2flang2fString3bLjava2flang2fString3bLjava2flang2fString3bI29Z rfl) rfl (S := []) rfl (Nat.le_of_eq rfl) (hb hby at_232) (pc' := 235) rfl ?_
      intro v T h82 L lc X eT hq fN
      obtain ⟨rfl, Nq, hqe⟩ := hq
      have N := fN _ N Nq
      rw [hqe] at eT
      show own_W _ _ _ _ _ _ _ _ [(.int (1 : Int32))]
      refine own_ifN X hx (hb hby at_235) (pc' := 238) rfl (show ¬ ((1 : Int32) = (0 : Int32)) from (by decide)) ?_
      refine own_aload X hx (hb hby at_238) (pc' := 240) rfl rfl rfl ?_
      refine own_aloadN X hx (hb hby at_240) (pc' := 241) rfl rfl rfl ?_
      refine own_aloadN X hx (hb hby at_241) (pc' := 242) rfl rfl rfl ?_
      refine own_bipush X hx (7 : Int32) (hb hby at_242) (pc' := 244) rfl rfl ?_
      refine own_callS X hx hZ [(.ref qa), (.ref sa1), (.ref sa2), (.int (7 : Int32))] hown (own_w hw 199 rfl) (own_w hw 200 rfl) (own_w hw 2 rfl) (own_w hw 201 rfl) (by decide) (rm_qo l Z a0 hw [] qa qb (4 : Int32) [(.int d0), (.int (46 : Int32)), (.int (46 : Int32)), (.int d0)] sa1 sb1 sa2 sb2 (7 : Int32) (1 : Int32) (0 : Int32) cs fm [(.int d0)] [] (2 : Int32) h64 n0 Z0 S_C hcs S_F hfm E_1 C_1 V_1 _ A_1 E_2 C_2 V_2 _ A_2 (own_inS own_in0) own_in0 own_f98 E_q C_q V_q _ A_q (own_inS (own_inS (own_inS (own_inS own_in0)))) own_f100 own_f197 own_f148 ((own_at_ge own_f193).trans ((own_qq3 own_f94 own_f147).trans (own_at_ge own_f203)).symm)) eT (W := 0) (by decide) (by decide) (cells' := 25) (slots' := 110) rfl rfl (by decide) (by decide) (by rw [hml]; rfl) (lenOf own_pd_28Ljava2flang2fString3bLjava2flang2fString3bLjava2flang2fString3bI29Z rfl) rfl (S := []) rfl (Nat.le_of_eq rfl) (hb hby at_244) (pc' := 247) rfl ?_
      intro v T h83 L lc X eT hq fN
      obtain ⟨rfl, Nq, hqe⟩ := hq
      have N := fN _ N Nq
      rw [hqe] at eT
      show own_W _ _ _ _ _ _ _ _ [(.int (1 : Int32))]
      refine own_ifN X hx (hb hby at_247) (pc' := 250) rfl (show ¬ ((1 : Int32) = (0 : Int32)) from (by decide)) ?_
      refine own_iconst X hx (1 : Int32) (hb hby at_250) (pc' := 251) rfl rfl ?_
      refine own_goto X hx (hb hby at_251) (by decide) (pc' := 255) rfl ?_
      refine own_istore X hx (hb hby at_255) (pc' := 257) rfl (Ls' := #[.val (.int p0), .val (.int p1), .val (.ref sa1), .val (.ref sa2), .val (.ref pa), .val (.ref ea), .val (.ref qa), .val (.int (1 : Int32)), .val (.int (0 : Int32)), .val (.int (2 : Int32)), .val (.int (1 : Int32))]) rfl ?_
      refine own_iload X hx (hb hby at_257) (pc' := 259) rfl rfl ?_
      refine own_retIS X hx hlk hZ eT hh hS hk hEL H CR (t := .boolean) (w' := (.int (1 : Int32))) Bd.returns (hb hby at_259) rfl rfl (by simp) (by decide) (by decide) ?_
      rw [eT]
      exact ⟨rfl, N⟩
    · show own_W _ _ _ _ _ _ _ _ [(.ref sa2)]
      refine own_astoreN X hx (hb hby at_9) (pc' := 10) rfl rfl (Ls' := #[.val (.int p0), .val (.int p1), .val (.ref sa1), .val (.ref sa2), .unset, .unset, .unset, .unset, .unset, .unset, .unset]) rfl ?_
      refine own_aloadN X hx (hb hby at_10) (pc' := 11) rfl rfl rfl ?_
      refine own_aloadN X hx (hb hby at_11) (pc' := 12) rfl rfl rfl ?_
      refine own_callSS X hx hZ [(.ref sa1), (.ref sa2)] hown (own_w hw 26 rfl) (own_w hw 27 rfl) (own_w hw 28 rfl) (own_w hw 29 rfl) (by decide) (rm_af l Z a0 hw hEL [] sa1 sa2 sb1 sb2 (1 : Int32) (1 : Int32) cs (1 : Int32) (2 : Int32) (3 : Int32) (3 : Int32) (4 : Int32) (5 : Int32) 1 1 1 2 3 3 4 5 [(.int d0)] [(.int f0)] [(.int d0), (.int (0 : Int32)), (.int (0 : Int32)), (.int (0 : Int32)), (.int (0 : Int32)), (.int (0 : Int32)), (.int (0 : Int32)), (.int (0 : Int32)), (.int (0 : Int32)), (.int (0 : Int32)), (.int (0 : Int32)), (.int (0 : Int32)), (.int (0 : Int32)), (.int (0 : Int32)), (.int (0 : Int32)), (.int (0 : Int32))] [(.int d0), (.int (46 : Int32)), (.int (0 : Int32)), (.int (0 : Int32)), (.int (0 : Int32)), (.int (0 : Int32)), (.int (0 : Int32)), (.int (0 : Int32)), (.int (0 : Int32)), (.int (0 : Int32)), (.int (0 : Int32)), (.int (0 : Int32)), (.int (0 : Int32)), (.int (0 : Int32)), (.int (0 : Int32)), (.int (0 : Int32))] [(.int d0), (.int (46 : Int32)), (.int f0), (.int (0 : Int32)), (.int (0 : Int32)), (.int (0 : Int32)), (.int (0 : Int32)), (.int (0 : Int32)), (.int (0 : Int32)), (.int (0 : Int32)), (.int (0 : Int32)), (.int (0 : Int32)), (.int (0 : Int32)), (.int (0 : Int32)), (.int (0 : Int32)), (.int (0 : Int32))] [(.int d0), (.int (46 : Int32)), (.int f0), (.int (0 : Int32)), (.int (0 : Int32)), (.int (0 : Int32)), (.int (0 : Int32)), (.int (0 : Int32)), (.int (0 : Int32)), (.int (0 : Int32)), (.int (0 : Int32)), (.int (0 : Int32)), (.int (0 : Int32)), (.int (0 : Int32)), (.int (0 : Int32)), (.int (0 : Int32))] [(.int d0), (.int (46 : Int32)), (.int f0), (.int (46 : Int32)), (.int (0 : Int32)), (.int (0 : Int32)), (.int (0 : Int32)), (.int (0 : Int32)), (.int (0 : Int32)), (.int (0 : Int32)), (.int (0 : Int32)), (.int (0 : Int32)), (.int (0 : Int32)), (.int (0 : Int32)), (.int (0 : Int32)), (.int (0 : Int32))] [(.int d0), (.int (46 : Int32)), (.int f0), (.int (46 : Int32)), (.int d0), (.int (0 : Int32)), (.int (0 : Int32)), (.int (0 : Int32)), (.int (0 : Int32)), (.int (0 : Int32)), (.int (0 : Int32)), (.int (0 : Int32)), (.int (0 : Int32)), (.int (0 : Int32)), (.int (0 : Int32)), (.int (0 : Int32))] [(.int d0), (.int (46 : Int32)), (.int f0)] [(.int d0), (.int (46 : Int32)), (.int f0), (.int (46 : Int32)), (.int d0)] h63 n0 Z0 S_C hcs E_1 C_1 V_1 _ A_1 E_2 C_2 V_2 _ A_2 ⟨own_f6, own_f7, own_f2, own_f3, own_f8, own_f9, own_f10, (Nat.le_of_ble_eq_true rfl), (Nat.le_of_ble_eq_true rfl), rfl⟩ ⟨own_f14, own_f15, own_f12, own_f8, own_f8, own_f9, own_f16, (Nat.le_of_ble_eq_true rfl), (Nat.le_of_ble_eq_true rfl), rfl⟩ ⟨own_f102, own_f103, own_f18, own_f19, own_f8, own_f9, own_f104, (Nat.le_of_ble_eq_true rfl), (Nat.le_of_ble_eq_true rfl), rfl⟩ ⟨own_f102, own_f151, own_f2, own_f3, own_f107, own_f114, own_f113, (Nat.le_of_ble_eq_true rfl), (Nat.le_of_ble_eq_true rfl), rfl⟩ ⟨own_f152, own_f153, own_f106, own_f107, own_f8, own_f9, own_f154, (Nat.le_of_ble_eq_true rfl), (Nat.le_of_ble_eq_true rfl), rfl⟩ ⟨own_f204, own_f205, own_f156, own_f157, own_f8, own_f9, own_f206, (Nat.le_of_ble_eq_true rfl), (Nat.le_of_ble_eq_true rfl), rfl⟩ ⟨own_f53, own_f109, own_f110, own_f107, own_f111, own_f112, own_f113, own_f114, (Nat.le_of_ble_eq_true rfl), rfl⟩ ⟨own_f84, own_f207, own_f208, own_f209, own_f210, own_f211, own_f212, own_f213, (Nat.le_of_ble_eq_true rfl), rfl⟩) eT hS hk hEL H (W := 0) (by decide) (by decide) (cells' := 25) (slots' := 110) rfl rfl (by decide) (by decide) (by rw [hml]; rfl) (lenOf own_pd_28Ljava2flang2fString3bLjava2flang2fString3b29Lcom2fexample2frunnel2frunnel2fbroker2fPipe3b rfl) rfl (S := []) rfl (Nat.le_of_eq rfl) (hb hby at_12) (pc' := 15) rfl ?_
      intro v T h84 L lc vm0 k1 X eT hS hk hZ hown CQ hq fN
      obtain ⟨pa, ea, eb, qa, qb, k_e, k_q, rfl, Nq, Kq, E_p, F_x, F_q, ⟨E_e, C_e, V_e, A_e⟩, ⟨E_q, C_q, V_q, A_q⟩⟩ := hq
      have N := fN _ N Nq
      have CR := CR.trans CQ
      have H := CQ.1
      have S_C := own_sta_keep S_C Kq ns0
      have S_F := own_sta_keep S_F Kq ns0
      have E_1 := E_1.keep Kq
      have C_1 := C_1.keep Kq nin0
      have V_1 := V_1.keep Kq nin0
      have A_1 := A_1.keep Kq nin0
      have E_2 := E_2.keep Kq
      have C_2 := C_2.keep Kq nin0
      have V_2 := V_2.keep Kq nin0
      have A_2 := A_2.keep Kq nin0
      have Z0 := Nat.le_trans Z0 Kq.1
      show own_W _ _ _ _ _ _ _ _ [(.ref pa)]
      refine own_astore X hx (hb hby at_15) (pc' := 17) rfl rfl (Ls' := #[.val (.int p0), .val (.int p1), .val (.ref sa1), .val (.ref sa2), .val (.ref pa), .unset, .unset, .unset, .unset, .unset, .unset]) rfl ?_
      refine own_aload X hx (hb hby at_17) (pc' := 19) rfl rfl rfl ?_
      refine own_callV X hx hZ (y := (⟨"com/example/runnel/runnel/broker/Pipe", "exchange", "()Ljava/lang/String;"⟩ : MethodName)) pa [] hown (own_w hw 157 rfl) (own_w hw 158 rfl) (own_w hw 160 rfl) (own_w hw 159 rfl) (own_w hw 28 rfl) (own_w hw 161 rfl) (by decide) (rm_ex l Z a0 hw [] pa ea h84 n0 Z0 F_x) E_p eT (W := 0) (by decide) (by decide) (cells' := 25) (slots' := 110) rfl rfl (by decide) (by decide) (by rw [hml]; rfl) (lenOf own_pd_2829Ljava2flang2fString3b rfl) rfl (S := []) rfl (Nat.le_of_eq rfl) (hb hby at_19) (pc' := 22) rfl ?_
      intro v T h85 L lc X eT hq fN
      obtain ⟨rfl, Nq, hqe⟩ := hq
      have N := fN _ N Nq
      rw [hqe] at eT
      show own_W _ _ _ _ _ _ _ _ [(.ref ea)]
      refine own_astore X hx (hb hby at_22) (pc' := 24) rfl rfl (Ls' := #[.val (.int p0), .val (.int p1), .val (.ref sa1), .val (.ref sa2), .val (.ref pa), .val (.ref ea), .unset, .unset, .unset, .unset, .unset]) rfl ?_
      refine own_aload X hx (hb hby at_24) (pc' := 26) rfl rfl rfl ?_
      refine own_callV X hx hZ (y := (⟨"com/example/runnel/runnel/broker/Pipe", "queue", "()Ljava/lang/String;"⟩ : MethodName)) pa [] hown (own_w hw 162 rfl) (own_w hw 163 rfl) (own_w hw 165 rfl) (own_w hw 164 rfl) (own_w hw 28 rfl) (own_w hw 166 rfl) (by decide) (rm_qu l Z a0 hw [] pa qa h84 n0 Z0 F_q) E_p eT (W := 0) (by decide) (by decide) (cells' := 25) (slots' := 110) rfl rfl (by decide) (by decide) (by rw [hml]; rfl) (lenOf own_pd_2829Ljava2flang2fString3b rfl) rfl (S := []) rfl (Nat.le_of_eq rfl) (hb hby at_26) (pc' := 29) rfl ?_
      intro v T h86 L lc X eT hq fN
      obtain ⟨rfl, Nq, hqe⟩ := hq
      have N := fN _ N Nq
      rw [hqe] at eT
      show own_W _ _ _ _ _ _ _ _ [(.ref qa)]
      refine own_astore X hx (hb hby at_29) (pc' := 31) rfl rfl (Ls' := #[.val (.int p0), .val (.int p1), .val (.ref sa1), .val (.ref sa2), .val (.ref pa), .val (.ref ea), .val (.ref qa), .unset, .unset, .unset, .unset]) rfl ?_
      refine own_aload X hx (hb hby at_31) (pc' := 33) rfl rfl rfl ?_
      refine own_ifnullN X hx (hb hby at_33) (pc' := 36) rfl ?_
      refine own_aload X hx (hb hby at_36) (pc' := 38) rfl rfl rfl ?_
      refine own_ifnonnullY X hx (hb hby at_38) (by decide) (pc' := 43) rfl ?_
      refine own_aloadN X hx (hb hby at_43) (pc' := 44) rfl rfl rfl ?_
      refine own_callV X hx hZ (y := (⟨"java/lang/String", "length", "()I"⟩ : MethodName)) sa1 [] hown (own_w hw 167 rfl) (own_w hw 59 rfl) (own_w hw 61 rfl) (own_w hw 60 rfl) (own_w hw 6 rfl) (own_w hw 62 rfl) (by decide) (rm_len l Z a0 hw [] sa1 sb1 cs (1 : Int32) h84 n0 Z0 S_C hcs E_1 C_1 V_1 _ _ A_1) E_1 eT (W := 0) (by decide) (by decide) (cells' := 25) (slots' := 110) rfl rfl (by decide) (by decide) (by rw [hml]; rfl) (lenOf own_pd_2829I rfl) rfl (S := []) rfl (Nat.le_of_eq rfl) (hb hby at_44) (pc' := 47) rfl ?_
      intro v T h87 L lc X eT hq fN
      obtain ⟨rfl, Nq, hqe⟩ := hq
      have N := fN _ N Nq
      rw [hqe] at eT
      show own_W _ _ _ _ _ _ _ _ [(.int (1 : Int32))]
      refine own_istore X hx (hb hby at_47) (pc' := 49) rfl (Ls' := #[.val (.int p0), .val (.int p1), .val (.ref sa1), .val (.ref sa2), .val (.ref pa), .val (.ref ea), .val (.ref qa), .val (.int (1 : Int32)), .unset, .unset, .unset]) rfl ?_
      refine own_aloadN X hx (hb hby at_49) (pc' := 50) rfl rfl rfl ?_
      refine own_callV X hx hZ (y := (⟨"java/lang/String", "length", "()I"⟩ : MethodName)) sa2 [] hown (own_w hw 167 rfl) (own_w hw 59 rfl) (own_w hw 61 rfl) (own_w hw 60 rfl) (own_w hw 6 rfl) (own_w hw 62 rfl) (by decide) (rm_len l Z a0 hw [] sa2 sb2 cs (1 : Int32) h84 n0 Z0 S_C hcs E_2 C_2 V_2 _ _ A_2) E_2 eT (W := 0) (by decide) (by decide) (cells' := 25) (slots' := 110) rfl rfl (by decide) (by decide) (by rw [hml]; rfl) (lenOf own_pd_2829I rfl) rfl (S := []) rfl (Nat.le_of_eq rfl) (hb hby at_50) (pc' := 53) rfl ?_
      intro v T h88 L lc X eT hq fN
      obtain ⟨rfl, Nq, hqe⟩ := hq
      have N := fN _ N Nq
      rw [hqe] at eT
      show own_W _ _ _ _ _ _ _ _ [(.int (1 : Int32))]
      refine own_istore X hx (hb hby at_53) (pc' := 55) rfl (Ls' := #[.val (.int p0), .val (.int p1), .val (.ref sa1), .val (.ref sa2), .val (.ref pa), .val (.ref ea), .val (.ref qa), .val (.int (1 : Int32)), .val (.int (1 : Int32)), .unset, .unset]) rfl ?_
      refine own_iload X hx (hb hby at_55) (pc' := 57) rfl rfl ?_
      refine own_iconst X hx (1 : Int32) (hb hby at_57) (pc' := 58) rfl rfl ?_
      refine own_iadd X hx (hb hby at_58) (pc' := 59) rfl ?_
      rw [show ((1 : Int32) + (1 : Int32)) = (2 : Int32) from by decide]
      refine own_iload X hx (hb hby at_59) (pc' := 61) rfl rfl ?_
      refine own_iadd X hx (hb hby at_61) (pc' := 62) rfl ?_
      rw [show ((2 : Int32) + (1 : Int32)) = (3 : Int32) from by decide]
      refine own_istore X hx (hb hby at_62) (pc' := 64) rfl (Ls' := #[.val (.int p0), .val (.int p1), .val (.ref sa1), .val (.ref sa2), .val (.ref pa), .val (.ref ea), .val (.ref qa), .val (.int (1 : Int32)), .val (.int (1 : Int32)), .val (.int (3 : Int32)), .unset]) rfl ?_
      refine own_aload X hx (hb hby at_64) (pc' := 66) rfl rfl rfl ?_
      refine own_callV X hx hZ (y := (⟨"java/lang/String", "length", "()I"⟩ : MethodName)) ea [] hown (own_w hw 167 rfl) (own_w hw 59 rfl) (own_w hw 61 rfl) (own_w hw 60 rfl) (own_w hw 6 rfl) (own_w hw 62 rfl) (by decide) (rm_len l Z a0 hw [] ea eb cs (3 : Int32) h84 n0 Z0 S_C hcs E_e C_e V_e _ _ A_e) E_e eT (W := 0) (by decide) (by decide) (cells' := 25) (slots' := 110) rfl rfl (by decide) (by decide) (by rw [hml]; rfl) (lenOf own_pd_2829I rfl) rfl (S := []) rfl (Nat.le_of_eq rfl) (hb hby at_66) (pc' := 69) rfl ?_
      intro v T h89 L lc X eT hq fN
      obtain ⟨rfl, Nq, hqe⟩ := hq
      have N := fN _ N Nq
      rw [hqe] at eT
      show own_W _ _ _ _ _ _ _ _ [(.int (3 : Int32))]
      refine own_iload X hx (hb hby at_69) (pc' := 71) rfl rfl ?_
      refine own_icmpY X hx (hb hby at_71) (by decide) (pc' := 76) rfl (show (3 : Int32) = (3 : Int32) from (by decide)) ?_
      refine own_aload X hx (hb hby at_76) (pc' := 78) rfl rfl rfl ?_
      refine own_callV X hx hZ (y := (⟨"java/lang/String", "length", "()I"⟩ : MethodName)) qa [] hown (own_w hw 167 rfl) (own_w hw 59 rfl) (own_w hw 61 rfl) (own_w hw 60 rfl) (own_w hw 6 rfl) (own_w hw 62 rfl) (by decide) (rm_len l Z a0 hw [] qa qb cs (5 : Int32) h84 n0 Z0 S_C hcs E_q C_q V_q _ _ A_q) E_q eT (W := 0) (by decide) (by decide) (cells' := 25) (slots' := 110) rfl rfl (by decide) (by decide) (by rw [hml]; rfl) (lenOf own_pd_2829I rfl) rfl (S := []) rfl (Nat.le_of_eq rfl) (hb hby at_78) (pc' := 81) rfl ?_
      intro v T h90 L lc X eT hq fN
      obtain ⟨rfl, Nq, hqe⟩ := hq
      have N := fN _ N Nq
      rw [hqe] at eT
      show own_W _ _ _ _ _ _ _ _ [(.int (5 : Int32))]
      refine own_iload X hx (hb hby at_81) (pc' := 83) rfl rfl ?_
      refine own_iconst X hx (1 : Int32) (hb hby at_83) (pc' := 84) rfl rfl ?_
      refine own_iadd X hx (hb hby at_84) (pc' := 85) rfl ?_
      rw [show ((3 : Int32) + (1 : Int32)) = (4 : Int32) from by decide]
      refine own_iload X hx (hb hby at_85) (pc' := 87) rfl rfl ?_
      refine own_iadd X hx (hb hby at_87) (pc' := 88) rfl ?_
      rw [show ((4 : Int32) + (1 : Int32)) = (5 : Int32) from by decide]
      refine own_icmpY X hx (hb hby at_88) (by decide) (pc' := 93) rfl (show (5 : Int32) = (5 : Int32) from (by decide)) ?_
      refine own_aload X hx (hb hby at_93) (pc' := 95) rfl rfl rfl ?_
      refine own_aloadN X hx (hb hby at_95) (pc' := 96) rfl rfl rfl ?_
      refine own_aloadN X hx (hb hby at_96) (pc' := 97) rfl rfl rfl ?_
      refine own_iconst X hx (0 : Int32) (hb hby at_97) (pc' := 98) rfl rfl ?_
      refine own_callS X hx hZ [(.ref ea), (.ref sa1), (.ref sa2), (.int (0 : Int32))] hown (own_w hw 168 rfl) (own_w hw 169 rfl) (own_w hw 2 rfl) (own_w hw 170 rfl) (by decide) (rm_xo l Z a0 hw [] ea eb (3 : Int32) [(.int d0), (.int (46 : Int32)), (.int f0)] sa1 sb1 sa2 sb2 (0 : Int32) (1 : Int32) (1 : Int32) cs fm [(.int d0)] [(.int f0)] h84 n0 Z0 S_C hcs S_F hfm E_1 C_1 V_1 _ A_1 E_2 C_2 V_2 _ A_2 (own_inS own_in0) (own_inS own_in0) own_f37 E_e C_e V_e _ A_e (own_inS (own_inS (own_inS own_in0))) own_f63 (((own_at_lt own_f120).trans (congrArg own_cx (own_bv_eq d0 own_f34 rfl))).trans ((own_ee1 own_f33).trans (congrArg own_cx (own_bv_eq d0 own_f34 rfl))).symm)) eT (W := 0) (by decide) (by decide) (cells' := 25) (slots' := 110) rfl rfl (by decide) (by decide) (by rw [hml]; rfl) (lenOf own_pd_28Ljava2flang2fString3bLjava2flang2fString3bLjava2flang2fString3bI29Z rfl) rfl (S := []) rfl (Nat.le_of_eq rfl) (hb hby at_98) (pc' := 101) rfl ?_
      intro v T h91 L lc X eT hq fN
      obtain ⟨rfl, Nq, hqe⟩ := hq
      have N := fN _ N Nq
      rw [hqe] at eT
      show own_W _ _ _ _ _ _ _ _ [(.int (1 : Int32))]
      refine own_ifN X hx (hb hby at_101) (pc' := 104) rfl (show ¬ ((1 : Int32) = (0 : Int32)) from (by decide)) ?_
      refine own_aload X hx (hb hby at_104) (pc' := 106) rfl rfl rfl ?_
      refine own_aloadN X hx (hb hby at_106) (pc' := 107) rfl rfl rfl ?_
      refine own_aloadN X hx (hb hby at_107) (pc' := 108) rfl rfl rfl ?_
      refine own_iconst X hx (1 : Int32) (hb hby at_108) (pc' := 109) rfl rfl ?_
      refine own_callS X hx hZ [(.ref ea), (.ref sa1), (.ref sa2), (.int (1 : Int32))] hown (own_w hw 168 rfl) (own_w hw 169 rfl) (own_w hw 2 rfl) (own_w hw 170 rfl) (by decide) (rm_xo l Z a0 hw [] ea eb (3 : Int32) [(.int d0), (.int (46 : Int32)), (.int f0)] sa1 sb1 sa2 sb2 (1 : Int32) (1 : Int32) (1 : Int32) cs fm [(.int d0)] [(.int f0)] h84 n0 Z0 S_C hcs S_F hfm E_1 C_1 V_1 _ A_1 E_2 C_2 V_2 _ A_2 (own_inS own_in0) (own_inS own_in0) own_f21 E_e C_e V_e _ A_e (own_inS (own_inS (own_inS own_in0))) own_f67 (((own_at_lt own_f123).trans (congrArg own_cx (own_bv_eq (46 : Int32) own_f65 rfl))).trans (Eq.trans own_cx46 (own_ee2 own_f39 own_f66).symm))) eT (W := 0) (by decide) (by decide) (cells' := 25) (slots' := 110) rfl rfl (by decide) (by decide) (by rw [hml]; rfl) (lenOf own_pd_28Ljava2flang2fString3bLjava2flang2fString3bLjava2flang2fString3bI29Z rfl) rfl (S := []) rfl (Nat.le_of_eq rfl) (hb hby at_109) (pc' := 112) rfl ?_
      intro v T h92 L lc X eT hq fN
      obtain ⟨rfl, Nq, hqe⟩ := hq
      have N := fN _ N Nq
      rw [hqe] at eT
      show own_W _ _ _ _ _ _ _ _ [(.int (1 : Int32))]
      refine own_ifN X hx (hb hby at_112) (pc' := 115) rfl (show ¬ ((1 : Int32) = (0 : Int32)) from (by decide)) ?_
      refine own_aload X hx (hb hby at_115) (pc' := 117) rfl rfl rfl ?_
      refine own_aloadN X hx (hb hby at_117) (pc' := 118) rfl rfl rfl ?_
      refine own_aloadN X hx (hb hby at_118) (pc' := 119) rfl rfl rfl ?_
      refine own_iconst X hx (2 : Int32) (hb hby at_119) (pc' := 120) rfl rfl ?_
      refine own_callS X hx hZ [(.ref ea), (.ref sa1), (.ref sa2), (.int (2 : Int32))] hown (own_w hw 168 rfl) (own_w hw 169 rfl) (own_w hw 2 rfl) (own_w hw 170 rfl) (by decide) (rm_xo l Z a0 hw [] ea eb (3 : Int32) [(.int d0), (.int (46 : Int32)), (.int f0)] sa1 sb1 sa2 sb2 (2 : Int32) (1 : Int32) (1 : Int32) cs fm [(.int d0)] [(.int f0)] h84 n0 Z0 S_C hcs S_F hfm E_1 C_1 V_1 _ A_1 E_2 C_2 V_2 _ A_2 (own_inS own_in0) (own_inS own_in0) own_f26 E_e C_e V_e _ A_e (own_inS (own_inS (own_inS own_in0))) own_f71 (((own_at_lt own_f125).trans (congrArg own_cx (own_bv_eq f0 own_f126 rfl))).trans ((own_ee3 own_f44 own_f70).trans ((own_at_lt own_f214).trans (congrArg own_cx (own_bv_eq f0 own_f215 rfl)))).symm)) eT (W := 0) (by decide) (by decide) (cells' := 25) (slots' := 110) rfl rfl (by decide) (by decide) (by rw [hml]; rfl) (lenOf own_pd_28Ljava2flang2fString3bLjava2flang2fString3bLjava2flang2fString3bI29Z rfl) rfl (S := []) rfl (Nat.le_of_eq rfl) (hb hby at_120) (pc' := 123) rfl ?_
      intro v T h93 L lc X eT hq fN
      obtain ⟨rfl, Nq, hqe⟩ := hq
      have N := fN _ N Nq
      rw [hqe] at eT
      show own_W _ _ _ _ _ _ _ _ [(.int (1 : Int32))]
      refine own_ifN X hx (hb hby at_123) (pc' := 126) rfl (show ¬ ((1 : Int32) = (0 : Int32)) from (by decide)) ?_
      refine own_aload X hx (hb hby at_126) (pc' := 128) rfl rfl rfl ?_
      refine own_aloadN X hx (hb hby at_128) (pc' := 129) rfl rfl rfl ?_
      refine own_aloadN X hx (hb hby at_129) (pc' := 130) rfl rfl rfl ?_
      refine own_iconst X hx (3 : Int32) (hb hby at_130) (pc' := 131) rfl rfl ?_
      refine own_callS X hx hZ [(.ref ea), (.ref sa1), (.ref sa2), (.int (3 : Int32))] hown (own_w hw 168 rfl) (own_w hw 169 rfl) (own_w hw 2 rfl) (own_w hw 170 rfl) (by decide) (rm_xo l Z a0 hw [] ea eb (3 : Int32) [(.int d0), (.int (46 : Int32)), (.int f0)] sa1 sb1 sa2 sb2 (3 : Int32) (1 : Int32) (1 : Int32) cs fm [(.int d0)] [(.int f0)] h84 n0 Z0 S_C hcs S_F hfm E_1 C_1 V_1 _ A_1 E_2 C_2 V_2 _ A_2 (own_inS own_in0) (own_inS own_in0) own_f53 E_e C_e V_e _ A_e (own_inS (own_inS (own_inS own_in0))) own_f75 ((own_at_ge own_f129).trans ((own_ee3 own_f49 own_f74).trans (own_at_ge own_f216)).symm)) eT (W := 0) (by decide) (by decide) (cells' := 25) (slots' := 110) rfl rfl (by decide) (by decide) (by rw [hml]; rfl) (lenOf own_pd_28Ljava2flang2fString3bLjava2flang2fString3bLjava2flang2fString3bI29Z rfl) rfl (S := []) rfl (Nat.le_of_eq rfl) (hb hby at_131) (pc' := 134) rfl ?_
      intro v T h94 L lc X eT hq fN
      obtain ⟨rfl, Nq, hqe⟩ := hq
      have N := fN _ N Nq
      rw [hqe] at eT
      show own_W _ _ _ _ _ _ _ _ [(.int (1 : Int32))]
      refine own_ifN X hx (hb hby at_134) (pc' := 137) rfl (show ¬ ((1 : Int32) = (0 : Int32)) from (by decide)) ?_
      refine own_aload X hx (hb hby at_137) (pc' := 139) rfl rfl rfl ?_
      refine own_aloadN X hx (hb hby at_139) (pc' := 140) rfl rfl rfl ?_
      refine own_aloadN X hx (hb hby at_140) (pc' := 141) rfl rfl rfl ?_
      refine own_iconst X hx (4 : Int32) (hb hby at_141) (pc' := 142) rfl rfl ?_
      refine own_callS X hx hZ [(.ref ea), (.ref sa1), (.ref sa2), (.int (4 : Int32))] hown (own_w hw 168 rfl) (own_w hw 169 rfl) (own_w hw 2 rfl) (own_w hw 170 rfl) (by decide) (rm_xo l Z a0 hw [] ea eb (3 : Int32) [(.int d0), (.int (46 : Int32)), (.int f0)] sa1 sb1 sa2 sb2 (4 : Int32) (1 : Int32) (1 : Int32) cs fm [(.int d0)] [(.int f0)] h84 n0 Z0 S_C hcs S_F hfm E_1 C_1 V_1 _ A_1 E_2 C_2 V_2 _ A_2 (own_inS own_in0) (own_inS own_in0) own_f59 E_e C_e V_e _ A_e (own_inS (own_inS (own_inS own_in0))) own_f79 ((own_at_ge own_f133).trans ((own_ee3 own_f55 own_f78).trans (own_at_ge own_f217)).symm)) eT (W := 0) (by decide) (by decide) (cells' := 25) (slots' := 110) rfl rfl (by decide) (by decide) (by rw [hml]; rfl) (lenOf own_pd_28Ljava2flang2fString3bLjava2flang2fString3bLjava2flang2fString3bI29Z rfl) rfl (S := []) rfl (Nat.le_of_eq rfl) (hb hby at_142) (pc' := 145) rfl ?_
      intro v T h95 L lc X eT hq fN
      obtain ⟨rfl, Nq, hqe⟩ := hq
      have N := fN _ N Nq
      rw [hqe] at eT
      show own_W _ _ _ _ _ _ _ _ [(.int (1 : Int32))]
      refine own_ifN X hx (hb hby at_145) (pc' := 148) rfl (show ¬ ((1 : Int32) = (0 : Int32)) from (by decide)) ?_
      refine own_iconst X hx (1 : Int32) (hb hby at_148) (pc' := 149) rfl rfl ?_
      refine own_goto X hx (hb hby at_149) (by decide) (pc' := 153) rfl ?_
      refine own_istore X hx (hb hby at_153) (pc' := 155) rfl (Ls' := #[.val (.int p0), .val (.int p1), .val (.ref sa1), .val (.ref sa2), .val (.ref pa), .val (.ref ea), .val (.ref qa), .val (.int (1 : Int32)), .val (.int (1 : Int32)), .val (.int (3 : Int32)), .val (.int (1 : Int32))]) rfl ?_
      refine own_iload X hx (hb hby at_155) (pc' := 157) rfl rfl ?_
      refine own_ifN X hx (hb hby at_157) (pc' := 160) rfl (show ¬ ((1 : Int32) = (0 : Int32)) from (by decide)) ?_
      refine own_aload X hx (hb hby at_160) (pc' := 162) rfl rfl rfl ?_
      refine own_aloadN X hx (hb hby at_162) (pc' := 163) rfl rfl rfl ?_
      refine own_aloadN X hx (hb hby at_163) (pc' := 164) rfl rfl rfl ?_
      refine own_iconst X hx (0 : Int32) (hb hby at_164) (pc' := 165) rfl rfl ?_
      refine own_callS X hx hZ [(.ref qa), (.ref sa1), (.ref sa2), (.int (0 : Int32))] hown (own_w hw 199 rfl) (own_w hw 200 rfl) (own_w hw 2 rfl) (own_w hw 201 rfl) (by decide) (rm_qo l Z a0 hw [] qa qb (5 : Int32) [(.int d0), (.int (46 : Int32)), (.int f0), (.int (46 : Int32)), (.int d0)] sa1 sb1 sa2 sb2 (0 : Int32) (1 : Int32) (1 : Int32) cs fm [(.int d0)] [(.int f0)] (3 : Int32) h84 n0 Z0 S_C hcs S_F hfm E_1 C_1 V_1 _ A_1 E_2 C_2 V_2 _ A_2 (own_inS own_in0) (own_inS own_in0) own_f37 E_q C_q V_q _ A_q (own_inS (own_inS (own_inS (own_inS (own_inS own_in0))))) own_f63 own_f219 own_f172 (((own_at_lt own_f218).trans (congrArg own_cx (own_bv_eq d0 own_f34 rfl))).trans ((own_qq1 own_f120).trans ((own_ee1 own_f33).trans (congrArg own_cx (own_bv_eq d0 own_f34 rfl)))).symm)) eT (W := 0) (by decide) (by decide) (cells' := 25) (slots' := 110) rfl rfl (by decide) (by decide) (by rw [hml]; rfl) (lenOf own_pd_28Ljava2flang2fString3bLjava2flang2fString3bLjava2flang2fString3bI29Z rfl) rfl (S := []) rfl (Nat.le_of_eq rfl) (hb hby at_165) (pc' := 168) rfl ?_
      intro v T h96 L lc X eT hq fN
      obtain ⟨rfl, Nq, hqe⟩ := hq
      have N := fN _ N Nq
      rw [hqe] at eT
      show own_W _ _ _ _ _ _ _ _ [(.int (1 : Int32))]
      refine own_ifN X hx (hb hby at_168) (pc' := 171) rfl (show ¬ ((1 : Int32) = (0 : Int32)) from (by decide)) ?_
      refine own_aload X hx (hb hby at_171) (pc' := 173) rfl rfl rfl ?_
      refine own_aloadN X hx (hb hby at_173) (pc' := 174) rfl rfl rfl ?_
      refine own_aloadN X hx (hb hby at_174) (pc' := 175) rfl rfl rfl ?_
      refine own_iconst X hx (1 : Int32) (hb hby at_175) (pc' := 176) rfl rfl ?_
      refine own_callS X hx hZ [(.ref qa), (.ref sa1), (.ref sa2), (.int (1 : Int32))] hown (own_w hw 199 rfl) (own_w hw 200 rfl) (own_w hw 2 rfl) (own_w hw 201 rfl) (by decide) (rm_qo l Z a0 hw [] qa qb (5 : Int32) [(.int d0), (.int (46 : Int32)), (.int f0), (.int (46 : Int32)), (.int d0)] sa1 sb1 sa2 sb2 (1 : Int32) (1 : Int32) (1 : Int32) cs fm [(.int d0)] [(.int f0)] (3 : Int32) h84 n0 Z0 S_C hcs S_F hfm E_1 C_1 V_1 _ A_1 E_2 C_2 V_2 _ A_2 (own_inS own_in0) (own_inS own_in0) own_f21 E_q C_q V_q _ A_q (own_inS (own_inS (own_inS (own_inS (own_inS own_in0))))) own_f67 own_f219 own_f174 (((own_at_lt own_f220).trans (congrArg own_cx (own_bv_eq (46 : Int32) own_f65 rfl))).trans (Eq.trans own_cx46 ((own_qq1 own_f123).trans (own_ee2 own_f39 own_f66)).symm))) eT (W := 0) (by decide) (by decide) (cells' := 25) (slots' := 110) rfl rfl (by decide) (by decide) (by rw [hml]; rfl) (lenOf own_pd_28Ljava2flang2fString3bLjava2flang2fString3bLjava2flang2fString3bI29Z rfl) rfl (S := []) rfl (Nat.le_of_eq rfl) (hb hby at_176) (pc' := 179) rfl ?_
      intro v T h97 L lc X eT hq fN
      obtain ⟨rfl, Nq, hqe⟩ := hq
      have N := fN _ N Nq
      rw [hqe] at eT
      show own_W _ _ _ _ _ _ _ _ [(.int (1 : Int32))]
      refine own_ifN X hx (hb hby at_179) (pc' := 182) rfl (show ¬ ((1 : Int32) = (0 : Int32)) from (by decide)) ?_
      refine own_aload X hx (hb hby at_182) (pc' := 184) rfl rfl rfl ?_
      refine own_aloadN X hx (hb hby at_184) (pc' := 185) rfl rfl rfl ?_
      refine own_aloadN X hx (hb hby at_185) (pc' := 186) rfl rfl rfl ?_
      refine own_iconst X hx (2 : Int32) (hb hby at_186) (pc' := 187) rfl rfl ?_
      refine own_callS X hx hZ [(.ref qa), (.ref sa1), (.ref sa2), (.int (2 : Int32))] hown (own_w hw 199 rfl) (own_w hw 200 rfl) (own_w hw 2 rfl) (own_w hw 201 rfl) (by decide) (rm_qo l Z a0 hw [] qa qb (5 : Int32) [(.int d0), (.int (46 : Int32)), (.int f0), (.int (46 : Int32)), (.int d0)] sa1 sb1 sa2 sb2 (2 : Int32) (1 : Int32) (1 : Int32) cs fm [(.int d0)] [(.int f0)] (3 : Int32) h84 n0 Z0 S_C hcs S_F hfm E_1 C_1 V_1 _ A_1 E_2 C_2 V_2 _ A_2 (own_inS own_in0) (own_inS own_in0) own_f26 E_q C_q V_q _ A_q (own_inS (own_inS (own_inS (own_inS (own_inS own_in0))))) own_f71 own_f219 own_f176 (((own_at_lt own_f221).trans (congrArg own_cx (own_bv_eq f0 own_f126 rfl))).trans ((own_qq1 own_f125).trans ((own_ee3 own_f44 own_f70).trans ((own_at_lt own_f214).trans (congrArg own_cx (own_bv_eq f0 own_f215 rfl))))).symm)) eT (W := 0) (by decide) (by decide) (cells' := 25) (slots' := 110) rfl rfl (by decide) (by decide) (by rw [hml]; rfl) (lenOf own_pd_28Ljava2flang2fString3bLjava2flang2fString3bLjava2flang2fString3bI29Z rfl) rfl (S := []) rfl (Nat.le_of_eq rfl) (hb hby at_187) (pc' := 190) rfl ?_
      intro v T h98 L lc X eT hq fN
      obtain ⟨rfl, Nq, hqe⟩ := hq
      have N := fN _ N Nq
      rw [hqe] at eT
      show own_W _ _ _ _ _ _ _ _ [(.int (1 : Int32))]
      refine own_ifN X hx (hb hby at_190) (pc' := 193) rfl (show ¬ ((1 : Int32) = (0 : Int32)) from (by decide)) ?_
      refine own_aload X hx (hb hby at_193) (pc' := 195) rfl rfl rfl ?_
      refine own_aloadN X hx (hb hby at_195) (pc' := 196) rfl rfl rfl ?_
      refine own_aloadN X hx (hb hby at_196) (pc' := 197) rfl rfl rfl ?_
      refine own_iconst X hx (3 : Int32) (hb hby at_197) (pc' := 198) rfl rfl ?_
      refine own_callS X hx hZ [(.ref qa), (.ref sa1), (.ref sa2), (.int (3 : Int32))] hown (own_w hw 199 rfl) (own_w hw 200 rfl) (own_w hw 2 rfl) (own_w hw 201 rfl) (by decide) (rm_qo l Z a0 hw [] qa qb (5 : Int32) [(.int d0), (.int (46 : Int32)), (.int f0), (.int (46 : Int32)), (.int d0)] sa1 sb1 sa2 sb2 (3 : Int32) (1 : Int32) (1 : Int32) cs fm [(.int d0)] [(.int f0)] (3 : Int32) h84 n0 Z0 S_C hcs S_F hfm E_1 C_1 V_1 _ A_1 E_2 C_2 V_2 _ A_2 (own_inS own_in0) (own_inS own_in0) own_f53 E_q C_q V_q _ A_q (own_inS (own_inS (own_inS (own_inS (own_inS own_in0))))) own_f75 own_f219 own_f180 (((own_at_lt own_f222).trans (congrArg own_cx (own_bv_eq (46 : Int32) own_f178 rfl))).trans (Eq.trans own_cx46 (own_qq2 own_f129 own_f179).symm))) eT (W := 0) (by decide) (by decide) (cells' := 25) (slots' := 110) rfl rfl (by decide) (by decide) (by rw [hml]; rfl) (lenOf own_pd_28Ljava2flang2fString3bLjava2flang2fString3bLjava2flang2fString3bI29Z rfl) rfl (S := []) rfl (Nat.le_of_eq rfl) (hb hby at_198) (pc' := 201) rfl ?_
      intro v T h99 L lc X eT hq fN
      obtain ⟨rfl, Nq, hqe⟩ := hq
      have N := fN _ N Nq
      rw [hqe] at eT
      show own_W _ _ _ _ _ _ _ _ [(.int (1 : Int32))]
      refine own_ifN X hx (hb hby at_201) (pc' := 204) rfl (show ¬ ((1 : Int32) = (0 : Int32)) from (by decide)) ?_
      refine own_aload X hx (hb hby at_204) (pc' := 206) rfl rfl rfl ?_
      refine own_aloadN X hx (hb hby at_206) (pc' := 207) rfl rfl rfl ?_
      refine own_aloadN X hx (hb hby at_207) (pc' := 208) rfl rfl rfl ?_
      refine own_iconst X hx (4 : Int32) (hb hby at_208) (pc' := 209) rfl rfl ?_
      refine own_callS X hx hZ [(.ref qa), (.ref sa1), (.ref sa2), (.int (4 : Int32))] hown (own_w hw 199 rfl) (own_w hw 200 rfl) (own_w hw 2 rfl) (own_w hw 201 rfl) (by decide) (rm_qo l Z a0 hw [] qa qb (5 : Int32) [(.int d0), (.int (46 : Int32)), (.int f0), (.int (46 : Int32)), (.int d0)] sa1 sb1 sa2 sb2 (4 : Int32) (1 : Int32) (1 : Int32) cs fm [(.int d0)] [(.int f0)] (3 : Int32) h84 n0 Z0 S_C hcs S_F hfm E_1 C_1 V_1 _ A_1 E_2 C_2 V_2 _ A_2 (own_inS own_in0) (own_inS own_in0) own_f59 E_q C_q V_q _ A_q (own_inS (own_inS (own_inS (own_inS (own_inS own_in0))))) own_f79 own_f219 own_f184 (((own_at_lt own_f223).trans (congrArg own_cx (own_bv_eq d0 own_f224 rfl))).trans ((own_qq3 own_f133 own_f183).trans ((own_at_lt own_f225).trans (congrArg own_cx (own_bv_eq d0 own_f226 rfl)))).symm)) eT (W := 0) (by decide) (by decide) (cells' := 25) (slots' := 110) rfl rfl (by decide) (by decide) (by rw [hml]; rfl) (lenOf own_pd_28Ljava2flang2fString3bLjava2flang2fString3bLjava2flang2fString3bI29Z rfl) rfl (S := []) rfl (Nat.le_of_eq rfl) (hb hby at_209) (pc' := 212) rfl ?_
      intro v T h100 L lc X eT hq fN
      obtain ⟨rfl, Nq, hqe⟩ := hq
      have N := fN _ N Nq
      rw [hqe] at eT
      show own_W _ _ _ _ _ _ _ _ [(.int (1 : Int32))]
      refine own_ifN X hx (hb hby at_212) (pc' := 215) rfl (show ¬ ((1 : Int32) = (0 : Int32)) from (by decide)) ?_
      refine own_aload X hx (hb hby at_215) (pc' := 217) rfl rfl rfl ?_
      refine own_aloadN X hx (hb hby at_217) (pc' := 218) rfl rfl rfl ?_
      refine own_aloadN X hx (hb hby at_218) (pc' := 219) rfl rfl rfl ?_
      refine own_iconst X hx (5 : Int32) (hb hby at_219) (pc' := 220) rfl rfl ?_
      refine own_callS X hx hZ [(.ref qa), (.ref sa1), (.ref sa2), (.int (5 : Int32))] hown (own_w hw 199 rfl) (own_w hw 200 rfl) (own_w hw 2 rfl) (own_w hw 201 rfl) (by decide) (rm_qo l Z a0 hw [] qa qb (5 : Int32) [(.int d0), (.int (46 : Int32)), (.int f0), (.int (46 : Int32)), (.int d0)] sa1 sb1 sa2 sb2 (5 : Int32) (1 : Int32) (1 : Int32) cs fm [(.int d0)] [(.int f0)] (3 : Int32) h84 n0 Z0 S_C hcs S_F hfm E_1 C_1 V_1 _ A_1 E_2 C_2 V_2 _ A_2 (own_inS own_in0) (own_inS own_in0) own_f84 E_q C_q V_q _ A_q (own_inS (own_inS (own_inS (own_inS (own_inS own_in0))))) own_f86 own_f219 own_f188 ((own_at_ge own_f227).trans ((own_qq3 own_f137 own_f187).trans (own_at_ge own_f228)).symm)) eT (W := 0) (by decide) (by decide) (cells' := 25) (slots' := 110) rfl rfl (by decide) (by decide) (by rw [hml]; rfl) (lenOf own_pd_28Ljava2flang2fString3bLjava2flang2fString3bLjava2flang2fString3bI29Z rfl) rfl (S := []) rfl (Nat.le_of_eq rfl) (hb hby at_220) (pc' := 223) rfl ?_
      intro v T h101 L lc X eT hq fN
      obtain ⟨rfl, Nq, hqe⟩ := hq
      have N := fN _ N Nq
      rw [hqe] at eT
      show own_W _ _ _ _ _ _ _ _ [(.int (1 : Int32))]
      refine own_ifN X hx (hb hby at_223) (pc' := 226) rfl (show ¬ ((1 : Int32) = (0 : Int32)) from (by decide)) ?_
      refine own_aload X hx (hb hby at_226) (pc' := 228) rfl rfl rfl ?_
      refine own_aloadN X hx (hb hby at_228) (pc' := 229) rfl rfl rfl ?_
      refine own_aloadN X hx (hb hby at_229) (pc' := 230) rfl rfl rfl ?_
      refine own_bipush X hx (6 : Int32) (hb hby at_230) (pc' := 232) rfl rfl ?_
      refine own_callS X hx hZ [(.ref qa), (.ref sa1), (.ref sa2), (.int (6 : Int32))] hown (own_w hw 199 rfl) (own_w hw 200 rfl) (own_w hw 2 rfl) (own_w hw 201 rfl) (by decide) (rm_qo l Z a0 hw [] qa qb (5 : Int32) [(.int d0), (.int (46 : Int32)), (.int f0), (.int (46 : Int32)), (.int d0)] sa1 sb1 sa2 sb2 (6 : Int32) (1 : Int32) (1 : Int32) cs fm [(.int d0)] [(.int f0)] (3 : Int32) h84 n0 Z0 S_C hcs S_F hfm E_1 C_1 V_1 _ A_1 E_2 C_2 V_2 _ A_2 (own_inS own_in0) (own_inS own_in0) own_f91 E_q C_q V_q _ A_q (own_inS (own_inS (own_inS (own_inS (own_inS own_in0))))) own_f93 own_f219 own_f192 ((own_at_ge own_f229).trans ((own_qq3 own_f141 own_f191).trans (own_at_ge own_f230)).symm)) eT (W := 0) (by decide) (by decide) (cells' := 25) (slots' := 110) rfl rfl (by decide) (by decide) (by rw [hml]; rfl) (lenOf own_pd_28Ljava2flang2fString3bLjava2flang2fString3bLjava2flang2fString3bI29Z rfl) rfl (S := []) rfl (Nat.le_of_eq rfl) (hb hby at_232) (pc' := 235) rfl ?_
      intro v T h102 L lc X eT hq fN
      obtain ⟨rfl, Nq, hqe⟩ := hq
      have N := fN _ N Nq
      rw [hqe] at eT
      show own_W _ _ _ _ _ _ _ _ [(.int (1 : Int32))]
      refine own_ifN X hx (hb hby at_235) (pc' := 238) rfl (show ¬ ((1 : Int32) = (0 : Int32)) from (by decide)) ?_
      refine own_aload X hx (hb hby at_238) (pc' := 240) rfl rfl rfl ?_
      refine own_aloadN X hx (hb hby at_240) (pc' := 241) rfl rfl rfl ?_
      refine own_aloadN X hx (hb hby at_241) (pc' := 242) rfl rfl rfl ?_
      refine own_bipush X hx (7 : Int32) (hb hby at_242) (pc' := 244) rfl rfl ?_
      refine own_callS X hx hZ [(.ref qa), (.ref sa1), (.ref sa2), (.int (7 : Int32))] hown (own_w hw 199 rfl) (own_w hw 200 rfl) (own_w hw 2 rfl) (own_w hw 201 rfl) (by decide) (rm_qo l Z a0 hw [] qa qb (5 : Int32) [(.int d0), (.int (46 : Int32)), (.int f0), (.int (46 : Int32)), (.int d0)] sa1 sb1 sa2 sb2 (7 : Int32) (1 : Int32) (1 : Int32) cs fm [(.int d0)] [(.int f0)] (3 : Int32) h84 n0 Z0 S_C hcs S_F hfm E_1 C_1 V_1 _ A_1 E_2 C_2 V_2 _ A_2 (own_inS own_in0) (own_inS own_in0) own_f98 E_q C_q V_q _ A_q (own_inS (own_inS (own_inS (own_inS (own_inS own_in0))))) own_f100 own_f219 own_f196 ((own_at_ge own_f231).trans ((own_qq3 own_f145 own_f195).trans (own_at_ge own_f232)).symm)) eT (W := 0) (by decide) (by decide) (cells' := 25) (slots' := 110) rfl rfl (by decide) (by decide) (by rw [hml]; rfl) (lenOf own_pd_28Ljava2flang2fString3bLjava2flang2fString3bLjava2flang2fString3bI29Z rfl) rfl (S := []) rfl (Nat.le_of_eq rfl) (hb hby at_244) (pc' := 247) rfl ?_
      intro v T h103 L lc X eT hq fN
      obtain ⟨rfl, Nq, hqe⟩ := hq
      have N := fN _ N Nq
      rw [hqe] at eT
      show own_W _ _ _ _ _ _ _ _ [(.int (1 : Int32))]
      refine own_ifN X hx (hb hby at_247) (pc' := 250) rfl (show ¬ ((1 : Int32) = (0 : Int32)) from (by decide)) ?_
      refine own_iconst X hx (1 : Int32) (hb hby at_250) (pc' := 251) rfl rfl ?_
      refine own_goto X hx (hb hby at_251) (by decide) (pc' := 255) rfl ?_
      refine own_istore X hx (hb hby at_255) (pc' := 257) rfl (Ls' := #[.val (.int p0), .val (.int p1), .val (.ref sa1), .val (.ref sa2), .val (.ref pa), .val (.ref ea), .val (.ref qa), .val (.int (1 : Int32)), .val (.int (1 : Int32)), .val (.int (3 : Int32)), .val (.int (1 : Int32))]) rfl ?_
      refine own_iload X hx (hb hby at_257) (pc' := 259) rfl rfl ?_
      refine own_retIS X hx hlk hZ eT hh hS hk hEL H CR (t := .boolean) (w' := (.int (1 : Int32))) Bd.returns (hb hby at_259) rfl rfl (by simp) (by decide) (by decide) ?_
      rw [eT]
      exact ⟨rfl, N⟩
    · show own_W _ _ _ _ _ _ _ _ [(.ref sa2)]
      refine own_astoreN X hx (hb hby at_9) (pc' := 10) rfl rfl (Ls' := #[.val (.int p0), .val (.int p1), .val (.ref sa1), .val (.ref sa2), .unset, .unset, .unset, .unset, .unset, .unset, .unset]) rfl ?_
      refine own_aloadN X hx (hb hby at_10) (pc' := 11) rfl rfl rfl ?_
      refine own_aloadN X hx (hb hby at_11) (pc' := 12) rfl rfl rfl ?_
      refine own_callSS X hx hZ [(.ref sa1), (.ref sa2)] hown (own_w hw 26 rfl) (own_w hw 27 rfl) (own_w hw 28 rfl) (own_w hw 29 rfl) (by decide) (rm_af l Z a0 hw hEL [] sa1 sa2 sb1 sb2 (1 : Int32) (2 : Int32) cs (1 : Int32) (2 : Int32) (4 : Int32) (4 : Int32) (5 : Int32) (6 : Int32) 1 2 1 2 4 4 5 6 [(.int d0)] [(.int f0), (.int f1)] [(.int d0), (.int (0 : Int32)), (.int (0 : Int32)), (.int (0 : Int32)), (.int (0 : Int32)), (.int (0 : Int32)), (.int (0 : Int32)), (.int (0 : Int32)), (.int (0 : Int32)), (.int (0 : Int32)), (.int (0 : Int32)), (.int (0 : Int32)), (.int (0 : Int32)), (.int (0 : Int32)), (.int (0 : Int32)), (.int (0 : Int32))] [(.int d0), (.int (46 : Int32)), (.int (0 : Int32)), (.int (0 : Int32)), (.int (0 : Int32)), (.int (0 : Int32)), (.int (0 : Int32)), (.int (0 : Int32)), (.int (0 : Int32)), (.int (0 : Int32)), (.int (0 : Int32)), (.int (0 : Int32)), (.int (0 : Int32)), (.int (0 : Int32)), (.int (0 : Int32)), (.int (0 : Int32))] [(.int d0), (.int (46 : Int32)), (.int f0), (.int f1), (.int (0 : Int32)), (.int (0 : Int32)), (.int (0 : Int32)), (.int (0 : Int32)), (.int (0 : Int32)), (.int (0 : Int32)), (.int (0 : Int32)), (.int (0 : Int32)), (.int (0 : Int32)), (.int (0 : Int32)), (.int (0 : Int32)), (.int (0 : Int32))] [(.int d0), (.int (46 : Int32)), (.int f0), (.int f1), (.int (0 : Int32)), (.int (0 : Int32)), (.int (0 : Int32)), (.int (0 : Int32)), (.int (0 : Int32)), (.int (0 : Int32)), (.int (0 : Int32)), (.int (0 : Int32)), (.int (0 : Int32)), (.int (0 : Int32)), (.int (0 : Int32)), (.int (0 : Int32))] [(.int d0), (.int (46 : Int32)), (.int f0), (.int f1), (.int (46 : Int32)), (.int (0 : Int32)), (.int (0 : Int32)), (.int (0 : Int32)), (.int (0 : Int32)), (.int (0 : Int32)), (.int (0 : Int32)), (.int (0 : Int32)), (.int (0 : Int32)), (.int (0 : Int32)), (.int (0 : Int32)), (.int (0 : Int32))] [(.int d0), (.int (46 : Int32)), (.int f0), (.int f1), (.int (46 : Int32)), (.int d0), (.int (0 : Int32)), (.int (0 : Int32)), (.int (0 : Int32)), (.int (0 : Int32)), (.int (0 : Int32)), (.int (0 : Int32)), (.int (0 : Int32)), (.int (0 : Int32)), (.int (0 : Int32)), (.int (0 : Int32))] [(.int d0), (.int (46 : Int32)), (.int f0), (.int f1)] [(.int d0), (.int (46 : Int32)), (.int f0), (.int f1), (.int (46 : Int32)), (.int d0)] h63 n0 Z0 S_C hcs E_1 C_1 V_1 _ A_1 E_2 C_2 V_2 _ A_2 ⟨own_f6, own_f7, own_f2, own_f3, own_f8, own_f9, own_f10, (Nat.le_of_ble_eq_true rfl), (Nat.le_of_ble_eq_true rfl), rfl⟩ ⟨own_f14, own_f15, own_f12, own_f8, own_f8, own_f9, own_f16, (Nat.le_of_ble_eq_true rfl), (Nat.le_of_ble_eq_true rfl), rfl⟩ ⟨own_f152, own_f233, own_f18, own_f19, own_f19, own_f32, own_f234, (Nat.le_of_ble_eq_true rfl), (Nat.le_of_ble_eq_true rfl), rfl⟩ ⟨own_f152, own_f235, own_f2, own_f3, own_f157, own_f164, own_f163, (Nat.le_of_ble_eq_true rfl), (Nat.le_of_ble_eq_true rfl), rfl⟩ ⟨own_f204, own_f205, own_f156, own_f157, own_f8, own_f9, own_f206, (Nat.le_of_ble_eq_true rfl), (Nat.le_of_ble_eq_true rfl), rfl⟩ ⟨own_f236, own_f237, own_f238, own_f209, own_f8, own_f9, own_f239, (Nat.le_of_ble_eq_true rfl), (Nat.le_of_ble_eq_true rfl), rfl⟩ ⟨own_f59, own_f159, own_f160, own_f157, own_f161, own_f162, own_f163, own_f164, (Nat.le_of_ble_eq_true rfl), rfl⟩ ⟨own_f91, own_f240, own_f241, own_f242, own_f243, own_f244, own_f245, own_f246, (Nat.le_of_ble_eq_true rfl), rfl⟩) eT hS hk hEL H (W := 0) (by decide) (by decide) (cells' := 25) (slots' := 110) rfl rfl (by decide) (by decide) (by rw [hml]; rfl) (lenOf own_pd_28Ljava2flang2fString3bLjava2flang2fString3b29Lcom2fexample2frunnel2frunnel2fbroker2fPipe3b rfl) rfl (S := []) rfl (Nat.le_of_eq rfl) (hb hby at_12) (pc' := 15) rfl ?_
      intro v T h104 L lc vm0 k1 X eT hS hk hZ hown CQ hq fN
      obtain ⟨pa, ea, eb, qa, qb, k_e, k_q, rfl, Nq, Kq, E_p, F_x, F_q, ⟨E_e, C_e, V_e, A_e⟩, ⟨E_q, C_q, V_q, A_q⟩⟩ := hq
      have N := fN _ N Nq
      have CR := CR.trans CQ
      have H := CQ.1
      have S_C := own_sta_keep S_C Kq ns0
      have S_F := own_sta_keep S_F Kq ns0
      have E_1 := E_1.keep Kq
      have C_1 := C_1.keep Kq nin0
      have V_1 := V_1.keep Kq nin0
      have A_1 := A_1.keep Kq nin0
      have E_2 := E_2.keep Kq
      have C_2 := C_2.keep Kq nin0
      have V_2 := V_2.keep Kq nin0
      have A_2 := A_2.keep Kq nin0
      have Z0 := Nat.le_trans Z0 Kq.1
      show own_W _ _ _ _ _ _ _ _ [(.ref pa)]
      refine own_astore X hx (hb hby at_15) (pc' := 17) rfl rfl (Ls' := #[.val (.int p0), .val (.int p1), .val (.ref sa1), .val (.ref sa2), .val (.ref pa), .unset, .unset, .unset, .unset, .unset, .unset]) rfl ?_
      refine own_aload X hx (hb hby at_17) (pc' := 19) rfl rfl rfl ?_
      refine own_callV X hx hZ (y := (⟨"com/example/runnel/runnel/broker/Pipe", "exchange", "()Ljava/lang/String;"⟩ : MethodName)) pa [] hown (own_w hw 157 rfl) (own_w hw 158 rfl) (own_w hw 160 rfl) (own_w hw 159 rfl) (own_w hw 28 rfl) (own_w hw 161 rfl) (by decide) (rm_ex l Z a0 hw [] pa ea h104 n0 Z0 F_x) E_p eT (W := 0) (by decide) (by decide) (cells' := 25) (slots' := 110) rfl rfl (by decide) (by decide) (by rw [hml]; rfl) (lenOf own_pd_2829Ljava2flang2fString3b rfl) rfl (S := []) rfl (Nat.le_of_eq rfl) (hb hby at_19) (pc' := 22) rfl ?_
      intro v T h105 L lc X eT hq fN
      obtain ⟨rfl, Nq, hqe⟩ := hq
      have N := fN _ N Nq
      rw [hqe] at eT
      show own_W _ _ _ _ _ _ _ _ [(.ref ea)]
      refine own_astore X hx (hb hby at_22) (pc' := 24) rfl rfl (Ls' := #[.val (.int p0), .val (.int p1), .val (.ref sa1), .val (.ref sa2), .val (.ref pa), .val (.ref ea), .unset, .unset, .unset, .unset, .unset]) rfl ?_
      refine own_aload X hx (hb hby at_24) (pc' := 26) rfl rfl rfl ?_
      refine own_callV X hx hZ (y := (⟨"com/example/runnel/runnel/broker/Pipe", "queue", "()Ljava/lang/String;"⟩ : MethodName)) pa [] hown (own_w hw 162 rfl) (own_w hw 163 rfl) (own_w hw 165 rfl) (own_w hw 164 rfl) (own_w hw 28 rfl) (own_w hw 166 rfl) (by decide) (rm_qu l Z a0 hw [] pa qa h104 n0 Z0 F_q) E_p eT (W := 0) (by decide) (by decide) (cells' := 25) (slots' := 110) rfl rfl (by decide) (by decide) (by rw [hml]; rfl) (lenOf own_pd_2829Ljava2flang2fString3b rfl) rfl (S := []) rfl (Nat.le_of_eq rfl) (hb hby at_26) (pc' := 29) rfl ?_
      intro v T h106 L lc X eT hq fN
      obtain ⟨rfl, Nq, hqe⟩ := hq
      have N := fN _ N Nq
      rw [hqe] at eT
      show own_W _ _ _ _ _ _ _ _ [(.ref qa)]
      refine own_astore X hx (hb hby at_29) (pc' := 31) rfl rfl (Ls' := #[.val (.int p0), .val (.int p1), .val (.ref sa1), .val (.ref sa2), .val (.ref pa), .val (.ref ea), .val (.ref qa), .unset, .unset, .unset, .unset]) rfl ?_
      refine own_aload X hx (hb hby at_31) (pc' := 33) rfl rfl rfl ?_
      refine own_ifnullN X hx (hb hby at_33) (pc' := 36) rfl ?_
      refine own_aload X hx (hb hby at_36) (pc' := 38) rfl rfl rfl ?_
      refine own_ifnonnullY X hx (hb hby at_38) (by decide) (pc' := 43) rfl ?_
      refine own_aloadN X hx (hb hby at_43) (pc' := 44) rfl rfl rfl ?_
      refine own_callV X hx hZ (y := (⟨"java/lang/String", "length", "()I"⟩ : MethodName)) sa1 [] hown (own_w hw 167 rfl) (own_w hw 59 rfl) (own_w hw 61 rfl) (own_w hw 60 rfl) (own_w hw 6 rfl) (own_w hw 62 rfl) (by decide) (rm_len l Z a0 hw [] sa1 sb1 cs (1 : Int32) h104 n0 Z0 S_C hcs E_1 C_1 V_1 _ _ A_1) E_1 eT (W := 0) (by decide) (by decide) (cells' := 25) (slots' := 110) rfl rfl (by decide) (by decide) (by rw [hml]; rfl) (lenOf own_pd_2829I rfl) rfl (S := []) rfl (Nat.le_of_eq rfl) (hb hby at_44) (pc' := 47) rfl ?_
      intro v T h107 L lc X eT hq fN
      obtain ⟨rfl, Nq, hqe⟩ := hq
      have N := fN _ N Nq
      rw [hqe] at eT
      show own_W _ _ _ _ _ _ _ _ [(.int (1 : Int32))]
      refine own_istore X hx (hb hby at_47) (pc' := 49) rfl (Ls' := #[.val (.int p0), .val (.int p1), .val (.ref sa1), .val (.ref sa2), .val (.ref pa), .val (.ref ea), .val (.ref qa), .val (.int (1 : Int32)), .unset, .unset, .unset]) rfl ?_
      refine own_aloadN X hx (hb hby at_49) (pc' := 50) rfl rfl rfl ?_
      refine own_callV X hx hZ (y := (⟨"java/lang/String", "length", "()I"⟩ : MethodName)) sa2 [] hown (own_w hw 167 rfl) (own_w hw 59 rfl) (own_w hw 61 rfl) (own_w hw 60 rfl) (own_w hw 6 rfl) (own_w hw 62 rfl) (by decide) (rm_len l Z a0 hw [] sa2 sb2 cs (2 : Int32) h104 n0 Z0 S_C hcs E_2 C_2 V_2 _ _ A_2) E_2 eT (W := 0) (by decide) (by decide) (cells' := 25) (slots' := 110) rfl rfl (by decide) (by decide) (by rw [hml]; rfl) (lenOf own_pd_2829I rfl) rfl (S := []) rfl (Nat.le_of_eq rfl) (hb hby at_50) (pc' := 53) rfl ?_
      intro v T h108 L lc X eT hq fN
      obtain ⟨rfl, Nq, hqe⟩ := hq
      have N := fN _ N Nq
      rw [hqe] at eT
      show own_W _ _ _ _ _ _ _ _ [(.int (2 : Int32))]
      refine own_istore X hx (hb hby at_53) (pc' := 55) rfl (Ls' := #[.val (.int p0), .val (.int p1), .val (.ref sa1), .val (.ref sa2), .val (.ref pa), .val (.ref ea), .val (.ref qa), .val (.int (1 : Int32)), .val (.int (2 : Int32)), .unset, .unset]) rfl ?_
      refine own_iload X hx (hb hby at_55) (pc' := 57) rfl rfl ?_
      refine own_iconst X hx (1 : Int32) (hb hby at_57) (pc' := 58) rfl rfl ?_
      refine own_iadd X hx (hb hby at_58) (pc' := 59) rfl ?_
      rw [show ((1 : Int32) + (1 : Int32)) = (2 : Int32) from by decide]
      refine own_iload X hx (hb hby at_59) (pc' := 61) rfl rfl ?_
      refine own_iadd X hx (hb hby at_61) (pc' := 62) rfl ?_
      rw [show ((2 : Int32) + (2 : Int32)) = (4 : Int32) from by decide]
      refine own_istore X hx (hb hby at_62) (pc' := 64) rfl (Ls' := #[.val (.int p0), .val (.int p1), .val (.ref sa1), .val (.ref sa2), .val (.ref pa), .val (.ref ea), .val (.ref qa), .val (.int (1 : Int32)), .val (.int (2 : Int32)), .val (.int (4 : Int32)), .unset]) rfl ?_
      refine own_aload X hx (hb hby at_64) (pc' := 66) rfl rfl rfl ?_
      refine own_callV X hx hZ (y := (⟨"java/lang/String", "length", "()I"⟩ : MethodName)) ea [] hown (own_w hw 167 rfl) (own_w hw 59 rfl) (own_w hw 61 rfl) (own_w hw 60 rfl) (own_w hw 6 rfl) (own_w hw 62 rfl) (by decide) (rm_len l Z a0 hw [] ea eb cs (4 : Int32) h104 n0 Z0 S_C hcs E_e C_e V_e _ _ A_e) E_e eT (W := 0) (by decide) (by decide) (cells' := 25) (slots' := 110) rfl rfl (by decide) (by decide) (by rw [hml]; rfl) (lenOf own_pd_2829I rfl) rfl (S := []) rfl (Nat.le_of_eq rfl) (hb hby at_66) (pc' := 69) rfl ?_
      intro v T h109 L lc X eT hq fN
      obtain ⟨rfl, Nq, hqe⟩ := hq
      have N := fN _ N Nq
      rw [hqe] at eT
      show own_W _ _ _ _ _ _ _ _ [(.int (4 : Int32))]
      refine own_iload X hx (hb hby at_69) (pc' := 71) rfl rfl ?_
      refine own_icmpY X hx (hb hby at_71) (by decide) (pc' := 76) rfl (show (4 : Int32) = (4 : Int32) from (by decide)) ?_
      refine own_aload X hx (hb hby at_76) (pc' := 78) rfl rfl rfl ?_
      refine own_callV X hx hZ (y := (⟨"java/lang/String", "length", "()I"⟩ : MethodName)) qa [] hown (own_w hw 167 rfl) (own_w hw 59 rfl) (own_w hw 61 rfl) (own_w hw 60 rfl) (own_w hw 6 rfl) (own_w hw 62 rfl) (by decide) (rm_len l Z a0 hw [] qa qb cs (6 : Int32) h104 n0 Z0 S_C hcs E_q C_q V_q _ _ A_q) E_q eT (W := 0) (by decide) (by decide) (cells' := 25) (slots' := 110) rfl rfl (by decide) (by decide) (by rw [hml]; rfl) (lenOf own_pd_2829I rfl) rfl (S := []) rfl (Nat.le_of_eq rfl) (hb hby at_78) (pc' := 81) rfl ?_
      intro v T h110 L lc X eT hq fN
      obtain ⟨rfl, Nq, hqe⟩ := hq
      have N := fN _ N Nq
      rw [hqe] at eT
      show own_W _ _ _ _ _ _ _ _ [(.int (6 : Int32))]
      refine own_iload X hx (hb hby at_81) (pc' := 83) rfl rfl ?_
      refine own_iconst X hx (1 : Int32) (hb hby at_83) (pc' := 84) rfl rfl ?_
      refine own_iadd X hx (hb hby at_84) (pc' := 85) rfl ?_
      rw [show ((4 : Int32) + (1 : Int32)) = (5 : Int32) from by decide]
      refine own_iload X hx (hb hby at_85) (pc' := 87) rfl rfl ?_
      refine own_iadd X hx (hb hby at_87) (pc' := 88) rfl ?_
      rw [show ((5 : Int32) + (1 : Int32)) = (6 : Int32) from by decide]
      refine own_icmpY X hx (hb hby at_88) (by decide) (pc' := 93) rfl (show (6 : Int32) = (6 : Int32) from (by decide)) ?_
      refine own_aload X hx (hb hby at_93) (pc' := 95) rfl rfl rfl ?_
      refine own_aloadN X hx (hb hby at_95) (pc' := 96) rfl rfl rfl ?_
      refine own_aloadN X hx (hb hby at_96) (pc' := 97) rfl rfl rfl ?_
      refine own_iconst X hx (0 : Int32) (hb hby at_97) (pc' := 98) rfl rfl ?_
      refine own_callS X hx hZ [(.ref ea), (.ref sa1), (.ref sa2), (.int (0 : Int32))] hown (own_w hw 168 rfl) (own_w hw 169 rfl) (own_w hw 2 rfl) (own_w hw 170 rfl) (by decide) (rm_xo l Z a0 hw [] ea eb (4 : Int32) [(.int d0), (.int (46 : Int32)), (.int f0), (.int f1)] sa1 sb1 sa2 sb2 (0 : Int32) (1 : Int32) (2 : Int32) cs fm [(.int d0)] [(.int f0), (.int f1)] h104 n0 Z0 S_C hcs S_F hfm E_1 C_1 V_1 _ A_1 E_2 C_2 V_2 _ A_2 (own_inS own_in0) (own_inS (own_inS own_in0)) own_f37 E_e C_e V_e _ A_e (own_inS (own_inS (own_inS (own_inS own_in0)))) own_f63 (((own_at_lt own_f170).trans (congrArg own_cx (own_bv_eq d0 own_f34 rfl))).trans ((own_ee1 own_f33).trans (congrArg own_cx (own_bv_eq d0 own_f34 rfl))).symm)) eT (W := 0) (by decide) (by decide) (cells' := 25) (slots' := 110) rfl rfl (by decide) (by decide) (by rw [hml]; rfl) (lenOf own_pd_28Ljava2flang2fString3bLjava2flang2fString3bLjava2flang2fString3bI29Z rfl) rfl (S := []) rfl (Nat.le_of_eq rfl) (hb hby at_98) (pc' := 101) rfl ?_
      intro v T h111 L lc X eT hq fN
      obtain ⟨rfl, Nq, hqe⟩ := hq
      have N := fN _ N Nq
      rw [hqe] at eT
      show own_W _ _ _ _ _ _ _ _ [(.int (1 : Int32))]
      refine own_ifN X hx (hb hby at_101) (pc' := 104) rfl (show ¬ ((1 : Int32) = (0 : Int32)) from (by decide)) ?_
      refine own_aload X hx (hb hby at_104) (pc' := 106) rfl rfl rfl ?_
      refine own_aloadN X hx (hb hby at_106) (pc' := 107) rfl rfl rfl ?_
      refine own_aloadN X hx (hb hby at_107) (pc' := 108) rfl rfl rfl ?_
      refine own_iconst X hx (1 : Int32) (hb hby at_108) (pc' := 109) rfl rfl ?_
      refine own_callS X hx hZ [(.ref ea), (.ref sa1), (.ref sa2), (.int (1 : Int32))] hown (own_w hw 168 rfl) (own_w hw 169 rfl) (own_w hw 2 rfl) (own_w hw 170 rfl) (by decide) (rm_xo l Z a0 hw [] ea eb (4 : Int32) [(.int d0), (.int (46 : Int32)), (.int f0), (.int f1)] sa1 sb1 sa2 sb2 (1 : Int32) (1 : Int32) (2 : Int32) cs fm [(.int d0)] [(.int f0), (.int f1)] h104 n0 Z0 S_C hcs S_F hfm E_1 C_1 V_1 _ A_1 E_2 C_2 V_2 _ A_2 (own_inS own_in0) (own_inS (own_inS own_in0)) own_f21 E_e C_e V_e _ A_e (own_inS (own_inS (own_inS (own_inS own_in0)))) own_f67 (((own_at_lt own_f173).trans (congrArg own_cx (own_bv_eq (46 : Int32) own_f65 rfl))).trans (Eq.trans own_cx46 (own_ee2 own_f39 own_f66).symm))) eT (W := 0) (by decide) (by decide) (cells' := 25) (slots' := 110) rfl rfl (by decide) (by decide) (by rw [hml]; rfl) (lenOf own_pd_28Ljava2flang2fString3bLjava2flang2fString3bLjava2flang2fString3bI29Z rfl) rfl (S := []) rfl (Nat.le_of_eq rfl) (hb hby at_109) (pc' := 112) rfl ?_
      intro v T h112 L lc X eT hq fN
      obtain ⟨rfl, Nq, hqe⟩ := hq
      have N := fN _ N Nq
      rw [hqe] at eT
      show own_W _ _ _ _ _ _ _ _ [(.int (1 : Int32))]
      refine own_ifN X hx (hb hby at_112) (pc' := 115) rfl (show ¬ ((1 : Int32) = (0 : Int32)) from (by decide)) ?_
      refine own_aload X hx (hb hby at_115) (pc' := 117) rfl rfl rfl ?_
      refine own_aloadN X hx (hb hby at_117) (pc' := 118) rfl rfl rfl ?_
      refine own_aloadN X hx (hb hby at_118) (pc' := 119) rfl rfl rfl ?_
      refine own_iconst X hx (2 : Int32) (hb hby at_119) (pc' := 120) rfl rfl ?_
      refine own_callS X hx hZ [(.ref ea), (.ref sa1), (.ref sa2), (.int (2 : Int32))] hown (own_w hw 168 rfl) (own_w hw 169 rfl) (own_w hw 2 rfl) (own_w hw 170 rfl) (by decide) (rm_xo l Z a0 hw [] ea eb (4 : Int32) [(.int d0), (.int (46 : Int32)), (.int f0), (.int f1)] sa1 sb1 sa2 sb2 (2 : Int32) (1 : Int32) (2 : Int32) cs fm [(.int d0)] [(.int f0), (.int f1)] h104 n0 Z0 S_C hcs S_F hfm E_1 C_1 V_1 _ A_1 E_2 C_2 V_2 _ A_2 (own_inS own_in0) (own_inS (own_inS own_in0)) own_f26 E_e C_e V_e _ A_e (own_inS (own_inS (own_inS (own_inS own_in0)))) own_f71 (((own_at_lt own_f175).trans (congrArg own_cx (own_bv_eq f0 own_f126 rfl))).trans ((own_ee3 own_f44 own_f70).trans ((own_at_lt own_f247).trans (congrArg own_cx (own_bv_eq f0 own_f215 rfl)))).symm)) eT (W := 0) (by decide) (by decide) (cells' := 25) (slots' := 110) rfl rfl (by decide) (by decide) (by rw [hml]; rfl) (lenOf own_pd_28Ljava2flang2fString3bLjava2flang2fString3bLjava2flang2fString3bI29Z rfl) rfl (S := []) rfl (Nat.le_of_eq rfl) (hb hby at_120) (pc' := 123) rfl ?_
      intro v T h113 L lc X eT hq fN
      obtain ⟨rfl, Nq, hqe⟩ := hq
      have N := fN _ N Nq
      rw [hqe] at eT
      show own_W _ _ _ _ _ _ _ _ [(.int (1 : Int32))]
      refine own_ifN X hx (hb hby at_123) (pc' := 126) rfl (show ¬ ((1 : Int32) = (0 : Int32)) from (by decide)) ?_
      refine own_aload X hx (hb hby at_126) (pc' := 128) rfl rfl rfl ?_
      refine own_aloadN X hx (hb hby at_128) (pc' := 129) rfl rfl rfl ?_
      refine own_aloadN X hx (hb hby at_129) (pc' := 130) rfl rfl rfl ?_
      refine own_iconst X hx (3 : Int32) (hb hby at_130) (pc' := 131) rfl rfl ?_
      refine own_callS X hx hZ [(.ref ea), (.ref sa1), (.ref sa2), (.int (3 : Int32))] hown (own_w hw 168 rfl) (own_w hw 169 rfl) (own_w hw 2 rfl) (own_w hw 170 rfl) (by decide) (rm_xo l Z a0 hw [] ea eb (4 : Int32) [(.int d0), (.int (46 : Int32)), (.int f0), (.int f1)] sa1 sb1 sa2 sb2 (3 : Int32) (1 : Int32) (2 : Int32) cs fm [(.int d0)] [(.int f0), (.int f1)] h104 n0 Z0 S_C hcs S_F hfm E_1 C_1 V_1 _ A_1 E_2 C_2 V_2 _ A_2 (own_inS own_in0) (own_inS (own_inS own_in0)) own_f53 E_e C_e V_e _ A_e (own_inS (own_inS (own_inS (own_inS own_in0)))) own_f75 (((own_at_lt own_f177).trans (congrArg own_cx (own_bv_eq f1 own_f178 rfl))).trans ((own_ee3 own_f49 own_f74).trans ((own_at_lt own_f248).trans (congrArg own_cx (own_bv_eq f1 own_f249 rfl)))).symm)) eT (W := 0) (by decide) (by decide) (cells' := 25) (slots' := 110) rfl rfl (by decide) (by decide) (by rw [hml]; rfl) (lenOf own_pd_28Ljava2flang2fString3bLjava2flang2fString3bLjava2flang2fString3bI29Z rfl) rfl (S := []) rfl (Nat.le_of_eq rfl) (hb hby at_131) (pc' := 134) rfl ?_
      intro v T h114 L lc X eT hq fN
      obtain ⟨rfl, Nq, hqe⟩ := hq
      have N := fN _ N Nq
      rw [hqe] at eT
      show own_W _ _ _ _ _ _ _ _ [(.int (1 : Int32))]
      refine own_ifN X hx (hb hby at_134) (pc' := 137) rfl (show ¬ ((1 : Int32) = (0 : Int32)) from (by decide)) ?_
      refine own_aload X hx (hb hby at_137) (pc' := 139) rfl rfl rfl ?_
      refine own_aloadN X hx (hb hby at_139) (pc' := 140) rfl rfl rfl ?_
      refine own_aloadN X hx (hb hby at_140) (pc' := 141) rfl rfl rfl ?_
      refine own_iconst X hx (4 : Int32) (hb hby at_141) (pc' := 142) rfl rfl ?_
      refine own_callS X hx hZ [(.ref ea), (.ref sa1), (.ref sa2), (.int (4 : Int32))] hown (own_w hw 168 rfl) (own_w hw 169 rfl) (own_w hw 2 rfl) (own_w hw 170 rfl) (by decide) (rm_xo l Z a0 hw [] ea eb (4 : Int32) [(.int d0), (.int (46 : Int32)), (.int f0), (.int f1)] sa1 sb1 sa2 sb2 (4 : Int32) (1 : Int32) (2 : Int32) cs fm [(.int d0)] [(.int f0), (.int f1)] h104 n0 Z0 S_C hcs S_F hfm E_1 C_1 V_1 _ A_1 E_2 C_2 V_2 _ A_2 (own_inS own_in0) (own_inS (own_inS own_in0)) own_f59 E_e C_e V_e _ A_e (own_inS (own_inS (own_inS (own_inS own_in0)))) own_f79 ((own_at_ge own_f181).trans ((own_ee3 own_f55 own_f78).trans (own_at_ge own_f250)).symm)) eT (W := 0) (by decide) (by decide) (cells' := 25) (slots' := 110) rfl rfl (by decide) (by decide) (by rw [hml]; rfl) (lenOf own_pd_28Ljava2flang2fString3bLjava2flang2fString3bLjava2flang2fString3bI29Z rfl) rfl (S := []) rfl (Nat.le_of_eq rfl) (hb hby at_142) (pc' := 145) rfl ?_
      intro v T h115 L lc X eT hq fN
      obtain ⟨rfl, Nq, hqe⟩ := hq
      have N := fN _ N Nq
      rw [hqe] at eT
      show own_W _ _ _ _ _ _ _ _ [(.int (1 : Int32))]
      refine own_ifN X hx (hb hby at_145) (pc' := 148) rfl (show ¬ ((1 : Int32) = (0 : Int32)) from (by decide)) ?_
      refine own_iconst X hx (1 : Int32) (hb hby at_148) (pc' := 149) rfl rfl ?_
      refine own_goto X hx (hb hby at_149) (by decide) (pc' := 153) rfl ?_
      refine own_istore X hx (hb hby at_153) (pc' := 155) rfl (Ls' := #[.val (.int p0), .val (.int p1), .val (.ref sa1), .val (.ref sa2), .val (.ref pa), .val (.ref ea), .val (.ref qa), .val (.int (1 : Int32)), .val (.int (2 : Int32)), .val (.int (4 : Int32)), .val (.int (1 : Int32))]) rfl ?_
      refine own_iload X hx (hb hby at_155) (pc' := 157) rfl rfl ?_
      refine own_ifN X hx (hb hby at_157) (pc' := 160) rfl (show ¬ ((1 : Int32) = (0 : Int32)) from (by decide)) ?_
      refine own_aload X hx (hb hby at_160) (pc' := 162) rfl rfl rfl ?_
      refine own_aloadN X hx (hb hby at_162) (pc' := 163) rfl rfl rfl ?_
      refine own_aloadN X hx (hb hby at_163) (pc' := 164) rfl rfl rfl ?_
      refine own_iconst X hx (0 : Int32) (hb hby at_164) (pc' := 165) rfl rfl ?_
      refine own_callS X hx hZ [(.ref qa), (.ref sa1), (.ref sa2), (.int (0 : Int32))] hown (own_w hw 199 rfl) (own_w hw 200 rfl) (own_w hw 2 rfl) (own_w hw 201 rfl) (by decide) (rm_qo l Z a0 hw [] qa qb (6 : Int32) [(.int d0), (.int (46 : Int32)), (.int f0), (.int f1), (.int (46 : Int32)), (.int d0)] sa1 sb1 sa2 sb2 (0 : Int32) (1 : Int32) (2 : Int32) cs fm [(.int d0)] [(.int f0), (.int f1)] (4 : Int32) h104 n0 Z0 S_C hcs S_F hfm E_1 C_1 V_1 _ A_1 E_2 C_2 V_2 _ A_2 (own_inS own_in0) (own_inS (own_inS own_in0)) own_f37 E_q C_q V_q _ A_q (own_inS (own_inS (own_inS (own_inS (own_inS (own_inS own_in0)))))) own_f63 own_f252 own_f253 (((own_at_lt own_f251).trans (congrArg own_cx (own_bv_eq d0 own_f34 rfl))).trans ((own_qq1 own_f170).trans ((own_ee1 own_f33).trans (congrArg own_cx (own_bv_eq d0 own_f34 rfl)))).symm)) eT (W := 0) (by decide) (by decide) (cells' := 25) (slots' := 110) rfl rfl (by decide) (by decide) (by rw [hml]; rfl) (lenOf own_pd_28Ljava2flang2fString3bLjava2flang2fString3bLjava2flang2fString3bI29Z rfl) rfl (S := []) rfl (Nat.le_of_eq rfl) (hb hby at_165) (pc' := 168) rfl ?_
      intro v T h116 L lc X eT hq fN
      obtain ⟨rfl, Nq, hqe⟩ := hq
      have N := fN _ N Nq
      rw [hqe] at eT
      show own_W _ _ _ _ _ _ _ _ [(.int (1 : Int32))]
      refine own_ifN X hx (hb hby at_168) (pc' := 171) rfl (show ¬ ((1 : Int32) = (0 : Int32)) from (by decide)) ?_
      refine own_aload X hx (hb hby at_171) (pc' := 173) rfl rfl rfl ?_
      refine own_aloadN X hx (hb hby at_173) (pc' := 174) rfl rfl rfl ?_
      refine own_aloadN X hx (hb hby at_174) (pc' := 175) rfl rfl rfl ?_
      refine own_iconst X hx (1 : Int32) (hb hby at_175) (pc' := 176) rfl rfl ?_
      refine own_callS X hx hZ [(.ref qa), (.ref sa1), (.ref sa2), (.int (1 : Int32))] hown (own_w hw 199 rfl) (own_w hw 200 rfl) (own_w hw 2 rfl) (own_w hw 201 rfl) (by decide) (rm_qo l Z a0 hw [] qa qb (6 : Int32) [(.int d0), (.int (46 : Int32)), (.int f0), (.int f1), (.int (46 : Int32)), (.int d0)] sa1 sb1 sa2 sb2 (1 : Int32) (1 : Int32) (2 : Int32) cs fm [(.int d0)] [(.int f0), (.int f1)] (4 : Int32) h104 n0 Z0 S_C hcs S_F hfm E_1 C_1 V_1 _ A_1 E_2 C_2 V_2 _ A_2 (own_inS own_in0) (own_inS (own_inS own_in0)) own_f21 E_q C_q V_q _ A_q (own_inS (own_inS (own_inS (own_inS (own_inS (own_inS own_in0)))))) own_f67 own_f252 own_f255 (((own_at_lt own_f254).trans (congrArg own_cx (own_bv_eq (46 : Int32) own_f65 rfl))).trans (Eq.trans own_cx46 ((own_qq1 own_f173).trans (own_ee2 own_f39 own_f66)).symm))) eT (W := 0) (by decide) (by decide) (cells' := 25) (slots' := 110) rfl rfl (by decide) (by decide) (by rw [hml]; rfl) (lenOf own_pd_28Ljava2flang2fString3bLjava2flang2fString3bLjava2flang2fString3bI29Z rfl) rfl (S := []) rfl (Nat.le_of_eq rfl) (hb hby at_176) (pc' := 179) rfl ?_
      intro v T h117 L lc X eT hq fN
      obtain ⟨rfl, Nq, hqe⟩ := hq
      have N := fN _ N Nq
      rw [hqe] at eT
      show own_W _ _ _ _ _ _ _ _ [(.int (1 : Int32))]
      refine own_ifN X hx (hb hby at_179) (pc' := 182) rfl (show ¬ ((1 : Int32) = (0 : Int32)) from (by decide)) ?_
      refine own_aload X hx (hb hby at_182) (pc' := 184) rfl rfl rfl ?_
      refine own_aloadN X hx (hb hby at_184) (pc' := 185) rfl rfl rfl ?_
      refine own_aloadN X hx (hb hby at_185) (pc' := 186) rfl rfl rfl ?_
      refine own_iconst X hx (2 : Int32) (hb hby at_186) (pc' := 187) rfl rfl ?_
      refine own_callS X hx hZ [(.ref qa), (.ref sa1), (.ref sa2), (.int (2 : Int32))] hown (own_w hw 199 rfl) (own_w hw 200 rfl) (own_w hw 2 rfl) (own_w hw 201 rfl) (by decide) (rm_qo l Z a0 hw [] qa qb (6 : Int32) [(.int d0), (.int (46 : Int32)), (.int f0), (.int f1), (.int (46 : Int32)), (.int d0)] sa1 sb1 sa2 sb2 (2 : Int32) (1 : Int32) (2 : Int32) cs fm [(.int d0)] [(.int f0), (.int f1)] (4 : Int32) h104 n0 Z0 S_C hcs S_F hfm E_1 C_1 V_1 _ A_1 E_2 C_2 V_2 _ A_2 (own_inS own_in0) (own_inS (own_inS own_in0)) own_f26 E_q C_q V_q _ A_q (own_inS (own_inS (own_inS (own_inS (own_inS (own_inS own_in0)))))) own_f71 own_f252 own_f257 (((own_at_lt own_f256).trans (congrArg own_cx (own_bv_eq f0 own_f126 rfl))).trans ((own_qq1 own_f175).trans ((own_ee3 own_f44 own_f70).trans ((own_at_lt own_f247).trans (congrArg own_cx (own_bv_eq f0 own_f215 rfl))))).symm)) eT (W := 0) (by decide) (by decide) (cells' := 25) (slots' := 110) rfl rfl (by decide) (by decide) (by rw [hml]; rfl) (lenOf own_pd_28Ljava2flang2fString3bLjava2flang2fString3bLjava2flang2fString3bI29Z rfl) rfl (S := []) rfl (Nat.le_of_eq rfl) (hb hby at_187) (pc' := 190) rfl ?_
      intro v T h118 L lc X eT hq fN
      obtain ⟨rfl, Nq, hqe⟩ := hq
      have N := fN _ N Nq
      rw [hqe] at eT
      show own_W _ _ _ _ _ _ _ _ [(.int (1 : Int32))]
      refine own_ifN X hx (hb hby at_190) (pc' := 193) rfl (show ¬ ((1 : Int32) = (0 : Int32)) from (by decide)) ?_
      refine own_aload X hx (hb hby at_193) (pc' := 195) rfl rfl rfl ?_
      refine own_aloadN X hx (hb hby at_195) (pc' := 196) rfl rfl rfl ?_
      refine own_aloadN X hx (hb hby at_196) (pc' := 197) rfl rfl rfl ?_
      refine own_iconst X hx (3 : Int32) (hb hby at_197) (pc' := 198) rfl rfl ?_
      refine own_callS X hx hZ [(.ref qa), (.ref sa1), (.ref sa2), (.int (3 : Int32))] hown (own_w hw 199 rfl) (own_w hw 200 rfl) (own_w hw 2 rfl) (own_w hw 201 rfl) (by decide) (rm_qo l Z a0 hw [] qa qb (6 : Int32) [(.int d0), (.int (46 : Int32)), (.int f0), (.int f1), (.int (46 : Int32)), (.int d0)] sa1 sb1 sa2 sb2 (3 : Int32) (1 : Int32) (2 : Int32) cs fm [(.int d0)] [(.int f0), (.int f1)] (4 : Int32) h104 n0 Z0 S_C hcs S_F hfm E_1 C_1 V_1 _ A_1 E_2 C_2 V_2 _ A_2 (own_inS own_in0) (own_inS (own_inS own_in0)) own_f53 E_q C_q V_q _ A_q (own_inS (own_inS (own_inS (own_inS (own_inS (own_inS own_in0)))))) own_f75 own_f252 own_f259 (((own_at_lt own_f258).trans (congrArg own_cx (own_bv_eq f1 own_f178 rfl))).trans ((own_qq1 own_f177).trans ((own_ee3 own_f49 own_f74).trans ((own_at_lt own_f248).trans (congrArg own_cx (own_bv_eq f1 own_f249 rfl))))).symm)) eT (W := 0) (by decide) (by decide) (cells' := 25) (slots' := 110) rfl rfl (by decide) (by decide) (by rw [hml]; rfl) (lenOf own_pd_28Ljava2flang2fString3bLjava2flang2fString3bLjava2flang2fString3bI29Z rfl) rfl (S := []) rfl (Nat.le_of_eq rfl) (hb hby at_198) (pc' := 201) rfl ?_
      intro v T h119 L lc X eT hq fN
      obtain ⟨rfl, Nq, hqe⟩ := hq
      have N := fN _ N Nq
      rw [hqe] at eT
      show own_W _ _ _ _ _ _ _ _ [(.int (1 : Int32))]
      refine own_ifN X hx (hb hby at_201) (pc' := 204) rfl (show ¬ ((1 : Int32) = (0 : Int32)) from (by decide)) ?_
      refine own_aload X hx (hb hby at_204) (pc' := 206) rfl rfl rfl ?_
      refine own_aloadN X hx (hb hby at_206) (pc' := 207) rfl rfl rfl ?_
      refine own_aloadN X hx (hb hby at_207) (pc' := 208) rfl rfl rfl ?_
      refine own_iconst X hx (4 : Int32) (hb hby at_208) (pc' := 209) rfl rfl ?_
      refine own_callS X hx hZ [(.ref qa), (.ref sa1), (.ref sa2), (.int (4 : Int32))] hown (own_w hw 199 rfl) (own_w hw 200 rfl) (own_w hw 2 rfl) (own_w hw 201 rfl) (by decide) (rm_qo l Z a0 hw [] qa qb (6 : Int32) [(.int d0), (.int (46 : Int32)), (.int f0), (.int f1), (.int (46 : Int32)), (.int d0)] sa1 sb1 sa2 sb2 (4 : Int32) (1 : Int32) (2 : Int32) cs fm [(.int d0)] [(.int f0), (.int f1)] (4 : Int32) h104 n0 Z0 S_C hcs S_F hfm E_1 C_1 V_1 _ A_1 E_2 C_2 V_2 _ A_2 (own_inS own_in0) (own_inS (own_inS own_in0)) own_f59 E_q C_q V_q _ A_q (own_inS (own_inS (own_inS (own_inS (own_inS (own_inS own_in0)))))) own_f79 own_f252 own_f262 (((own_at_lt own_f260).trans (congrArg own_cx (own_bv_eq (46 : Int32) own_f224 rfl))).trans (Eq.trans own_cx46 (own_qq2 own_f181 own_f261).symm))) eT (W := 0) (by decide) (by decide) (cells' := 25) (slots' := 110) rfl rfl (by decide) (by decide) (by rw [hml]; rfl) (lenOf own_pd_28Ljava2flang2fString3bLjava2flang2fString3bLjava2flang2fString3bI29Z rfl) rfl (S := []) rfl (Nat.le_of_eq rfl) (hb hby at_209) (pc' := 212) rfl ?_
      intro v T h120 L lc X eT hq fN
      obtain ⟨rfl, Nq, hqe⟩ := hq
      have N := fN _ N Nq
      rw [hqe] at eT
      show own_W _ _ _ _ _ _ _ _ [(.int (1 : Int32))]
      refine own_ifN X hx (hb hby at_212) (pc' := 215) rfl (show ¬ ((1 : Int32) = (0 : Int32)) from (by decide)) ?_
      refine own_aload X hx (hb hby at_215) (pc' := 217) rfl rfl rfl ?_
      refine own_aloadN X hx (hb hby at_217) (pc' := 218) rfl rfl rfl ?_
      refine own_aloadN X hx (hb hby at_218) (pc' := 219) rfl rfl rfl ?_
      refine own_iconst X hx (5 : Int32) (hb hby at_219) (pc' := 220) rfl rfl ?_
      refine own_callS X hx hZ [(.ref qa), (.ref sa1), (.ref sa2), (.int (5 : Int32))] hown (own_w hw 199 rfl) (own_w hw 200 rfl) (own_w hw 2 rfl) (own_w hw 201 rfl) (by decide) (rm_qo l Z a0 hw [] qa qb (6 : Int32) [(.int d0), (.int (46 : Int32)), (.int f0), (.int f1), (.int (46 : Int32)), (.int d0)] sa1 sb1 sa2 sb2 (5 : Int32) (1 : Int32) (2 : Int32) cs fm [(.int d0)] [(.int f0), (.int f1)] (4 : Int32) h104 n0 Z0 S_C hcs S_F hfm E_1 C_1 V_1 _ A_1 E_2 C_2 V_2 _ A_2 (own_inS own_in0) (own_inS (own_inS own_in0)) own_f84 E_q C_q V_q _ A_q (own_inS (own_inS (own_inS (own_inS (own_inS (own_inS own_in0)))))) own_f86 own_f252 own_f268 (((own_at_lt own_f263).trans (congrArg own_cx (own_bv_eq d0 own_f264 rfl))).trans ((own_qq3 own_f185 own_f267).trans ((own_at_lt own_f265).trans (congrArg own_cx (own_bv_eq d0 own_f266 rfl)))).symm)) eT (W := 0) (by decide) (by decide) (cells' := 25) (slots' := 110) rfl rfl (by decide) (by decide) (by rw [hml]; rfl) (lenOf own_pd_28Ljava2flang2fString3bLjava2flang2fString3bLjava2flang2fString3bI29Z rfl) rfl (S := []) rfl (Nat.le_of_eq rfl) (hb hby at_220) (pc' := 223) rfl ?_
      intro v T h121 L lc X eT hq fN
      obtain ⟨rfl, Nq, hqe⟩ := hq
      have N := fN _ N Nq
      rw [hqe] at eT
      show own_W _ _ _ _ _ _ _ _ [(.int (1 : Int32))]
      refine own_ifN X hx (hb hby at_223) (pc' := 226) rfl (show ¬ ((1 : Int32) = (0 : Int32)) from (by decide)) ?_
      refine own_aload X hx (hb hby at_226) (pc' := 228) rfl rfl rfl ?_
      refine own_aloadN X hx (hb hby at_228) (pc' := 229) rfl rfl rfl ?_
      refine own_aloadN X hx (hb hby at_229) (pc' := 230) rfl rfl rfl ?_
      refine own_bipush X hx (6 : Int32) (hb hby at_230) (pc' := 232) rfl rfl ?_
      refine own_callS X hx hZ [(.ref qa), (.ref sa1), (.ref sa2), (.int (6 : Int32))] hown (own_w hw 199 rfl) (own_w hw 200 rfl) (own_w hw 2 rfl) (own_w hw 201 rfl) (by decide) (rm_qo l Z a0 hw [] qa qb (6 : Int32) [(.int d0), (.int (46 : Int32)), (.int f0), (.int f1), (.int (46 : Int32)), (.int d0)] sa1 sb1 sa2 sb2 (6 : Int32) (1 : Int32) (2 : Int32) cs fm [(.int d0)] [(.int f0), (.int f1)] (4 : Int32) h104 n0 Z0 S_C hcs S_F hfm E_1 C_1 V_1 _ A_1 E_2 C_2 V_2 _ A_2 (own_inS own_in0) (own_inS (own_inS own_in0)) own_f91 E_q C_q V_q _ A_q (own_inS (own_inS (own_inS (own_inS (own_inS (own_inS own_in0)))))) own_f93 own_f252 own_f272 ((own_at_ge own_f269).trans ((own_qq3 own_f189 own_f271).trans (own_at_ge own_f270)).symm)) eT (W := 0) (by decide) (by decide) (cells' := 25) (slots' := 110) rfl rfl (by decide) (by decide) (by rw [hml]; rfl) (lenOf own_pd_28Ljava2flang2fString3bLjava2flang2fString3bLjava2flang2fString3bI29Z rfl) rfl (S := []) rfl (Nat.le_of_eq rfl) (hb hby at_232) (pc' := 235) rfl ?_
      intro v T h122 L lc X eT hq fN
      obtain ⟨rfl, Nq, hqe⟩ := hq
      have N := fN _ N Nq
      rw [hqe] at eT
      show own_W _ _ _ _ _ _ _ _ [(.int (1 : Int32))]
      refine own_ifN X hx (hb hby at_235) (pc' := 238) rfl (show ¬ ((1 : Int32) = (0 : Int32)) from (by decide)) ?_
      refine own_aload X hx (hb hby at_238) (pc' := 240) rfl rfl rfl ?_
      refine own_aloadN X hx (hb hby at_240) (pc' := 241) rfl rfl rfl ?_
      refine own_aloadN X hx (hb hby at_241) (pc' := 242) rfl rfl rfl ?_
      refine own_bipush X hx (7 : Int32) (hb hby at_242) (pc' := 244) rfl rfl ?_
      refine own_callS X hx hZ [(.ref qa), (.ref sa1), (.ref sa2), (.int (7 : Int32))] hown (own_w hw 199 rfl) (own_w hw 200 rfl) (own_w hw 2 rfl) (own_w hw 201 rfl) (by decide) (rm_qo l Z a0 hw [] qa qb (6 : Int32) [(.int d0), (.int (46 : Int32)), (.int f0), (.int f1), (.int (46 : Int32)), (.int d0)] sa1 sb1 sa2 sb2 (7 : Int32) (1 : Int32) (2 : Int32) cs fm [(.int d0)] [(.int f0), (.int f1)] (4 : Int32) h104 n0 Z0 S_C hcs S_F hfm E_1 C_1 V_1 _ A_1 E_2 C_2 V_2 _ A_2 (own_inS own_in0) (own_inS (own_inS own_in0)) own_f98 E_q C_q V_q _ A_q (own_inS (own_inS (own_inS (own_inS (own_inS (own_inS own_in0)))))) own_f100 own_f252 own_f276 ((own_at_ge own_f273).trans ((own_qq3 own_f193 own_f275).trans (own_at_ge own_f274)).symm)) eT (W := 0) (by decide) (by decide) (cells' := 25) (slots' := 110) rfl rfl (by decide) (by decide) (by rw [hml]; rfl) (lenOf own_pd_28Ljava2flang2fString3bLjava2flang2fString3bLjava2flang2fString3bI29Z rfl) rfl (S := []) rfl (Nat.le_of_eq rfl) (hb hby at_244) (pc' := 247) rfl ?_
      intro v T h123 L lc X eT hq fN
      obtain ⟨rfl, Nq, hqe⟩ := hq
      have N := fN _ N Nq
      rw [hqe] at eT
      show own_W _ _ _ _ _ _ _ _ [(.int (1 : Int32))]
      refine own_ifN X hx (hb hby at_247) (pc' := 250) rfl (show ¬ ((1 : Int32) = (0 : Int32)) from (by decide)) ?_
      refine own_iconst X hx (1 : Int32) (hb hby at_250) (pc' := 251) rfl rfl ?_
      refine own_goto X hx (hb hby at_251) (by decide) (pc' := 255) rfl ?_
      refine own_istore X hx (hb hby at_255) (pc' := 257) rfl (Ls' := #[.val (.int p0), .val (.int p1), .val (.ref sa1), .val (.ref sa2), .val (.ref pa), .val (.ref ea), .val (.ref qa), .val (.int (1 : Int32)), .val (.int (2 : Int32)), .val (.int (4 : Int32)), .val (.int (1 : Int32))]) rfl ?_
      refine own_iload X hx (hb hby at_257) (pc' := 259) rfl rfl ?_
      refine own_retIS X hx hlk hZ eT hh hS hk hEL H CR (t := .boolean) (w' := (.int (1 : Int32))) Bd.returns (hb hby at_259) rfl rfl (by simp) (by decide) (by decide) ?_
      rw [eT]
      exact ⟨rfl, N⟩
  · show own_W _ _ _ _ _ _ _ _ [(.ref sa1)]
    refine own_astoreN X hx (hb hby at_4) (pc' := 5) rfl rfl (Ls' := #[.val (.int p0), .val (.int p1), .val (.ref sa1), .unset, .unset, .unset, .unset, .unset, .unset, .unset, .unset]) rfl ?_
    refine own_iloadN X hx (hb hby at_5) (pc' := 6) rfl rfl ?_
    refine own_callSS X hx hZ [(.int p1)] hown (own_w hw 0 rfl) (own_w hw 1 rfl) (own_w hw 2 rfl) (own_w hw 3 rfl) (by decide) (rm_str l Z a0 hw hEL [] p1 cs h1 n0 Z0 S_C hcs) eT hS hk hEL H (W := 0) (by decide) (by decide) (cells' := 12) (slots' := 28) rfl rfl (by decide) (by decide) (by rw [hml]; rfl) (lenOf own_pd_28I29Ljava2flang2fString3b rfl) rfl (S := []) rfl (Nat.le_of_eq rfl) (hb hby at_6) (pc' := 9) rfl ?_
    intro v T h124 L lc vm0 k1 X eT hS hk hZ hown CQ hq fN
    obtain ⟨sa2, sb2, k_2, rfl, Nq, Kq, E_2, C_2, V_2, hv⟩ := hq
    have N := fN _ N Nq
    have CR := CR.trans CQ
    have H := CQ.1
    have S_C := own_sta_keep S_C Kq ns0
    have S_F := own_sta_keep S_F Kq ns0
    have E_1 := E_1.keep Kq
    have C_1 := C_1.keep Kq nin0
    have V_1 := V_1.keep Kq nin0
    have A_1 := A_1.keep Kq nin0
    have Z0 := Nat.le_trans Z0 Kq.1
    rcases hv with A_2 | ⟨f0, A_2⟩ | ⟨f0, f1, A_2⟩
    · show own_W _ _ _ _ _ _ _ _ [(.ref sa2)]
      refine own_astoreN X hx (hb hby at_9) (pc' := 10) rfl rfl (Ls' := #[.val (.int p0), .val (.int p1), .val (.ref sa1), .val (.ref sa2), .unset, .unset, .unset, .unset, .unset, .unset, .unset]) rfl ?_
      refine own_aloadN X hx (hb hby at_10) (pc' := 11) rfl rfl rfl ?_
      refine own_aloadN X hx (hb hby at_11) (pc' := 12) rfl rfl rfl ?_
      refine own_callSS X hx hZ [(.ref sa1), (.ref sa2)] hown (own_w hw 26 rfl) (own_w hw 27 rfl) (own_w hw 28 rfl) (own_w hw 29 rfl) (by decide) (rm_af l Z a0 hw hEL [] sa1 sa2 sb1 sb2 (2 : Int32) (0 : Int32) cs (2 : Int32) (3 : Int32) (3 : Int32) (3 : Int32) (4 : Int32) (6 : Int32) 2 0 2 3 3 3 4 6 [(.int d0), (.int d1)] [] [(.int d0), (.int d1), (.int (0 : Int32)), (.int (0 : Int32)), (.int (0 : Int32)), (.int (0 : Int32)), (.int (0 : Int32)), (.int (0 : Int32)), (.int (0 : Int32)), (.int (0 : Int32)), (.int (0 : Int32)), (.int (0 : Int32)), (.int (0 : Int32)), (.int (0 : Int32)), (.int (0 : Int32)), (.int (0 : Int32))] [(.int d0), (.int d1), (.int (46 : Int32)), (.int (0 : Int32)), (.int (0 : Int32)), (.int (0 : Int32)), (.int (0 : Int32)), (.int (0 : Int32)), (.int (0 : Int32)), (.int (0 : Int32)), (.int (0 : Int32)), (.int (0 : Int32)), (.int (0 : Int32)), (.int (0 : Int32)), (.int (0 : Int32)), (.int (0 : Int32))] [(.int d0), (.int d1), (.int (46 : Int32)), (.int (0 : Int32)), (.int (0 : Int32)), (.int (0 : Int32)), (.int (0 : Int32)), (.int (0 : Int32)), (.int (0 : Int32)), (.int (0 : Int32)), (.int (0 : Int32)), (.int (0 : Int32)), (.int (0 : Int32)), (.int (0 : Int32)), (.int (0 : Int32)), (.int (0 : Int32))] [(.int d0), (.int d1), (.int (46 : Int32)), (.int (0 : Int32)), (.int (0 : Int32)), (.int (0 : Int32)), (.int (0 : Int32)), (.int (0 : Int32)), (.int (0 : Int32)), (.int (0 : Int32)), (.int (0 : Int32)), (.int (0 : Int32)), (.int (0 : Int32)), (.int (0 : Int32)), (.int (0 : Int32)), (.int (0 : Int32))] [(.int d0), (.int d1), (.int (46 : Int32)), (.int (46 : Int32)), (.int (0 : Int32)), (.int (0 : Int32)), (.int (0 : Int32)), (.int (0 : Int32)), (.int (0 : Int32)), (.int (0 : Int32)), (.int (0 : Int32)), (.int (0 : Int32)), (.int (0 : Int32)), (.int (0 : Int32)), (.int (0 : Int32)), (.int (0 : Int32))] [(.int d0), (.int d1), (.int (46 : Int32)), (.int (46 : Int32)), (.int d0), (.int d1), (.int (0 : Int32)), (.int (0 : Int32)), (.int (0 : Int32)), (.int (0 : Int32)), (.int (0 : Int32)), (.int (0 : Int32)), (.int (0 : Int32)), (.int (0 : Int32)), (.int (0 : Int32)), (.int (0 : Int32))] [(.int d0), (.int d1), (.int (46 : Int32))] [(.int d0), (.int d1), (.int (46 : Int32)), (.int (46 : Int32)), (.int d0), (.int d1)] h124 n0 Z0 S_C hcs E_1 C_1 V_1 _ A_1 E_2 C_2 V_2 _ A_2 ⟨own_f14, own_f101, own_f2, own_f3, own_f19, own_f32, own_f31, (Nat.le_of_ble_eq_true rfl), (Nat.le_of_ble_eq_true rfl), rfl⟩ ⟨own_f102, own_f103, own_f18, own_f19, own_f8, own_f9, own_f104, (Nat.le_of_ble_eq_true rfl), (Nat.le_of_ble_eq_true rfl), rfl⟩ ⟨own_f102, own_f105, own_f106, own_f107, own_f3, own_f4, own_f108, (Nat.le_of_ble_eq_true rfl), (Nat.le_of_ble_eq_true rfl), rfl⟩ ⟨own_f102, own_f151, own_f2, own_f3, own_f107, own_f114, own_f113, (Nat.le_of_ble_eq_true rfl), (Nat.le_of_ble_eq_true rfl), rfl⟩ ⟨own_f152, own_f153, own_f106, own_f107, own_f8, own_f9, own_f154, (Nat.le_of_ble_eq_true rfl), (Nat.le_of_ble_eq_true rfl), rfl⟩ ⟨own_f236, own_f277, own_f156, own_f157, own_f19, own_f32, own_f278, (Nat.le_of_ble_eq_true rfl), (Nat.le_of_ble_eq_true rfl), rfl⟩ ⟨own_f53, own_f109, own_f110, own_f107, own_f111, own_f112, own_f113, own_f114, (Nat.le_of_ble_eq_true rfl), rfl⟩ ⟨own_f91, own_f240, own_f241, own_f242, own_f243, own_f244, own_f245, own_f246, (Nat.le_of_ble_eq_true rfl), rfl⟩) eT hS hk hEL H (W := 0) (by decide) (by decide) (cells' := 25) (slots' := 110) rfl rfl (by decide) (by decide) (by rw [hml]; rfl) (lenOf own_pd_28Ljava2flang2fString3bLjava2flang2fString3b29Lcom2fexample2frunnel2frunnel2fbroker2fPipe3b rfl) rfl (S := []) rfl (Nat.le_of_eq rfl) (hb hby at_12) (pc' := 15) rfl ?_
      intro v T h125 L lc vm0 k1 X eT hS hk hZ hown CQ hq fN
      obtain ⟨pa, ea, eb, qa, qb, k_e, k_q, rfl, Nq, Kq, E_p, F_x, F_q, ⟨E_e, C_e, V_e, A_e⟩, ⟨E_q, C_q, V_q, A_q⟩⟩ := hq
      have N := fN _ N Nq
      have CR := CR.trans CQ
      have H := CQ.1
      have S_C := own_sta_keep S_C Kq ns0
      have S_F := own_sta_keep S_F Kq ns0
      have E_1 := E_1.keep Kq
      have C_1 := C_1.keep Kq nin0
      have V_1 := V_1.keep Kq nin0
      have A_1 := A_1.keep Kq nin0
      have E_2 := E_2.keep Kq
      have C_2 := C_2.keep Kq nin0
      have V_2 := V_2.keep Kq nin0
      have A_2 := A_2.keep Kq nin0
      have Z0 := Nat.le_trans Z0 Kq.1
      show own_W _ _ _ _ _ _ _ _ [(.ref pa)]
      refine own_astore X hx (hb hby at_15) (pc' := 17) rfl rfl (Ls' := #[.val (.int p0), .val (.int p1), .val (.ref sa1), .val (.ref sa2), .val (.ref pa), .unset, .unset, .unset, .unset, .unset, .unset]) rfl ?_
      refine own_aload X hx (hb hby at_17) (pc' := 19) rfl rfl rfl ?_
      refine own_callV X hx hZ (y := (⟨"com/example/runnel/runnel/broker/Pipe", "exchange", "()Ljava/lang/String;"⟩ : MethodName)) pa [] hown (own_w hw 157 rfl) (own_w hw 158 rfl) (own_w hw 160 rfl) (own_w hw 159 rfl) (own_w hw 28 rfl) (own_w hw 161 rfl) (by decide) (rm_ex l Z a0 hw [] pa ea h125 n0 Z0 F_x) E_p eT (W := 0) (by decide) (by decide) (cells' := 25) (slots' := 110) rfl rfl (by decide) (by decide) (by rw [hml]; rfl) (lenOf own_pd_2829Ljava2flang2fString3b rfl) rfl (S := []) rfl (Nat.le_of_eq rfl) (hb hby at_19) (pc' := 22) rfl ?_
      intro v T h126 L lc X eT hq fN
      obtain ⟨rfl, Nq, hqe⟩ := hq
      have N := fN _ N Nq
      rw [hqe] at eT
      show own_W _ _ _ _ _ _ _ _ [(.ref ea)]
      refine own_astore X hx (hb hby at_22) (pc' := 24) rfl rfl (Ls' := #[.val (.int p0), .val (.int p1), .val (.ref sa1), .val (.ref sa2), .val (.ref pa), .val (.ref ea), .unset, .unset, .unset, .unset, .unset]) rfl ?_
      refine own_aload X hx (hb hby at_24) (pc' := 26) rfl rfl rfl ?_
      refine own_callV X hx hZ (y := (⟨"com/example/runnel/runnel/broker/Pipe", "queue", "()Ljava/lang/String;"⟩ : MethodName)) pa [] hown (own_w hw 162 rfl) (own_w hw 163 rfl) (own_w hw 165 rfl) (own_w hw 164 rfl) (own_w hw 28 rfl) (own_w hw 166 rfl) (by decide) (rm_qu l Z a0 hw [] pa qa h125 n0 Z0 F_q) E_p eT (W := 0) (by decide) (by decide) (cells' := 25) (slots' := 110) rfl rfl (by decide) (by decide) (by rw [hml]; rfl) (lenOf own_pd_2829Ljava2flang2fString3b rfl) rfl (S := []) rfl (Nat.le_of_eq rfl) (hb hby at_26) (pc' := 29) rfl ?_
      intro v T h127 L lc X eT hq fN
      obtain ⟨rfl, Nq, hqe⟩ := hq
      have N := fN _ N Nq
      rw [hqe] at eT
      show own_W _ _ _ _ _ _ _ _ [(.ref qa)]
      refine own_astore X hx (hb hby at_29) (pc' := 31) rfl rfl (Ls' := #[.val (.int p0), .val (.int p1), .val (.ref sa1), .val (.ref sa2), .val (.ref pa), .val (.ref ea), .val (.ref qa), .unset, .unset, .unset, .unset]) rfl ?_
      refine own_aload X hx (hb hby at_31) (pc' := 33) rfl rfl rfl ?_
      refine own_ifnullN X hx (hb hby at_33) (pc' := 36) rfl ?_
      refine own_aload X hx (hb hby at_36) (pc' := 38) rfl rfl rfl ?_
      refine own_ifnonnullY X hx (hb hby at_38) (by decide) (pc' := 43) rfl ?_
      refine own_aloadN X hx (hb hby at_43) (pc' := 44) rfl rfl rfl ?_
      refine own_callV X hx hZ (y := (⟨"java/lang/String", "length", "()I"⟩ : MethodName)) sa1 [] hown (own_w hw 167 rfl) (own_w hw 59 rfl) (own_w hw 61 rfl) (own_w hw 60 rfl) (own_w hw 6 rfl) (own_w hw 62 rfl) (by decide) (rm_len l Z a0 hw [] sa1 sb1 cs (2 : Int32) h125 n0 Z0 S_C hcs E_1 C_1 V_1 _ _ A_1) E_1 eT (W := 0) (by decide) (by decide) (cells' := 25) (slots' := 110) rfl rfl (by decide) (by decide) (by rw [hml]; rfl) (lenOf own_pd_2829I rfl) rfl (S := []) rfl (Nat.le_of_eq rfl) (hb hby at_44) (pc' := 47) rfl ?_
      intro v T h128 L lc X eT hq fN
      obtain ⟨rfl, Nq, hqe⟩ := hq
      have N := fN _ N Nq
      rw [hqe] at eT
      show own_W _ _ _ _ _ _ _ _ [(.int (2 : Int32))]
      refine own_istore X hx (hb hby at_47) (pc' := 49) rfl (Ls' := #[.val (.int p0), .val (.int p1), .val (.ref sa1), .val (.ref sa2), .val (.ref pa), .val (.ref ea), .val (.ref qa), .val (.int (2 : Int32)), .unset, .unset, .unset]) rfl ?_
      refine own_aloadN X hx (hb hby at_49) (pc' := 50) rfl rfl rfl ?_
      refine own_callV X hx hZ (y := (⟨"java/lang/String", "length", "()I"⟩ : MethodName)) sa2 [] hown (own_w hw 167 rfl) (own_w hw 59 rfl) (own_w hw 61 rfl) (own_w hw 60 rfl) (own_w hw 6 rfl) (own_w hw 62 rfl) (by decide) (rm_len l Z a0 hw [] sa2 sb2 cs (0 : Int32) h125 n0 Z0 S_C hcs E_2 C_2 V_2 _ _ A_2) E_2 eT (W := 0) (by decide) (by decide) (cells' := 25) (slots' := 110) rfl rfl (by decide) (by decide) (by rw [hml]; rfl) (lenOf own_pd_2829I rfl) rfl (S := []) rfl (Nat.le_of_eq rfl) (hb hby at_50) (pc' := 53) rfl ?_
      intro v T h129 L lc X eT hq fN
      obtain ⟨rfl, Nq, hqe⟩ := hq
      have N := fN _ N Nq
      rw [hqe] at eT
      show own_W _ _ _ _ _ _ _ _ [(.int (0 : Int32))]
      refine own_istore X hx (hb hby at_53) (pc' := 55) rfl (Ls' := #[.val (.int p0), .val (.int p1), .val (.ref sa1), .val (.ref sa2), .val (.ref pa), .val (.ref ea), .val (.ref qa), .val (.int (2 : Int32)), .val (.int (0 : Int32)), .unset, .unset]) rfl ?_
      refine own_iload X hx (hb hby at_55) (pc' := 57) rfl rfl ?_
      refine own_iconst X hx (1 : Int32) (hb hby at_57) (pc' := 58) rfl rfl ?_
      refine own_iadd X hx (hb hby at_58) (pc' := 59) rfl ?_
      rw [show ((2 : Int32) + (1 : Int32)) = (3 : Int32) from by decide]
      refine own_iload X hx (hb hby at_59) (pc' := 61) rfl rfl ?_
      refine own_iadd X hx (hb hby at_61) (pc' := 62) rfl ?_
      rw [show ((3 : Int32) + (0 : Int32)) = (3 : Int32) from by decide]
      refine own_istore X hx (hb hby at_62) (pc' := 64) rfl (Ls' := #[.val (.int p0), .val (.int p1), .val (.ref sa1), .val (.ref sa2), .val (.ref pa), .val (.ref ea), .val (.ref qa), .val (.int (2 : Int32)), .val (.int (0 : Int32)), .val (.int (3 : Int32)), .unset]) rfl ?_
      refine own_aload X hx (hb hby at_64) (pc' := 66) rfl rfl rfl ?_
      refine own_callV X hx hZ (y := (⟨"java/lang/String", "length", "()I"⟩ : MethodName)) ea [] hown (own_w hw 167 rfl) (own_w hw 59 rfl) (own_w hw 61 rfl) (own_w hw 60 rfl) (own_w hw 6 rfl) (own_w hw 62 rfl) (by decide) (rm_len l Z a0 hw [] ea eb cs (3 : Int32) h125 n0 Z0 S_C hcs E_e C_e V_e _ _ A_e) E_e eT (W := 0) (by decide) (by decide) (cells' := 25) (slots' := 110) rfl rfl (by decide) (by decide) (by rw [hml]; rfl) (lenOf own_pd_2829I rfl) rfl (S := []) rfl (Nat.le_of_eq rfl) (hb hby at_66) (pc' := 69) rfl ?_
      intro v T h130 L lc X eT hq fN
      obtain ⟨rfl, Nq, hqe⟩ := hq
      have N := fN _ N Nq
      rw [hqe] at eT
      show own_W _ _ _ _ _ _ _ _ [(.int (3 : Int32))]
      refine own_iload X hx (hb hby at_69) (pc' := 71) rfl rfl ?_
      refine own_icmpY X hx (hb hby at_71) (by decide) (pc' := 76) rfl (show (3 : Int32) = (3 : Int32) from (by decide)) ?_
      refine own_aload X hx (hb hby at_76) (pc' := 78) rfl rfl rfl ?_
      refine own_callV X hx hZ (y := (⟨"java/lang/String", "length", "()I"⟩ : MethodName)) qa [] hown (own_w hw 167 rfl) (own_w hw 59 rfl) (own_w hw 61 rfl) (own_w hw 60 rfl) (own_w hw 6 rfl) (own_w hw 62 rfl) (by decide) (rm_len l Z a0 hw [] qa qb cs (6 : Int32) h125 n0 Z0 S_C hcs E_q C_q V_q _ _ A_q) E_q eT (W := 0) (by decide) (by decide) (cells' := 25) (slots' := 110) rfl rfl (by decide) (by decide) (by rw [hml]; rfl) (lenOf own_pd_2829I rfl) rfl (S := []) rfl (Nat.le_of_eq rfl) (hb hby at_78) (pc' := 81) rfl ?_
      intro v T h131 L lc X eT hq fN
      obtain ⟨rfl, Nq, hqe⟩ := hq
      have N := fN _ N Nq
      rw [hqe] at eT
      show own_W _ _ _ _ _ _ _ _ [(.int (6 : Int32))]
      refine own_iload X hx (hb hby at_81) (pc' := 83) rfl rfl ?_
      refine own_iconst X hx (1 : Int32) (hb hby at_83) (pc' := 84) rfl rfl ?_
      refine own_iadd X hx (hb hby at_84) (pc' := 85) rfl ?_
      rw [show ((3 : Int32) + (1 : Int32)) = (4 : Int32) from by decide]
      refine own_iload X hx (hb hby at_85) (pc' := 87) rfl rfl ?_
      refine own_iadd X hx (hb hby at_87) (pc' := 88) rfl ?_
      rw [show ((4 : Int32) + (2 : Int32)) = (6 : Int32) from by decide]
      refine own_icmpY X hx (hb hby at_88) (by decide) (pc' := 93) rfl (show (6 : Int32) = (6 : Int32) from (by decide)) ?_
      refine own_aload X hx (hb hby at_93) (pc' := 95) rfl rfl rfl ?_
      refine own_aloadN X hx (hb hby at_95) (pc' := 96) rfl rfl rfl ?_
      refine own_aloadN X hx (hb hby at_96) (pc' := 97) rfl rfl rfl ?_
      refine own_iconst X hx (0 : Int32) (hb hby at_97) (pc' := 98) rfl rfl ?_
      refine own_callS X hx hZ [(.ref ea), (.ref sa1), (.ref sa2), (.int (0 : Int32))] hown (own_w hw 168 rfl) (own_w hw 169 rfl) (own_w hw 2 rfl) (own_w hw 170 rfl) (by decide) (rm_xo l Z a0 hw [] ea eb (3 : Int32) [(.int d0), (.int d1), (.int (46 : Int32))] sa1 sb1 sa2 sb2 (0 : Int32) (2 : Int32) (0 : Int32) cs fm [(.int d0), (.int d1)] [] h125 n0 Z0 S_C hcs S_F hfm E_1 C_1 V_1 _ A_1 E_2 C_2 V_2 _ A_2 (own_inS (own_inS own_in0)) own_in0 own_f37 E_e C_e V_e _ A_e (own_inS (own_inS (own_inS own_in0))) own_f122 (((own_at_lt own_f120).trans (congrArg own_cx (own_bv_eq d0 own_f34 rfl))).trans ((own_ee1 own_f61).trans (congrArg own_cx (own_bv_eq d0 own_f34 rfl))).symm)) eT (W := 0) (by decide) (by decide) (cells' := 25) (slots' := 110) rfl rfl (by decide) (by decide) (by rw [hml]; rfl) (lenOf own_pd_28Ljava2flang2fString3bLjava2flang2fString3bLjava2flang2fString3bI29Z rfl) rfl (S := []) rfl (Nat.le_of_eq rfl) (hb hby at_98) (pc' := 101) rfl ?_
      intro v T h132 L lc X eT hq fN
      obtain ⟨rfl, Nq, hqe⟩ := hq
      have N := fN _ N Nq
      rw [hqe] at eT
      show own_W _ _ _ _ _ _ _ _ [(.int (1 : Int32))]
      refine own_ifN X hx (hb hby at_101) (pc' := 104) rfl (show ¬ ((1 : Int32) = (0 : Int32)) from (by decide)) ?_
      refine own_aload X hx (hb hby at_104) (pc' := 106) rfl rfl rfl ?_
      refine own_aloadN X hx (hb hby at_106) (pc' := 107) rfl rfl rfl ?_
      refine own_aloadN X hx (hb hby at_107) (pc' := 108) rfl rfl rfl ?_
      refine own_iconst X hx (1 : Int32) (hb hby at_108) (pc' := 109) rfl rfl ?_
      refine own_callS X hx hZ [(.ref ea), (.ref sa1), (.ref sa2), (.int (1 : Int32))] hown (own_w hw 168 rfl) (own_w hw 169 rfl) (own_w hw 2 rfl) (own_w hw 170 rfl) (by decide) (rm_xo l Z a0 hw [] ea eb (3 : Int32) [(.int d0), (.int d1), (.int (46 : Int32))] sa1 sb1 sa2 sb2 (1 : Int32) (2 : Int32) (0 : Int32) cs fm [(.int d0), (.int d1)] [] h125 n0 Z0 S_C hcs S_F hfm E_1 C_1 V_1 _ A_1 E_2 C_2 V_2 _ A_2 (own_inS (own_inS own_in0)) own_in0 own_f21 E_e C_e V_e _ A_e (own_inS (own_inS (own_inS own_in0))) own_f124 (((own_at_lt own_f123).trans (congrArg own_cx (own_bv_eq d1 own_f65 rfl))).trans ((own_ee1 own_f64).trans (congrArg own_cx (own_bv_eq d1 own_f65 rfl))).symm)) eT (W := 0) (by decide) (by decide) (cells' := 25) (slots' := 110) rfl rfl (by decide) (by decide) (by rw [hml]; rfl) (lenOf own_pd_28Ljava2flang2fString3bLjava2flang2fString3bLjava2flang2fString3bI29Z rfl) rfl (S := []) rfl (Nat.le_of_eq rfl) (hb hby at_109) (pc' := 112) rfl ?_
      intro v T h133 L lc X eT hq fN
      obtain ⟨rfl, Nq, hqe⟩ := hq
      have N := fN _ N Nq
      rw [hqe] at eT
      show own_W _ _ _ _ _ _ _ _ [(.int (1 : Int32))]
      refine own_ifN X hx (hb hby at_112) (pc' := 115) rfl (show ¬ ((1 : Int32) = (0 : Int32)) from (by decide)) ?_
      refine own_aload X hx (hb hby at_115) (pc' := 117) rfl rfl rfl ?_
      refine own_aloadN X hx (hb hby at_117) (pc' := 118) rfl rfl rfl ?_
      refine own_aloadN X hx (hb hby at_118) (pc' := 119) rfl rfl rfl ?_
      refine own_iconst X hx (2 : Int32) (hb hby at_119) (pc' := 120) rfl rfl ?_
      refine own_callS X hx hZ [(.ref ea), (.ref sa1), (.ref sa2), (.int (2 : Int32))] hown (own_w hw 168 rfl) (own_w hw 169 rfl) (own_w hw 2 rfl) (own_w hw 170 rfl) (by decide) (rm_xo l Z a0 hw [] ea eb (3 : Int32) [(.int d0), (.int d1), (.int (46 : Int32))] sa1 sb1 sa2 sb2 (2 : Int32) (2 : Int32) (0 : Int32) cs fm [(.int d0), (.int d1)] [] h125 n0 Z0 S_C hcs S_F hfm E_1 C_1 V_1 _ A_1 E_2 C_2 V_2 _ A_2 (own_inS (own_inS own_in0)) own_in0 own_f26 E_e C_e V_e _ A_e (own_inS (own_inS (own_inS own_in0))) own_f128 (((own_at_lt own_f125).trans (congrArg own_cx (own_bv_eq (46 : Int32) own_f126 rfl))).trans (Eq.trans own_cx46 (own_ee2 own_f68 own_f127).symm))) eT (W := 0) (by decide) (by decide) (cells' := 25) (slots' := 110) rfl rfl (by decide) (by decide) (by rw [hml]; rfl) (lenOf own_pd_28Ljava2flang2fString3bLjava2flang2fString3bLjava2flang2fString3bI29Z rfl) rfl (S := []) rfl (Nat.le_of_eq rfl) (hb hby at_120) (pc' := 123) rfl ?_
      intro v T h134 L lc X eT hq fN
      obtain ⟨rfl, Nq, hqe⟩ := hq
      have N := fN _ N Nq
      rw [hqe] at eT
      show own_W _ _ _ _ _ _ _ _ [(.int (1 : Int32))]
      refine own_ifN X hx (hb hby at_123) (pc' := 126) rfl (show ¬ ((1 : Int32) = (0 : Int32)) from (by decide)) ?_
      refine own_aload X hx (hb hby at_126) (pc' := 128) rfl rfl rfl ?_
      refine own_aloadN X hx (hb hby at_128) (pc' := 129) rfl rfl rfl ?_
      refine own_aloadN X hx (hb hby at_129) (pc' := 130) rfl rfl rfl ?_
      refine own_iconst X hx (3 : Int32) (hb hby at_130) (pc' := 131) rfl rfl ?_
      refine own_callS X hx hZ [(.ref ea), (.ref sa1), (.ref sa2), (.int (3 : Int32))] hown (own_w hw 168 rfl) (own_w hw 169 rfl) (own_w hw 2 rfl) (own_w hw 170 rfl) (by decide) (rm_xo l Z a0 hw [] ea eb (3 : Int32) [(.int d0), (.int d1), (.int (46 : Int32))] sa1 sb1 sa2 sb2 (3 : Int32) (2 : Int32) (0 : Int32) cs fm [(.int d0), (.int d1)] [] h125 n0 Z0 S_C hcs S_F hfm E_1 C_1 V_1 _ A_1 E_2 C_2 V_2 _ A_2 (own_inS (own_inS own_in0)) own_in0 own_f53 E_e C_e V_e _ A_e (own_inS (own_inS (own_inS own_in0))) own_f132 ((own_at_ge own_f129).trans ((own_ee3 own_f72 own_f131).trans (own_at_ge own_f130)).symm)) eT (W := 0) (by decide) (by decide) (cells' := 25) (slots' := 110) rfl rfl (by decide) (by decide) (by rw [hml]; rfl) (lenOf own_pd_28Ljava2flang2fString3bLjava2flang2fString3bLjava2flang2fString3bI29Z rfl) rfl (S := []) rfl (Nat.le_of_eq rfl) (hb hby at_131) (pc' := 134) rfl ?_
      intro v T h135 L lc X eT hq fN
      obtain ⟨rfl, Nq, hqe⟩ := hq
      have N := fN _ N Nq
      rw [hqe] at eT
      show own_W _ _ _ _ _ _ _ _ [(.int (1 : Int32))]
      refine own_ifN X hx (hb hby at_134) (pc' := 137) rfl (show ¬ ((1 : Int32) = (0 : Int32)) from (by decide)) ?_
      refine own_aload X hx (hb hby at_137) (pc' := 139) rfl rfl rfl ?_
      refine own_aloadN X hx (hb hby at_139) (pc' := 140) rfl rfl rfl ?_
      refine own_aloadN X hx (hb hby at_140) (pc' := 141) rfl rfl rfl ?_
      refine own_iconst X hx (4 : Int32) (hb hby at_141) (pc' := 142) rfl rfl ?_
      refine own_callS X hx hZ [(.ref ea), (.ref sa1), (.ref sa2), (.int (4 : Int32))] hown (own_w hw 168 rfl) (own_w hw 169 rfl) (own_w hw 2 rfl) (own_w hw 170 rfl) (by decide) (rm_xo l Z a0 hw [] ea eb (3 : Int32) [(.int d0), (.int d1), (.int (46 : Int32))] sa1 sb1 sa2 sb2 (4 : Int32) (2 : Int32) (0 : Int32) cs fm [(.int d0), (.int d1)] [] h125 n0 Z0 S_C hcs S_F hfm E_1 C_1 V_1 _ A_1 E_2 C_2 V_2 _ A_2 (own_inS (own_inS own_in0)) own_in0 own_f59 E_e C_e V_e _ A_e (own_inS (own_inS (own_inS own_in0))) own_f136 ((own_at_ge own_f133).trans ((own_ee3 own_f76 own_f135).trans (own_at_ge own_f134)).symm)) eT (W := 0) (by decide) (by decide) (cells' := 25) (slots' := 110) rfl rfl (by decide) (by decide) (by rw [hml]; rfl) (lenOf own_pd_28Ljava2flang2fString3bLjava2flang2fString3bLjava2flang2fString3bI29Z rfl) rfl (S := []) rfl (Nat.le_of_eq rfl) (hb hby at_142) (pc' := 145) rfl ?_
      intro v T h136 L lc X eT hq fN
      obtain ⟨rfl, Nq, hqe⟩ := hq
      have N := fN _ N Nq
      rw [hqe] at eT
      show own_W _ _ _ _ _ _ _ _ [(.int (1 : Int32))]
      refine own_ifN X hx (hb hby at_145) (pc' := 148) rfl (show ¬ ((1 : Int32) = (0 : Int32)) from (by decide)) ?_
      refine own_iconst X hx (1 : Int32) (hb hby at_148) (pc' := 149) rfl rfl ?_
      refine own_goto X hx (hb hby at_149) (by decide) (pc' := 153) rfl ?_
      refine own_istore X hx (hb hby at_153) (pc' := 155) rfl (Ls' := #[.val (.int p0), .val (.int p1), .val (.ref sa1), .val (.ref sa2), .val (.ref pa), .val (.ref ea), .val (.ref qa), .val (.int (2 : Int32)), .val (.int (0 : Int32)), .val (.int (3 : Int32)), .val (.int (1 : Int32))]) rfl ?_
      refine own_iload X hx (hb hby at_155) (pc' := 157) rfl rfl ?_
      refine own_ifN X hx (hb hby at_157) (pc' := 160) rfl (show ¬ ((1 : Int32) = (0 : Int32)) from (by decide)) ?_
      refine own_aload X hx (hb hby at_160) (pc' := 162) rfl rfl rfl ?_
      refine own_aloadN X hx (hb hby at_162) (pc' := 163) rfl rfl rfl ?_
      refine own_aloadN X hx (hb hby at_163) (pc' := 164) rfl rfl rfl ?_
      refine own_iconst X hx (0 : Int32) (hb hby at_164) (pc' := 165) rfl rfl ?_
      refine own_callS X hx hZ [(.ref qa), (.ref sa1), (.ref sa2), (.int (0 : Int32))] hown (own_w hw 199 rfl) (own_w hw 200 rfl) (own_w hw 2 rfl) (own_w hw 201 rfl) (by decide) (rm_qo l Z a0 hw [] qa qb (6 : Int32) [(.int d0), (.int d1), (.int (46 : Int32)), (.int (46 : Int32)), (.int d0), (.int d1)] sa1 sb1 sa2 sb2 (0 : Int32) (2 : Int32) (0 : Int32) cs fm [(.int d0), (.int d1)] [] (3 : Int32) h125 n0 Z0 S_C hcs S_F hfm E_1 C_1 V_1 _ A_1 E_2 C_2 V_2 _ A_2 (own_inS (own_inS own_in0)) own_in0 own_f37 E_q C_q V_q _ A_q (own_inS (own_inS (own_inS (own_inS (own_inS (own_inS own_in0)))))) own_f122 own_f279 own_f172 (((own_at_lt own_f251).trans (congrArg own_cx (own_bv_eq d0 own_f34 rfl))).trans ((own_qq1 own_f120).trans ((own_ee1 own_f61).trans (congrArg own_cx (own_bv_eq d0 own_f34 rfl)))).symm)) eT (W := 0) (by decide) (by decide) (cells' := 25) (slots' := 110) rfl rfl (by decide) (by decide) (by rw [hml]; rfl) (lenOf own_pd_28Ljava2flang2fString3bLjava2flang2fString3bLjava2flang2fString3bI29Z rfl) rfl (S := []) rfl (Nat.le_of_eq rfl) (hb hby at_165) (pc' := 168) rfl ?_
      intro v T h137 L lc X eT hq fN
      obtain ⟨rfl, Nq, hqe⟩ := hq
      have N := fN _ N Nq
      rw [hqe] at eT
      show own_W _ _ _ _ _ _ _ _ [(.int (1 : Int32))]
      refine own_ifN X hx (hb hby at_168) (pc' := 171) rfl (show ¬ ((1 : Int32) = (0 : Int32)) from (by decide)) ?_
      refine own_aload X hx (hb hby at_171) (pc' := 173) rfl rfl rfl ?_
      refine own_aloadN X hx (hb hby at_173) (pc' := 174) rfl rfl rfl ?_
      refine own_aloadN X hx (hb hby at_174) (pc' := 175) rfl rfl rfl ?_
      refine own_iconst X hx (1 : Int32) (hb hby at_175) (pc' := 176) rfl rfl ?_
      refine own_callS X hx hZ [(.ref qa), (.ref sa1), (.ref sa2), (.int (1 : Int32))] hown (own_w hw 199 rfl) (own_w hw 200 rfl) (own_w hw 2 rfl) (own_w hw 201 rfl) (by decide) (rm_qo l Z a0 hw [] qa qb (6 : Int32) [(.int d0), (.int d1), (.int (46 : Int32)), (.int (46 : Int32)), (.int d0), (.int d1)] sa1 sb1 sa2 sb2 (1 : Int32) (2 : Int32) (0 : Int32) cs fm [(.int d0), (.int d1)] [] (3 : Int32) h125 n0 Z0 S_C hcs S_F hfm E_1 C_1 V_1 _ A_1 E_2 C_2 V_2 _ A_2 (own_inS (own_inS own_in0)) own_in0 own_f21 E_q C_q V_q _ A_q (own_inS (own_inS (own_inS (own_inS (own_inS (own_inS own_in0)))))) own_f124 own_f279 own_f174 (((own_at_lt own_f254).trans (congrArg own_cx (own_bv_eq d1 own_f65 rfl))).trans ((own_qq1 own_f123).trans ((own_ee1 own_f64).trans (congrArg own_cx (own_bv_eq d1 own_f65 rfl)))).symm)) eT (W := 0) (by decide) (by decide) (cells' := 25) (slots' := 110) rfl rfl (by decide) (by decide) (by rw [hml]; rfl) (lenOf own_pd_28Ljava2flang2fString3bLjava2flang2fString3bLjava2flang2fString3bI29Z rfl) rfl (S := []) rfl (Nat.le_of_eq rfl) (hb hby at_176) (pc' := 179) rfl ?_
      intro v T h138 L lc X eT hq fN
      obtain ⟨rfl, Nq, hqe⟩ := hq
      have N := fN _ N Nq
      rw [hqe] at eT
      show own_W _ _ _ _ _ _ _ _ [(.int (1 : Int32))]
      refine own_ifN X hx (hb hby at_179) (pc' := 182) rfl (show ¬ ((1 : Int32) = (0 : Int32)) from (by decide)) ?_
      refine own_aload X hx (hb hby at_182) (pc' := 184) rfl rfl rfl ?_
      refine own_aloadN X hx (hb hby at_184) (pc' := 185) rfl rfl rfl ?_
      refine own_aloadN X hx (hb hby at_185) (pc' := 186) rfl rfl rfl ?_
      refine own_iconst X hx (2 : Int32) (hb hby at_186) (pc' := 187) rfl rfl ?_
      refine own_callS X hx hZ [(.ref qa), (.ref sa1), (.ref sa2), (.int (2 : Int32))] hown (own_w hw 199 rfl) (own_w hw 200 rfl) (own_w hw 2 rfl) (own_w hw 201 rfl) (by decide) (rm_qo l Z a0 hw [] qa qb (6 : Int32) [(.int d0), (.int d1), (.int (46 : Int32)), (.int (46 : Int32)), (.int d0), (.int d1)] sa1 sb1 sa2 sb2 (2 : Int32) (2 : Int32) (0 : Int32) cs fm [(.int d0), (.int d1)] [] (3 : Int32) h125 n0 Z0 S_C hcs S_F hfm E_1 C_1 V_1 _ A_1 E_2 C_2 V_2 _ A_2 (own_inS (own_inS own_in0)) own_in0 own_f26 E_q C_q V_q _ A_q (own_inS (own_inS (own_inS (own_inS (own_inS (own_inS own_in0)))))) own_f128 own_f279 own_f176 (((own_at_lt own_f256).trans (congrArg own_cx (own_bv_eq (46 : Int32) own_f126 rfl))).trans (Eq.trans own_cx46 ((own_qq1 own_f125).trans (own_ee2 own_f68 own_f127)).symm))) eT (W := 0) (by decide) (by decide) (cells' := 25) (slots' := 110) rfl rfl (by decide) (by decide) (by rw [hml]; rfl) (lenOf own_pd_28Ljava2flang2fString3bLjava2flang2fString3bLjava2flang2fString3bI29Z rfl) rfl (S := []) rfl (Nat.le_of_eq rfl) (hb hby at_187) (pc' := 190) rfl ?_
      intro v T h139 L lc X eT hq fN
      obtain ⟨rfl, Nq, hqe⟩ := hq
      have N := fN _ N Nq
      rw [hqe] at eT
      show own_W _ _ _ _ _ _ _ _ [(.int (1 : Int32))]
      refine own_ifN X hx (hb hby at_190) (pc' := 193) rfl (show ¬ ((1 : Int32) = (0 : Int32)) from (by decide)) ?_
      refine own_aload X hx (hb hby at_193) (pc' := 195) rfl rfl rfl ?_
      refine own_aloadN X hx (hb hby at_195) (pc' := 196) rfl rfl rfl ?_
      refine own_aloadN X hx (hb hby at_196) (pc' := 197) rfl rfl rfl ?_
      refine own_iconst X hx (3 : Int32) (hb hby at_197) (pc' := 198) rfl rfl ?_
      refine own_callS X hx hZ [(.ref qa), (.ref sa1), (.ref sa2), (.int (3 : Int32))] hown (own_w hw 199 rfl) (own_w hw 200 rfl) (own_w hw 2 rfl) (own_w hw 201 rfl) (by decide) (rm_qo l Z a0 hw [] qa qb (6 : Int32) [(.int d0), (.int d1), (.int (46 : Int32)), (.int (46 : Int32)), (.int d0), (.int d1)] sa1 sb1 sa2 sb2 (3 : Int32) (2 : Int32) (0 : Int32) cs fm [(.int d0), (.int d1)] [] (3 : Int32) h125 n0 Z0 S_C hcs S_F hfm E_1 C_1 V_1 _ A_1 E_2 C_2 V_2 _ A_2 (own_inS (own_inS own_in0)) own_in0 own_f53 E_q C_q V_q _ A_q (own_inS (own_inS (own_inS (own_inS (own_inS (own_inS own_in0)))))) own_f132 own_f279 own_f180 (((own_at_lt own_f258).trans (congrArg own_cx (own_bv_eq (46 : Int32) own_f178 rfl))).trans (Eq.trans own_cx46 (own_qq2 own_f129 own_f179).symm))) eT (W := 0) (by decide) (by decide) (cells' := 25) (slots' := 110) rfl rfl (by decide) (by decide) (by rw [hml]; rfl) (lenOf own_pd_28Ljava2flang2fString3bLjava2flang2fString3bLjava2flang2fString3bI29Z rfl) rfl (S := []) rfl (Nat.le_of_eq rfl) (hb hby at_198) (pc' := 201) rfl ?_
      intro v T h140 L lc X eT hq fN
      obtain ⟨rfl, Nq, hqe⟩ := hq
      have N := fN _ N Nq
      rw [hqe] at eT
      show own_W _ _ _ _ _ _ _ _ [(.int (1 : Int32))]
      refine own_ifN X hx (hb hby at_201) (pc' := 204) rfl (show ¬ ((1 : Int32) = (0 : Int32)) from (by decide)) ?_
      refine own_aload X hx (hb hby at_204) (pc' := 206) rfl rfl rfl ?_
      refine own_aloadN X hx (hb hby at_206) (pc' := 207) rfl rfl rfl ?_
      refine own_aloadN X hx (hb hby at_207) (pc' := 208) rfl rfl rfl ?_
      refine own_iconst X hx (4 : Int32) (hb hby at_208) (pc' := 209) rfl rfl ?_
      refine own_callS X hx hZ [(.ref qa), (.ref sa1), (.ref sa2), (.int (4 : Int32))] hown (own_w hw 199 rfl) (own_w hw 200 rfl) (own_w hw 2 rfl) (own_w hw 201 rfl) (by decide) (rm_qo l Z a0 hw [] qa qb (6 : Int32) [(.int d0), (.int d1), (.int (46 : Int32)), (.int (46 : Int32)), (.int d0), (.int d1)] sa1 sb1 sa2 sb2 (4 : Int32) (2 : Int32) (0 : Int32) cs fm [(.int d0), (.int d1)] [] (3 : Int32) h125 n0 Z0 S_C hcs S_F hfm E_1 C_1 V_1 _ A_1 E_2 C_2 V_2 _ A_2 (own_inS (own_inS own_in0)) own_in0 own_f59 E_q C_q V_q _ A_q (own_inS (own_inS (own_inS (own_inS (own_inS (own_inS own_in0)))))) own_f136 own_f279 own_f184 (((own_at_lt own_f260).trans (congrArg own_cx (own_bv_eq d0 own_f224 rfl))).trans ((own_qq3 own_f133 own_f183).trans ((own_at_lt own_f280).trans (congrArg own_cx (own_bv_eq d0 own_f226 rfl)))).symm)) eT (W := 0) (by decide) (by decide) (cells' := 25) (slots' := 110) rfl rfl (by decide) (by decide) (by rw [hml]; rfl) (lenOf own_pd_28Ljava2flang2fString3bLjava2flang2fString3bLjava2flang2fString3bI29Z rfl) rfl (S := []) rfl (Nat.le_of_eq rfl) (hb hby at_209) (pc' := 212) rfl ?_
      intro v T h141 L lc X eT hq fN
      obtain ⟨rfl, Nq, hqe⟩ := hq
      have N := fN _ N Nq
      rw [hqe] at eT
      show own_W _ _ _ _ _ _ _ _ [(.int (1 : Int32))]
      refine own_ifN X hx (hb hby at_212) (pc' := 215) rfl (show ¬ ((1 : Int32) = (0 : Int32)) from (by decide)) ?_
      refine own_aload X hx (hb hby at_215) (pc' := 217) rfl rfl rfl ?_
      refine own_aloadN X hx (hb hby at_217) (pc' := 218) rfl rfl rfl ?_
      refine own_aloadN X hx (hb hby at_218) (pc' := 219) rfl rfl rfl ?_
      refine own_iconst X hx (5 : Int32) (hb hby at_219) (pc' := 220) rfl rfl ?_
      refine own_callS X hx hZ [(.ref qa), (.ref sa1), (.ref sa2), (.int (5 : Int32))] hown (own_w hw 199 rfl) (own_w hw 200 rfl) (own_w hw 2 rfl) (own_w hw 201 rfl) (by decide) (rm_qo l Z a0 hw [] qa qb (6 : Int32) [(.int d0), (.int d1), (.int (46 : Int32)), (.int (46 : Int32)), (.int d0), (.int d1)] sa1 sb1 sa2 sb2 (5 : Int32) (2 : Int32) (0 : Int32) cs fm [(.int d0), (.int d1)] [] (3 : Int32) h125 n0 Z0 S_C hcs S_F hfm E_1 C_1 V_1 _ A_1 E_2 C_2 V_2 _ A_2 (own_inS (own_inS own_in0)) own_in0 own_f84 E_q C_q V_q _ A_q (own_inS (own_inS (own_inS (own_inS (own_inS (own_inS own_in0)))))) own_f140 own_f279 own_f188 (((own_at_lt own_f263).trans (congrArg own_cx (own_bv_eq d1 own_f264 rfl))).trans ((own_qq3 own_f137 own_f187).trans ((own_at_lt own_f281).trans (congrArg own_cx (own_bv_eq d1 own_f282 rfl)))).symm)) eT (W := 0) (by decide) (by decide) (cells' := 25) (slots' := 110) rfl rfl (by decide) (by decide) (by rw [hml]; rfl) (lenOf own_pd_28Ljava2flang2fString3bLjava2flang2fString3bLjava2flang2fString3bI29Z rfl) rfl (S := []) rfl (Nat.le_of_eq rfl) (hb hby at_220) (pc' := 223) rfl ?_
      intro v T h142 L lc X eT hq fN
      obtain ⟨rfl, Nq, hqe⟩ := hq
      have N := fN _ N Nq
      rw [hqe] at eT
      show own_W _ _ _ _ _ _ _ _ [(.int (1 : Int32))]
      refine own_ifN X hx (hb hby at_223) (pc' := 226) rfl (show ¬ ((1 : Int32) = (0 : Int32)) from (by decide)) ?_
      refine own_aload X hx (hb hby at_226) (pc' := 228) rfl rfl rfl ?_
      refine own_aloadN X hx (hb hby at_228) (pc' := 229) rfl rfl rfl ?_
      refine own_aloadN X hx (hb hby at_229) (pc' := 230) rfl rfl rfl ?_
      refine own_bipush X hx (6 : Int32) (hb hby at_230) (pc' := 232) rfl rfl ?_
      refine own_callS X hx hZ [(.ref qa), (.ref sa1), (.ref sa2), (.int (6 : Int32))] hown (own_w hw 199 rfl) (own_w hw 200 rfl) (own_w hw 2 rfl) (own_w hw 201 rfl) (by decide) (rm_qo l Z a0 hw [] qa qb (6 : Int32) [(.int d0), (.int d1), (.int (46 : Int32)), (.int (46 : Int32)), (.int d0), (.int d1)] sa1 sb1 sa2 sb2 (6 : Int32) (2 : Int32) (0 : Int32) cs fm [(.int d0), (.int d1)] [] (3 : Int32) h125 n0 Z0 S_C hcs S_F hfm E_1 C_1 V_1 _ A_1 E_2 C_2 V_2 _ A_2 (own_inS (own_inS own_in0)) own_in0 own_f91 E_q C_q V_q _ A_q (own_inS (own_inS (own_inS (own_inS (own_inS (own_inS own_in0)))))) own_f144 own_f279 own_f192 ((own_at_ge own_f269).trans ((own_qq3 own_f141 own_f191).trans (own_at_ge own_f283)).symm)) eT (W := 0) (by decide) (by decide) (cells' := 25) (slots' := 110) rfl rfl (by decide) (by decide) (by rw [hml]; rfl) (lenOf own_pd_28Ljava2flang2fString3bLjava2flang2fString3bLjava2flang2fString3bI29Z rfl) rfl (S := []) rfl (Nat.le_of_eq rfl) (hb hby at_232) (pc' := 235) rfl ?_
      intro v T h143 L lc X eT hq fN
      obtain ⟨rfl, Nq, hqe⟩ := hq
      have N := fN _ N Nq
      rw [hqe] at eT
      show own_W _ _ _ _ _ _ _ _ [(.int (1 : Int32))]
      refine own_ifN X hx (hb hby at_235) (pc' := 238) rfl (show ¬ ((1 : Int32) = (0 : Int32)) from (by decide)) ?_
      refine own_aload X hx (hb hby at_238) (pc' := 240) rfl rfl rfl ?_
      refine own_aloadN X hx (hb hby at_240) (pc' := 241) rfl rfl rfl ?_
      refine own_aloadN X hx (hb hby at_241) (pc' := 242) rfl rfl rfl ?_
      refine own_bipush X hx (7 : Int32) (hb hby at_242) (pc' := 244) rfl rfl ?_
      refine own_callS X hx hZ [(.ref qa), (.ref sa1), (.ref sa2), (.int (7 : Int32))] hown (own_w hw 199 rfl) (own_w hw 200 rfl) (own_w hw 2 rfl) (own_w hw 201 rfl) (by decide) (rm_qo l Z a0 hw [] qa qb (6 : Int32) [(.int d0), (.int d1), (.int (46 : Int32)), (.int (46 : Int32)), (.int d0), (.int d1)] sa1 sb1 sa2 sb2 (7 : Int32) (2 : Int32) (0 : Int32) cs fm [(.int d0), (.int d1)] [] (3 : Int32) h125 n0 Z0 S_C hcs S_F hfm E_1 C_1 V_1 _ A_1 E_2 C_2 V_2 _ A_2 (own_inS (own_inS own_in0)) own_in0 own_f98 E_q C_q V_q _ A_q (own_inS (own_inS (own_inS (own_inS (own_inS (own_inS own_in0)))))) own_f148 own_f279 own_f196 ((own_at_ge own_f273).trans ((own_qq3 own_f145 own_f195).trans (own_at_ge own_f284)).symm)) eT (W := 0) (by decide) (by decide) (cells' := 25) (slots' := 110) rfl rfl (by decide) (by decide) (by rw [hml]; rfl) (lenOf own_pd_28Ljava2flang2fString3bLjava2flang2fString3bLjava2flang2fString3bI29Z rfl) rfl (S := []) rfl (Nat.le_of_eq rfl) (hb hby at_244) (pc' := 247) rfl ?_
      intro v T h144 L lc X eT hq fN
      obtain ⟨rfl, Nq, hqe⟩ := hq
      have N := fN _ N Nq
      rw [hqe] at eT
      show own_W _ _ _ _ _ _ _ _ [(.int (1 : Int32))]
      refine own_ifN X hx (hb hby at_247) (pc' := 250) rfl (show ¬ ((1 : Int32) = (0 : Int32)) from (by decide)) ?_
      refine own_iconst X hx (1 : Int32) (hb hby at_250) (pc' := 251) rfl rfl ?_
      refine own_goto X hx (hb hby at_251) (by decide) (pc' := 255) rfl ?_
      refine own_istore X hx (hb hby at_255) (pc' := 257) rfl (Ls' := #[.val (.int p0), .val (.int p1), .val (.ref sa1), .val (.ref sa2), .val (.ref pa), .val (.ref ea), .val (.ref qa), .val (.int (2 : Int32)), .val (.int (0 : Int32)), .val (.int (3 : Int32)), .val (.int (1 : Int32))]) rfl ?_
      refine own_iload X hx (hb hby at_257) (pc' := 259) rfl rfl ?_
      refine own_retIS X hx hlk hZ eT hh hS hk hEL H CR (t := .boolean) (w' := (.int (1 : Int32))) Bd.returns (hb hby at_259) rfl rfl (by simp) (by decide) (by decide) ?_
      rw [eT]
      exact ⟨rfl, N⟩
    · show own_W _ _ _ _ _ _ _ _ [(.ref sa2)]
      refine own_astoreN X hx (hb hby at_9) (pc' := 10) rfl rfl (Ls' := #[.val (.int p0), .val (.int p1), .val (.ref sa1), .val (.ref sa2), .unset, .unset, .unset, .unset, .unset, .unset, .unset]) rfl ?_
      refine own_aloadN X hx (hb hby at_10) (pc' := 11) rfl rfl rfl ?_
      refine own_aloadN X hx (hb hby at_11) (pc' := 12) rfl rfl rfl ?_
      refine own_callSS X hx hZ [(.ref sa1), (.ref sa2)] hown (own_w hw 26 rfl) (own_w hw 27 rfl) (own_w hw 28 rfl) (own_w hw 29 rfl) (by decide) (rm_af l Z a0 hw hEL [] sa1 sa2 sb1 sb2 (2 : Int32) (1 : Int32) cs (2 : Int32) (3 : Int32) (4 : Int32) (4 : Int32) (5 : Int32) (7 : Int32) 2 1 2 3 4 4 5 7 [(.int d0), (.int d1)] [(.int f0)] [(.int d0), (.int d1), (.int (0 : Int32)), (.int (0 : Int32)), (.int (0 : Int32)), (.int (0 : Int32)), (.int (0 : Int32)), (.int (0 : Int32)), (.int (0 : Int32)), (.int (0 : Int32)), (.int (0 : Int32)), (.int (0 : Int32)), (.int (0 : Int32)), (.int (0 : Int32)), (.int (0 : Int32)), (.int (0 : Int32))] [(.int d0), (.int d1), (.int (46 : Int32)), (.int (0 : Int32)), (.int (0 : Int32)), (.int (0 : Int32)), (.int (0 : Int32)), (.int (0 : Int32)), (.int (0 : Int32)), (.int (0 : Int32)), (.int (0 : Int32)), (.int (0 : Int32)), (.int (0 : Int32)), (.int (0 : Int32)), (.int (0 : Int32)), (.int (0 : Int32))] [(.int d0), (.int d1), (.int (46 : Int32)), (.int f0), (.int (0 : Int32)), (.int (0 : Int32)), (.int (0 : Int32)), (.int (0 : Int32)), (.int (0 : Int32)), (.int (0 : Int32)), (.int (0 : Int32)), (.int (0 : Int32)), (.int (0 : Int32)), (.int (0 : Int32)), (.int (0 : Int32)), (.int (0 : Int32))] [(.int d0), (.int d1), (.int (46 : Int32)), (.int f0), (.int (0 : Int32)), (.int (0 : Int32)), (.int (0 : Int32)), (.int (0 : Int32)), (.int (0 : Int32)), (.int (0 : Int32)), (.int (0 : Int32)), (.int (0 : Int32)), (.int (0 : Int32)), (.int (0 : Int32)), (.int (0 : Int32)), (.int (0 : Int32))] [(.int d0), (.int d1), (.int (46 : Int32)), (.int f0), (.int (46 : Int32)), (.int (0 : Int32)), (.int (0 : Int32)), (.int (0 : Int32)), (.int (0 : Int32)), (.int (0 : Int32)), (.int (0 : Int32)), (.int (0 : Int32)), (.int (0 : Int32)), (.int (0 : Int32)), (.int (0 : Int32)), (.int (0 : Int32))] [(.int d0), (.int d1), (.int (46 : Int32)), (.int f0), (.int (46 : Int32)), (.int d0), (.int d1), (.int (0 : Int32)), (.int (0 : Int32)), (.int (0 : Int32)), (.int (0 : Int32)), (.int (0 : Int32)), (.int (0 : Int32)), (.int (0 : Int32)), (.int (0 : Int32)), (.int (0 : Int32))] [(.int d0), (.int d1), (.int (46 : Int32)), (.int f0)] [(.int d0), (.int d1), (.int (46 : Int32)), (.int f0), (.int (46 : Int32)), (.int d0), (.int d1)] h124 n0 Z0 S_C hcs E_1 C_1 V_1 _ A_1 E_2 C_2 V_2 _ A_2 ⟨own_f14, own_f101, own_f2, own_f3, own_f19, own_f32, own_f31, (Nat.le_of_ble_eq_true rfl), (Nat.le_of_ble_eq_true rfl), rfl⟩ ⟨own_f102, own_f103, own_f18, own_f19, own_f8, own_f9, own_f104, (Nat.le_of_ble_eq_true rfl), (Nat.le_of_ble_eq_true rfl), rfl⟩ ⟨own_f152, own_f153, own_f106, own_f107, own_f8, own_f9, own_f154, (Nat.le_of_ble_eq_true rfl), (Nat.le_of_ble_eq_true rfl), rfl⟩ ⟨own_f152, own_f235, own_f2, own_f3, own_f157, own_f164, own_f163, (Nat.le_of_ble_eq_true rfl), (Nat.le_of_ble_eq_true rfl), rfl⟩ ⟨own_f204, own_f205, own_f156, own_f157, own_f8, own_f9, own_f206, (Nat.le_of_ble_eq_true rfl), (Nat.le_of_ble_eq_true rfl), rfl⟩ ⟨own_f285, own_f286, own_f238, own_f209, own_f19, own_f32, own_f287, (Nat.le_of_ble_eq_true rfl), (Nat.le_of_ble_eq_true rfl), rfl⟩ ⟨own_f59, own_f159, own_f160, own_f157, own_f161, own_f162, own_f163, own_f164, (Nat.le_of_ble_eq_true rfl), rfl⟩ ⟨own_f98, own_f288, own_f289, own_f290, own_f291, own_f292, own_f293, own_f294, (Nat.le_of_ble_eq_true rfl), rfl⟩) eT hS hk hEL H (W := 0) (by decide) (by decide) (cells' := 25) (slots' := 110) rfl rfl (by decide) (by decide) (by rw [hml]; rfl) (lenOf own_pd_28Ljava2flang2fString3bLjava2flang2fString3b29Lcom2fexample2frunnel2frunnel2fbroker2fPipe3b rfl) rfl (S := []) rfl (Nat.le_of_eq rfl) (hb hby at_12) (pc' := 15) rfl ?_
      intro v T h145 L lc vm0 k1 X eT hS hk hZ hown CQ hq fN
      obtain ⟨pa, ea, eb, qa, qb, k_e, k_q, rfl, Nq, Kq, E_p, F_x, F_q, ⟨E_e, C_e, V_e, A_e⟩, ⟨E_q, C_q, V_q, A_q⟩⟩ := hq
      have N := fN _ N Nq
      have CR := CR.trans CQ
      have H := CQ.1
      have S_C := own_sta_keep S_C Kq ns0
      have S_F := own_sta_keep S_F Kq ns0
      have E_1 := E_1.keep Kq
      have C_1 := C_1.keep Kq nin0
      have V_1 := V_1.keep Kq nin0
      have A_1 := A_1.keep Kq nin0
      have E_2 := E_2.keep Kq
      have C_2 := C_2.keep Kq nin0
      have V_2 := V_2.keep Kq nin0
      have A_2 := A_2.keep Kq nin0
      have Z0 := Nat.le_trans Z0 Kq.1
      show own_W _ _ _ _ _ _ _ _ [(.ref pa)]
      refine own_astore X hx (hb hby at_15) (pc' := 17) rfl rfl (Ls' := #[.val (.int p0), .val (.int p1), .val (.ref sa1), .val (.ref sa2), .val (.ref pa), .unset, .unset, .unset, .unset, .unset, .unset]) rfl ?_
      refine own_aload X hx (hb hby at_17) (pc' := 19) rfl rfl rfl ?_
      refine own_callV X hx hZ (y := (⟨"com/example/runnel/runnel/broker/Pipe", "exchange", "()Ljava/lang/String;"⟩ : MethodName)) pa [] hown (own_w hw 157 rfl) (own_w hw 158 rfl) (own_w hw 160 rfl) (own_w hw 159 rfl) (own_w hw 28 rfl) (own_w hw 161 rfl) (by decide) (rm_ex l Z a0 hw [] pa ea h145 n0 Z0 F_x) E_p eT (W := 0) (by decide) (by decide) (cells' := 25) (slots' := 110) rfl rfl (by decide) (by decide) (by rw [hml]; rfl) (lenOf own_pd_2829Ljava2flang2fString3b rfl) rfl (S := []) rfl (Nat.le_of_eq rfl) (hb hby at_19) (pc' := 22) rfl ?_
      intro v T h146 L lc X eT hq fN
      obtain ⟨rfl, Nq, hqe⟩ := hq
      have N := fN _ N Nq
      rw [hqe] at eT
      show own_W _ _ _ _ _ _ _ _ [(.ref ea)]
      refine own_astore X hx (hb hby at_22) (pc' := 24) rfl rfl (Ls' := #[.val (.int p0), .val (.int p1), .val (.ref sa1), .val (.ref sa2), .val (.ref pa), .val (.ref ea), .unset, .unset, .unset, .unset, .unset]) rfl ?_
      refine own_aload X hx (hb hby at_24) (pc' := 26) rfl rfl rfl ?_
      refine own_callV X hx hZ (y := (⟨"com/example/runnel/runnel/broker/Pipe", "queue", "()Ljava/lang/String;"⟩ : MethodName)) pa [] hown (own_w hw 162 rfl) (own_w hw 163 rfl) (own_w hw 165 rfl) (own_w hw 164 rfl) (own_w hw 28 rfl) (own_w hw 166 rfl) (by decide) (rm_qu l Z a0 hw [] pa qa h145 n0 Z0 F_q) E_p eT (W := 0) (by decide) (by decide) (cells' := 25) (slots' := 110) rfl rfl (by decide) (by decide) (by rw [hml]; rfl) (lenOf own_pd_2829Ljava2flang2fString3b rfl) rfl (S := []) rfl (Nat.le_of_eq rfl) (hb hby at_26) (pc' := 29) rfl ?_
      intro v T h147 L lc X eT hq fN
      obtain ⟨rfl, Nq, hqe⟩ := hq
      have N := fN _ N Nq
      rw [hqe] at eT
      show own_W _ _ _ _ _ _ _ _ [(.ref qa)]
      refine own_astore X hx (hb hby at_29) (pc' := 31) rfl rfl (Ls' := #[.val (.int p0), .val (.int p1), .val (.ref sa1), .val (.ref sa2), .val (.ref pa), .val (.ref ea), .val (.ref qa), .unset, .unset, .unset, .unset]) rfl ?_
      refine own_aload X hx (hb hby at_31) (pc' := 33) rfl rfl rfl ?_
      refine own_ifnullN X hx (hb hby at_33) (pc' := 36) rfl ?_
      refine own_aload X hx (hb hby at_36) (pc' := 38) rfl rfl rfl ?_
      refine own_ifnonnullY X hx (hb hby at_38) (by decide) (pc' := 43) rfl ?_
      refine own_aloadN X hx (hb hby at_43) (pc' := 44) rfl rfl rfl ?_
      refine own_callV X hx hZ (y := (⟨"java/lang/String", "length", "()I"⟩ : MethodName)) sa1 [] hown (own_w hw 167 rfl) (own_w hw 59 rfl) (own_w hw 61 rfl) (own_w hw 60 rfl) (own_w hw 6 rfl) (own_w hw 62 rfl) (by decide) (rm_len l Z a0 hw [] sa1 sb1 cs (2 : Int32) h145 n0 Z0 S_C hcs E_1 C_1 V_1 _ _ A_1) E_1 eT (W := 0) (by decide) (by decide) (cells' := 25) (slots' := 110) rfl rfl (by decide) (by decide) (by rw [hml]; rfl) (lenOf own_pd_2829I rfl) rfl (S := []) rfl (Nat.le_of_eq rfl) (hb hby at_44) (pc' := 47) rfl ?_
      intro v T h148 L lc X eT hq fN
      obtain ⟨rfl, Nq, hqe⟩ := hq
      have N := fN _ N Nq
      rw [hqe] at eT
      show own_W _ _ _ _ _ _ _ _ [(.int (2 : Int32))]
      refine own_istore X hx (hb hby at_47) (pc' := 49) rfl (Ls' := #[.val (.int p0), .val (.int p1), .val (.ref sa1), .val (.ref sa2), .val (.ref pa), .val (.ref ea), .val (.ref qa), .val (.int (2 : Int32)), .unset, .unset, .unset]) rfl ?_
      refine own_aloadN X hx (hb hby at_49) (pc' := 50) rfl rfl rfl ?_
      refine own_callV X hx hZ (y := (⟨"java/lang/String", "length", "()I"⟩ : MethodName)) sa2 [] hown (own_w hw 167 rfl) (own_w hw 59 rfl) (own_w hw 61 rfl) (own_w hw 60 rfl) (own_w hw 6 rfl) (own_w hw 62 rfl) (by decide) (rm_len l Z a0 hw [] sa2 sb2 cs (1 : Int32) h145 n0 Z0 S_C hcs E_2 C_2 V_2 _ _ A_2) E_2 eT (W := 0) (by decide) (by decide) (cells' := 25) (slots' := 110) rfl rfl (by decide) (by decide) (by rw [hml]; rfl) (lenOf own_pd_2829I rfl) rfl (S := []) rfl (Nat.le_of_eq rfl) (hb hby at_50) (pc' := 53) rfl ?_
      intro v T h149 L lc X eT hq fN
      obtain ⟨rfl, Nq, hqe⟩ := hq
      have N := fN _ N Nq
      rw [hqe] at eT
      show own_W _ _ _ _ _ _ _ _ [(.int (1 : Int32))]
      refine own_istore X hx (hb hby at_53) (pc' := 55) rfl (Ls' := #[.val (.int p0), .val (.int p1), .val (.ref sa1), .val (.ref sa2), .val (.ref pa), .val (.ref ea), .val (.ref qa), .val (.int (2 : Int32)), .val (.int (1 : Int32)), .unset, .unset]) rfl ?_
      refine own_iload X hx (hb hby at_55) (pc' := 57) rfl rfl ?_
      refine own_iconst X hx (1 : Int32) (hb hby at_57) (pc' := 58) rfl rfl ?_
      refine own_iadd X hx (hb hby at_58) (pc' := 59) rfl ?_
      rw [show ((2 : Int32) + (1 : Int32)) = (3 : Int32) from by decide]
      refine own_iload X hx (hb hby at_59) (pc' := 61) rfl rfl ?_
      refine own_iadd X hx (hb hby at_61) (pc' := 62) rfl ?_
      rw [show ((3 : Int32) + (1 : Int32)) = (4 : Int32) from by decide]
      refine own_istore X hx (hb hby at_62) (pc' := 64) rfl (Ls' := #[.val (.int p0), .val (.int p1), .val (.ref sa1), .val (.ref sa2), .val (.ref pa), .val (.ref ea), .val (.ref qa), .val (.int (2 : Int32)), .val (.int (1 : Int32)), .val (.int (4 : Int32)), .unset]) rfl ?_
      refine own_aload X hx (hb hby at_64) (pc' := 66) rfl rfl rfl ?_
      refine own_callV X hx hZ (y := (⟨"java/lang/String", "length", "()I"⟩ : MethodName)) ea [] hown (own_w hw 167 rfl) (own_w hw 59 rfl) (own_w hw 61 rfl) (own_w hw 60 rfl) (own_w hw 6 rfl) (own_w hw 62 rfl) (by decide) (rm_len l Z a0 hw [] ea eb cs (4 : Int32) h145 n0 Z0 S_C hcs E_e C_e V_e _ _ A_e) E_e eT (W := 0) (by decide) (by decide) (cells' := 25) (slots' := 110) rfl rfl (by decide) (by decide) (by rw [hml]; rfl) (lenOf own_pd_2829I rfl) rfl (S := []) rfl (Nat.le_of_eq rfl) (hb hby at_66) (pc' := 69) rfl ?_
      intro v T h150 L lc X eT hq fN
      obtain ⟨rfl, Nq, hqe⟩ := hq
      have N := fN _ N Nq
      rw [hqe] at eT
      show own_W _ _ _ _ _ _ _ _ [(.int (4 : Int32))]
      refine own_iload X hx (hb hby at_69) (pc' := 71) rfl rfl ?_
      refine own_icmpY X hx (hb hby at_71) (by decide) (pc' := 76) rfl (show (4 : Int32) = (4 : Int32) from (by decide)) ?_
      refine own_aload X hx (hb hby at_76) (pc' := 78) rfl rfl rfl ?_
      refine own_callV X hx hZ (y := (⟨"java/lang/String", "length", "()I"⟩ : MethodName)) qa [] hown (own_w hw 167 rfl) (own_w hw 59 rfl) (own_w hw 61 rfl) (own_w hw 60 rfl) (own_w hw 6 rfl) (own_w hw 62 rfl) (by decide) (rm_len l Z a0 hw [] qa qb cs (7 : Int32) h145 n0 Z0 S_C hcs E_q C_q V_q _ _ A_q) E_q eT (W := 0) (by decide) (by decide) (cells' := 25) (slots' := 110) rfl rfl (by decide) (by decide) (by rw [hml]; rfl) (lenOf own_pd_2829I rfl) rfl (S := []) rfl (Nat.le_of_eq rfl) (hb hby at_78) (pc' := 81) rfl ?_
      intro v T h151 L lc X eT hq fN
      obtain ⟨rfl, Nq, hqe⟩ := hq
      have N := fN _ N Nq
      rw [hqe] at eT
      show own_W _ _ _ _ _ _ _ _ [(.int (7 : Int32))]
      refine own_iload X hx (hb hby at_81) (pc' := 83) rfl rfl ?_
      refine own_iconst X hx (1 : Int32) (hb hby at_83) (pc' := 84) rfl rfl ?_
      refine own_iadd X hx (hb hby at_84) (pc' := 85) rfl ?_
      rw [show ((4 : Int32) + (1 : Int32)) = (5 : Int32) from by decide]
      refine own_iload X hx (hb hby at_85) (pc' := 87) rfl rfl ?_
      refine own_iadd X hx (hb hby at_87) (pc' := 88) rfl ?_
      rw [show ((5 : Int32) + (2 : Int32)) = (7 : Int32) from by decide]
      refine own_icmpY X hx (hb hby at_88) (by decide) (pc' := 93) rfl (show (7 : Int32) = (7 : Int32) from (by decide)) ?_
      refine own_aload X hx (hb hby at_93) (pc' := 95) rfl rfl rfl ?_
      refine own_aloadN X hx (hb hby at_95) (pc' := 96) rfl rfl rfl ?_
      refine own_aloadN X hx (hb hby at_96) (pc' := 97) rfl rfl rfl ?_
      refine own_iconst X hx (0 : Int32) (hb hby at_97) (pc' := 98) rfl rfl ?_
      refine own_callS X hx hZ [(.ref ea), (.ref sa1), (.ref sa2), (.int (0 : Int32))] hown (own_w hw 168 rfl) (own_w hw 169 rfl) (own_w hw 2 rfl) (own_w hw 170 rfl) (by decide) (rm_xo l Z a0 hw [] ea eb (4 : Int32) [(.int d0), (.int d1), (.int (46 : Int32)), (.int f0)] sa1 sb1 sa2 sb2 (0 : Int32) (2 : Int32) (1 : Int32) cs fm [(.int d0), (.int d1)] [(.int f0)] h145 n0 Z0 S_C hcs S_F hfm E_1 C_1 V_1 _ A_1 E_2 C_2 V_2 _ A_2 (own_inS (own_inS own_in0)) (own_inS own_in0) own_f37 E_e C_e V_e _ A_e (own_inS (own_inS (own_inS (own_inS own_in0)))) own_f122 (((own_at_lt own_f170).trans (congrArg own_cx (own_bv_eq d0 own_f34 rfl))).trans ((own_ee1 own_f61).trans (congrArg own_cx (own_bv_eq d0 own_f34 rfl))).symm)) eT (W := 0) (by decide) (by decide) (cells' := 25) (slots' := 110) rfl rfl (by decide) (by decide) (by rw [hml]; rfl) (lenOf own_pd_28Ljava2flang2fString3bLjava2flang2fString3bLjava2flang2fString3bI29Z rfl) rfl (S := []) rfl (Nat.le_of_eq rfl) (hb hby at_98) (pc' := 101) rfl ?_
      intro v T h152 L lc X eT hq fN
      obtain ⟨rfl, Nq, hqe⟩ := hq
      have N := fN _ N Nq
      rw [hqe] at eT
      show own_W _ _ _ _ _ _ _ _ [(.int (1 : Int32))]
      refine own_ifN X hx (hb hby at_101) (pc' := 104) rfl (show ¬ ((1 : Int32) = (0 : Int32)) from (by decide)) ?_
      refine own_aload X hx (hb hby at_104) (pc' := 106) rfl rfl rfl ?_
      refine own_aloadN X hx (hb hby at_106) (pc' := 107) rfl rfl rfl ?_
      refine own_aloadN X hx (hb hby at_107) (pc' := 108) rfl rfl rfl ?_
      refine own_iconst X hx (1 : Int32) (hb hby at_108) (pc' := 109) rfl rfl ?_
      refine own_callS X hx hZ [(.ref ea), (.ref sa1), (.ref sa2), (.int (1 : Int32))] hown (own_w hw 168 rfl) (own_w hw 169 rfl) (own_w hw 2 rfl) (own_w hw 170 rfl) (by decide) (rm_xo l Z a0 hw [] ea eb (4 : Int32) [(.int d0), (.int d1), (.int (46 : Int32)), (.int f0)] sa1 sb1 sa2 sb2 (1 : Int32) (2 : Int32) (1 : Int32) cs fm [(.int d0), (.int d1)] [(.int f0)] h145 n0 Z0 S_C hcs S_F hfm E_1 C_1 V_1 _ A_1 E_2 C_2 V_2 _ A_2 (own_inS (own_inS own_in0)) (own_inS own_in0) own_f21 E_e C_e V_e _ A_e (own_inS (own_inS (own_inS (own_inS own_in0)))) own_f124 (((own_at_lt own_f173).trans (congrArg own_cx (own_bv_eq d1 own_f65 rfl))).trans ((own_ee1 own_f64).trans (congrArg own_cx (own_bv_eq d1 own_f65 rfl))).symm)) eT (W := 0) (by decide) (by decide) (cells' := 25) (slots' := 110) rfl rfl (by decide) (by decide) (by rw [hml]; rfl) (lenOf own_pd_28Ljava2flang2fString3bLjava2flang2fString3bLjava2flang2fString3bI29Z rfl) rfl (S := []) rfl (Nat.le_of_eq rfl) (hb hby at_109) (pc' := 112) rfl ?_
      intro v T h153 L lc X eT hq fN
      obtain ⟨rfl, Nq, hqe⟩ := hq
      have N := fN _ N Nq
      rw [hqe] at eT
      show own_W _ _ _ _ _ _ _ _ [(.int (1 : Int32))]
      refine own_ifN X hx (hb hby at_112) (pc' := 115) rfl (show ¬ ((1 : Int32) = (0 : Int32)) from (by decide)) ?_
      refine own_aload X hx (hb hby at_115) (pc' := 117) rfl rfl rfl ?_
      refine own_aloadN X hx (hb hby at_117) (pc' := 118) rfl rfl rfl ?_
      refine own_aloadN X hx (hb hby at_118) (pc' := 119) rfl rfl rfl ?_
      refine own_iconst X hx (2 : Int32) (hb hby at_119) (pc' := 120) rfl rfl ?_
      refine own_callS X hx hZ [(.ref ea), (.ref sa1), (.ref sa2), (.int (2 : Int32))] hown (own_w hw 168 rfl) (own_w hw 169 rfl) (own_w hw 2 rfl) (own_w hw 170 rfl) (by decide) (rm_xo l Z a0 hw [] ea eb (4 : Int32) [(.int d0), (.int d1), (.int (46 : Int32)), (.int f0)] sa1 sb1 sa2 sb2 (2 : Int32) (2 : Int32) (1 : Int32) cs fm [(.int d0), (.int d1)] [(.int f0)] h145 n0 Z0 S_C hcs S_F hfm E_1 C_1 V_1 _ A_1 E_2 C_2 V_2 _ A_2 (own_inS (own_inS own_in0)) (own_inS own_in0) own_f26 E_e C_e V_e _ A_e (own_inS (own_inS (own_inS (own_inS own_in0)))) own_f128 (((own_at_lt own_f175).trans (congrArg own_cx (own_bv_eq (46 : Int32) own_f126 rfl))).trans (Eq.trans own_cx46 (own_ee2 own_f68 own_f127).symm))) eT (W := 0) (by decide) (by decide) (cells' := 25) (slots' := 110) rfl rfl (by decide) (by decide) (by rw [hml]; rfl) (lenOf own_pd_28Ljava2flang2fString3bLjava2flang2fString3bLjava2flang2fString3bI29Z rfl) rfl (S := []) rfl (Nat.le_of_eq rfl) (hb hby at_120) (pc' := 123) rfl ?_
      intro v T h154 L lc X eT hq fN
      obtain ⟨rfl, Nq, hqe⟩ := hq
      have N := fN _ N Nq
      rw [hqe] at eT
      show own_W _ _ _ _ _ _ _ _ [(.int (1 : Int32))]
      refine own_ifN X hx (hb hby at_123) (pc' := 126) rfl (show ¬ ((1 : Int32) = (0 : Int32)) from (by decide)) ?_
      refine own_aload X hx (hb hby at_126) (pc' := 128) rfl rfl rfl ?_
      refine own_aloadN X hx (hb hby at_128) (pc' := 129) rfl rfl rfl ?_
      refine own_aloadN X hx (hb hby at_129) (pc' := 130) rfl rfl rfl ?_
      refine own_iconst X hx (3 : Int32) (hb hby at_130) (pc' := 131) rfl rfl ?_
      refine own_callS X hx hZ [(.ref ea), (.ref sa1), (.ref sa2), (.int (3 : Int32))] hown (own_w hw 168 rfl) (own_w hw 169 rfl) (own_w hw 2 rfl) (own_w hw 170 rfl) (by decide) (rm_xo l Z a0 hw [] ea eb (4 : Int32) [(.int d0), (.int d1), (.int (46 : Int32)), (.int f0)] sa1 sb1 sa2 sb2 (3 : Int32) (2 : Int32) (1 : Int32) cs fm [(.int d0), (.int d1)] [(.int f0)] h145 n0 Z0 S_C hcs S_F hfm E_1 C_1 V_1 _ A_1 E_2 C_2 V_2 _ A_2 (own_inS (own_inS own_in0)) (own_inS own_in0) own_f53 E_e C_e V_e _ A_e (own_inS (own_inS (own_inS (own_inS own_in0)))) own_f132 (((own_at_lt own_f177).trans (congrArg own_cx (own_bv_eq f0 own_f178 rfl))).trans ((own_ee3 own_f72 own_f131).trans ((own_at_lt own_f198).trans (congrArg own_cx (own_bv_eq f0 own_f199 rfl)))).symm)) eT (W := 0) (by decide) (by decide) (cells' := 25) (slots' := 110) rfl rfl (by decide) (by decide) (by rw [hml]; rfl) (lenOf own_pd_28Ljava2flang2fString3bLjava2flang2fString3bLjava2flang2fString3bI29Z rfl) rfl (S := []) rfl (Nat.le_of_eq rfl) (hb hby at_131) (pc' := 134) rfl ?_
      intro v T h155 L lc X eT hq fN
      obtain ⟨rfl, Nq, hqe⟩ := hq
      have N := fN _ N Nq
      rw [hqe] at eT
      show own_W _ _ _ _ _ _ _ _ [(.int (1 : Int32))]
      refine own_ifN X hx (hb hby at_134) (pc' := 137) rfl (show ¬ ((1 : Int32) = (0 : Int32)) from (by decide)) ?_
      refine own_aload X hx (hb hby at_137) (pc' := 139) rfl rfl rfl ?_
      refine own_aloadN X hx (hb hby at_139) (pc' := 140) rfl rfl rfl ?_
      refine own_aloadN X hx (hb hby at_140) (pc' := 141) rfl rfl rfl ?_
      refine own_iconst X hx (4 : Int32) (hb hby at_141) (pc' := 142) rfl rfl ?_
      refine own_callS X hx hZ [(.ref ea), (.ref sa1), (.ref sa2), (.int (4 : Int32))] hown (own_w hw 168 rfl) (own_w hw 169 rfl) (own_w hw 2 rfl) (own_w hw 170 rfl) (by decide) (rm_xo l Z a0 hw [] ea eb (4 : Int32) [(.int d0), (.int d1), (.int (46 : Int32)), (.int f0)] sa1 sb1 sa2 sb2 (4 : Int32) (2 : Int32) (1 : Int32) cs fm [(.int d0), (.int d1)] [(.int f0)] h145 n0 Z0 S_C hcs S_F hfm E_1 C_1 V_1 _ A_1 E_2 C_2 V_2 _ A_2 (own_inS (own_inS own_in0)) (own_inS own_in0) own_f59 E_e C_e V_e _ A_e (own_inS (own_inS (own_inS (own_inS own_in0)))) own_f136 ((own_at_ge own_f181).trans ((own_ee3 own_f76 own_f135).trans (own_at_ge own_f200)).symm)) eT (W := 0) (by decide) (by decide) (cells' := 25) (slots' := 110) rfl rfl (by decide) (by decide) (by rw [hml]; rfl) (lenOf own_pd_28Ljava2flang2fString3bLjava2flang2fString3bLjava2flang2fString3bI29Z rfl) rfl (S := []) rfl (Nat.le_of_eq rfl) (hb hby at_142) (pc' := 145) rfl ?_
      intro v T h156 L lc X eT hq fN
      obtain ⟨rfl, Nq, hqe⟩ := hq
      have N := fN _ N Nq
      rw [hqe] at eT
      show own_W _ _ _ _ _ _ _ _ [(.int (1 : Int32))]
      refine own_ifN X hx (hb hby at_145) (pc' := 148) rfl (show ¬ ((1 : Int32) = (0 : Int32)) from (by decide)) ?_
      refine own_iconst X hx (1 : Int32) (hb hby at_148) (pc' := 149) rfl rfl ?_
      refine own_goto X hx (hb hby at_149) (by decide) (pc' := 153) rfl ?_
      refine own_istore X hx (hb hby at_153) (pc' := 155) rfl (Ls' := #[.val (.int p0), .val (.int p1), .val (.ref sa1), .val (.ref sa2), .val (.ref pa), .val (.ref ea), .val (.ref qa), .val (.int (2 : Int32)), .val (.int (1 : Int32)), .val (.int (4 : Int32)), .val (.int (1 : Int32))]) rfl ?_
      refine own_iload X hx (hb hby at_155) (pc' := 157) rfl rfl ?_
      refine own_ifN X hx (hb hby at_157) (pc' := 160) rfl (show ¬ ((1 : Int32) = (0 : Int32)) from (by decide)) ?_
      refine own_aload X hx (hb hby at_160) (pc' := 162) rfl rfl rfl ?_
      refine own_aloadN X hx (hb hby at_162) (pc' := 163) rfl rfl rfl ?_
      refine own_aloadN X hx (hb hby at_163) (pc' := 164) rfl rfl rfl ?_
      refine own_iconst X hx (0 : Int32) (hb hby at_164) (pc' := 165) rfl rfl ?_
      refine own_callS X hx hZ [(.ref qa), (.ref sa1), (.ref sa2), (.int (0 : Int32))] hown (own_w hw 199 rfl) (own_w hw 200 rfl) (own_w hw 2 rfl) (own_w hw 201 rfl) (by decide) (rm_qo l Z a0 hw [] qa qb (7 : Int32) [(.int d0), (.int d1), (.int (46 : Int32)), (.int f0), (.int (46 : Int32)), (.int d0), (.int d1)] sa1 sb1 sa2 sb2 (0 : Int32) (2 : Int32) (1 : Int32) cs fm [(.int d0), (.int d1)] [(.int f0)] (4 : Int32) h145 n0 Z0 S_C hcs S_F hfm E_1 C_1 V_1 _ A_1 E_2 C_2 V_2 _ A_2 (own_inS (own_inS own_in0)) (own_inS own_in0) own_f37 E_q C_q V_q _ A_q (own_inS (own_inS (own_inS (own_inS (own_inS (own_inS (own_inS own_in0))))))) own_f122 own_f296 own_f253 (((own_at_lt own_f295).trans (congrArg own_cx (own_bv_eq d0 own_f34 rfl))).trans ((own_qq1 own_f170).trans ((own_ee1 own_f61).trans (congrArg own_cx (own_bv_eq d0 own_f34 rfl)))).symm)) eT (W := 0) (by decide) (by decide) (cells' := 25) (slots' := 110) rfl rfl (by decide) (by decide) (by rw [hml]; rfl) (lenOf own_pd_28Ljava2flang2fString3bLjava2flang2fString3bLjava2flang2fString3bI29Z rfl) rfl (S := []) rfl (Nat.le_of_eq rfl) (hb hby at_165) (pc' := 168) rfl ?_
      intro v T h157 L lc X eT hq fN
      obtain ⟨rfl, Nq, hqe⟩ := hq
      have N := fN _ N Nq
      rw [hqe] at eT
      show own_W _ _ _ _ _ _ _ _ [(.int (1 : Int32))]
      refine own_ifN X hx (hb hby at_168) (pc' := 171) rfl (show ¬ ((1 : Int32) = (0 : Int32)) from (by decide)) ?_
      refine own_aload X hx (hb hby at_171) (pc' := 173) rfl rfl rfl ?_
      refine own_aloadN X hx (hb hby at_173) (pc' := 174) rfl rfl rfl ?_
      refine own_aloadN X hx (hb hby at_174) (pc' := 175) rfl rfl rfl ?_
      refine own_iconst X hx (1 : Int32) (hb hby at_175) (pc' := 176) rfl rfl ?_
      refine own_callS X hx hZ [(.ref qa), (.ref sa1), (.ref sa2), (.int (1 : Int32))] hown (own_w hw 199 rfl) (own_w hw 200 rfl) (own_w hw 2 rfl) (own_w hw 201 rfl) (by decide) (rm_qo l Z a0 hw [] qa qb (7 : Int32) [(.int d0), (.int d1), (.int (46 : Int32)), (.int f0), (.int (46 : Int32)), (.int d0), (.int d1)] sa1 sb1 sa2 sb2 (1 : Int32) (2 : Int32) (1 : Int32) cs fm [(.int d0), (.int d1)] [(.int f0)] (4 : Int32) h145 n0 Z0 S_C hcs S_F hfm E_1 C_1 V_1 _ A_1 E_2 C_2 V_2 _ A_2 (own_inS (own_inS own_in0)) (own_inS own_in0) own_f21 E_q C_q V_q _ A_q (own_inS (own_inS (own_inS (own_inS (own_inS (own_inS (own_inS own_in0))))))) own_f124 own_f296 own_f255 (((own_at_lt own_f297).trans (congrArg own_cx (own_bv_eq d1 own_f65 rfl))).trans ((own_qq1 own_f173).trans ((own_ee1 own_f64).trans (congrArg own_cx (own_bv_eq d1 own_f65 rfl)))).symm)) eT (W := 0) (by decide) (by decide) (cells' := 25) (slots' := 110) rfl rfl (by decide) (by decide) (by rw [hml]; rfl) (lenOf own_pd_28Ljava2flang2fString3bLjava2flang2fString3bLjava2flang2fString3bI29Z rfl) rfl (S := []) rfl (Nat.le_of_eq rfl) (hb hby at_176) (pc' := 179) rfl ?_
      intro v T h158 L lc X eT hq fN
      obtain ⟨rfl, Nq, hqe⟩ := hq
      have N := fN _ N Nq
      rw [hqe] at eT
      show own_W _ _ _ _ _ _ _ _ [(.int (1 : Int32))]
      refine own_ifN X hx (hb hby at_179) (pc' := 182) rfl (show ¬ ((1 : Int32) = (0 : Int32)) from (by decide)) ?_
      refine own_aload X hx (hb hby at_182) (pc' := 184) rfl rfl rfl ?_
      refine own_aloadN X hx (hb hby at_184) (pc' := 185) rfl rfl rfl ?_
      refine own_aloadN X hx (hb hby at_185) (pc' := 186) rfl rfl rfl ?_
      refine own_iconst X hx (2 : Int32) (hb hby at_186) (pc' := 187) rfl rfl ?_
      refine own_callS X hx hZ [(.ref qa), (.ref sa1), (.ref sa2), (.int (2 : Int32))] hown (own_w hw 199 rfl) (own_w hw 200 rfl) (own_w hw 2 rfl) (own_w hw 201 rfl) (by decide) (rm_qo l Z a0 hw [] qa qb (7 : Int32) [(.int d0), (.int d1), (.int (46 : Int32)), (.int f0), (.int (46 : Int32)), (.int d0), (.int d1)] sa1 sb1 sa2 sb2 (2 : Int32) (2 : Int32) (1 : Int32) cs fm [(.int d0), (.int d1)] [(.int f0)] (4 : Int32) h145 n0 Z0 S_C hcs S_F hfm E_1 C_1 V_1 _ A_1 E_2 C_2 V_2 _ A_2 (own_inS (own_inS own_in0)) (own_inS own_in0) own_f26 E_q C_q V_q _ A_q (own_inS (own_inS (own_inS (own_inS (own_inS (own_inS (own_inS own_in0))))))) own_f128 own_f296 own_f257 (((own_at_lt own_f298).trans (congrArg own_cx (own_bv_eq (46 : Int32) own_f126 rfl))).trans (Eq.trans own_cx46 ((own_qq1 own_f175).trans (own_ee2 own_f68 own_f127)).symm))) eT (W := 0) (by decide) (by decide) (cells' := 25) (slots' := 110) rfl rfl (by decide) (by decide) (by rw [hml]; rfl) (lenOf own_pd_28Ljava2flang2fString3bLjava2flang2fString3bLjava2flang2fString3bI29Z rfl) rfl (S := []) rfl (Nat.le_of_eq rfl) (hb hby at_187) (pc' := 190) rfl ?_
      intro v T h159 L lc X eT hq fN
      obtain ⟨rfl, Nq, hqe⟩ := hq
      have N := fN _ N Nq
      rw [hqe] at eT
      show own_W _ _ _ _ _ _ _ _ [(.int (1 : Int32))]
      refine own_ifN X hx (hb hby at_190) (pc' := 193) rfl (show ¬ ((1 : Int32) = (0 : Int32)) from (by decide)) ?_
      refine own_aload X hx (hb hby at_193) (pc' := 195) rfl rfl rfl ?_
      refine own_aloadN X hx (hb hby at_195) (pc' := 196) rfl rfl rfl ?_
      refine own_aloadN X hx (hb hby at_196) (pc' := 197) rfl rfl rfl ?_
      refine own_iconst X hx (3 : Int32) (hb hby at_197) (pc' := 198) rfl rfl ?_
      refine own_callS X hx hZ [(.ref qa), (.ref sa1), (.ref sa2), (.int (3 : Int32))] hown (own_w hw 199 rfl) (own_w hw 200 rfl) (own_w hw 2 rfl) (own_w hw 201 rfl) (by decide) (rm_qo l Z a0 hw [] qa qb (7 : Int32) [(.int d0), (.int d1), (.int (46 : Int32)), (.int f0), (.int (46 : Int32)), (.int d0), (.int d1)] sa1 sb1 sa2 sb2 (3 : Int32) (2 : Int32) (1 : Int32) cs fm [(.int d0), (.int d1)] [(.int f0)] (4 : Int32) h145 n0 Z0 S_C hcs S_F hfm E_1 C_1 V_1 _ A_1 E_2 C_2 V_2 _ A_2 (own_inS (own_inS own_in0)) (own_inS own_in0) own_f53 E_q C_q V_q _ A_q (own_inS (own_inS (own_inS (own_inS (own_inS (own_inS (own_inS own_in0))))))) own_f132 own_f296 own_f259 (((own_at_lt own_f299).trans (congrArg own_cx (own_bv_eq f0 own_f178 rfl))).trans ((own_qq1 own_f177).trans ((own_ee3 own_f72 own_f131).trans ((own_at_lt own_f198).trans (congrArg own_cx (own_bv_eq f0 own_f199 rfl))))).symm)) eT (W := 0) (by decide) (by decide) (cells' := 25) (slots' := 110) rfl rfl (by decide) (by decide) (by rw [hml]; rfl) (lenOf own_pd_28Ljava2flang2fString3bLjava2flang2fString3bLjava2flang2fString3bI29Z rfl) rfl (S := []) rfl (Nat.le_of_eq rfl) (hb hby at_198) (pc' := 201) rfl ?_
      intro v T h160 L lc X eT hq fN
      obtain ⟨rfl, Nq, hqe⟩ := hq
      have N := fN _ N Nq
      rw [hqe] at eT
      show own_W _ _ _ _ _ _ _ _ [(.int (1 : Int32))]
      refine own_ifN X hx (hb hby at_201) (pc' := 204) rfl (show ¬ ((1 : Int32) = (0 : Int32)) from (by decide)) ?_
      refine own_aload X hx (hb hby at_204) (pc' := 206) rfl rfl rfl ?_
      refine own_aloadN X hx (hb hby at_206) (pc' := 207) rfl rfl rfl ?_
      refine own_aloadN X hx (hb hby at_207) (pc' := 208) rfl rfl rfl ?_
      refine own_iconst X hx (4 : Int32) (hb hby at_208) (pc' := 209) rfl rfl ?_
      refine own_callS X hx hZ [(.ref qa), (.ref sa1), (.ref sa2), (.int (4 : Int32))] hown (own_w hw 199 rfl) (own_w hw 200 rfl) (own_w hw 2 rfl) (own_w hw 201 rfl) (by decide) (rm_qo l Z a0 hw [] qa qb (7 : Int32) [(.int d0), (.int d1), (.int (46 : Int32)), (.int f0), (.int (46 : Int32)), (.int d0), (.int d1)] sa1 sb1 sa2 sb2 (4 : Int32) (2 : Int32) (1 : Int32) cs fm [(.int d0), (.int d1)] [(.int f0)] (4 : Int32) h145 n0 Z0 S_C hcs S_F hfm E_1 C_1 V_1 _ A_1 E_2 C_2 V_2 _ A_2 (own_inS (own_inS own_in0)) (own_inS own_in0) own_f59 E_q C_q V_q _ A_q (own_inS (own_inS (own_inS (own_inS (own_inS (own_inS (own_inS own_in0))))))) own_f136 own_f296 own_f262 (((own_at_lt own_f300).trans (congrArg own_cx (own_bv_eq (46 : Int32) own_f224 rfl))).trans (Eq.trans own_cx46 (own_qq2 own_f181 own_f261).symm))) eT (W := 0) (by decide) (by decide) (cells' := 25) (slots' := 110) rfl rfl (by decide) (by decide) (by rw [hml]; rfl) (lenOf own_pd_28Ljava2flang2fString3bLjava2flang2fString3bLjava2flang2fString3bI29Z rfl) rfl (S := []) rfl (Nat.le_of_eq rfl) (hb hby at_209) (pc' := 212) rfl ?_
      intro v T h161 L lc X eT hq fN
      obtain ⟨rfl, Nq, hqe⟩ := hq
      have N := fN _ N Nq
      rw [hqe] at eT
      show own_W _ _ _ _ _ _ _ _ [(.int (1 : Int32))]
      refine own_ifN X hx (hb hby at_212) (pc' := 215) rfl (show ¬ ((1 : Int32) = (0 : Int32)) from (by decide)) ?_
      refine own_aload X hx (hb hby at_215) (pc' := 217) rfl rfl rfl ?_
      refine own_aloadN X hx (hb hby at_217) (pc' := 218) rfl rfl rfl ?_
      refine own_aloadN X hx (hb hby at_218) (pc' := 219) rfl rfl rfl ?_
      refine own_iconst X hx (5 : Int32) (hb hby at_219) (pc' := 220) rfl rfl ?_
      refine own_callS X hx hZ [(.ref qa), (.ref sa1), (.ref sa2), (.int (5 : Int32))] hown (own_w hw 199 rfl) (own_w hw 200 rfl) (own_w hw 2 rfl) (own_w hw 201 rfl) (by decide) (rm_qo l Z a0 hw [] qa qb (7 : Int32) [(.int d0), (.int d1), (.int (46 : Int32)), (.int f0), (.int (46 : Int32)), (.int d0), (.int d1)] sa1 sb1 sa2 sb2 (5 : Int32) (2 : Int32) (1 : Int32) cs fm [(.int d0), (.int d1)] [(.int f0)] (4 : Int32) h145 n0 Z0 S_C hcs S_F hfm E_1 C_1 V_1 _ A_1 E_2 C_2 V_2 _ A_2 (own_inS (own_inS own_in0)) (own_inS own_in0) own_f84 E_q C_q V_q _ A_q (own_inS (own_inS (own_inS (own_inS (own_inS (own_inS (own_inS own_in0))))))) own_f140 own_f296 own_f268 (((own_at_lt own_f301).trans (congrArg own_cx (own_bv_eq d0 own_f264 rfl))).trans ((own_qq3 own_f185 own_f267).trans ((own_at_lt own_f302).trans (congrArg own_cx (own_bv_eq d0 own_f266 rfl)))).symm)) eT (W := 0) (by decide) (by decide) (cells' := 25) (slots' := 110) rfl rfl (by decide) (by decide) (by rw [hml]; rfl) (lenOf own_pd_28Ljava2flang2fString3bLjava2flang2fString3bLjava2flang2fString3bI29Z rfl) rfl (S := []) rfl (Nat.le_of_eq rfl) (hb hby at_220) (pc' := 223) rfl ?_
      intro v T h162 L lc X eT hq fN
      obtain ⟨rfl, Nq, hqe⟩ := hq
      have N := fN _ N Nq
      rw [hqe] at eT
      show own_W _ _ _ _ _ _ _ _ [(.int (1 : Int32))]
      refine own_ifN X hx (hb hby at_223) (pc' := 226) rfl (show ¬ ((1 : Int32) = (0 : Int32)) from (by decide)) ?_
      refine own_aload X hx (hb hby at_226) (pc' := 228) rfl rfl rfl ?_
      refine own_aloadN X hx (hb hby at_228) (pc' := 229) rfl rfl rfl ?_
      refine own_aloadN X hx (hb hby at_229) (pc' := 230) rfl rfl rfl ?_
      refine own_bipush X hx (6 : Int32) (hb hby at_230) (pc' := 232) rfl rfl ?_
      refine own_callS X hx hZ [(.ref qa), (.ref sa1), (.ref sa2), (.int (6 : Int32))] hown (own_w hw 199 rfl) (own_w hw 200 rfl) (own_w hw 2 rfl) (own_w hw 201 rfl) (by decide) (rm_qo l Z a0 hw [] qa qb (7 : Int32) [(.int d0), (.int d1), (.int (46 : Int32)), (.int f0), (.int (46 : Int32)), (.int d0), (.int d1)] sa1 sb1 sa2 sb2 (6 : Int32) (2 : Int32) (1 : Int32) cs fm [(.int d0), (.int d1)] [(.int f0)] (4 : Int32) h145 n0 Z0 S_C hcs S_F hfm E_1 C_1 V_1 _ A_1 E_2 C_2 V_2 _ A_2 (own_inS (own_inS own_in0)) (own_inS own_in0) own_f91 E_q C_q V_q _ A_q (own_inS (own_inS (own_inS (own_inS (own_inS (own_inS (own_inS own_in0))))))) own_f144 own_f296 own_f272 (((own_at_lt own_f303).trans (congrArg own_cx (own_bv_eq d1 own_f304 rfl))).trans ((own_qq3 own_f189 own_f271).trans ((own_at_lt own_f305).trans (congrArg own_cx (own_bv_eq d1 own_f306 rfl)))).symm)) eT (W := 0) (by decide) (by decide) (cells' := 25) (slots' := 110) rfl rfl (by decide) (by decide) (by rw [hml]; rfl) (lenOf own_pd_28Ljava2flang2fString3bLjava2flang2fString3bLjava2flang2fString3bI29Z rfl) rfl (S := []) rfl (Nat.le_of_eq rfl) (hb hby at_232) (pc' := 235) rfl ?_
      intro v T h163 L lc X eT hq fN
      obtain ⟨rfl, Nq, hqe⟩ := hq
      have N := fN _ N Nq
      rw [hqe] at eT
      show own_W _ _ _ _ _ _ _ _ [(.int (1 : Int32))]
      refine own_ifN X hx (hb hby at_235) (pc' := 238) rfl (show ¬ ((1 : Int32) = (0 : Int32)) from (by decide)) ?_
      refine own_aload X hx (hb hby at_238) (pc' := 240) rfl rfl rfl ?_
      refine own_aloadN X hx (hb hby at_240) (pc' := 241) rfl rfl rfl ?_
      refine own_aloadN X hx (hb hby at_241) (pc' := 242) rfl rfl rfl ?_
      refine own_bipush X hx (7 : Int32) (hb hby at_242) (pc' := 244) rfl rfl ?_
      refine own_callS X hx hZ [(.ref qa), (.ref sa1), (.ref sa2), (.int (7 : Int32))] hown (own_w hw 199 rfl) (own_w hw 200 rfl) (own_w hw 2 rfl) (own_w hw 201 rfl) (by decide) (rm_qo l Z a0 hw [] qa qb (7 : Int32) [(.int d0), (.int d1), (.int (46 : Int32)), (.int f0), (.int (46 : Int32)), (.int d0), (.int d1)] sa1 sb1 sa2 sb2 (7 : Int32) (2 : Int32) (1 : Int32) cs fm [(.int d0), (.int d1)] [(.int f0)] (4 : Int32) h145 n0 Z0 S_C hcs S_F hfm E_1 C_1 V_1 _ A_1 E_2 C_2 V_2 _ A_2 (own_inS (own_inS own_in0)) (own_inS own_in0) own_f98 E_q C_q V_q _ A_q (own_inS (own_inS (own_inS (own_inS (own_inS (own_inS (own_inS own_in0))))))) own_f148 own_f296 own_f276 ((own_at_ge own_f307).trans ((own_qq3 own_f193 own_f275).trans (own_at_ge own_f308)).symm)) eT (W := 0) (by decide) (by decide) (cells' := 25) (slots' := 110) rfl rfl (by decide) (by decide) (by rw [hml]; rfl) (lenOf own_pd_28Ljava2flang2fString3bLjava2flang2fString3bLjava2flang2fString3bI29Z rfl) rfl (S := []) rfl (Nat.le_of_eq rfl) (hb hby at_244) (pc' := 247) rfl ?_
      intro v T h164 L lc X eT hq fN
      obtain ⟨rfl, Nq, hqe⟩ := hq
      have N := fN _ N Nq
      rw [hqe] at eT
      show own_W _ _ _ _ _ _ _ _ [(.int (1 : Int32))]
      refine own_ifN X hx (hb hby at_247) (pc' := 250) rfl (show ¬ ((1 : Int32) = (0 : Int32)) from (by decide)) ?_
      refine own_iconst X hx (1 : Int32) (hb hby at_250) (pc' := 251) rfl rfl ?_
      refine own_goto X hx (hb hby at_251) (by decide) (pc' := 255) rfl ?_
      refine own_istore X hx (hb hby at_255) (pc' := 257) rfl (Ls' := #[.val (.int p0), .val (.int p1), .val (.ref sa1), .val (.ref sa2), .val (.ref pa), .val (.ref ea), .val (.ref qa), .val (.int (2 : Int32)), .val (.int (1 : Int32)), .val (.int (4 : Int32)), .val (.int (1 : Int32))]) rfl ?_
      refine own_iload X hx (hb hby at_257) (pc' := 259) rfl rfl ?_
      refine own_retIS X hx hlk hZ eT hh hS hk hEL H CR (t := .boolean) (w' := (.int (1 : Int32))) Bd.returns (hb hby at_259) rfl rfl (by simp) (by decide) (by decide) ?_
      rw [eT]
      exact ⟨rfl, N⟩
    · show own_W _ _ _ _ _ _ _ _ [(.ref sa2)]
      refine own_astoreN X hx (hb hby at_9) (pc' := 10) rfl rfl (Ls' := #[.val (.int p0), .val (.int p1), .val (.ref sa1), .val (.ref sa2), .unset, .unset, .unset, .unset, .unset, .unset, .unset]) rfl ?_
      refine own_aloadN X hx (hb hby at_10) (pc' := 11) rfl rfl rfl ?_
      refine own_aloadN X hx (hb hby at_11) (pc' := 12) rfl rfl rfl ?_
      refine own_callSS X hx hZ [(.ref sa1), (.ref sa2)] hown (own_w hw 26 rfl) (own_w hw 27 rfl) (own_w hw 28 rfl) (own_w hw 29 rfl) (by decide) (rm_af l Z a0 hw hEL [] sa1 sa2 sb1 sb2 (2 : Int32) (2 : Int32) cs (2 : Int32) (3 : Int32) (5 : Int32) (5 : Int32) (6 : Int32) (8 : Int32) 2 2 2 3 5 5 6 8 [(.int d0), (.int d1)] [(.int f0), (.int f1)] [(.int d0), (.int d1), (.int (0 : Int32)), (.int (0 : Int32)), (.int (0 : Int32)), (.int (0 : Int32)), (.int (0 : Int32)), (.int (0 : Int32)), (.int (0 : Int32)), (.int (0 : Int32)), (.int (0 : Int32)), (.int (0 : Int32)), (.int (0 : Int32)), (.int (0 : Int32)), (.int (0 : Int32)), (.int (0 : Int32))] [(.int d0), (.int d1), (.int (46 : Int32)), (.int (0 : Int32)), (.int (0 : Int32)), (.int (0 : Int32)), (.int (0 : Int32)), (.int (0 : Int32)), (.int (0 : Int32)), (.int (0 : Int32)), (.int (0 : Int32)), (.int (0 : Int32)), (.int (0 : Int32)), (.int (0 : Int32)), (.int (0 : Int32)), (.int (0 : Int32))] [(.int d0), (.int d1), (.int (46 : Int32)), (.int f0), (.int f1), (.int (0 : Int32)), (.int (0 : Int32)), (.int (0 : Int32)), (.int (0 : Int32)), (.int (0 : Int32)), (.int (0 : Int32)), (.int (0 : Int32)), (.int (0 : Int32)), (.int (0 : Int32)), (.int (0 : Int32)), (.int (0 : Int32))] [(.int d0), (.int d1), (.int (46 : Int32)), (.int f0), (.int f1), (.int (0 : Int32)), (.int (0 : Int32)), (.int (0 : Int32)), (.int (0 : Int32)), (.int (0 : Int32)), (.int (0 : Int32)), (.int (0 : Int32)), (.int (0 : Int32)), (.int (0 : Int32)), (.int (0 : Int32)), (.int (0 : Int32))] [(.int d0), (.int d1), (.int (46 : Int32)), (.int f0), (.int f1), (.int (46 : Int32)), (.int (0 : Int32)), (.int (0 : Int32)), (.int (0 : Int32)), (.int (0 : Int32)), (.int (0 : Int32)), (.int (0 : Int32)), (.int (0 : Int32)), (.int (0 : Int32)), (.int (0 : Int32)), (.int (0 : Int32))] [(.int d0), (.int d1), (.int (46 : Int32)), (.int f0), (.int f1), (.int (46 : Int32)), (.int d0), (.int d1), (.int (0 : Int32)), (.int (0 : Int32)), (.int (0 : Int32)), (.int (0 : Int32)), (.int (0 : Int32)), (.int (0 : Int32)), (.int (0 : Int32)), (.int (0 : Int32))] [(.int d0), (.int d1), (.int (46 : Int32)), (.int f0), (.int f1)] [(.int d0), (.int d1), (.int (46 : Int32)), (.int f0), (.int f1), (.int (46 : Int32)), (.int d0), (.int d1)] h124 n0 Z0 S_C hcs E_1 C_1 V_1 _ A_1 E_2 C_2 V_2 _ A_2 ⟨own_f14, own_f101, own_f2, own_f3, own_f19, own_f32, own_f31, (Nat.le_of_ble_eq_true rfl), (Nat.le_of_ble_eq_true rfl), rfl⟩ ⟨own_f102, own_f103, own_f18, own_f19, own_f8, own_f9, own_f104, (Nat.le_of_ble_eq_true rfl), (Nat.le_of_ble_eq_true rfl), rfl⟩ ⟨own_f204, own_f309, own_f106, own_f107, own_f19, own_f32, own_f310, (Nat.le_of_ble_eq_true rfl), (Nat.le_of_ble_eq_true rfl), rfl⟩ ⟨own_f204, own_f311, own_f2, own_f3, own_f209, own_f213, own_f212, (Nat.le_of_ble_eq_true rfl), (Nat.le_of_ble_eq_true rfl), rfl⟩ ⟨own_f236, own_f237, own_f238, own_f209, own_f8, own_f9, own_f239, (Nat.le_of_ble_eq_true rfl), (Nat.le_of_ble_eq_true rfl), rfl⟩ ⟨own_f312, own_f313, own_f314, own_f242, own_f19, own_f32, own_f315, (Nat.le_of_ble_eq_true rfl), (Nat.le_of_ble_eq_true rfl), rfl⟩ ⟨own_f84, own_f207, own_f208, own_f209, own_f210, own_f211, own_f212, own_f213, (Nat.le_of_ble_eq_true rfl), rfl⟩ ⟨own_f316, own_f317, own_f318, own_f319, own_f320, own_f321, own_f322, own_f323, (Nat.le_of_ble_eq_true rfl), rfl⟩) eT hS hk hEL H (W := 0) (by decide) (by decide) (cells' := 25) (slots' := 110) rfl rfl (by decide) (by decide) (by rw [hml]; rfl) (lenOf own_pd_28Ljava2flang2fString3bLjava2flang2fString3b29Lcom2fexample2frunnel2frunnel2fbroker2fPipe3b rfl) rfl (S := []) rfl (Nat.le_of_eq rfl) (hb hby at_12) (pc' := 15) rfl ?_
      intro v T h165 L lc vm0 k1 X eT hS hk hZ hown CQ hq fN
      obtain ⟨pa, ea, eb, qa, qb, k_e, k_q, rfl, Nq, Kq, E_p, F_x, F_q, ⟨E_e, C_e, V_e, A_e⟩, ⟨E_q, C_q, V_q, A_q⟩⟩ := hq
      have N := fN _ N Nq
      have CR := CR.trans CQ
      have H := CQ.1
      have S_C := own_sta_keep S_C Kq ns0
      have S_F := own_sta_keep S_F Kq ns0
      have E_1 := E_1.keep Kq
      have C_1 := C_1.keep Kq nin0
      have V_1 := V_1.keep Kq nin0
      have A_1 := A_1.keep Kq nin0
      have E_2 := E_2.keep Kq
      have C_2 := C_2.keep Kq nin0
      have V_2 := V_2.keep Kq nin0
      have A_2 := A_2.keep Kq nin0
      have Z0 := Nat.le_trans Z0 Kq.1
      show own_W _ _ _ _ _ _ _ _ [(.ref pa)]
      refine own_astore X hx (hb hby at_15) (pc' := 17) rfl rfl (Ls' := #[.val (.int p0), .val (.int p1), .val (.ref sa1), .val (.ref sa2), .val (.ref pa), .unset, .unset, .unset, .unset, .unset, .unset]) rfl ?_
      refine own_aload X hx (hb hby at_17) (pc' := 19) rfl rfl rfl ?_
      refine own_callV X hx hZ (y := (⟨"com/example/runnel/runnel/broker/Pipe", "exchange", "()Ljava/lang/String;"⟩ : MethodName)) pa [] hown (own_w hw 157 rfl) (own_w hw 158 rfl) (own_w hw 160 rfl) (own_w hw 159 rfl) (own_w hw 28 rfl) (own_w hw 161 rfl) (by decide) (rm_ex l Z a0 hw [] pa ea h165 n0 Z0 F_x) E_p eT (W := 0) (by decide) (by decide) (cells' := 25) (slots' := 110) rfl rfl (by decide) (by decide) (by rw [hml]; rfl) (lenOf own_pd_2829Ljava2flang2fString3b rfl) rfl (S := []) rfl (Nat.le_of_eq rfl) (hb hby at_19) (pc' := 22) rfl ?_
      intro v T h166 L lc X eT hq fN
      obtain ⟨rfl, Nq, hqe⟩ := hq
      have N := fN _ N Nq
      rw [hqe] at eT
      show own_W _ _ _ _ _ _ _ _ [(.ref ea)]
      refine own_astore X hx (hb hby at_22) (pc' := 24) rfl rfl (Ls' := #[.val (.int p0), .val (.int p1), .val (.ref sa1), .val (.ref sa2), .val (.ref pa), .val (.ref ea), .unset, .unset, .unset, .unset, .unset]) rfl ?_
      refine own_aload X hx (hb hby at_24) (pc' := 26) rfl rfl rfl ?_
      refine own_callV X hx hZ (y := (⟨"com/example/runnel/runnel/broker/Pipe", "queue", "()Ljava/lang/String;"⟩ : MethodName)) pa [] hown (own_w hw 162 rfl) (own_w hw 163 rfl) (own_w hw 165 rfl) (own_w hw 164 rfl) (own_w hw 28 rfl) (own_w hw 166 rfl) (by decide) (rm_qu l Z a0 hw [] pa qa h165 n0 Z0 F_q) E_p eT (W := 0) (by decide) (by decide) (cells' := 25) (slots' := 110) rfl rfl (by decide) (by decide) (by rw [hml]; rfl) (lenOf own_pd_2829Ljava2flang2fString3b rfl) rfl (S := []) rfl (Nat.le_of_eq rfl) (hb hby at_26) (pc' := 29) rfl ?_
      intro v T h167 L lc X eT hq fN
      obtain ⟨rfl, Nq, hqe⟩ := hq
      have N := fN _ N Nq
      rw [hqe] at eT
      show own_W _ _ _ _ _ _ _ _ [(.ref qa)]
      refine own_astore X hx (hb hby at_29) (pc' := 31) rfl rfl (Ls' := #[.val (.int p0), .val (.int p1), .val (.ref sa1), .val (.ref sa2), .val (.ref pa), .val (.ref ea), .val (.ref qa), .unset, .unset, .unset, .unset]) rfl ?_
      refine own_aload X hx (hb hby at_31) (pc' := 33) rfl rfl rfl ?_
      refine own_ifnullN X hx (hb hby at_33) (pc' := 36) rfl ?_
      refine own_aload X hx (hb hby at_36) (pc' := 38) rfl rfl rfl ?_
      refine own_ifnonnullY X hx (hb hby at_38) (by decide) (pc' := 43) rfl ?_
      refine own_aloadN X hx (hb hby at_43) (pc' := 44) rfl rfl rfl ?_
      refine own_callV X hx hZ (y := (⟨"java/lang/String", "length", "()I"⟩ : MethodName)) sa1 [] hown (own_w hw 167 rfl) (own_w hw 59 rfl) (own_w hw 61 rfl) (own_w hw 60 rfl) (own_w hw 6 rfl) (own_w hw 62 rfl) (by decide) (rm_len l Z a0 hw [] sa1 sb1 cs (2 : Int32) h165 n0 Z0 S_C hcs E_1 C_1 V_1 _ _ A_1) E_1 eT (W := 0) (by decide) (by decide) (cells' := 25) (slots' := 110) rfl rfl (by decide) (by decide) (by rw [hml]; rfl) (lenOf own_pd_2829I rfl) rfl (S := []) rfl (Nat.le_of_eq rfl) (hb hby at_44) (pc' := 47) rfl ?_
      intro v T h168 L lc X eT hq fN
      obtain ⟨rfl, Nq, hqe⟩ := hq
      have N := fN _ N Nq
      rw [hqe] at eT
      show own_W _ _ _ _ _ _ _ _ [(.int (2 : Int32))]
      refine own_istore X hx (hb hby at_47) (pc' := 49) rfl (Ls' := #[.val (.int p0), .val (.int p1), .val (.ref sa1), .val (.ref sa2), .val (.ref pa), .val (.ref ea), .val (.ref qa), .val (.int (2 : Int32)), .unset, .unset, .unset]) rfl ?_
      refine own_aloadN X hx (hb hby at_49) (pc' := 50) rfl rfl rfl ?_
      refine own_callV X hx hZ (y := (⟨"java/lang/String", "length", "()I"⟩ : MethodName)) sa2 [] hown (own_w hw 167 rfl) (own_w hw 59 rfl) (own_w hw 61 rfl) (own_w hw 60 rfl) (own_w hw 6 rfl) (own_w hw 62 rfl) (by decide) (rm_len l Z a0 hw [] sa2 sb2 cs (2 : Int32) h165 n0 Z0 S_C hcs E_2 C_2 V_2 _ _ A_2) E_2 eT (W := 0) (by decide) (by decide) (cells' := 25) (slots' := 110) rfl rfl (by decide) (by decide) (by rw [hml]; rfl) (lenOf own_pd_2829I rfl) rfl (S := []) rfl (Nat.le_of_eq rfl) (hb hby at_50) (pc' := 53) rfl ?_
      intro v T h169 L lc X eT hq fN
      obtain ⟨rfl, Nq, hqe⟩ := hq
      have N := fN _ N Nq
      rw [hqe] at eT
      show own_W _ _ _ _ _ _ _ _ [(.int (2 : Int32))]
      refine own_istore X hx (hb hby at_53) (pc' := 55) rfl (Ls' := #[.val (.int p0), .val (.int p1), .val (.ref sa1), .val (.ref sa2), .val (.ref pa), .val (.ref ea), .val (.ref qa), .val (.int (2 : Int32)), .val (.int (2 : Int32)), .unset, .unset]) rfl ?_
      refine own_iload X hx (hb hby at_55) (pc' := 57) rfl rfl ?_
      refine own_iconst X hx (1 : Int32) (hb hby at_57) (pc' := 58) rfl rfl ?_
      refine own_iadd X hx (hb hby at_58) (pc' := 59) rfl ?_
      rw [show ((2 : Int32) + (1 : Int32)) = (3 : Int32) from by decide]
      refine own_iload X hx (hb hby at_59) (pc' := 61) rfl rfl ?_
      refine own_iadd X hx (hb hby at_61) (pc' := 62) rfl ?_
      rw [show ((3 : Int32) + (2 : Int32)) = (5 : Int32) from by decide]
      refine own_istore X hx (hb hby at_62) (pc' := 64) rfl (Ls' := #[.val (.int p0), .val (.int p1), .val (.ref sa1), .val (.ref sa2), .val (.ref pa), .val (.ref ea), .val (.ref qa), .val (.int (2 : Int32)), .val (.int (2 : Int32)), .val (.int (5 : Int32)), .unset]) rfl ?_
      refine own_aload X hx (hb hby at_64) (pc' := 66) rfl rfl rfl ?_
      refine own_callV X hx hZ (y := (⟨"java/lang/String", "length", "()I"⟩ : MethodName)) ea [] hown (own_w hw 167 rfl) (own_w hw 59 rfl) (own_w hw 61 rfl) (own_w hw 60 rfl) (own_w hw 6 rfl) (own_w hw 62 rfl) (by decide) (rm_len l Z a0 hw [] ea eb cs (5 : Int32) h165 n0 Z0 S_C hcs E_e C_e V_e _ _ A_e) E_e eT (W := 0) (by decide) (by decide) (cells' := 25) (slots' := 110) rfl rfl (by decide) (by decide) (by rw [hml]; rfl) (lenOf own_pd_2829I rfl) rfl (S := []) rfl (Nat.le_of_eq rfl) (hb hby at_66) (pc' := 69) rfl ?_
      intro v T h170 L lc X eT hq fN
      obtain ⟨rfl, Nq, hqe⟩ := hq
      have N := fN _ N Nq
      rw [hqe] at eT
      show own_W _ _ _ _ _ _ _ _ [(.int (5 : Int32))]
      refine own_iload X hx (hb hby at_69) (pc' := 71) rfl rfl ?_
      refine own_icmpY X hx (hb hby at_71) (by decide) (pc' := 76) rfl (show (5 : Int32) = (5 : Int32) from (by decide)) ?_
      refine own_aload X hx (hb hby at_76) (pc' := 78) rfl rfl rfl ?_
      refine own_callV X hx hZ (y := (⟨"java/lang/String", "length", "()I"⟩ : MethodName)) qa [] hown (own_w hw 167 rfl) (own_w hw 59 rfl) (own_w hw 61 rfl) (own_w hw 60 rfl) (own_w hw 6 rfl) (own_w hw 62 rfl) (by decide) (rm_len l Z a0 hw [] qa qb cs (8 : Int32) h165 n0 Z0 S_C hcs E_q C_q V_q _ _ A_q) E_q eT (W := 0) (by decide) (by decide) (cells' := 25) (slots' := 110) rfl rfl (by decide) (by decide) (by rw [hml]; rfl) (lenOf own_pd_2829I rfl) rfl (S := []) rfl (Nat.le_of_eq rfl) (hb hby at_78) (pc' := 81) rfl ?_
      intro v T h171 L lc X eT hq fN
      obtain ⟨rfl, Nq, hqe⟩ := hq
      have N := fN _ N Nq
      rw [hqe] at eT
      show own_W _ _ _ _ _ _ _ _ [(.int (8 : Int32))]
      refine own_iload X hx (hb hby at_81) (pc' := 83) rfl rfl ?_
      refine own_iconst X hx (1 : Int32) (hb hby at_83) (pc' := 84) rfl rfl ?_
      refine own_iadd X hx (hb hby at_84) (pc' := 85) rfl ?_
      rw [show ((5 : Int32) + (1 : Int32)) = (6 : Int32) from by decide]
      refine own_iload X hx (hb hby at_85) (pc' := 87) rfl rfl ?_
      refine own_iadd X hx (hb hby at_87) (pc' := 88) rfl ?_
      rw [show ((6 : Int32) + (2 : Int32)) = (8 : Int32) from by decide]
      refine own_icmpY X hx (hb hby at_88) (by decide) (pc' := 93) rfl (show (8 : Int32) = (8 : Int32) from (by decide)) ?_
      refine own_aload X hx (hb hby at_93) (pc' := 95) rfl rfl rfl ?_
      refine own_aloadN X hx (hb hby at_95) (pc' := 96) rfl rfl rfl ?_
      refine own_aloadN X hx (hb hby at_96) (pc' := 97) rfl rfl rfl ?_
      refine own_iconst X hx (0 : Int32) (hb hby at_97) (pc' := 98) rfl rfl ?_
      refine own_callS X hx hZ [(.ref ea), (.ref sa1), (.ref sa2), (.int (0 : Int32))] hown (own_w hw 168 rfl) (own_w hw 169 rfl) (own_w hw 2 rfl) (own_w hw 170 rfl) (by decide) (rm_xo l Z a0 hw [] ea eb (5 : Int32) [(.int d0), (.int d1), (.int (46 : Int32)), (.int f0), (.int f1)] sa1 sb1 sa2 sb2 (0 : Int32) (2 : Int32) (2 : Int32) cs fm [(.int d0), (.int d1)] [(.int f0), (.int f1)] h165 n0 Z0 S_C hcs S_F hfm E_1 C_1 V_1 _ A_1 E_2 C_2 V_2 _ A_2 (own_inS (own_inS own_in0)) (own_inS (own_inS own_in0)) own_f37 E_e C_e V_e _ A_e (own_inS (own_inS (own_inS (own_inS (own_inS own_in0))))) own_f122 (((own_at_lt own_f218).trans (congrArg own_cx (own_bv_eq d0 own_f34 rfl))).trans ((own_ee1 own_f61).trans (congrArg own_cx (own_bv_eq d0 own_f34 rfl))).symm)) eT (W := 0) (by decide) (by decide) (cells' := 25) (slots' := 110) rfl rfl (by decide) (by decide) (by rw [hml]; rfl) (lenOf own_pd_28Ljava2flang2fString3bLjava2flang2fString3bLjava2flang2fString3bI29Z rfl) rfl (S := []) rfl (Nat.le_of_eq rfl) (hb hby at_98) (pc' := 101) rfl ?_
      intro v T h172 L lc X eT hq fN
      obtain ⟨rfl, Nq, hqe⟩ := hq
      have N := fN _ N Nq
      rw [hqe] at eT
      show own_W _ _ _ _ _ _ _ _ [(.int (1 : Int32))]
      refine own_ifN X hx (hb hby at_101) (pc' := 104) rfl (show ¬ ((1 : Int32) = (0 : Int32)) from (by decide)) ?_
      refine own_aload X hx (hb hby at_104) (pc' := 106) rfl rfl rfl ?_
      refine own_aloadN X hx (hb hby at_106) (pc' := 107) rfl rfl rfl ?_
      refine own_aloadN X hx (hb hby at_107) (pc' := 108) rfl rfl rfl ?_
      refine own_iconst X hx (1 : Int32) (hb hby at_108) (pc' := 109) rfl rfl ?_
      refine own_callS X hx hZ [(.ref ea), (.ref sa1), (.ref sa2), (.int (1 : Int32))] hown (own_w hw 168 rfl) (own_w hw 169 rfl) (own_w hw 2 rfl) (own_w hw 170 rfl) (by decide) (rm_xo l Z a0 hw [] ea eb (5 : Int32) [(.int d0), (.int d1), (.int (46 : Int32)), (.int f0), (.int f1)] sa1 sb1 sa2 sb2 (1 : Int32) (2 : Int32) (2 : Int32) cs fm [(.int d0), (.int d1)] [(.int f0), (.int f1)] h165 n0 Z0 S_C hcs S_F hfm E_1 C_1 V_1 _ A_1 E_2 C_2 V_2 _ A_2 (own_inS (own_inS own_in0)) (own_inS (own_inS own_in0)) own_f21 E_e C_e V_e _ A_e (own_inS (own_inS (own_inS (own_inS (own_inS own_in0))))) own_f124 (((own_at_lt own_f220).trans (congrArg own_cx (own_bv_eq d1 own_f65 rfl))).trans ((own_ee1 own_f64).trans (congrArg own_cx (own_bv_eq d1 own_f65 rfl))).symm)) eT (W := 0) (by decide) (by decide) (cells' := 25) (slots' := 110) rfl rfl (by decide) (by decide) (by rw [hml]; rfl) (lenOf own_pd_28Ljava2flang2fString3bLjava2flang2fString3bLjava2flang2fString3bI29Z rfl) rfl (S := []) rfl (Nat.le_of_eq rfl) (hb hby at_109) (pc' := 112) rfl ?_
      intro v T h173 L lc X eT hq fN
      obtain ⟨rfl, Nq, hqe⟩ := hq
      have N := fN _ N Nq
      rw [hqe] at eT
      show own_W _ _ _ _ _ _ _ _ [(.int (1 : Int32))]
      refine own_ifN X hx (hb hby at_112) (pc' := 115) rfl (show ¬ ((1 : Int32) = (0 : Int32)) from (by decide)) ?_
      refine own_aload X hx (hb hby at_115) (pc' := 117) rfl rfl rfl ?_
      refine own_aloadN X hx (hb hby at_117) (pc' := 118) rfl rfl rfl ?_
      refine own_aloadN X hx (hb hby at_118) (pc' := 119) rfl rfl rfl ?_
      refine own_iconst X hx (2 : Int32) (hb hby at_119) (pc' := 120) rfl rfl ?_
      refine own_callS X hx hZ [(.ref ea), (.ref sa1), (.ref sa2), (.int (2 : Int32))] hown (own_w hw 168 rfl) (own_w hw 169 rfl) (own_w hw 2 rfl) (own_w hw 170 rfl) (by decide) (rm_xo l Z a0 hw [] ea eb (5 : Int32) [(.int d0), (.int d1), (.int (46 : Int32)), (.int f0), (.int f1)] sa1 sb1 sa2 sb2 (2 : Int32) (2 : Int32) (2 : Int32) cs fm [(.int d0), (.int d1)] [(.int f0), (.int f1)] h165 n0 Z0 S_C hcs S_F hfm E_1 C_1 V_1 _ A_1 E_2 C_2 V_2 _ A_2 (own_inS (own_inS own_in0)) (own_inS (own_inS own_in0)) own_f26 E_e C_e V_e _ A_e (own_inS (own_inS (own_inS (own_inS (own_inS own_in0))))) own_f128 (((own_at_lt own_f221).trans (congrArg own_cx (own_bv_eq (46 : Int32) own_f126 rfl))).trans (Eq.trans own_cx46 (own_ee2 own_f68 own_f127).symm))) eT (W := 0) (by decide) (by decide) (cells' := 25) (slots' := 110) rfl rfl (by decide) (by decide) (by rw [hml]; rfl) (lenOf own_pd_28Ljava2flang2fString3bLjava2flang2fString3bLjava2flang2fString3bI29Z rfl) rfl (S := []) rfl (Nat.le_of_eq rfl) (hb hby at_120) (pc' := 123) rfl ?_
      intro v T h174 L lc X eT hq fN
      obtain ⟨rfl, Nq, hqe⟩ := hq
      have N := fN _ N Nq
      rw [hqe] at eT
      show own_W _ _ _ _ _ _ _ _ [(.int (1 : Int32))]
      refine own_ifN X hx (hb hby at_123) (pc' := 126) rfl (show ¬ ((1 : Int32) = (0 : Int32)) from (by decide)) ?_
      refine own_aload X hx (hb hby at_126) (pc' := 128) rfl rfl rfl ?_
      refine own_aloadN X hx (hb hby at_128) (pc' := 129) rfl rfl rfl ?_
      refine own_aloadN X hx (hb hby at_129) (pc' := 130) rfl rfl rfl ?_
      refine own_iconst X hx (3 : Int32) (hb hby at_130) (pc' := 131) rfl rfl ?_
      refine own_callS X hx hZ [(.ref ea), (.ref sa1), (.ref sa2), (.int (3 : Int32))] hown (own_w hw 168 rfl) (own_w hw 169 rfl) (own_w hw 2 rfl) (own_w hw 170 rfl) (by decide) (rm_xo l Z a0 hw [] ea eb (5 : Int32) [(.int d0), (.int d1), (.int (46 : Int32)), (.int f0), (.int f1)] sa1 sb1 sa2 sb2 (3 : Int32) (2 : Int32) (2 : Int32) cs fm [(.int d0), (.int d1)] [(.int f0), (.int f1)] h165 n0 Z0 S_C hcs S_F hfm E_1 C_1 V_1 _ A_1 E_2 C_2 V_2 _ A_2 (own_inS (own_inS own_in0)) (own_inS (own_inS own_in0)) own_f53 E_e C_e V_e _ A_e (own_inS (own_inS (own_inS (own_inS (own_inS own_in0))))) own_f132 (((own_at_lt own_f222).trans (congrArg own_cx (own_bv_eq f0 own_f178 rfl))).trans ((own_ee3 own_f72 own_f131).trans ((own_at_lt own_f324).trans (congrArg own_cx (own_bv_eq f0 own_f199 rfl)))).symm)) eT (W := 0) (by decide) (by decide) (cells' := 25) (slots' := 110) rfl rfl (by decide) (by decide) (by rw [hml]; rfl) (lenOf own_pd_28Ljava2flang2fString3bLjava2flang2fString3bLjava2flang2fString3bI29Z rfl) rfl (S := []) rfl (Nat.le_of_eq rfl) (hb hby at_131) (pc' := 134) rfl ?_
      intro v T h175 L lc X eT hq fN
      obtain ⟨rfl, Nq, hqe⟩ := hq
      have N := fN _ N Nq
      rw [hqe] at eT
      show own_W _ _ _ _ _ _ _ _ [(.int (1 : Int32))]
      refine own_ifN X hx (hb hby at_134) (pc' := 137) rfl (show ¬ ((1 : Int32) = (0 : Int32)) from (by decide)) ?_
      refine own_aload X hx (hb hby at_137) (pc' := 139) rfl rfl rfl ?_
      refine own_aloadN X hx (hb hby at_139) (pc' := 140) rfl rfl rfl ?_
      refine own_aloadN X hx (hb hby at_140) (pc' := 141) rfl rfl rfl ?_
      refine own_iconst X hx (4 : Int32) (hb hby at_141) (pc' := 142) rfl rfl ?_
      refine own_callS X hx hZ [(.ref ea), (.ref sa1), (.ref sa2), (.int (4 : Int32))] hown (own_w hw 168 rfl) (own_w hw 169 rfl) (own_w hw 2 rfl) (own_w hw 170 rfl) (by decide) (rm_xo l Z a0 hw [] ea eb (5 : Int32) [(.int d0), (.int d1), (.int (46 : Int32)), (.int f0), (.int f1)] sa1 sb1 sa2 sb2 (4 : Int32) (2 : Int32) (2 : Int32) cs fm [(.int d0), (.int d1)] [(.int f0), (.int f1)] h165 n0 Z0 S_C hcs S_F hfm E_1 C_1 V_1 _ A_1 E_2 C_2 V_2 _ A_2 (own_inS (own_inS own_in0)) (own_inS (own_inS own_in0)) own_f59 E_e C_e V_e _ A_e (own_inS (own_inS (own_inS (own_inS (own_inS own_in0))))) own_f136 (((own_at_lt own_f223).trans (congrArg own_cx (own_bv_eq f1 own_f224 rfl))).trans ((own_ee3 own_f76 own_f135).trans ((own_at_lt own_f325).trans (congrArg own_cx (own_bv_eq f1 own_f326 rfl)))).symm)) eT (W := 0) (by decide) (by decide) (cells' := 25) (slots' := 110) rfl rfl (by decide) (by decide) (by rw [hml]; rfl) (lenOf own_pd_28Ljava2flang2fString3bLjava2flang2fString3bLjava2flang2fString3bI29Z rfl) rfl (S := []) rfl (Nat.le_of_eq rfl) (hb hby at_142) (pc' := 145) rfl ?_
      intro v T h176 L lc X eT hq fN
      obtain ⟨rfl, Nq, hqe⟩ := hq
      have N := fN _ N Nq
      rw [hqe] at eT
      show own_W _ _ _ _ _ _ _ _ [(.int (1 : Int32))]
      refine own_ifN X hx (hb hby at_145) (pc' := 148) rfl (show ¬ ((1 : Int32) = (0 : Int32)) from (by decide)) ?_
      refine own_iconst X hx (1 : Int32) (hb hby at_148) (pc' := 149) rfl rfl ?_
      refine own_goto X hx (hb hby at_149) (by decide) (pc' := 153) rfl ?_
      refine own_istore X hx (hb hby at_153) (pc' := 155) rfl (Ls' := #[.val (.int p0), .val (.int p1), .val (.ref sa1), .val (.ref sa2), .val (.ref pa), .val (.ref ea), .val (.ref qa), .val (.int (2 : Int32)), .val (.int (2 : Int32)), .val (.int (5 : Int32)), .val (.int (1 : Int32))]) rfl ?_
      refine own_iload X hx (hb hby at_155) (pc' := 157) rfl rfl ?_
      refine own_ifN X hx (hb hby at_157) (pc' := 160) rfl (show ¬ ((1 : Int32) = (0 : Int32)) from (by decide)) ?_
      refine own_aload X hx (hb hby at_160) (pc' := 162) rfl rfl rfl ?_
      refine own_aloadN X hx (hb hby at_162) (pc' := 163) rfl rfl rfl ?_
      refine own_aloadN X hx (hb hby at_163) (pc' := 164) rfl rfl rfl ?_
      refine own_iconst X hx (0 : Int32) (hb hby at_164) (pc' := 165) rfl rfl ?_
      refine own_callS X hx hZ [(.ref qa), (.ref sa1), (.ref sa2), (.int (0 : Int32))] hown (own_w hw 199 rfl) (own_w hw 200 rfl) (own_w hw 2 rfl) (own_w hw 201 rfl) (by decide) (rm_qo l Z a0 hw [] qa qb (8 : Int32) [(.int d0), (.int d1), (.int (46 : Int32)), (.int f0), (.int f1), (.int (46 : Int32)), (.int d0), (.int d1)] sa1 sb1 sa2 sb2 (0 : Int32) (2 : Int32) (2 : Int32) cs fm [(.int d0), (.int d1)] [(.int f0), (.int f1)] (5 : Int32) h165 n0 Z0 S_C hcs S_F hfm E_1 C_1 V_1 _ A_1 E_2 C_2 V_2 _ A_2 (own_inS (own_inS own_in0)) (own_inS (own_inS own_in0)) own_f37 E_q C_q V_q _ A_q (own_inS (own_inS (own_inS (own_inS (own_inS (own_inS (own_inS (own_inS own_in0)))))))) own_f122 own_f328 own_f329 (((own_at_lt own_f327).trans (congrArg own_cx (own_bv_eq d0 own_f34 rfl))).trans ((own_qq1 own_f218).trans ((own_ee1 own_f61).trans (congrArg own_cx (own_bv_eq d0 own_f34 rfl)))).symm)) eT (W := 0) (by decide) (by decide) (cells' := 25) (slots' := 110) rfl rfl (by decide) (by decide) (by rw [hml]; rfl) (lenOf own_pd_28Ljava2flang2fString3bLjava2flang2fString3bLjava2flang2fString3bI29Z rfl) rfl (S := []) rfl (Nat.le_of_eq rfl) (hb hby at_165) (pc' := 168) rfl ?_
      intro v T h177 L lc X eT hq fN
      obtain ⟨rfl, Nq, hqe⟩ := hq
      have N := fN _ N Nq
      rw [hqe] at eT
      show own_W _ _ _ _ _ _ _ _ [(.int (1 : Int32))]
      refine own_ifN X hx (hb hby at_168) (pc' := 171) rfl (show ¬ ((1 : Int32) = (0 : Int32)) from (by decide)) ?_
      refine own_aload X hx (hb hby at_171) (pc' := 173) rfl rfl rfl ?_
      refine own_aloadN X hx (hb hby at_173) (pc' := 174) rfl rfl rfl ?_
      refine own_aloadN X hx (hb hby at_174) (pc' := 175) rfl rfl rfl ?_
      refine own_iconst X hx (1 : Int32) (hb hby at_175) (pc' := 176) rfl rfl ?_
      refine own_callS X hx hZ [(.ref qa), (.ref sa1), (.ref sa2), (.int (1 : Int32))] hown (own_w hw 199 rfl) (own_w hw 200 rfl) (own_w hw 2 rfl) (own_w hw 201 rfl) (by decide) (rm_qo l Z a0 hw [] qa qb (8 : Int32) [(.int d0), (.int d1), (.int (46 : Int32)), (.int f0), (.int f1), (.int (46 : Int32)), (.int d0), (.int d1)] sa1 sb1 sa2 sb2 (1 : Int32) (2 : Int32) (2 : Int32) cs fm [(.int d0), (.int d1)] [(.int f0), (.int f1)] (5 : Int32) h165 n0 Z0 S_C hcs S_F hfm E_1 C_1 V_1 _ A_1 E_2 C_2 V_2 _ A_2 (own_inS (own_inS own_in0)) (own_inS (own_inS own_in0)) own_f21 E_q C_q V_q _ A_q (own_inS (own_inS (own_inS (own_inS (own_inS (own_inS (own_inS (own_inS own_in0)))))))) own_f124 own_f328 own_f331 (((own_at_lt own_f330).trans (congrArg own_cx (own_bv_eq d1 own_f65 rfl))).trans ((own_qq1 own_f220).trans ((own_ee1 own_f64).trans (congrArg own_cx (own_bv_eq d1 own_f65 rfl)))).symm)) eT (W := 0) (by decide) (by decide) (cells' := 25) (slots' := 110) rfl rfl (by decide) (by decide) (by rw [hml]; rfl) (lenOf own_pd_28Ljava2flang2fString3bLjava2flang2fString3bLjava2flang2fString3bI29Z rfl) rfl (S := []) rfl (Nat.le_of_eq rfl) (hb hby at_176) (pc' := 179) rfl ?_
      intro v T h178 L lc X eT hq fN
      obtain ⟨rfl, Nq, hqe⟩ := hq
      have N := fN _ N Nq
      rw [hqe] at eT
      show own_W _ _ _ _ _ _ _ _ [(.int (1 : Int32))]
      refine own_ifN X hx (hb hby at_179) (pc' := 182) rfl (show ¬ ((1 : Int32) = (0 : Int32)) from (by decide)) ?_
      refine own_aload X hx (hb hby at_182) (pc' := 184) rfl rfl rfl ?_
      refine own_aloadN X hx (hb hby at_184) (pc' := 185) rfl rfl rfl ?_
      refine own_aloadN X hx (hb hby at_185) (pc' := 186) rfl rfl rfl ?_
      refine own_iconst X hx (2 : Int32) (hb hby at_186) (pc' := 187) rfl rfl ?_
      refine own_callS X hx hZ [(.ref qa), (.ref sa1), (.ref sa2), (.int (2 : Int32))] hown (own_w hw 199 rfl) (own_w hw 200 rfl) (own_w hw 2 rfl) (own_w hw 201 rfl) (by decide) (rm_qo l Z a0 hw [] qa qb (8 : Int32) [(.int d0), (.int d1), (.int (46 : Int32)), (.int f0), (.int f1), (.int (46 : Int32)), (.int d0), (.int d1)] sa1 sb1 sa2 sb2 (2 : Int32) (2 : Int32) (2 : Int32) cs fm [(.int d0), (.int d1)] [(.int f0), (.int f1)] (5 : Int32) h165 n0 Z0 S_C hcs S_F hfm E_1 C_1 V_1 _ A_1 E_2 C_2 V_2 _ A_2 (own_inS (own_inS own_in0)) (own_inS (own_inS own_in0)) own_f26 E_q C_q V_q _ A_q (own_inS (own_inS (own_inS (own_inS (own_inS (own_inS (own_inS (own_inS own_in0)))))))) own_f128 own_f328 own_f333 (((own_at_lt own_f332).trans (congrArg own_cx (own_bv_eq (46 : Int32) own_f126 rfl))).trans (Eq.trans own_cx46 ((own_qq1 own_f221).trans (own_ee2 own_f68 own_f127)).symm))) eT (W := 0) (by decide) (by decide) (cells' := 25) (slots' := 110) rfl rfl (by decide) (by decide) (by rw [hml]; rfl) (lenOf own_pd_28Ljava2flang2fString3bLjava2flang2fString3bLjava2flang2fString3bI29Z rfl) rfl (S := []) rfl (Nat.le_of_eq rfl) (hb hby at_187) (pc' := 190) rfl ?_
      intro v T h179 L lc X eT hq fN
      obtain ⟨rfl, Nq, hqe⟩ := hq
      have N := fN _ N Nq
      rw [hqe] at eT
      show own_W _ _ _ _ _ _ _ _ [(.int (1 : Int32))]
      refine own_ifN X hx (hb hby at_190) (pc' := 193) rfl (show ¬ ((1 : Int32) = (0 : Int32)) from (by decide)) ?_
      refine own_aload X hx (hb hby at_193) (pc' := 195) rfl rfl rfl ?_
      refine own_aloadN X hx (hb hby at_195) (pc' := 196) rfl rfl rfl ?_
      refine own_aloadN X hx (hb hby at_196) (pc' := 197) rfl rfl rfl ?_
      refine own_iconst X hx (3 : Int32) (hb hby at_197) (pc' := 198) rfl rfl ?_
      refine own_callS X hx hZ [(.ref qa), (.ref sa1), (.ref sa2), (.int (3 : Int32))] hown (own_w hw 199 rfl) (own_w hw 200 rfl) (own_w hw 2 rfl) (own_w hw 201 rfl) (by decide) (rm_qo l Z a0 hw [] qa qb (8 : Int32) [(.int d0), (.int d1), (.int (46 : Int32)), (.int f0), (.int f1), (.int (46 : Int32)), (.int d0), (.int d1)] sa1 sb1 sa2 sb2 (3 : Int32) (2 : Int32) (2 : Int32) cs fm [(.int d0), (.int d1)] [(.int f0), (.int f1)] (5 : Int32) h165 n0 Z0 S_C hcs S_F hfm E_1 C_1 V_1 _ A_1 E_2 C_2 V_2 _ A_2 (own_inS (own_inS own_in0)) (own_inS (own_inS own_in0)) own_f53 E_q C_q V_q _ A_q (own_inS (own_inS (own_inS (own_inS (own_inS (own_inS (own_inS (own_inS own_in0)))))))) own_f132 own_f328 own_f335 (((own_at_lt own_f334).trans (congrArg own_cx (own_bv_eq f0 own_f178 rfl))).trans ((own_qq1 own_f222).trans ((own_ee3 own_f72 own_f131).trans ((own_at_lt own_f324).trans (congrArg own_cx (own_bv_eq f0 own_f199 rfl))))).symm)) eT (W := 0) (by decide) (by decide) (cells' := 25) (slots' := 110) rfl rfl (by decide) (by decide) (by rw [hml]; rfl) (lenOf own_pd_28Ljava2flang2fString3bLjava2flang2fString3bLjava2flang2fString3bI29Z rfl) rfl (S := []) rfl (Nat.le_of_eq rfl) (hb hby at_198) (pc' := 201) rfl ?_
      intro v T h180 L lc X eT hq fN
      obtain ⟨rfl, Nq, hqe⟩ := hq
      have N := fN _ N Nq
      rw [hqe] at eT
      show own_W _ _ _ _ _ _ _ _ [(.int (1 : Int32))]
      refine own_ifN X hx (hb hby at_201) (pc' := 204) rfl (show ¬ ((1 : Int32) = (0 : Int32)) from (by decide)) ?_
      refine own_aload X hx (hb hby at_204) (pc' := 206) rfl rfl rfl ?_
      refine own_aloadN X hx (hb hby at_206) (pc' := 207) rfl rfl rfl ?_
      refine own_aloadN X hx (hb hby at_207) (pc' := 208) rfl rfl rfl ?_
      refine own_iconst X hx (4 : Int32) (hb hby at_208) (pc' := 209) rfl rfl ?_
      refine own_callS X hx hZ [(.ref qa), (.ref sa1), (.ref sa2), (.int (4 : Int32))] hown (own_w hw 199 rfl) (own_w hw 200 rfl) (own_w hw 2 rfl) (own_w hw 201 rfl) (by decide) (rm_qo l Z a0 hw [] qa qb (8 : Int32) [(.int d0), (.int d1), (.int (46 : Int32)), (.int f0), (.int f1), (.int (46 : Int32)), (.int d0), (.int d1)] sa1 sb1 sa2 sb2 (4 : Int32) (2 : Int32) (2 : Int32) cs fm [(.int d0), (.int d1)] [(.int f0), (.int f1)] (5 : Int32) h165 n0 Z0 S_C hcs S_F hfm E_1 C_1 V_1 _ A_1 E_2 C_2 V_2 _ A_2 (own_inS (own_inS own_in0)) (own_inS (own_inS own_in0)) own_f59 E_q C_q V_q _ A_q (own_inS (own_inS (own_inS (own_inS (own_inS (own_inS (own_inS (own_inS own_in0)))))))) own_f136 own_f328 own_f337 (((own_at_lt own_f336).trans (congrArg own_cx (own_bv_eq f1 own_f224 rfl))).trans ((own_qq1 own_f223).trans ((own_ee3 own_f76 own_f135).trans ((own_at_lt own_f325).trans (congrArg own_cx (own_bv_eq f1 own_f326 rfl))))).symm)) eT (W := 0) (by decide) (by decide) (cells' := 25) (slots' := 110) rfl rfl (by decide) (by decide) (by rw [hml]; rfl) (lenOf own_pd_28Ljava2flang2fString3bLjava2flang2fString3bLjava2flang2fString3bI29Z rfl) rfl (S := []) rfl (Nat.le_of_eq rfl) (hb hby at_209) (pc' := 212) rfl ?_
      intro v T h181 L lc X eT hq fN
      obtain ⟨rfl, Nq, hqe⟩ := hq
      have N := fN _ N Nq
      rw [hqe] at eT
      show own_W _ _ _ _ _ _ _ _ [(.int (1 : Int32))]
      refine own_ifN X hx (hb hby at_212) (pc' := 215) rfl (show ¬ ((1 : Int32) = (0 : Int32)) from (by decide)) ?_
      refine own_aload X hx (hb hby at_215) (pc' := 217) rfl rfl rfl ?_
      refine own_aloadN X hx (hb hby at_217) (pc' := 218) rfl rfl rfl ?_
      refine own_aloadN X hx (hb hby at_218) (pc' := 219) rfl rfl rfl ?_
      refine own_iconst X hx (5 : Int32) (hb hby at_219) (pc' := 220) rfl rfl ?_
      refine own_callS X hx hZ [(.ref qa), (.ref sa1), (.ref sa2), (.int (5 : Int32))] hown (own_w hw 199 rfl) (own_w hw 200 rfl) (own_w hw 2 rfl) (own_w hw 201 rfl) (by decide) (rm_qo l Z a0 hw [] qa qb (8 : Int32) [(.int d0), (.int d1), (.int (46 : Int32)), (.int f0), (.int f1), (.int (46 : Int32)), (.int d0), (.int d1)] sa1 sb1 sa2 sb2 (5 : Int32) (2 : Int32) (2 : Int32) cs fm [(.int d0), (.int d1)] [(.int f0), (.int f1)] (5 : Int32) h165 n0 Z0 S_C hcs S_F hfm E_1 C_1 V_1 _ A_1 E_2 C_2 V_2 _ A_2 (own_inS (own_inS own_in0)) (own_inS (own_inS own_in0)) own_f84 E_q C_q V_q _ A_q (own_inS (own_inS (own_inS (own_inS (own_inS (own_inS (own_inS (own_inS own_in0)))))))) own_f140 own_f328 own_f340 (((own_at_lt own_f338).trans (congrArg own_cx (own_bv_eq (46 : Int32) own_f264 rfl))).trans (Eq.trans own_cx46 (own_qq2 own_f227 own_f339).symm))) eT (W := 0) (by decide) (by decide) (cells' := 25) (slots' := 110) rfl rfl (by decide) (by decide) (by rw [hml]; rfl) (lenOf own_pd_28Ljava2flang2fString3bLjava2flang2fString3bLjava2flang2fString3bI29Z rfl) rfl (S := []) rfl (Nat.le_of_eq rfl) (hb hby at_220) (pc' := 223) rfl ?_
      intro v T h182 L lc X eT hq fN
      obtain ⟨rfl, Nq, hqe⟩ := hq
      have N := fN _ N Nq
      rw [hqe] at eT
      show own_W _ _ _ _ _ _ _ _ [(.int (1 : Int32))]
      refine own_ifN X hx (hb hby at_223) (pc' := 226) rfl (show ¬ ((1 : Int32) = (0 : Int32)) from (by decide)) ?_
      refine own_aload X hx (hb hby at_226) (pc' := 228) rfl rfl rfl ?_
      refine own_aloadN X hx (hb hby at_228) (pc' := 229) rfl rfl rfl ?_
      refine own_aloadN X hx (hb hby at_229) (pc' := 230) rfl rfl rfl ?_
      refine own_bipush X hx (6 : Int32) (hb hby at_230) (pc' := 232) rfl rfl ?_
      refine own_callS X hx hZ [(.ref qa), (.ref sa1), (.ref sa2), (.int (6 : Int32))] hown (own_w hw 199 rfl) (own_w hw 200 rfl) (own_w hw 2 rfl) (own_w hw 201 rfl) (by decide) (rm_qo l Z a0 hw [] qa qb (8 : Int32) [(.int d0), (.int d1), (.int (46 : Int32)), (.int f0), (.int f1), (.int (46 : Int32)), (.int d0), (.int d1)] sa1 sb1 sa2 sb2 (6 : Int32) (2 : Int32) (2 : Int32) cs fm [(.int d0), (.int d1)] [(.int f0), (.int f1)] (5 : Int32) h165 n0 Z0 S_C hcs S_F hfm E_1 C_1 V_1 _ A_1 E_2 C_2 V_2 _ A_2 (own_inS (own_inS own_in0)) (own_inS (own_inS own_in0)) own_f91 E_q C_q V_q _ A_q (own_inS (own_inS (own_inS (own_inS (own_inS (own_inS (own_inS (own_inS own_in0)))))))) own_f144 own_f328 own_f345 (((own_at_lt own_f341).trans (congrArg own_cx (own_bv_eq d0 own_f304 rfl))).trans ((own_qq3 own_f229 own_f344).trans ((own_at_lt own_f342).trans (congrArg own_cx (own_bv_eq d0 own_f343 rfl)))).symm)) eT (W := 0) (by decide) (by decide) (cells' := 25) (slots' := 110) rfl rfl (by decide) (by decide) (by rw [hml]; rfl) (lenOf own_pd_28Ljava2flang2fString3bLjava2flang2fString3bLjava2flang2fString3bI29Z rfl) rfl (S := []) rfl (Nat.le_of_eq rfl) (hb hby at_232) (pc' := 235) rfl ?_
      intro v T h183 L lc X eT hq fN
      obtain ⟨rfl, Nq, hqe⟩ := hq
      have N := fN _ N Nq
      rw [hqe] at eT
      show own_W _ _ _ _ _ _ _ _ [(.int (1 : Int32))]
      refine own_ifN X hx (hb hby at_235) (pc' := 238) rfl (show ¬ ((1 : Int32) = (0 : Int32)) from (by decide)) ?_
      refine own_aload X hx (hb hby at_238) (pc' := 240) rfl rfl rfl ?_
      refine own_aloadN X hx (hb hby at_240) (pc' := 241) rfl rfl rfl ?_
      refine own_aloadN X hx (hb hby at_241) (pc' := 242) rfl rfl rfl ?_
      refine own_bipush X hx (7 : Int32) (hb hby at_242) (pc' := 244) rfl rfl ?_
      refine own_callS X hx hZ [(.ref qa), (.ref sa1), (.ref sa2), (.int (7 : Int32))] hown (own_w hw 199 rfl) (own_w hw 200 rfl) (own_w hw 2 rfl) (own_w hw 201 rfl) (by decide) (rm_qo l Z a0 hw [] qa qb (8 : Int32) [(.int d0), (.int d1), (.int (46 : Int32)), (.int f0), (.int f1), (.int (46 : Int32)), (.int d0), (.int d1)] sa1 sb1 sa2 sb2 (7 : Int32) (2 : Int32) (2 : Int32) cs fm [(.int d0), (.int d1)] [(.int f0), (.int f1)] (5 : Int32) h165 n0 Z0 S_C hcs S_F hfm E_1 C_1 V_1 _ A_1 E_2 C_2 V_2 _ A_2 (own_inS (own_inS own_in0)) (own_inS (own_inS own_in0)) own_f98 E_q C_q V_q _ A_q (own_inS (own_inS (own_inS (own_inS (own_inS (own_inS (own_inS (own_inS own_in0)))))))) own_f148 own_f328 own_f351 (((own_at_lt own_f346).trans (congrArg own_cx (own_bv_eq d1 own_f347 rfl))).trans ((own_qq3 own_f231 own_f350).trans ((own_at_lt own_f348).trans (congrArg own_cx (own_bv_eq d1 own_f349 rfl)))).symm)) eT (W := 0) (by decide) (by decide) (cells' := 25) (slots' := 110) rfl rfl (by decide) (by decide) (by rw [hml]; rfl) (lenOf own_pd_28Ljava2flang2fString3bLjava2flang2fString3bLjava2flang2fString3bI29Z rfl) rfl (S := []) rfl (Nat.le_of_eq rfl) (hb hby at_244) (pc' := 247) rfl ?_
      intro v T h184 L lc X eT hq fN
      obtain ⟨rfl, Nq, hqe⟩ := hq
      have N := fN _ N Nq
      rw [hqe] at eT
      show own_W _ _ _ _ _ _ _ _ [(.int (1 : Int32))]
      refine own_ifN X hx (hb hby at_247) (pc' := 250) rfl (show ¬ ((1 : Int32) = (0 : Int32)) from (by decide)) ?_
      refine own_iconst X hx (1 : Int32) (hb hby at_250) (pc' := 251) rfl rfl ?_
      refine own_goto X hx (hb hby at_251) (by decide) (pc' := 255) rfl ?_
      refine own_istore X hx (hb hby at_255) (pc' := 257) rfl (Ls' := #[.val (.int p0), .val (.int p1), .val (.ref sa1), .val (.ref sa2), .val (.ref pa), .val (.ref ea), .val (.ref qa), .val (.int (2 : Int32)), .val (.int (2 : Int32)), .val (.int (5 : Int32)), .val (.int (1 : Int32))]) rfl ?_
      refine own_iload X hx (hb hby at_257) (pc' := 259) rfl rfl ?_
      refine own_retIS X hx hlk hZ eT hh hS hk hEL H CR (t := .boolean) (w' := (.int (1 : Int32))) Bd.returns (hb hby at_259) rfl rfl (by simp) (by decide) (by decide) ?_
      rw [eT]
      exact ⟨rfl, N⟩
set_option maxRecDepth 65536 in
set_option maxHeartbeats 40000000 in
theorem comes_1 {Post : Tables → Env → Array Value → State → Outcome → State → Prop} (hpost : ∀ tb e args s v u, (limb_1_1.after args s (.returned v) u = true ∧ limb_1_2.after args s (.returned v) u = true ∧ True) → ReturnedEndW s (.returned v) u (Jvm.fieldLocs frame_1_writes args s ++ Jvm.arrayLocs frame_1_arrays args s ++ Jvm.staticLocs frame_1_statics s) 48 2304 → Post tb e args s (.returned v) u) :
    ArmFor flags0 classFile x code maxLocals ret World_1 tables_1 room_1 Calls_1 rest_1 Pre_1 Post := by
  intro l hfl _ _ p e ha hc hk s m args below hf hA hF happ hP
  obtain ⟨hcalls, hrest, hpre⟩ := hP
  obtain ⟨-, -, -, hnamed, -, -, -, hat⟩ := (Spec.applies_iff hf).mp happ
  obtain ⟨hg, hn⟩ := and_e (Cond.before_iff.mp (show (Jvm.Cond.and given_1 narrow_1).before args s = true from hpre))
  obtain ⟨gc, gr0⟩ := and_e hg
  obtain ⟨ga0, gr1⟩ := and_e gr0
  obtain ⟨w0, w1, rfl⟩ : ∃ w0 w1 : Value, args = #[w0, w1] := by
    have hs : args.size = 2 := by simpa [Cond.value, given_1] using gc
    obtain ⟨L⟩ := args
    match L, hs with
    | [w0, w1], _ => exact ⟨w0, w1, rfl⟩
  have hw := fun d (hd : d ∈ tables_1) => atoms_spec (ws := Jvm.Cond.code x code maxLocals ret :: tables_1) hat d (List.mem_cons_of_mem _ hd)
  obtain ⟨i0, ei0⟩ := is_v ga0
  obtain rfl : w0 = (.int i0) := Option.some.inj ei0
  obtain ⟨i1, ei1⟩ := is_v gr1
  obtain rfl : w1 = (.int i1) := Option.some.inj ei1
  obtain ⟨hsets, hown0⟩ := atoms_of _ (rest_1_c_eq ▸ (show rest_1_c.before _ s = true from hrest))
  obtain ⟨cs, ecs⟩ := is_v (Cond.before_iff.mp (hsets _ (List.mem_of_getElem? (i := 1) rfl)))
  have SC := Sta.start ecs (Or.inl (hsets _ (List.mem_of_getElem? (i := 0) rfl)))
  have hcs : ¬ cs = 0 := fun q => by
      have z := not_v (Cond.before_iff.mp (hsets _ (List.mem_of_getElem? (i := 2) rfl)))
      rw [q] at ecs
      have u := eq_i ecs (Term.int_eval (0)) rfl
      rw [u] at z; cases z
  obtain ⟨fm, efm, hfm⟩ := isR_v (Cond.before_iff.mp (hsets _ (List.mem_of_getElem? (i := 8) rfl)))
  have SM := Sta.start efm (Or.inl (hsets _ (List.mem_of_getElem? (i := 7) rfl)))
  have hEL : EW s _ own_EL := (EW.cons (own_w hw 96 rfl) own_txt_96.1 (EW.cons (own_w hw 18 rfl) own_txt_18.1 EW.nil))
  have H0 : CHv s own_EL s.vm s.heap := CHv.start hEL (fun p hp => hcalls.1 p hp) (hsets _ (List.mem_of_getElem? (i := 2) rfl)) (own_w hw 19 rfl) (own_w hw 5 rfl)
  obtain ⟨n, o, h1, h2, h3, _, L, rfl, ⟨rfl, N⟩, -, hq⟩ := rm_law l s _ hw hEL tables_1 i0 i1 cs fm s.heap s.heap.size (Nat.le_refl _) SC hcs SM hfm p e ha hc hk s m _ below hf ((Spec.applies_iff_loose hf).mp happ).1 ⟨rfl, State.Warmed39.refl s, rfl, H0⟩ trivial
  refine ⟨n, _, h1, h2, h3, hpost _ _ _ _ _ _ ⟨Cond.after_iff.mpr rfl, Cond.after_iff.mpr (eq_i res_at (Term.int_eval (1)) rfl), trivial⟩ ⟨hq.1, hq.2.1, hq.2.2.1, (hq.2.2.2.sift fun y hy => Or.inr (N y hy)).mono (by decide) (by decide)⟩⟩
theorem main_1_1 : Claimed_1_1 := comes_1 fun _ _ _ _ _ _ h hF => ⟨h.1, hF⟩
theorem main_1_2 : Claimed_1_2 := comes_1 fun _ _ _ _ _ _ h hF => ⟨h.2.1, hF⟩
end Jvm.Pilot.@@N@@
namespace Jvm.Pilot.@@N@@
open Jvm Jvm.ClassFile Sem Op Lib Jvm.Free Jvm.Stand Jvm.Pilot.@@N@@.Jvm.D
/-! MADE BY PROGRAM (witnessworld.py) out of the Statement's table words and the real class files: 27 classes; the members and pool entries that the words name. The judged class is class 1, her method 1. -/
namespace start1
open Jvm.ClassFile
def u (s : String) : CpInfo := .utf8 (stringToUtf16 s)
/-- a pool by its gaps: so many unusable entries, then the entry; so many at the end -/
def gap : Nat → List CpInfo → List CpInfo
  | 0, r => r
  | n + 1, r => .unusable :: gap n r
def poolList (es : List (Nat × CpInfo)) (last : Nat) : List CpInfo := es.foldr (fun e r => gap e.1 (e.2 :: r)) (gap last [])
def pool (es : List (Nat × CpInfo)) (last : Nat) : Array CpInfo := ⟨poolList es last⟩
def fileOf (pool : Array CpInfo) (this : Nat) (attrs : Array Attribute := #[]) (ms : Array MethodInfo := #[]) (fl : Nat := 33) (sup : Nat := 0) (ifs : Array Nat := #[]) (fds : Array FieldInfo := #[]) : ClassFile where
  minorVersion := 0
  majorVersion := 65
  constantPool := pool
  accessFlags := fl
  thisClass := this
  superClass := sup
  interfaces := ifs
  fields := fds
  methods := ms
  attributes := attrs
def plain (name : String) (sup : Option ClassId) : Class where
  name := name
  kind := .ordinary
  loader := none
  accessFlags := 33
  super := sup
  interfaces := #[]
  cf := none
  fields := #[]
  methods := #[]
  instanceTypes := #[]
  staticTypes := #[]
  resolved := #[]
  callSites := []
  init := .initialized
  statics := none
  mirror := none

def pool0 : Array CpInfo := pool [(5, u "<init>"), (0, u "()V"), (1, .class_ 10), (1, u "java/lang/Object")] 113

def k0c0 : Code := { maxStack := 0, maxLocals := 1, code := object_method_1_code, exceptionTable := #[], attributes := #[] }
def k0m0 : Method := { name := "<init>", desc := "()V", sig := { parameters := [], returnType := none }, accessFlags := 1, code := some k0c0 }
/-- java/lang/Object -/
def k0 : Class := { plain "java/lang/Object" none with
  accessFlags := 33
  interfaces := #[]
  cf := some (fileOf pool0 8 #[] #[{ accessFlags := 1, nameIndex := 5, descriptorIndex := 6, attributes := #[] }] 33 0 #[] #[])
  fields := #[]
  methods := #[k0m0]
  instanceTypes := #[]
  staticTypes := #[]
  resolved := Array.replicate 124 none
  statics := none }

def pool1 : Array CpInfo := pool [(2, .class_ 4), (1, u "java/lang/Object"), (0, u "<init>"), (0, u "()V"), (0, .methodref 8 9), (0, .class_ 10), (0, .nameAndType 11 12), (0, u "com/example/runnel/runnel/broker/PipeAfterPinLaw"), (0, u "str"), (0, u "(I)Ljava/lang/String;"), (0, .methodref 14 15), (0, .class_ 16), (0, .nameAndType 17 18), (0, u "com/example/runnel/runnel/broker/Pipe"), (0, u "after"), (0, u "(Ljava/lang/String;Ljava/lang/String;)Lcom/example/runnel/runnel/broker/Pipe;"), (0, .methodref 14 20), (0, .nameAndType 21 22), (0, u "exchange"), (0, u "()Ljava/lang/String;"), (0, .methodref 14 24), (0, .nameAndType 25 22), (0, u "queue"), (0, .methodref 27 28), (0, .class_ 29), (0, .nameAndType 30 31), (0, u "java/lang/String"), (0, u "length"), (0, u "()I"), (0, .methodref 8 33), (0, .nameAndType 34 35), (0, u "exOk"), (0, u "(Ljava/lang/String;Ljava/lang/String;Ljava/lang/String;I)Z"), (0, .methodref 8 37), (0, .nameAndType 38 35), (0, u "qOk"), (0, .methodref 27 40), (0, .nameAndType 5 41), (0, u "([C)V"), (0, .methodref 27 43), (0, .nameAndType 44 45), (0, u "charAt"), (0, u "(I)C"), (0, .methodref 8 47), (0, .nameAndType 48 49), (0, u "at"), (0, u "(Ljava/lang/String;I)I"), (0, .methodref 8 51), (0, .nameAndType 52 53), (0, u "expEx"), (0, u "(Ljava/lang/String;Ljava/lang/String;I)I"), (0, .methodref 8 55), (0, .nameAndType 56 53), (0, u "expQ"), (2, u "law"), (0, u "(II)Z")] 3

def k1m0 : Method := { name := "<init>", desc := "()V", sig := { parameters := [], returnType := none }, accessFlags := 1, code := none }
def k1c1 : Code := { maxStack := 4, maxLocals := 11, code := code, exceptionTable := #[], attributes := #[] }
def k1m1 : Method := { name := "law", desc := "(II)Z", sig := { parameters := [.int, .int], returnType := some .boolean }, accessFlags := 9, code := some k1c1 }
def k1c2 : Code := { maxStack := 6, maxLocals := 4, code := method_3_code, exceptionTable := #[], attributes := #[] }
def k1m2 : Method := { name := "str", desc := "(I)Ljava/lang/String;", sig := { parameters := [.int], returnType := some (.object "java/lang/String") }, accessFlags := 10, code := some k1c2 }
def k1c3 : Code := { maxStack := 2, maxLocals := 2, code := method_4_code, exceptionTable := #[], attributes := #[] }
def k1m3 : Method := { name := "at", desc := "(Ljava/lang/String;I)I", sig := { parameters := [(.object "java/lang/String"), .int], returnType := some .int }, accessFlags := 10, code := some k1c3 }
def k1c4 : Code := { maxStack := 3, maxLocals := 4, code := method_5_code, exceptionTable := #[], attributes := #[] }
def k1m4 : Method := { name := "expEx", desc := "(Ljava/lang/String;Ljava/lang/String;I)I", sig := { parameters := [(.object "java/lang/String"), (.object "java/lang/String"), .int], returnType := some .int }, accessFlags := 10, code := some k1c4 }
def k1c5 : Code := { maxStack := 3, maxLocals := 4, code := method_6_code, exceptionTable := #[], attributes := #[] }
def k1m5 : Method := { name := "expQ", desc := "(Ljava/lang/String;Ljava/lang/String;I)I", sig := { parameters := [(.object "java/lang/String"), (.object "java/lang/String"), .int], returnType := some .int }, accessFlags := 10, code := some k1c5 }
def k1c6 : Code := { maxStack := 4, maxLocals := 4, code := method_7_code, exceptionTable := #[], attributes := #[] }
def k1m6 : Method := { name := "exOk", desc := "(Ljava/lang/String;Ljava/lang/String;Ljava/lang/String;I)Z", sig := { parameters := [(.object "java/lang/String"), (.object "java/lang/String"), (.object "java/lang/String"), .int], returnType := some .boolean }, accessFlags := 10, code := some k1c6 }
def k1c7 : Code := { maxStack := 4, maxLocals := 4, code := method_8_code, exceptionTable := #[], attributes := #[] }
def k1m7 : Method := { name := "qOk", desc := "(Ljava/lang/String;Ljava/lang/String;Ljava/lang/String;I)Z", sig := { parameters := [(.object "java/lang/String"), (.object "java/lang/String"), (.object "java/lang/String"), .int], returnType := some .boolean }, accessFlags := 10, code := some k1c7 }
/-- com/example/runnel/runnel/broker/PipeAfterPinLaw -/
def k1 : Class := { plain "com/example/runnel/runnel/broker/PipeAfterPinLaw" (some 0) with
  accessFlags := 49
  interfaces := #[]
  cf := some (fileOf pool1 8 #[] #[{ accessFlags := 1, nameIndex := 5, descriptorIndex := 6, attributes := #[] }, { accessFlags := 9, nameIndex := 59, descriptorIndex := 60, attributes := #[] }, { accessFlags := 10, nameIndex := 11, descriptorIndex := 12, attributes := #[] }, { accessFlags := 10, nameIndex := 48, descriptorIndex := 49, attributes := #[] }, { accessFlags := 10, nameIndex := 52, descriptorIndex := 53, attributes := #[] }, { accessFlags := 10, nameIndex := 56, descriptorIndex := 53, attributes := #[] }, { accessFlags := 10, nameIndex := 34, descriptorIndex := 35, attributes := #[] }, { accessFlags := 10, nameIndex := 38, descriptorIndex := 35, attributes := #[] }] 49 2 #[] #[])
  fields := #[]
  methods := #[k1m0, k1m1, k1m2, k1m3, k1m4, k1m5, k1m6, k1m7]
  instanceTypes := #[]
  staticTypes := #[]
  resolved := Array.replicate 64 none
  statics := none }

def pool2 : Array CpInfo := pool [(1, .class_ 2), (0, u "java/io/Serializable"), (0, .class_ 4), (0, u "java/lang/Object")] 2

/-- java/io/Serializable -/
def k2 : Class := { plain "java/io/Serializable" (some 0) with
  accessFlags := 1537
  interfaces := #[]
  cf := some (fileOf pool2 1 #[] #[] 1537 3 #[] #[])
  fields := #[]
  methods := #[]
  instanceTypes := #[]
  staticTypes := #[]
  resolved := Array.replicate 7 none
  statics := none }

def pool3 : Array CpInfo := pool [(1, .class_ 2), (0, u "java/lang/Comparable"), (0, .class_ 4), (0, u "java/lang/Object")] 7

/-- java/lang/Comparable -/
def k3 : Class := { plain "java/lang/Comparable" (some 0) with
  accessFlags := 1537
  interfaces := #[]
  cf := some (fileOf pool3 1 #[] #[] 1537 3 #[] #[])
  fields := #[]
  methods := #[]
  instanceTypes := #[]
  staticTypes := #[]
  resolved := Array.replicate 12 none
  statics := none }

def pool4 : Array CpInfo := pool [(2, .class_ 4), (1, u "java/lang/CharSequence"), (42, .class_ 48), (0, u "java/lang/CharSequence$1CodePointIterator"), (10, .class_ 60), (0, u "java/lang/CharSequence$1CharIterator"), (5, .class_ 67), (0, u "java/lang/Object")] 63

/-- java/lang/CharSequence -/
def k4 : Class := { plain "java/lang/CharSequence" (some 0) with
  accessFlags := 1537
  interfaces := #[]
  cf := some (fileOf pool4 2 #[.nestMembers #[47, 59]] #[] 1537 66 #[] #[])
  fields := #[]
  methods := #[]
  instanceTypes := #[]
  staticTypes := #[]
  resolved := Array.replicate 131 none
  statics := none }

def pool5 : Array CpInfo := pool [(1, .class_ 2), (0, u "java/lang/constant/Constable"), (0, .class_ 4), (0, u "java/lang/Object")] 6

/-- java/lang/constant/Constable -/
def k5 : Class := { plain "java/lang/constant/Constable" (some 0) with
  accessFlags := 1537
  interfaces := #[]
  cf := some (fileOf pool5 1 #[] #[] 1537 3 #[] #[])
  fields := #[]
  methods := #[]
  instanceTypes := #[]
  staticTypes := #[]
  resolved := Array.replicate 11 none
  statics := none }

def pool6 : Array CpInfo := pool [(1, .class_ 2), (0, u "java/lang/constant/ConstantDesc"), (0, .class_ 4), (0, u "java/lang/Object")] 32

/-- java/lang/constant/ConstantDesc -/
def k6 : Class := { plain "java/lang/constant/ConstantDesc" (some 0) with
  accessFlags := 1537
  interfaces := #[]
  cf := some (fileOf pool6 1 #[] #[] 1537 3 #[] #[])
  fields := #[]
  methods := #[]
  instanceTypes := #[]
  staticTypes := #[]
  resolved := Array.replicate 37 none
  statics := none }

def pool7 : Array CpInfo := pool [(1, .methodref 2 3), (0, .class_ 4), (0, .nameAndType 5 6), (0, u "java/lang/Object"), (0, u "<init>"), (0, u "()V"), (0, .string 8), (0, u ""), (0, .fieldref 10 11), (0, .class_ 12), (0, .nameAndType 13 14), (0, u "java/lang/String"), (0, u "value"), (0, u "[B"), (0, .fieldref 10 16), (0, .nameAndType 17 18), (0, u "coder"), (0, u "B"), (2, u "hash"), (0, u "I"), (2, u "hashIsZero"), (0, u "Z"), (0, .methodref 10 28), (0, .nameAndType 5 29), (0, u "([CIILjava/lang/Void;)V"), (8, .fieldref 10 39), (0, .nameAndType 40 26), (0, u "COMPACT_STRINGS"), (1, .class_ 44), (1, u "java/lang/StringUTF16"), (0, u "compress"), (1, .methodref 42 48), (0, .nameAndType 49 50), (0, u "coderFromArrayLen"), (0, u "([BI)B"), (3, .methodref 55 56), (0, .class_ 57), (0, .nameAndType 58 59), (0, u "java/util/Arrays"), (0, u "copyOfRange"), (0, u "([BII)[B"), (47, .class_ 109), (1, u "java/lang/StringLatin1"), (32, u "()Z"), (34, .methodref 42 178), (0, .nameAndType 45 179), (0, u "([CII)[B"), (13, .class_ 195), (1, u "java/lang/System"), (16, .methodref 193 213), (0, .nameAndType 214 215), (0, u "arraycopy"), (0, u "(Ljava/lang/Object;ILjava/lang/Object;II)V"), (118, u "()I"), (0, .methodref 10 336), (0, .nameAndType 17 337), (0, u "()B"), (2, u "()[B"), (22, u "([BI)C"), (27, u "(II)V"), (35, u "(I)C"), (61, .methodref 10 490), (0, .nameAndType 5 491), (0, u "(Ljava/lang/AbstractStringBuilder;Ljava/lang/Void;)V"), (0, .methodref 10 493), (0, .nameAndType 494 142), (0, u "isLatin1"), (0, .methodref 107 496), (0, .nameAndType 497 363), (0, u "charAt"), (3, u "checkIndex"), (4, .nameAndType 507 334), (0, u "length"), (24, u "getBytes"), (16, .methodref 550 506), (0, .class_ 551), (0, u "java/lang/AbstractStringBuilder"), (0, .methodref 550 553), (0, .nameAndType 554 340), (0, u "getValue"), (20, .class_ 576), (0, u "java/lang/CharSequence"), (22, u "CASE_INSENSITIVE_ORDER"), (0, u "Ljava/util/Comparator;"), (220, u "([BIB)V"), (188, u "([C)V"), (36, .methodref 550 493), (5, .fieldref 1054 1055), (0, .class_ 1056), (0, .nameAndType 1057 1058), (0, u "jdk/internal/util/Preconditions"), (0, u "SIOOBE_FORMATTER"), (0, u "Ljava/util/function/BiFunction;"), (0, .methodref 1054 1060), (0, .nameAndType 501 1061), (0, u "(IILjava/util/function/BiFunction;)I"), (39, u "serialPersistentFields"), (0, u "[Ljava/io/ObjectStreamField;"), (0, .class_ 1104), (0, u "java/lang/String$CaseInsensitiveComparator"), (1, .class_ 1107), (0, u "java/io/Serializable"), (0, .class_ 1109), (0, u "java/lang/Comparable"), (0, .class_ 1111), (0, u "java/lang/constant/Constable"), (0, .class_ 1113), (0, u "java/lang/constant/ConstantDesc"), (2, u "serialVersionUID"), (0, u "J"), (3, u "REPL"), (0, u "C"), (2, u "LATIN1"), (1, u "UTF16"), (105, u "(Ljava/lang/StringBuilder;)V")] 217

def k7m0 : Method := { name := "<init>", desc := "()V", sig := { parameters := [], returnType := none }, accessFlags := 1, code := none }
def k7c1 : Code := { maxStack := 5, maxLocals := 2, code := jdk_42_method_3_code, exceptionTable := #[], attributes := #[] }
def k7m1 : Method := { name := "<init>", desc := "([C)V", sig := { parameters := [(.array .char)], returnType := none }, accessFlags := 1, code := some k7c1 }
def k7c2 : Code := { maxStack := 3, maxLocals := 2, code := jdk_42_method_53_code, exceptionTable := #[], attributes := #[] }
def k7m2 : Method := { name := "<init>", desc := "(Ljava/lang/StringBuilder;)V", sig := { parameters := [(.object "java/lang/StringBuilder")], returnType := none }, accessFlags := 1, code := some k7c2 }
def k7c3 : Code := { maxStack := 2, maxLocals := 1, code := jdk_42_method_54_code, exceptionTable := #[], attributes := #[] }
def k7m3 : Method := { name := "length", desc := "()I", sig := { parameters := [], returnType := some .int }, accessFlags := 1, code := some k7c3 }
def k7c4 : Code := { maxStack := 2, maxLocals := 2, code := jdk_42_method_56_code, exceptionTable := #[], attributes := #[] }
def k7m4 : Method := { name := "charAt", desc := "(I)C", sig := { parameters := [.int], returnType := some .char }, accessFlags := 1, code := some k7c4 }
def k7c5 : Code := { maxStack := 5, maxLocals := 4, code := jdk_42_method_147_code, exceptionTable := #[], attributes := #[] }
def k7m5 : Method := { name := "getBytes", desc := "([BIB)V", sig := { parameters := [(.array .byte), .int, .byte], returnType := none }, accessFlags := 0, code := some k7c5 }
def k7c6 : Code := { maxStack := 4, maxLocals := 6, code := jdk_42_method_149_code, exceptionTable := #[], attributes := #[] }
def k7m6 : Method := { name := "<init>", desc := "([CIILjava/lang/Void;)V", sig := { parameters := [(.array .char), .int, .int, (.object "java/lang/Void")], returnType := none }, accessFlags := 2, code := some k7c6 }
def k7c7 : Code := { maxStack := 5, maxLocals := 5, code := jdk_42_method_150_code, exceptionTable := #[], attributes := #[] }
def k7m7 : Method := { name := "<init>", desc := "(Ljava/lang/AbstractStringBuilder;Ljava/lang/Void;)V", sig := { parameters := [(.object "java/lang/AbstractStringBuilder"), (.object "java/lang/Void")], returnType := none }, accessFlags := 0, code := some k7c7 }
def k7c8 : Code := { maxStack := 1, maxLocals := 1, code := jdk_42_method_152_code, exceptionTable := #[], attributes := #[] }
def k7m8 : Method := { name := "coder", desc := "()B", sig := { parameters := [], returnType := some .byte }, accessFlags := 0, code := some k7c8 }
def k7c9 : Code := { maxStack := 1, maxLocals := 1, code := jdk_42_method_154_code, exceptionTable := #[], attributes := #[] }
def k7m9 : Method := { name := "isLatin1", desc := "()Z", sig := { parameters := [], returnType := some .boolean }, accessFlags := 0, code := some k7c9 }
def k7c10 : Code := { maxStack := 3, maxLocals := 2, code := jdk_42_method_155_code, exceptionTable := #[], attributes := #[] }
def k7m10 : Method := { name := "checkIndex", desc := "(II)V", sig := { parameters := [.int, .int], returnType := none }, accessFlags := 8, code := some k7c10 }
/-- java/lang/String -/
def k7 : Class := { plain "java/lang/String" (some 0) with
  accessFlags := 49
  interfaces := #[2, 3, 4, 5, 6]
  cf := some (fileOf pool7 10 #[.nestMembers #[1103]] #[{ accessFlags := 1, nameIndex := 5, descriptorIndex := 6, attributes := #[] }, { accessFlags := 1, nameIndex := 5, descriptorIndex := 1010, attributes := #[] }, { accessFlags := 1, nameIndex := 5, descriptorIndex := 1233, attributes := #[] }, { accessFlags := 1, nameIndex := 507, descriptorIndex := 334, attributes := #[] }, { accessFlags := 1, nameIndex := 497, descriptorIndex := 427, attributes := #[] }, { accessFlags := 0, nameIndex := 532, descriptorIndex := 821, attributes := #[] }, { accessFlags := 2, nameIndex := 5, descriptorIndex := 29, attributes := #[] }, { accessFlags := 0, nameIndex := 5, descriptorIndex := 491, attributes := #[] }, { accessFlags := 0, nameIndex := 17, descriptorIndex := 337, attributes := #[] }, { accessFlags := 0, nameIndex := 494, descriptorIndex := 142, attributes := #[] }, { accessFlags := 8, nameIndex := 501, descriptorIndex := 391, attributes := #[] }] 49 2 #[1106, 1108, 575, 1110, 1112] #[{ accessFlags := 18, nameIndex := 13, descriptorIndex := 14, attributes := #[] }, { accessFlags := 18, nameIndex := 17, descriptorIndex := 18, attributes := #[] }, { accessFlags := 2, nameIndex := 21, descriptorIndex := 22, attributes := #[] }, { accessFlags := 2, nameIndex := 25, descriptorIndex := 26, attributes := #[] }, { accessFlags := 26, nameIndex := 1116, descriptorIndex := 1117, attributes := #[] }, { accessFlags := 24, nameIndex := 40, descriptorIndex := 26, attributes := #[] }, { accessFlags := 26, nameIndex := 1101, descriptorIndex := 1102, attributes := #[] }, { accessFlags := 26, nameIndex := 1121, descriptorIndex := 1122, attributes := #[] }, { accessFlags := 25, nameIndex := 599, descriptorIndex := 600, attributes := #[] }, { accessFlags := 24, nameIndex := 1125, descriptorIndex := 18, attributes := #[] }, { accessFlags := 24, nameIndex := 1127, descriptorIndex := 18, attributes := #[] }])
  fields := #[{ name := "value", type := (.array .byte), accessFlags := 18, slot := 0, constantValue := 0 }, { name := "coder", type := .byte, accessFlags := 18, slot := 1, constantValue := 0 }, { name := "hash", type := .int, accessFlags := 2, slot := 2, constantValue := 0 }, { name := "hashIsZero", type := .boolean, accessFlags := 2, slot := 3, constantValue := 0 }, { name := "serialVersionUID", type := .long, accessFlags := 26, slot := 0, constantValue := 0 }, { name := "COMPACT_STRINGS", type := .boolean, accessFlags := 24, slot := 1, constantValue := 0 }, { name := "serialPersistentFields", type := (.array (.object "java/io/ObjectStreamField")), accessFlags := 26, slot := 2, constantValue := 0 }, { name := "REPL", type := .char, accessFlags := 26, slot := 3, constantValue := 0 }, { name := "CASE_INSENSITIVE_ORDER", type := (.object "java/util/Comparator"), accessFlags := 25, slot := 4, constantValue := 0 }, { name := "LATIN1", type := .byte, accessFlags := 24, slot := 5, constantValue := 0 }, { name := "UTF16", type := .byte, accessFlags := 24, slot := 6, constantValue := 0 }]
  methods := #[k7m0, k7m1, k7m2, k7m3, k7m4, k7m5, k7m6, k7m7, k7m8, k7m9, k7m10]
  instanceTypes := #[(.array .byte), .byte, .int, .boolean]
  staticTypes := #[.long, .boolean, (.array (.object "java/io/ObjectStreamField")), .char, (.object "java/util/Comparator"), .byte, .byte]
  resolved := Array.replicate 1451 none
  statics := some 0 }

def pool8 : Array CpInfo := pool [(1, .methodref 2 3), (0, .class_ 4), (0, .nameAndType 5 6), (0, u "java/lang/Object"), (0, u "<init>"), (0, u "()V"), (0, .class_ 8), (0, u "java/lang/Record")] 13

def k8c0 : Code := { maxStack := 1, maxLocals := 1, code := jdk_30_method_1_code, exceptionTable := #[], attributes := #[] }
def k8m0 : Method := { name := "<init>", desc := "()V", sig := { parameters := [], returnType := none }, accessFlags := 4, code := some k8c0 }
/-- java/lang/Record -/
def k8 : Class := { plain "java/lang/Record" (some 0) with
  accessFlags := 1057
  interfaces := #[]
  cf := some (fileOf pool8 7 #[] #[{ accessFlags := 4, nameIndex := 5, descriptorIndex := 6, attributes := #[] }] 1057 2 #[] #[])
  fields := #[]
  methods := #[k8m0]
  instanceTypes := #[]
  staticTypes := #[]
  resolved := Array.replicate 22 none
  statics := none }

def pool9 : Array CpInfo := pool [(1, .methodref 2 3), (0, .class_ 4), (0, .nameAndType 5 6), (0, u "java/lang/Record"), (0, u "<init>"), (0, u "()V"), (0, .fieldref 8 9), (0, .class_ 10), (0, .nameAndType 11 12), (0, u "com/example/runnel/runnel/broker/Pipe"), (0, u "exchange"), (0, u "Ljava/lang/String;"), (0, .fieldref 8 14), (0, .nameAndType 15 12), (0, u "queue"), (0, .class_ 17), (0, u "java/lang/StringBuilder"), (0, .methodref 16 3), (0, .methodref 16 20), (0, .nameAndType 21 22), (0, u "append"), (0, u "(Ljava/lang/String;)Ljava/lang/StringBuilder;"), (0, .string 24), (0, u "."), (0, .methodref 16 26), (0, .nameAndType 27 28), (0, u "toString"), (0, u "()Ljava/lang/String;"), (0, .methodref 8 30), (0, .nameAndType 5 31), (0, u "(Ljava/lang/String;Ljava/lang/String;)V"), (14, u "after"), (0, u "(Ljava/lang/String;Ljava/lang/String;)Lcom/example/runnel/runnel/broker/Pipe;")] 23

def k9c0 : Code := { maxStack := 2, maxLocals := 3, code := prog_24_method_1_code, exceptionTable := #[], attributes := #[] }
def k9m0 : Method := { name := "<init>", desc := "(Ljava/lang/String;Ljava/lang/String;)V", sig := { parameters := [(.object "java/lang/String"), (.object "java/lang/String")], returnType := none }, accessFlags := 1, code := some k9c0 }
def k9c1 : Code := { maxStack := 5, maxLocals := 3, code := prog_24_method_2_code, exceptionTable := #[], attributes := #[] }
def k9m1 : Method := { name := "after", desc := "(Ljava/lang/String;Ljava/lang/String;)Lcom/example/runnel/runnel/broker/Pipe;", sig := { parameters := [(.object "java/lang/String"), (.object "java/lang/String")], returnType := some (.object "com/example/runnel/runnel/broker/Pipe") }, accessFlags := 9, code := some k9c1 }
def k9c2 : Code := { maxStack := 1, maxLocals := 1, code := prog_24_method_6_code, exceptionTable := #[], attributes := #[] }
def k9m2 : Method := { name := "exchange", desc := "()Ljava/lang/String;", sig := { parameters := [], returnType := some (.object "java/lang/String") }, accessFlags := 1, code := some k9c2 }
def k9c3 : Code := { maxStack := 1, maxLocals := 1, code := prog_24_method_7_code, exceptionTable := #[], attributes := #[] }
def k9m3 : Method := { name := "queue", desc := "()Ljava/lang/String;", sig := { parameters := [], returnType := some (.object "java/lang/String") }, accessFlags := 1, code := some k9c3 }
/-- com/example/runnel/runnel/broker/Pipe -/
def k9 : Class := { plain "com/example/runnel/runnel/broker/Pipe" (some 8) with
  accessFlags := 49
  interfaces := #[]
  cf := some (fileOf pool9 8 #[] #[{ accessFlags := 1, nameIndex := 5, descriptorIndex := 31, attributes := #[] }, { accessFlags := 9, nameIndex := 46, descriptorIndex := 47, attributes := #[] }, { accessFlags := 1, nameIndex := 11, descriptorIndex := 28, attributes := #[] }, { accessFlags := 1, nameIndex := 15, descriptorIndex := 28, attributes := #[] }] 49 2 #[] #[{ accessFlags := 18, nameIndex := 11, descriptorIndex := 12, attributes := #[] }, { accessFlags := 18, nameIndex := 15, descriptorIndex := 12, attributes := #[] }])
  fields := #[{ name := "exchange", type := (.object "java/lang/String"), accessFlags := 18, slot := 0, constantValue := 0 }, { name := "queue", type := (.object "java/lang/String"), accessFlags := 18, slot := 1, constantValue := 0 }]
  methods := #[k9m0, k9m1, k9m2, k9m3]
  instanceTypes := #[(.object "java/lang/String"), (.object "java/lang/String")]
  staticTypes := #[]
  resolved := Array.replicate 71 none
  statics := none }

def pool10 : Array CpInfo := pool [(1, .class_ 2), (0, u "java/lang/Appendable"), (0, .class_ 4), (0, u "java/lang/Object")] 9

/-- java/lang/Appendable -/
def k10 : Class := { plain "java/lang/Appendable" (some 0) with
  accessFlags := 1537
  interfaces := #[]
  cf := some (fileOf pool10 1 #[] #[] 1537 3 #[] #[])
  fields := #[]
  methods := #[]
  instanceTypes := #[]
  staticTypes := #[]
  resolved := Array.replicate 14 none
  statics := none }

def pool11 : Array CpInfo := pool [(1, .class_ 2), (0, u "java/lang/String"), (0, .methodref 4 5), (0, .class_ 6), (0, .nameAndType 7 8), (0, u "java/lang/Object"), (0, u "<init>"), (0, u "()V"), (1, .class_ 12), (1, u "java/lang/AbstractStringBuilder"), (0, u "EMPTYVALUE"), (0, u "[B"), (0, .fieldref 10 16), (0, .nameAndType 17 14), (0, u "value"), (0, .fieldref 1 19), (0, .nameAndType 20 21), (0, u "COMPACT_STRINGS"), (0, u "Z"), (0, .fieldref 10 23), (0, .nameAndType 24 25), (0, u "coder"), (0, u "B"), (6, .methodref 1 33), (0, .nameAndType 34 35), (0, u "length"), (0, u "()I"), (4, .methodref 1 41), (0, .nameAndType 24 42), (0, u "()B"), (2, u "append"), (0, u "(Ljava/lang/String;)Ljava/lang/AbstractStringBuilder;"), (1, .class_ 49), (0, u "java/lang/CharSequence"), (19, u "(Ljava/lang/String;)V"), (5, u "maybeLatin1"), (3, .fieldref 10 80), (0, .nameAndType 81 82), (0, u "count"), (0, u "I"), (2, u "isLatin1"), (0, u "()Z"), (13, .methodref 10 101), (0, .nameAndType 102 103), (0, u "ensureCapacityInternal"), (0, u "(I)V"), (104, .methodref 10 209), (0, .nameAndType 210 211), (0, u "putStringAt"), (0, u "(ILjava/lang/String;)V"), (5, u "inflateIfNeededFor"), (2, .nameAndType 221 222), (0, u "getBytes"), (0, u "([BIB)V"), (174, .methodref 10 398), (0, .nameAndType 217 69), (0, .methodref 1 220), (3, u "()[B"), (40, .class_ 445), (0, u "java/lang/Appendable"), (106, u "getValue")] 56

def k11m0 : Method := { name := "<init>", desc := "()V", sig := { parameters := [], returnType := none }, accessFlags := 0, code := none }
def k11c1 : Code := { maxStack := 2, maxLocals := 2, code := jdk_68_method_2_code, exceptionTable := #[], attributes := #[] }
def k11m1 : Method := { name := "<init>", desc := "(I)V", sig := { parameters := [.int], returnType := none }, accessFlags := 0, code := some k11c1 }
def k11c2 : Code := { maxStack := 1, maxLocals := 1, code := jdk_68_method_6_code, exceptionTable := #[], attributes := #[] }
def k11m2 : Method := { name := "length", desc := "()I", sig := { parameters := [], returnType := some .int }, accessFlags := 1, code := some k11c2 }
def k11c3 : Code := { maxStack := 4, maxLocals := 3, code := jdk_68_method_9_code, exceptionTable := #[], attributes := #[] }
def k11m3 : Method := { name := "ensureCapacityInternal", desc := "(I)V", sig := { parameters := [.int], returnType := none }, accessFlags := 2, code := some k11c3 }
def k11c4 : Code := { maxStack := 3, maxLocals := 3, code := jdk_68_method_22_code, exceptionTable := #[], attributes := #[] }
def k11m4 : Method := { name := "append", desc := "(Ljava/lang/String;)Ljava/lang/AbstractStringBuilder;", sig := { parameters := [(.object "java/lang/String")], returnType := some (.object "java/lang/AbstractStringBuilder") }, accessFlags := 1, code := some k11c4 }
def k11c5 : Code := { maxStack := 1, maxLocals := 1, code := jdk_68_method_64_code, exceptionTable := #[], attributes := #[] }
def k11m5 : Method := { name := "getValue", desc := "()[B", sig := { parameters := [], returnType := some (.array .byte) }, accessFlags := 16, code := some k11c5 }
def k11c6 : Code := { maxStack := 1, maxLocals := 1, code := jdk_68_method_68_code, exceptionTable := #[], attributes := #[] }
def k11m6 : Method := { name := "isLatin1", desc := "()Z", sig := { parameters := [], returnType := some .boolean }, accessFlags := 16, code := some k11c6 }
def k11c7 : Code := { maxStack := 2, maxLocals := 2, code := jdk_68_method_71_code, exceptionTable := #[], attributes := #[] }
def k11m7 : Method := { name := "inflateIfNeededFor", desc := "(Ljava/lang/String;)V", sig := { parameters := [(.object "java/lang/String")], returnType := none }, accessFlags := 2, code := some k11c7 }
def k11c8 : Code := { maxStack := 4, maxLocals := 3, code := jdk_68_method_73_code, exceptionTable := #[], attributes := #[] }
def k11m8 : Method := { name := "putStringAt", desc := "(ILjava/lang/String;)V", sig := { parameters := [.int, (.object "java/lang/String")], returnType := none }, accessFlags := 2, code := some k11c8 }
/-- java/lang/AbstractStringBuilder -/
def k11 : Class := { plain "java/lang/AbstractStringBuilder" (some 0) with
  accessFlags := 1056
  interfaces := #[10, 4]
  cf := some (fileOf pool11 10 #[] #[{ accessFlags := 0, nameIndex := 7, descriptorIndex := 8, attributes := #[] }, { accessFlags := 0, nameIndex := 7, descriptorIndex := 103, attributes := #[] }, { accessFlags := 1, nameIndex := 34, descriptorIndex := 35, attributes := #[] }, { accessFlags := 2, nameIndex := 102, descriptorIndex := 103, attributes := #[] }, { accessFlags := 1, nameIndex := 45, descriptorIndex := 46, attributes := #[] }, { accessFlags := 16, nameIndex := 552, descriptorIndex := 403, attributes := #[] }, { accessFlags := 16, nameIndex := 85, descriptorIndex := 86, attributes := #[] }, { accessFlags := 2, nameIndex := 217, descriptorIndex := 69, attributes := #[] }, { accessFlags := 2, nameIndex := 210, descriptorIndex := 211, attributes := #[] }] 1056 4 #[444, 48] #[{ accessFlags := 0, nameIndex := 17, descriptorIndex := 14, attributes := #[] }, { accessFlags := 0, nameIndex := 24, descriptorIndex := 25, attributes := #[] }, { accessFlags := 0, nameIndex := 75, descriptorIndex := 21, attributes := #[] }, { accessFlags := 0, nameIndex := 81, descriptorIndex := 82, attributes := #[] }, { accessFlags := 26, nameIndex := 13, descriptorIndex := 14, attributes := #[] }])
  fields := #[{ name := "value", type := (.array .byte), accessFlags := 0, slot := 0, constantValue := 0 }, { name := "coder", type := .byte, accessFlags := 0, slot := 1, constantValue := 0 }, { name := "maybeLatin1", type := .boolean, accessFlags := 0, slot := 2, constantValue := 0 }, { name := "count", type := .int, accessFlags := 0, slot := 3, constantValue := 0 }, { name := "EMPTYVALUE", type := (.array .byte), accessFlags := 26, slot := 0, constantValue := 0 }]
  methods := #[k11m0, k11m1, k11m2, k11m3, k11m4, k11m5, k11m6, k11m7, k11m8]
  instanceTypes := #[(.array .byte), .byte, .boolean, .int]
  staticTypes := #[(.array .byte)]
  resolved := Array.replicate 609 none
  statics := none }

def pool12 : Array CpInfo := pool [(1, .methodref 2 3), (0, .class_ 4), (0, .nameAndType 5 6), (0, u "java/lang/AbstractStringBuilder"), (0, u "<init>"), (0, u "(I)V"), (11, .class_ 20), (1, u "java/lang/String"), (3, .class_ 26), (1, u "java/lang/StringBuilder"), (0, u "append"), (0, u "(Ljava/lang/String;)Ljava/lang/StringBuilder;"), (0, .methodref 2 30), (0, .nameAndType 27 31), (0, u "(Ljava/lang/String;)Ljava/lang/AbstractStringBuilder;"), (105, .methodref 18 138), (0, .nameAndType 5 139), (0, u "(Ljava/lang/StringBuilder;)V"), (5, u "()V"), (10, u "()I"), (186, .methodref 2 344), (0, .nameAndType 345 156), (0, u "length"), (3, .class_ 350), (0, u "java/lang/Appendable"), (0, .class_ 352), (0, u "java/io/Serializable"), (0, .class_ 354), (0, u "java/lang/Comparable"), (0, .class_ 356), (0, u "java/lang/CharSequence"), (0, u "serialVersionUID"), (0, u "J"), (40, u "toString"), (0, u "()Ljava/lang/String;")] 21

def k12c0 : Code := { maxStack := 2, maxLocals := 1, code := jdk_67_method_1_code, exceptionTable := #[], attributes := #[] }
def k12m0 : Method := { name := "<init>", desc := "()V", sig := { parameters := [], returnType := none }, accessFlags := 1, code := some k12c0 }
def k12c1 : Code := { maxStack := 2, maxLocals := 2, code := jdk_67_method_7_code, exceptionTable := #[], attributes := #[] }
def k12m1 : Method := { name := "append", desc := "(Ljava/lang/String;)Ljava/lang/StringBuilder;", sig := { parameters := [(.object "java/lang/String")], returnType := some (.object "java/lang/StringBuilder") }, accessFlags := 1, code := some k12c1 }
def k12c2 : Code := { maxStack := 3, maxLocals := 1, code := jdk_67_method_42_code, exceptionTable := #[], attributes := #[] }
def k12m2 : Method := { name := "toString", desc := "()Ljava/lang/String;", sig := { parameters := [], returnType := some (.object "java/lang/String") }, accessFlags := 1, code := some k12c2 }
def k12c3 : Code := { maxStack := 1, maxLocals := 1, code := jdk_67_method_93_code, exceptionTable := #[], attributes := #[] }
def k12m3 : Method := { name := "length", desc := "()I", sig := { parameters := [], returnType := some .int }, accessFlags := 4161, code := some k12c3 }
/-- java/lang/StringBuilder -/
def k12 : Class := { plain "java/lang/StringBuilder" (some 11) with
  accessFlags := 49
  interfaces := #[10, 2, 3, 4]
  cf := some (fileOf pool12 24 #[] #[{ accessFlags := 1, nameIndex := 5, descriptorIndex := 145, attributes := #[] }, { accessFlags := 1, nameIndex := 27, descriptorIndex := 28, attributes := #[] }, { accessFlags := 1, nameIndex := 399, descriptorIndex := 400, attributes := #[] }, { accessFlags := 4161, nameIndex := 345, descriptorIndex := 156, attributes := #[] }] 49 2 #[349, 351, 353, 355] #[{ accessFlags := 24, nameIndex := 357, descriptorIndex := 358, attributes := #[] }])
  fields := #[{ name := "serialVersionUID", type := .long, accessFlags := 24, slot := 0, constantValue := 0 }]
  methods := #[k12m0, k12m1, k12m2, k12m3]
  instanceTypes := #[(.array .byte), .byte, .boolean, .int]
  staticTypes := #[.long]
  resolved := Array.replicate 422 none
  statics := none }

def pool13 : Array CpInfo := pool [(2, .class_ 4), (1, u "java/lang/Object"), (0, u "<init>"), (0, u "()V"), (1, .class_ 10), (1, u "java/lang/System"), (0, u "allowSecurityManager"), (0, u "I"), (16, u "cons"), (0, u "Ljava/io/Console;"), (77, .class_ 110), (1, u "java/lang/System$CallersHolder"), (43, u "initialErrStream"), (0, u "Ljava/io/PrintStream;"), (19, u "security"), (0, u "Ljava/lang/SecurityManager;"), (31, .class_ 209), (0, u "java/lang/System$1"), (7, u "props"), (0, u "Ljava/util/Properties;"), (2, u "lineSeparator"), (0, u "Ljava/lang/String;"), (96, .class_ 321), (1, u "java/lang/System$LoggerFinder"), (5, .class_ 328), (0, u "java/lang/System$Logger"), (67, u "err"), (2, u "out"), (91, u "notSupportedJnuEncoding"), (15, u "in"), (17, u "initialIn"), (0, u "Ljava/io/InputStream;"), (35, u "bootLayer"), (0, u "Ljava/lang/ModuleLayer;"), (99, .class_ 664), (0, u "java/lang/System$2"), (9, u "NEVER"), (2, u "MAYBE"), (49, u "arraycopy"), (0, u "(Ljava/lang/Object;ILjava/lang/Object;II)V"), (72, .class_ 802), (0, u "java/lang/System$Logger$Level")] 31

def k13m0 : Method := { name := "<init>", desc := "()V", sig := { parameters := [], returnType := none }, accessFlags := 2, code := none }
def k13m1 : Method := { name := "arraycopy", desc := "(Ljava/lang/Object;ILjava/lang/Object;II)V", sig := { parameters := [(.object "java/lang/Object"), .int, (.object "java/lang/Object"), .int, .int], returnType := none }, accessFlags := 265, code := none }
/-- java/lang/System -/
def k13 : Class := { plain "java/lang/System" (some 0) with
  accessFlags := 49
  interfaces := #[]
  cf := some (fileOf pool13 8 #[.nestMembers #[319, 327, 801, 108, 663, 208]] #[{ accessFlags := 2, nameIndex := 5, descriptorIndex := 6, attributes := #[] }, { accessFlags := 265, nameIndex := 727, descriptorIndex := 728, attributes := #[] }] 49 2 #[] #[{ accessFlags := 25, nameIndex := 507, descriptorIndex := 526, attributes := #[] }, { accessFlags := 25, nameIndex := 399, descriptorIndex := 155, attributes := #[] }, { accessFlags := 25, nameIndex := 396, descriptorIndex := 155, attributes := #[] }, { accessFlags := 10, nameIndex := 525, descriptorIndex := 526, attributes := #[] }, { accessFlags := 26, nameIndex := 674, descriptorIndex := 12, attributes := #[] }, { accessFlags := 26, nameIndex := 677, descriptorIndex := 12, attributes := #[] }, { accessFlags := 10, nameIndex := 11, descriptorIndex := 12, attributes := #[] }, { accessFlags := 74, nameIndex := 175, descriptorIndex := 176, attributes := #[] }, { accessFlags := 10, nameIndex := 491, descriptorIndex := 222, attributes := #[] }, { accessFlags := 74, nameIndex := 29, descriptorIndex := 30, attributes := #[] }, { accessFlags := 74, nameIndex := 154, descriptorIndex := 155, attributes := #[] }, { accessFlags := 10, nameIndex := 217, descriptorIndex := 218, attributes := #[] }, { accessFlags := 10, nameIndex := 221, descriptorIndex := 222, attributes := #[] }, { accessFlags := 8, nameIndex := 562, descriptorIndex := 563, attributes := #[] }])
  fields := #[{ name := "in", type := (.object "java/io/InputStream"), accessFlags := 25, slot := 0, constantValue := 0 }, { name := "out", type := (.object "java/io/PrintStream"), accessFlags := 25, slot := 1, constantValue := 0 }, { name := "err", type := (.object "java/io/PrintStream"), accessFlags := 25, slot := 2, constantValue := 0 }, { name := "initialIn", type := (.object "java/io/InputStream"), accessFlags := 10, slot := 3, constantValue := 0 }, { name := "NEVER", type := .int, accessFlags := 26, slot := 4, constantValue := 0 }, { name := "MAYBE", type := .int, accessFlags := 26, slot := 5, constantValue := 0 }, { name := "allowSecurityManager", type := .int, accessFlags := 10, slot := 6, constantValue := 0 }, { name := "security", type := (.object "java/lang/SecurityManager"), accessFlags := 74, slot := 7, constantValue := 0 }, { name := "notSupportedJnuEncoding", type := (.object "java/lang/String"), accessFlags := 10, slot := 8, constantValue := 0 }, { name := "cons", type := (.object "java/io/Console"), accessFlags := 74, slot := 9, constantValue := 0 }, { name := "initialErrStream", type := (.object "java/io/PrintStream"), accessFlags := 74, slot := 10, constantValue := 0 }, { name := "props", type := (.object "java/util/Properties"), accessFlags := 10, slot := 11, constantValue := 0 }, { name := "lineSeparator", type := (.object "java/lang/String"), accessFlags := 10, slot := 12, constantValue := 0 }, { name := "bootLayer", type := (.object "java/lang/ModuleLayer"), accessFlags := 8, slot := 13, constantValue := 0 }]
  methods := #[k13m0, k13m1]
  instanceTypes := #[]
  staticTypes := #[(.object "java/io/InputStream"), (.object "java/io/PrintStream"), (.object "java/io/PrintStream"), (.object "java/io/InputStream"), .int, .int, .int, (.object "java/lang/SecurityManager"), (.object "java/lang/String"), (.object "java/io/Console"), (.object "java/io/PrintStream"), (.object "java/util/Properties"), (.object "java/lang/String"), (.object "java/lang/ModuleLayer")]
  resolved := Array.replicate 834 none
  statics := none }

def pool14 : Array CpInfo := pool [(2, .class_ 4), (1, u "java/lang/Object"), (0, u "<init>"), (0, u "()V"), (7, .class_ 16), (1, u "java/util/Arrays"), (57, .class_ 76), (1, u "java/util/Arrays$NaturalOrder"), (36, .class_ 115), (1, u "java/util/Arrays$LegacyMergeSort"), (1, u "Z"), (21, u "copyOfRange"), (10, .methodref 151 152), (0, .class_ 153), (0, .nameAndType 154 155), (0, u "java/lang/System"), (0, u "arraycopy"), (0, u "(Ljava/lang/Object;ILjava/lang/Object;II)V"), (148, .methodref 305 306), (0, .class_ 307), (0, .nameAndType 308 309), (0, u "java/lang/Math"), (0, u "min"), (0, u "(II)I"), (29, .methodref 14 340), (0, .nameAndType 341 342), (0, u "copyOfRangeByte"), (0, u "([BII)[B"), (0, .methodref 14 344), (0, .nameAndType 345 346), (0, u "checkLength"), (0, u "(II)V"), (28, .class_ 376), (0, u "java/util/Arrays$ArrayList"), (68, u "$assertionsDisabled"), (269, u "MIN_ARRAY_SORT_GRAN"), (0, u "I"), (2, u "INSERTIONSORT_THRESHOLD"), (255, .class_ 976), (0, u "java/util/Arrays$ArrayItr")] 52

def k14m0 : Method := { name := "<init>", desc := "()V", sig := { parameters := [], returnType := none }, accessFlags := 2, code := none }
def k14c1 : Code := { maxStack := 4, maxLocals := 2, code := jdk_65_method_131_code, exceptionTable := #[], attributes := #[] }
def k14m1 : Method := { name := "checkLength", desc := "(II)V", sig := { parameters := [.int, .int], returnType := none }, accessFlags := 10, code := some k14c1 }
def k14c2 : Code := { maxStack := 3, maxLocals := 3, code := jdk_65_method_132_code, exceptionTable := #[], attributes := #[] }
def k14m2 : Method := { name := "copyOfRange", desc := "([BII)[B", sig := { parameters := [(.array .byte), .int, .int], returnType := some (.array .byte) }, accessFlags := 9, code := some k14c2 }
def k14c3 : Code := { maxStack := 6, maxLocals := 5, code := jdk_65_method_133_code, exceptionTable := #[], attributes := #[] }
def k14m3 : Method := { name := "copyOfRangeByte", desc := "([BII)[B", sig := { parameters := [(.array .byte), .int, .int], returnType := some (.array .byte) }, accessFlags := 10, code := some k14c3 }
/-- java/util/Arrays -/
def k14 : Class := { plain "java/util/Arrays" (some 0) with
  accessFlags := 49
  interfaces := #[]
  cf := some (fileOf pool14 14 #[.nestMembers #[975, 375, 113, 74]] #[{ accessFlags := 2, nameIndex := 5, descriptorIndex := 6, attributes := #[] }, { accessFlags := 10, nameIndex := 345, descriptorIndex := 346, attributes := #[] }, { accessFlags := 9, nameIndex := 139, descriptorIndex := 342, attributes := #[] }, { accessFlags := 10, nameIndex := 341, descriptorIndex := 342, attributes := #[] }] 49 2 #[] #[{ accessFlags := 26, nameIndex := 715, descriptorIndex := 716, attributes := #[] }, { accessFlags := 26, nameIndex := 719, descriptorIndex := 716, attributes := #[] }, { accessFlags := 4120, nameIndex := 445, descriptorIndex := 117, attributes := #[] }])
  fields := #[{ name := "MIN_ARRAY_SORT_GRAN", type := .int, accessFlags := 26, slot := 0, constantValue := 0 }, { name := "INSERTIONSORT_THRESHOLD", type := .int, accessFlags := 26, slot := 1, constantValue := 0 }, { name := "$assertionsDisabled", type := .boolean, accessFlags := 4120, slot := 2, constantValue := 0 }]
  methods := #[k14m0, k14m1, k14m2, k14m3]
  instanceTypes := #[]
  staticTypes := #[.int, .int, .boolean]
  resolved := Array.replicate 1029 none
  statics := none }

def pool15 : Array CpInfo := pool [(1, .class_ 2), (0, u "java/lang/Math"), (1, .class_ 6), (1, u "java/lang/Object"), (0, u "<init>"), (0, u "()V"), (89, .class_ 100), (1, u "java/lang/Math$RandomNumberGeneratorHolder"), (71, u "negativeZeroFloatBits"), (0, u "J"), (2, u "negativeZeroDoubleBits"), (24, u "min"), (43, u "$assertionsDisabled"), (0, u "Z"), (88, u "(II)I"), (2, u "twoToTheDoubleScaleDown"), (0, u "D"), (4, u "twoToTheDoubleScaleUp"), (9, u "E"), (3, u "PI"), (2, u "TAU"), (2, u "DEGREES_TO_RADIANS"), (0, u "RADIANS_TO_DEGREES")] 94

def k15m0 : Method := { name := "<init>", desc := "()V", sig := { parameters := [], returnType := none }, accessFlags := 2, code := none }
def k15c1 : Code := { maxStack := 2, maxLocals := 2, code := jdk_29_method_69_code, exceptionTable := #[], attributes := #[] }
def k15m1 : Method := { name := "min", desc := "(II)I", sig := { parameters := [.int, .int], returnType := some .int }, accessFlags := 9, code := some k15c1 }
/-- java/lang/Math -/
def k15 : Class := { plain "java/lang/Math" (some 0) with
  accessFlags := 49
  interfaces := #[]
  cf := some (fileOf pool15 1 #[.nestMembers #[98]] #[{ accessFlags := 2, nameIndex := 7, descriptorIndex := 8, attributes := #[] }, { accessFlags := 9, nameIndex := 201, descriptorIndex := 335, attributes := #[] }] 49 4 #[] #[{ accessFlags := 25, nameIndex := 354, descriptorIndex := 339, attributes := #[] }, { accessFlags := 25, nameIndex := 358, descriptorIndex := 339, attributes := #[] }, { accessFlags := 25, nameIndex := 361, descriptorIndex := 339, attributes := #[] }, { accessFlags := 26, nameIndex := 364, descriptorIndex := 339, attributes := #[] }, { accessFlags := 26, nameIndex := 365, descriptorIndex := 339, attributes := #[] }, { accessFlags := 26, nameIndex := 172, descriptorIndex := 173, attributes := #[] }, { accessFlags := 26, nameIndex := 176, descriptorIndex := 173, attributes := #[] }, { accessFlags := 8, nameIndex := 344, descriptorIndex := 339, attributes := #[] }, { accessFlags := 8, nameIndex := 338, descriptorIndex := 339, attributes := #[] }, { accessFlags := 4120, nameIndex := 245, descriptorIndex := 246, attributes := #[] }])
  fields := #[{ name := "E", type := .double, accessFlags := 25, slot := 0, constantValue := 0 }, { name := "PI", type := .double, accessFlags := 25, slot := 1, constantValue := 0 }, { name := "TAU", type := .double, accessFlags := 25, slot := 2, constantValue := 0 }, { name := "DEGREES_TO_RADIANS", type := .double, accessFlags := 26, slot := 3, constantValue := 0 }, { name := "RADIANS_TO_DEGREES", type := .double, accessFlags := 26, slot := 4, constantValue := 0 }, { name := "negativeZeroFloatBits", type := .long, accessFlags := 26, slot := 5, constantValue := 0 }, { name := "negativeZeroDoubleBits", type := .long, accessFlags := 26, slot := 6, constantValue := 0 }, { name := "twoToTheDoubleScaleUp", type := .double, accessFlags := 8, slot := 7, constantValue := 0 }, { name := "twoToTheDoubleScaleDown", type := .double, accessFlags := 8, slot := 8, constantValue := 0 }, { name := "$assertionsDisabled", type := .boolean, accessFlags := 4120, slot := 9, constantValue := 0 }]
  methods := #[k15m0, k15m1]
  instanceTypes := #[]
  staticTypes := #[.double, .double, .double, .double, .double, .long, .long, .double, .double, .boolean]
  resolved := Array.replicate 460 none
  statics := none }

def pool16 : Array CpInfo := pool [(1, .class_ 2), (0, u "java/lang/String"), (1, .class_ 6), (1, u "java/lang/Object"), (0, u "<init>"), (0, u "()V"), (0, .methodref 1 10), (0, .nameAndType 11 12), (0, u "checkIndex"), (0, u "(II)V"), (1, .class_ 16), (1, u "java/lang/StringLatin1"), (36, u "([BI)C"), (67, u "$assertionsDisabled"), (0, u "Z"), (98, .class_ 223), (1, u "java/lang/StringLatin1$LinesSpliterator"), (28, u "charAt"), (137, .class_ 391), (0, u "java/lang/StringLatin1$CharsSpliterator")] 3

def k16m0 : Method := { name := "<init>", desc := "()V", sig := { parameters := [], returnType := none }, accessFlags := 0, code := none }
def k16c1 : Code := { maxStack := 2, maxLocals := 2, code := jdk_43_method_2_code, exceptionTable := #[], attributes := #[] }
def k16m1 : Method := { name := "charAt", desc := "([BI)C", sig := { parameters := [(.array .byte), .int], returnType := some .char }, accessFlags := 9, code := some k16c1 }
/-- java/lang/StringLatin1 -/
def k16 : Class := { plain "java/lang/StringLatin1" (some 0) with
  accessFlags := 48
  interfaces := #[]
  cf := some (fileOf pool16 14 #[.nestMembers #[390, 221]] #[{ accessFlags := 0, nameIndex := 7, descriptorIndex := 8, attributes := #[] }, { accessFlags := 9, nameIndex := 252, descriptorIndex := 53, attributes := #[] }] 48 4 #[] #[{ accessFlags := 4120, nameIndex := 121, descriptorIndex := 122, attributes := #[] }])
  fields := #[{ name := "$assertionsDisabled", type := .boolean, accessFlags := 4120, slot := 0, constantValue := 0 }]
  methods := #[k16m0, k16m1]
  instanceTypes := #[]
  staticTypes := #[.boolean]
  resolved := Array.replicate 395 none
  statics := none }

def pool17 : Array CpInfo := pool [(2, .class_ 4), (1, u "java/lang/Object"), (0, u "<init>"), (0, u "()V"), (17, .class_ 26), (1, u "jdk/internal/util/Preconditions"), (6, u "checkIndex"), (21, .class_ 56), (0, u "jdk/internal/util/Preconditions$4"), (57, .class_ 115), (0, u "jdk/internal/util/Preconditions$1"), (7, u "SIOOBE_FORMATTER"), (0, u "Ljava/util/function/BiFunction;"), (0, .class_ 126), (0, u "jdk/internal/util/Preconditions$2"), (3, u "AIOOBE_FORMATTER"), (0, .class_ 132), (0, u "jdk/internal/util/Preconditions$3"), (3, u "IOOBE_FORMATTER"), (41, u "(IILjava/util/function/BiFunction;)I")] 15

def k17m0 : Method := { name := "<init>", desc := "()V", sig := { parameters := [], returnType := none }, accessFlags := 1, code := none }
def k17c1 : Code := { maxStack := 3, maxLocals := 3, code := jdk_41_method_11_code, exceptionTable := #[], attributes := #[] }
def k17m1 : Method := { name := "checkIndex", desc := "(IILjava/util/function/BiFunction;)I", sig := { parameters := [.int, .int, (.object "java/util/function/BiFunction")], returnType := some .int }, accessFlags := 9, code := some k17c1 }
/-- jdk/internal/util/Preconditions -/
def k17 : Class := { plain "jdk/internal/util/Preconditions" (some 0) with
  accessFlags := 33
  interfaces := #[]
  cf := some (fileOf pool17 24 #[.nestMembers #[55, 131, 125, 114]] #[{ accessFlags := 1, nameIndex := 5, descriptorIndex := 6, attributes := #[] }, { accessFlags := 9, nameIndex := 33, descriptorIndex := 178, attributes := #[] }] 33 2 #[] #[{ accessFlags := 25, nameIndex := 123, descriptorIndex := 124, attributes := #[] }, { accessFlags := 25, nameIndex := 130, descriptorIndex := 124, attributes := #[] }, { accessFlags := 25, nameIndex := 136, descriptorIndex := 124, attributes := #[] }])
  fields := #[{ name := "SIOOBE_FORMATTER", type := (.object "java/util/function/BiFunction"), accessFlags := 25, slot := 0, constantValue := 0 }, { name := "AIOOBE_FORMATTER", type := (.object "java/util/function/BiFunction"), accessFlags := 25, slot := 1, constantValue := 0 }, { name := "IOOBE_FORMATTER", type := (.object "java/util/function/BiFunction"), accessFlags := 25, slot := 2, constantValue := 0 }]
  methods := #[k17m0, k17m1]
  instanceTypes := #[]
  staticTypes := #[(.object "java/util/function/BiFunction"), (.object "java/util/function/BiFunction"), (.object "java/util/function/BiFunction")]
  resolved := Array.replicate 194 none
  statics := some 1 }

def pool18 : Array CpInfo := pool [(6, .class_ 8), (1, u "java/lang/Object"), (0, u "<init>"), (0, u "()V"), (1, .class_ 14), (1, u "java/lang/StringUTF16"), (31, u "$assertionsDisabled"), (0, u "Z"), (13, u "HI_BYTE_SHIFT"), (0, u "I"), (2, u "LO_BYTE_SHIFT"), (49, .methodref 12 116), (0, .nameAndType 117 118), (0, u "compress"), (0, u "([CI[BII)I"), (3, u "([CII)[B"), (138, u "coderFromArrayLen"), (0, u "([BI)B"), (106, .class_ 371), (1, u "java/lang/StringUTF16$LinesSpliterator"), (58, u "MAX_LENGTH"), (196, .class_ 628), (0, u "java/lang/StringUTF16$CodePointsSpliterator"), (0, .class_ 630), (0, u "java/lang/StringUTF16$CharsSpliterator")] 4

def k18m0 : Method := { name := "<init>", desc := "()V", sig := { parameters := [], returnType := none }, accessFlags := 0, code := none }
def k18c1 : Code := { maxStack := 2, maxLocals := 2, code := jdk_52_method_15_code, exceptionTable := #[], attributes := #[] }
def k18m1 : Method := { name := "coderFromArrayLen", desc := "([BI)B", sig := { parameters := [(.array .byte), .int], returnType := some .byte }, accessFlags := 8, code := some k18c1 }
def k18c2 : Code := { maxStack := 5, maxLocals := 6, code := jdk_52_method_16_code, exceptionTable := #[], attributes := #[] }
def k18m2 : Method := { name := "compress", desc := "([CII)[B", sig := { parameters := [(.array .char), .int, .int], returnType := some (.array .byte) }, accessFlags := 9, code := some k18c2 }
def k18c3 : Code := { maxStack := 3, maxLocals := 7, code := jdk_52_method_21_code, exceptionTable := #[], attributes := #[] }
def k18m3 : Method := { name := "compress", desc := "([CI[BII)I", sig := { parameters := [(.array .char), .int, (.array .byte), .int, .int], returnType := some .int }, accessFlags := 9, code := some k18c3 }
/-- java/lang/StringUTF16 -/
def k18 : Class := { plain "java/lang/StringUTF16" (some 0) with
  accessFlags := 48
  interfaces := #[]
  cf := some (fileOf pool18 12 #[.nestMembers #[627, 629, 369]] #[{ accessFlags := 0, nameIndex := 9, descriptorIndex := 10, attributes := #[] }, { accessFlags := 8, nameIndex := 261, descriptorIndex := 262, attributes := #[] }, { accessFlags := 9, nameIndex := 117, descriptorIndex := 122, attributes := #[] }, { accessFlags := 9, nameIndex := 117, descriptorIndex := 118, attributes := #[] }] 48 6 #[] #[{ accessFlags := 26, nameIndex := 61, descriptorIndex := 62, attributes := #[] }, { accessFlags := 26, nameIndex := 65, descriptorIndex := 62, attributes := #[] }, { accessFlags := 24, nameIndex := 430, descriptorIndex := 62, attributes := #[] }, { accessFlags := 4120, nameIndex := 46, descriptorIndex := 47, attributes := #[] }])
  fields := #[{ name := "HI_BYTE_SHIFT", type := .int, accessFlags := 26, slot := 0, constantValue := 0 }, { name := "LO_BYTE_SHIFT", type := .int, accessFlags := 26, slot := 1, constantValue := 0 }, { name := "MAX_LENGTH", type := .int, accessFlags := 24, slot := 2, constantValue := 0 }, { name := "$assertionsDisabled", type := .boolean, accessFlags := 4120, slot := 3, constantValue := 0 }]
  methods := #[k18m0, k18m1, k18m2, k18m3]
  instanceTypes := #[]
  staticTypes := #[.int, .int, .int, .boolean]
  resolved := Array.replicate 635 none
  statics := none }

def pool19 : Array CpInfo := pool [(9, u "<init>"), (6, .class_ 18), (1, u "java/lang/Object"), (0, u "()V"), (1, .class_ 23), (1, u "jdk/internal/util/ArraysSupport"), (0, u "LOG2_ARRAY_LONG_INDEX_SCALE"), (0, u "I"), (2, u "U"), (0, u "Ljdk/internal/misc/Unsafe;"), (8, u "BIG_ENDIAN"), (0, u "Z"), (8, u "LOG2_BYTE_BIT_SIZE"), (4, u "LOG2_ARRAY_INT_INDEX_SCALE"), (54, u "JLA"), (0, u "Ljdk/internal/access/JavaLangAccess;"), (11, u "LOG2_ARRAY_BOOLEAN_INDEX_SCALE"), (9, u "LOG2_ARRAY_BYTE_INDEX_SCALE"), (5, u "LOG2_ARRAY_CHAR_INDEX_SCALE"), (5, u "LOG2_ARRAY_SHORT_INDEX_SCALE"), (18, u "LOG2_ARRAY_FLOAT_INDEX_SCALE"), (24, u "LOG2_ARRAY_DOUBLE_INDEX_SCALE"), (89, u "T_BOOLEAN"), (2, u "T_CHAR"), (1, u "T_FLOAT"), (1, u "T_DOUBLE"), (1, u "T_BYTE"), (1, u "T_SHORT"), (1, u "T_INT"), (1, u "T_LONG"), (1, u "SOFT_MAX_ARRAY_LENGTH")] 83

def k19m0 : Method := { name := "<init>", desc := "()V", sig := { parameters := [], returnType := none }, accessFlags := 2, code := none }
/-- jdk/internal/util/ArraysSupport -/
def k19 : Class := { plain "jdk/internal/util/ArraysSupport" (some 0) with
  accessFlags := 33
  interfaces := #[]
  cf := some (fileOf pool19 21 #[] #[{ accessFlags := 2, nameIndex := 9, descriptorIndex := 19, attributes := #[] }] 33 16 #[] #[{ accessFlags := 24, nameIndex := 28, descriptorIndex := 29, attributes := #[] }, { accessFlags := 26, nameIndex := 38, descriptorIndex := 39, attributes := #[] }, { accessFlags := 25, nameIndex := 121, descriptorIndex := 25, attributes := #[] }, { accessFlags := 25, nameIndex := 131, descriptorIndex := 25, attributes := #[] }, { accessFlags := 25, nameIndex := 137, descriptorIndex := 25, attributes := #[] }, { accessFlags := 25, nameIndex := 143, descriptorIndex := 25, attributes := #[] }, { accessFlags := 25, nameIndex := 53, descriptorIndex := 25, attributes := #[] }, { accessFlags := 25, nameIndex := 24, descriptorIndex := 25, attributes := #[] }, { accessFlags := 25, nameIndex := 162, descriptorIndex := 25, attributes := #[] }, { accessFlags := 25, nameIndex := 187, descriptorIndex := 25, attributes := #[] }, { accessFlags := 26, nameIndex := 48, descriptorIndex := 25, attributes := #[] }, { accessFlags := 25, nameIndex := 277, descriptorIndex := 25, attributes := #[] }, { accessFlags := 25, nameIndex := 280, descriptorIndex := 25, attributes := #[] }, { accessFlags := 25, nameIndex := 282, descriptorIndex := 25, attributes := #[] }, { accessFlags := 25, nameIndex := 284, descriptorIndex := 25, attributes := #[] }, { accessFlags := 25, nameIndex := 286, descriptorIndex := 25, attributes := #[] }, { accessFlags := 25, nameIndex := 288, descriptorIndex := 25, attributes := #[] }, { accessFlags := 25, nameIndex := 290, descriptorIndex := 25, attributes := #[] }, { accessFlags := 25, nameIndex := 292, descriptorIndex := 25, attributes := #[] }, { accessFlags := 26, nameIndex := 108, descriptorIndex := 109, attributes := #[] }, { accessFlags := 25, nameIndex := 294, descriptorIndex := 25, attributes := #[] }])
  fields := #[{ name := "U", type := (.object "jdk/internal/misc/Unsafe"), accessFlags := 24, slot := 0, constantValue := 0 }, { name := "BIG_ENDIAN", type := .boolean, accessFlags := 26, slot := 1, constantValue := 0 }, { name := "LOG2_ARRAY_BOOLEAN_INDEX_SCALE", type := .int, accessFlags := 25, slot := 2, constantValue := 0 }, { name := "LOG2_ARRAY_BYTE_INDEX_SCALE", type := .int, accessFlags := 25, slot := 3, constantValue := 0 }, { name := "LOG2_ARRAY_CHAR_INDEX_SCALE", type := .int, accessFlags := 25, slot := 4, constantValue := 0 }, { name := "LOG2_ARRAY_SHORT_INDEX_SCALE", type := .int, accessFlags := 25, slot := 5, constantValue := 0 }, { name := "LOG2_ARRAY_INT_INDEX_SCALE", type := .int, accessFlags := 25, slot := 6, constantValue := 0 }, { name := "LOG2_ARRAY_LONG_INDEX_SCALE", type := .int, accessFlags := 25, slot := 7, constantValue := 0 }, { name := "LOG2_ARRAY_FLOAT_INDEX_SCALE", type := .int, accessFlags := 25, slot := 8, constantValue := 0 }, { name := "LOG2_ARRAY_DOUBLE_INDEX_SCALE", type := .int, accessFlags := 25, slot := 9, constantValue := 0 }, { name := "LOG2_BYTE_BIT_SIZE", type := .int, accessFlags := 26, slot := 10, constantValue := 0 }, { name := "T_BOOLEAN", type := .int, accessFlags := 25, slot := 11, constantValue := 0 }, { name := "T_CHAR", type := .int, accessFlags := 25, slot := 12, constantValue := 0 }, { name := "T_FLOAT", type := .int, accessFlags := 25, slot := 13, constantValue := 0 }, { name := "T_DOUBLE", type := .int, accessFlags := 25, slot := 14, constantValue := 0 }, { name := "T_BYTE", type := .int, accessFlags := 25, slot := 15, constantValue := 0 }, { name := "T_SHORT", type := .int, accessFlags := 25, slot := 16, constantValue := 0 }, { name := "T_INT", type := .int, accessFlags := 25, slot := 17, constantValue := 0 }, { name := "T_LONG", type := .int, accessFlags := 25, slot := 18, constantValue := 0 }, { name := "JLA", type := (.object "jdk/internal/access/JavaLangAccess"), accessFlags := 26, slot := 19, constantValue := 0 }, { name := "SOFT_MAX_ARRAY_LENGTH", type := .int, accessFlags := 25, slot := 20, constantValue := 0 }]
  methods := #[k19m0]
  instanceTypes := #[]
  staticTypes := #[(.object "jdk/internal/misc/Unsafe"), .boolean, .int, .int, .int, .int, .int, .int, .int, .int, .int, .int, .int, .int, .int, .int, .int, .int, .int, (.object "jdk/internal/access/JavaLangAccess"), .int]
  resolved := Array.replicate 378 none
  statics := none }

def pool20 : Array CpInfo := pool [(1, u "java/lang/Cloneable"), (0, .class_ 1), (0, u "java/lang/Object"), (0, .class_ 3)] 3

/-- java/lang/Cloneable -/
def k20 : Class := { plain "java/lang/Cloneable" (some 0) with
  accessFlags := 1537
  interfaces := #[]
  cf := some (fileOf pool20 2 #[] #[] 1537 4 #[] #[])
  fields := #[]
  methods := #[]
  instanceTypes := #[]
  staticTypes := #[]
  resolved := Array.replicate 8 none
  statics := none }

/-- the primitive byte -/
def k21 : Class := { plain "byte" none with kind := .primitive 'B', accessFlags := 0x411 }
/-- [B -/
def k22 : Class := { plain "[B" (some 0) with kind := .array 21 .byte, interfaces := #[20, 2], accessFlags := 1041 }

/-- the primitive char -/
def k23 : Class := { plain "char" none with kind := .primitive 'C', accessFlags := 0x411 }
/-- [C -/
def k24 : Class := { plain "[C" (some 0) with kind := .array 23 .char, interfaces := #[20, 2], accessFlags := 1041 }

/-- the primitive int -/
def k25 : Class := { plain "int" none with kind := .primitive 'I', accessFlags := 0x411 }
/-- [I -/
def k26 : Class := { plain "[I" (some 0) with kind := .array 25 .int, interfaces := #[20, 2], accessFlags := 1041 }

def heap : Heap := #[{ cls := 7, slots := #[.long 0, .int 1, .null, .int 0, .null, .int 0, .int 0], vm := .statics 7 },
  { cls := 17, slots := #[.null, .null, .null], vm := .statics 17 }]
def classes : Array Class := #[k0, k1, k2, k3, k4, k5, k6, k7, k8, k9, k10, k11, k12, k13, k14, k15, k16, k17, k18, k19, k20, k21, k22, k23, k24, k25, k26]
def interned : List (Array UInt16 × Addr) := []
def slotsUsed : Nat := 10
def theMethod : MethodId := ⟨1, 1⟩
def args0 : Array Value := #[.int 1, .int 1]
def aboutOver (below : List Frame) : State where
  vm := { classes := classes, interned := interned.toArray }
  heap := heap
  slotsUsed := slotsUsed
  threads := #[{ frames := .invoking theMethod args0 :: below }]
def below0 : List Frame := [.native { method := ⟨0, 0⟩, args := #[] }]
def about1 : State := aboutOver below0
def p0 : Program := .bare "" "" ""
def e0 : Env := launch0.env 0 0 0
theorem w_frames : about1.frames = Frame.invoking theMethod args0 :: below0 := rfl
set_option maxRecDepth 65536 in
theorem w_args : argsFit about1.vm theMethod args0 = true := by decide +kernel
set_option maxRecDepth 65536 in
theorem w_heap : heapFits about1 = true := by decide +kernel
set_option maxRecDepth 65536 in
theorem w_runnable : about1.curStatus? = some .runnable := by decide +kernel
set_option maxRecDepth 65536 in
theorem w_alone : about1.alone = true := by decide +kernel
set_option maxRecDepth 65536 in
theorem w_named : about1.methodNamed? x = some theMethod := by decide +kernel
set_option maxRecDepth 65536 in
theorem w_hears : about1.hears theMethod below0 = true := by decide +kernel
set_option maxRecDepth 65536 in
theorem w_ripe : about1.ripe theMethod args0 below0 = true := by decide +kernel
theorem w_running : about1.status = .running := rfl
set_option maxRecDepth 65536 in
theorem w_room : about1.hasRoom e0.platform room_1 = true :=
  launch0.hasRoom_least _ room_1 (by decide +kernel) (by decide +kernel) (by decide +kernel) (by decide +kernel) (by decide +kernel) (by decide +kernel)
theorem allAtoms_all (ts : List Jvm.Cond) (a : Array Jvm.Value) (st : Jvm.State) : (allAtoms ts).before a st = ts.all (fun c => c.before a st) := by
  induction ts with
  | nil => rfl
  | cons c t ih =>
    show (Jvm.Cond.and c (allAtoms t)).before a st = _
    rw [Jvm.Cond.before_and, ih, List.all_cons]
def words1 : List Jvm.Cond := Jvm.Cond.code x code maxLocals ret :: tables_1
/-- a 'code' word, met by the world's own term for the bytes: nothing is compared byte by byte -/
theorem code_word {y : MethodName} {bytes : ByteArray} {mx : Nat} {rt : Option FieldType} {a : Array Value} {s : State} {m : MethodId} {meth : Method} {c : Code} (h1 : s.methodNamed? y = some m) (h2 : s.vm.method? m = some meth) (h3 : meth.code = some c) (h4 : c.code = bytes)
    (h5 : (c.maxLocals == mx && c.exceptionTable.isEmpty && decide (c.maxStack ≤ mostOperands) && decide (meth.sig.returnType = rt) && !meth.locks && decide (parseMethodDescriptor y.desc = some meth.sig)) = true) : (Jvm.Cond.code y bytes mx rt).before a s = true := by
  simp only [Bool.and_eq_true, beq_iff_eq, Bool.not_eq_true', decide_eq_true_eq] at h5
  obtain ⟨⟨⟨⟨⟨g1, g2⟩, g3⟩, g4⟩, g5⟩, g6⟩ := h5
  simp [Cond.before, Cond.holds, Cond.value, h1, h2, h3, h4, g1, g2, g3, g4, g5, g6]
def isCode : Jvm.Cond → Bool
  | .code _ _ _ _ => true
  | _ => false
theorem all_split {L : List Jvm.Cond} {P : Jvm.Cond → Bool} (h1 : L.all (fun c => isCode c || P c) = true) (h2 : ∀ c ∈ L.filter isCode, P c = true) : L.all P = true := by
  refine List.all_eq_true.mpr fun c hc => ?_
  have h := List.all_eq_true.mp h1 c hc
  rcases Bool.eq_false_or_eq_true (isCode c) with hi | hi
  · exact h2 c (List.mem_filter.mpr ⟨hc, hi⟩)
  · simpa [hi] using h
set_option maxRecDepth 65536 in
theorem w_c0 : (Jvm.Cond.code x code maxLocals ret).before args0 about1 = true := code_word (m := ⟨1, 1⟩) (meth := k1m1) (c := k1c1) (by decide +kernel) rfl rfl rfl (by decide +kernel)
set_option maxRecDepth 65536 in
theorem w_c1 : (Jvm.Cond.code ({ cls := "com/example/runnel/runnel/broker/PipeAfterPinLaw", name := "str", desc := "(I)Ljava/lang/String;" } : Jvm.MethodName) method_3_code (4 : Nat) (Option.some (Jvm.ClassFile.FieldType.object "java/lang/String"))).before args0 about1 = true := code_word (m := ⟨1, 2⟩) (meth := k1m2) (c := k1c2) (by decide +kernel) rfl rfl rfl (by decide +kernel)
set_option maxRecDepth 65536 in
theorem w_c2 : (Jvm.Cond.code ({ cls := "java/lang/String", name := "<init>", desc := "([C)V" } : Jvm.MethodName) jdk_42_method_3_code (2 : Nat) (Option.none : Option Jvm.ClassFile.FieldType)).before args0 about1 = true := code_word (m := ⟨7, 1⟩) (meth := k7m1) (c := k7c1) (by decide +kernel) rfl rfl rfl (by decide +kernel)
set_option maxRecDepth 65536 in
theorem w_c3 : (Jvm.Cond.code ({ cls := "java/lang/String", name := "<init>", desc := "([CIILjava/lang/Void;)V" } : Jvm.MethodName) jdk_42_method_149_code (6 : Nat) (Option.none : Option Jvm.ClassFile.FieldType)).before args0 about1 = true := code_word (m := ⟨7, 6⟩) (meth := k7m6) (c := k7c6) (by decide +kernel) rfl rfl rfl (by decide +kernel)
set_option maxRecDepth 65536 in
theorem w_c4 : (Jvm.Cond.code ({ cls := "java/lang/Object", name := "<init>", desc := "()V" } : Jvm.MethodName) object_method_1_code (1 : Nat) (Option.none : Option Jvm.ClassFile.FieldType)).before args0 about1 = true := code_word (m := ⟨0, 0⟩) (meth := k0m0) (c := k0c0) (by decide +kernel) rfl rfl rfl (by decide +kernel)
set_option maxRecDepth 65536 in
theorem w_c5 : (Jvm.Cond.code ({ cls := "com/example/runnel/runnel/broker/Pipe", name := "after", desc := "(Ljava/lang/String;Ljava/lang/String;)Lcom/example/runnel/runnel/broker/Pipe;" } : Jvm.MethodName) prog_24_method_2_code (3 : Nat) (Option.some (Jvm.ClassFile.FieldType.object "com/example/runnel/runnel/broker/Pipe"))).before args0 about1 = true := code_word (m := ⟨9, 1⟩) (meth := k9m1) (c := k9c1) (by decide +kernel) rfl rfl rfl (by decide +kernel)
set_option maxRecDepth 65536 in
theorem w_c6 : (Jvm.Cond.code ({ cls := "java/lang/StringBuilder", name := "<init>", desc := "()V" } : Jvm.MethodName) jdk_67_method_1_code (1 : Nat) (Option.none : Option Jvm.ClassFile.FieldType)).before args0 about1 = true := code_word (m := ⟨12, 0⟩) (meth := k12m0) (c := k12c0) (by decide +kernel) rfl rfl rfl (by decide +kernel)
set_option maxRecDepth 65536 in
theorem w_c7 : (Jvm.Cond.code ({ cls := "java/lang/AbstractStringBuilder", name := "<init>", desc := "(I)V" } : Jvm.MethodName) jdk_68_method_2_code (2 : Nat) (Option.none : Option Jvm.ClassFile.FieldType)).before args0 about1 = true := code_word (m := ⟨11, 1⟩) (meth := k11m1) (c := k11c1) (by decide +kernel) rfl rfl rfl (by decide +kernel)
set_option maxRecDepth 65536 in
theorem w_c8 : (Jvm.Cond.code ({ cls := "java/lang/StringBuilder", name := "append", desc := "(Ljava/lang/String;)Ljava/lang/StringBuilder;" } : Jvm.MethodName) jdk_67_method_7_code (2 : Nat) (Option.some (Jvm.ClassFile.FieldType.object "java/lang/StringBuilder"))).before args0 about1 = true := code_word (m := ⟨12, 1⟩) (meth := k12m1) (c := k12c1) (by decide +kernel) rfl rfl rfl (by decide +kernel)
set_option maxRecDepth 65536 in
theorem w_c9 : (Jvm.Cond.code ({ cls := "java/lang/AbstractStringBuilder", name := "append", desc := "(Ljava/lang/String;)Ljava/lang/AbstractStringBuilder;" } : Jvm.MethodName) jdk_68_method_22_code (3 : Nat) (Option.some (Jvm.ClassFile.FieldType.object "java/lang/AbstractStringBuilder"))).before args0 about1 = true := code_word (m := ⟨11, 4⟩) (meth := k11m4) (c := k11c4) (by decide +kernel) rfl rfl rfl (by decide +kernel)
set_option maxRecDepth 65536 in
theorem w_c10 : (Jvm.Cond.code ({ cls := "java/lang/String", name := "length", desc := "()I" } : Jvm.MethodName) jdk_42_method_54_code (1 : Nat) (Option.some Jvm.ClassFile.FieldType.int)).before args0 about1 = true := code_word (m := ⟨7, 3⟩) (meth := k7m3) (c := k7c3) (by decide +kernel) rfl rfl rfl (by decide +kernel)
set_option maxRecDepth 65536 in
theorem w_c11 : (Jvm.Cond.code ({ cls := "java/lang/String", name := "coder", desc := "()B" } : Jvm.MethodName) jdk_42_method_152_code (1 : Nat) (Option.some Jvm.ClassFile.FieldType.byte)).before args0 about1 = true := code_word (m := ⟨7, 8⟩) (meth := k7m8) (c := k7c8) (by decide +kernel) rfl rfl rfl (by decide +kernel)
set_option maxRecDepth 65536 in
theorem w_c12 : (Jvm.Cond.code ({ cls := "java/lang/AbstractStringBuilder", name := "ensureCapacityInternal", desc := "(I)V" } : Jvm.MethodName) jdk_68_method_9_code (3 : Nat) (Option.none : Option Jvm.ClassFile.FieldType)).before args0 about1 = true := code_word (m := ⟨11, 3⟩) (meth := k11m3) (c := k11c3) (by decide +kernel) rfl rfl rfl (by decide +kernel)
set_option maxRecDepth 65536 in
theorem w_c13 : (Jvm.Cond.code ({ cls := "java/lang/AbstractStringBuilder", name := "putStringAt", desc := "(ILjava/lang/String;)V" } : Jvm.MethodName) jdk_68_method_73_code (3 : Nat) (Option.none : Option Jvm.ClassFile.FieldType)).before args0 about1 = true := code_word (m := ⟨11, 8⟩) (meth := k11m8) (c := k11c8) (by decide +kernel) rfl rfl rfl (by decide +kernel)
set_option maxRecDepth 65536 in
theorem w_c14 : (Jvm.Cond.code ({ cls := "java/lang/AbstractStringBuilder", name := "inflateIfNeededFor", desc := "(Ljava/lang/String;)V" } : Jvm.MethodName) jdk_68_method_71_code (2 : Nat) (Option.none : Option Jvm.ClassFile.FieldType)).before args0 about1 = true := code_word (m := ⟨11, 7⟩) (meth := k11m7) (c := k11c7) (by decide +kernel) rfl rfl rfl (by decide +kernel)
set_option maxRecDepth 65536 in
theorem w_c15 : (Jvm.Cond.code ({ cls := "java/lang/String", name := "getBytes", desc := "([BIB)V" } : Jvm.MethodName) jdk_42_method_147_code (4 : Nat) (Option.none : Option Jvm.ClassFile.FieldType)).before args0 about1 = true := code_word (m := ⟨7, 5⟩) (meth := k7m5) (c := k7c5) (by decide +kernel) rfl rfl rfl (by decide +kernel)
set_option maxRecDepth 65536 in
theorem w_c16 : (Jvm.Cond.code ({ cls := "java/lang/StringBuilder", name := "toString", desc := "()Ljava/lang/String;" } : Jvm.MethodName) jdk_67_method_42_code (1 : Nat) (Option.some (Jvm.ClassFile.FieldType.object "java/lang/String"))).before args0 about1 = true := code_word (m := ⟨12, 2⟩) (meth := k12m2) (c := k12c2) (by decide +kernel) rfl rfl rfl (by decide +kernel)
set_option maxRecDepth 65536 in
theorem w_c17 : (Jvm.Cond.code ({ cls := "java/lang/String", name := "<init>", desc := "(Ljava/lang/StringBuilder;)V" } : Jvm.MethodName) jdk_42_method_53_code (2 : Nat) (Option.none : Option Jvm.ClassFile.FieldType)).before args0 about1 = true := code_word (m := ⟨7, 2⟩) (meth := k7m2) (c := k7c2) (by decide +kernel) rfl rfl rfl (by decide +kernel)
set_option maxRecDepth 65536 in
theorem w_c18 : (Jvm.Cond.code ({ cls := "java/lang/String", name := "<init>", desc := "(Ljava/lang/AbstractStringBuilder;Ljava/lang/Void;)V" } : Jvm.MethodName) jdk_42_method_150_code (5 : Nat) (Option.none : Option Jvm.ClassFile.FieldType)).before args0 about1 = true := code_word (m := ⟨7, 7⟩) (meth := k7m7) (c := k7c7) (by decide +kernel) rfl rfl rfl (by decide +kernel)
set_option maxRecDepth 65536 in
theorem w_c19 : (Jvm.Cond.code ({ cls := "java/lang/AbstractStringBuilder", name := "getValue", desc := "()[B" } : Jvm.MethodName) jdk_68_method_64_code (1 : Nat) (Option.some (Jvm.ClassFile.FieldType.array Jvm.ClassFile.FieldType.byte))).before args0 about1 = true := code_word (m := ⟨11, 5⟩) (meth := k11m5) (c := k11c5) (by decide +kernel) rfl rfl rfl (by decide +kernel)
set_option maxRecDepth 65536 in
theorem w_c20 : (Jvm.Cond.code ({ cls := "java/lang/StringBuilder", name := "length", desc := "()I" } : Jvm.MethodName) jdk_67_method_93_code (1 : Nat) (Option.some Jvm.ClassFile.FieldType.int)).before args0 about1 = true := code_word (m := ⟨12, 3⟩) (meth := k12m3) (c := k12c3) (by decide +kernel) rfl rfl rfl (by decide +kernel)
set_option maxRecDepth 65536 in
theorem w_c21 : (Jvm.Cond.code ({ cls := "java/lang/AbstractStringBuilder", name := "length", desc := "()I" } : Jvm.MethodName) jdk_68_method_6_code (1 : Nat) (Option.some Jvm.ClassFile.FieldType.int)).before args0 about1 = true := code_word (m := ⟨11, 2⟩) (meth := k11m2) (c := k11c2) (by decide +kernel) rfl rfl rfl (by decide +kernel)
set_option maxRecDepth 65536 in
theorem w_c22 : (Jvm.Cond.code ({ cls := "java/lang/AbstractStringBuilder", name := "isLatin1", desc := "()Z" } : Jvm.MethodName) jdk_68_method_68_code (1 : Nat) (Option.some Jvm.ClassFile.FieldType.boolean)).before args0 about1 = true := code_word (m := ⟨11, 6⟩) (meth := k11m6) (c := k11c6) (by decide +kernel) rfl rfl rfl (by decide +kernel)
set_option maxRecDepth 65536 in
theorem w_c23 : (Jvm.Cond.code ({ cls := "java/util/Arrays", name := "copyOfRange", desc := "([BII)[B" } : Jvm.MethodName) jdk_65_method_132_code (3 : Nat) (Option.some (Jvm.ClassFile.FieldType.array Jvm.ClassFile.FieldType.byte))).before args0 about1 = true := code_word (m := ⟨14, 2⟩) (meth := k14m2) (c := k14c2) (by decide +kernel) rfl rfl rfl (by decide +kernel)
set_option maxRecDepth 65536 in
theorem w_c24 : (Jvm.Cond.code ({ cls := "java/util/Arrays", name := "copyOfRangeByte", desc := "([BII)[B" } : Jvm.MethodName) jdk_65_method_133_code (5 : Nat) (Option.some (Jvm.ClassFile.FieldType.array Jvm.ClassFile.FieldType.byte))).before args0 about1 = true := code_word (m := ⟨14, 3⟩) (meth := k14m3) (c := k14c3) (by decide +kernel) rfl rfl rfl (by decide +kernel)
set_option maxRecDepth 65536 in
theorem w_c25 : (Jvm.Cond.code ({ cls := "java/util/Arrays", name := "checkLength", desc := "(II)V" } : Jvm.MethodName) jdk_65_method_131_code (2 : Nat) (Option.none : Option Jvm.ClassFile.FieldType)).before args0 about1 = true := code_word (m := ⟨14, 1⟩) (meth := k14m1) (c := k14c1) (by decide +kernel) rfl rfl rfl (by decide +kernel)
set_option maxRecDepth 65536 in
theorem w_c26 : (Jvm.Cond.code ({ cls := "java/lang/Math", name := "min", desc := "(II)I" } : Jvm.MethodName) jdk_29_method_69_code (2 : Nat) (Option.some Jvm.ClassFile.FieldType.int)).before args0 about1 = true := code_word (m := ⟨15, 1⟩) (meth := k15m1) (c := k15c1) (by decide +kernel) rfl rfl rfl (by decide +kernel)
set_option maxRecDepth 65536 in
theorem w_c27 : (Jvm.Cond.code ({ cls := "com/example/runnel/runnel/broker/Pipe", name := "<init>", desc := "(Ljava/lang/String;Ljava/lang/String;)V" } : Jvm.MethodName) prog_24_method_1_code (3 : Nat) (Option.none : Option Jvm.ClassFile.FieldType)).before args0 about1 = true := code_word (m := ⟨9, 0⟩) (meth := k9m0) (c := k9c0) (by decide +kernel) rfl rfl rfl (by decide +kernel)
set_option maxRecDepth 65536 in
theorem w_c28 : (Jvm.Cond.code ({ cls := "java/lang/Record", name := "<init>", desc := "()V" } : Jvm.MethodName) jdk_30_method_1_code (1 : Nat) (Option.none : Option Jvm.ClassFile.FieldType)).before args0 about1 = true := code_word (m := ⟨8, 0⟩) (meth := k8m0) (c := k8c0) (by decide +kernel) rfl rfl rfl (by decide +kernel)
set_option maxRecDepth 65536 in
theorem w_c29 : (Jvm.Cond.code ({ cls := "com/example/runnel/runnel/broker/Pipe", name := "exchange", desc := "()Ljava/lang/String;" } : Jvm.MethodName) prog_24_method_6_code (1 : Nat) (Option.some (Jvm.ClassFile.FieldType.object "java/lang/String"))).before args0 about1 = true := code_word (m := ⟨9, 2⟩) (meth := k9m2) (c := k9c2) (by decide +kernel) rfl rfl rfl (by decide +kernel)
set_option maxRecDepth 65536 in
theorem w_c30 : (Jvm.Cond.code ({ cls := "com/example/runnel/runnel/broker/Pipe", name := "queue", desc := "()Ljava/lang/String;" } : Jvm.MethodName) prog_24_method_7_code (1 : Nat) (Option.some (Jvm.ClassFile.FieldType.object "java/lang/String"))).before args0 about1 = true := code_word (m := ⟨9, 3⟩) (meth := k9m3) (c := k9c3) (by decide +kernel) rfl rfl rfl (by decide +kernel)
set_option maxRecDepth 65536 in
theorem w_c31 : (Jvm.Cond.code ({ cls := "com/example/runnel/runnel/broker/PipeAfterPinLaw", name := "exOk", desc := "(Ljava/lang/String;Ljava/lang/String;Ljava/lang/String;I)Z" } : Jvm.MethodName) method_7_code (4 : Nat) (Option.some Jvm.ClassFile.FieldType.boolean)).before args0 about1 = true := code_word (m := ⟨1, 6⟩) (meth := k1m6) (c := k1c6) (by decide +kernel) rfl rfl rfl (by decide +kernel)
set_option maxRecDepth 65536 in
theorem w_c32 : (Jvm.Cond.code ({ cls := "com/example/runnel/runnel/broker/PipeAfterPinLaw", name := "at", desc := "(Ljava/lang/String;I)I" } : Jvm.MethodName) method_4_code (2 : Nat) (Option.some Jvm.ClassFile.FieldType.int)).before args0 about1 = true := code_word (m := ⟨1, 3⟩) (meth := k1m3) (c := k1c3) (by decide +kernel) rfl rfl rfl (by decide +kernel)
set_option maxRecDepth 65536 in
theorem w_c33 : (Jvm.Cond.code ({ cls := "java/lang/String", name := "charAt", desc := "(I)C" } : Jvm.MethodName) jdk_42_method_56_code (2 : Nat) (Option.some Jvm.ClassFile.FieldType.char)).before args0 about1 = true := code_word (m := ⟨7, 4⟩) (meth := k7m4) (c := k7c4) (by decide +kernel) rfl rfl rfl (by decide +kernel)
set_option maxRecDepth 65536 in
theorem w_c34 : (Jvm.Cond.code ({ cls := "java/lang/String", name := "isLatin1", desc := "()Z" } : Jvm.MethodName) jdk_42_method_154_code (1 : Nat) (Option.some Jvm.ClassFile.FieldType.boolean)).before args0 about1 = true := code_word (m := ⟨7, 9⟩) (meth := k7m9) (c := k7c9) (by decide +kernel) rfl rfl rfl (by decide +kernel)
set_option maxRecDepth 65536 in
theorem w_c35 : (Jvm.Cond.code ({ cls := "java/lang/StringLatin1", name := "charAt", desc := "([BI)C" } : Jvm.MethodName) jdk_43_method_2_code (2 : Nat) (Option.some Jvm.ClassFile.FieldType.char)).before args0 about1 = true := code_word (m := ⟨16, 1⟩) (meth := k16m1) (c := k16c1) (by decide +kernel) rfl rfl rfl (by decide +kernel)
set_option maxRecDepth 65536 in
theorem w_c36 : (Jvm.Cond.code ({ cls := "java/lang/String", name := "checkIndex", desc := "(II)V" } : Jvm.MethodName) jdk_42_method_155_code (2 : Nat) (Option.none : Option Jvm.ClassFile.FieldType)).before args0 about1 = true := code_word (m := ⟨7, 10⟩) (meth := k7m10) (c := k7c10) (by decide +kernel) rfl rfl rfl (by decide +kernel)
set_option maxRecDepth 65536 in
theorem w_c37 : (Jvm.Cond.code ({ cls := "jdk/internal/util/Preconditions", name := "checkIndex", desc := "(IILjava/util/function/BiFunction;)I" } : Jvm.MethodName) jdk_41_method_11_code (3 : Nat) (Option.some Jvm.ClassFile.FieldType.int)).before args0 about1 = true := code_word (m := ⟨17, 1⟩) (meth := k17m1) (c := k17c1) (by decide +kernel) rfl rfl rfl (by decide +kernel)
set_option maxRecDepth 65536 in
theorem w_c38 : (Jvm.Cond.code ({ cls := "com/example/runnel/runnel/broker/PipeAfterPinLaw", name := "expEx", desc := "(Ljava/lang/String;Ljava/lang/String;I)I" } : Jvm.MethodName) method_5_code (4 : Nat) (Option.some Jvm.ClassFile.FieldType.int)).before args0 about1 = true := code_word (m := ⟨1, 4⟩) (meth := k1m4) (c := k1c4) (by decide +kernel) rfl rfl rfl (by decide +kernel)
set_option maxRecDepth 65536 in
theorem w_c39 : (Jvm.Cond.code ({ cls := "com/example/runnel/runnel/broker/PipeAfterPinLaw", name := "qOk", desc := "(Ljava/lang/String;Ljava/lang/String;Ljava/lang/String;I)Z" } : Jvm.MethodName) method_8_code (4 : Nat) (Option.some Jvm.ClassFile.FieldType.boolean)).before args0 about1 = true := code_word (m := ⟨1, 7⟩) (meth := k1m7) (c := k1c7) (by decide +kernel) rfl rfl rfl (by decide +kernel)
set_option maxRecDepth 65536 in
theorem w_c40 : (Jvm.Cond.code ({ cls := "com/example/runnel/runnel/broker/PipeAfterPinLaw", name := "expQ", desc := "(Ljava/lang/String;Ljava/lang/String;I)I" } : Jvm.MethodName) method_6_code (4 : Nat) (Option.some Jvm.ClassFile.FieldType.int)).before args0 about1 = true := code_word (m := ⟨1, 5⟩) (meth := k1m5) (c := k1c5) (by decide +kernel) rfl rfl rfl (by decide +kernel)
set_option maxRecDepth 65536 in
theorem w_c41 : (Jvm.Cond.code ({ cls := "java/lang/StringUTF16", name := "compress", desc := "([CII)[B" } : Jvm.MethodName) jdk_52_method_16_code (6 : Nat) (Option.some (Jvm.ClassFile.FieldType.array Jvm.ClassFile.FieldType.byte))).before args0 about1 = true := code_word (m := ⟨18, 2⟩) (meth := k18m2) (c := k18c2) (by decide +kernel) rfl rfl rfl (by decide +kernel)
set_option maxRecDepth 65536 in
theorem w_c42 : (Jvm.Cond.code ({ cls := "java/lang/StringUTF16", name := "compress", desc := "([CI[BII)I" } : Jvm.MethodName) jdk_52_method_21_code (7 : Nat) (Option.some Jvm.ClassFile.FieldType.int)).before args0 about1 = true := code_word (m := ⟨18, 3⟩) (meth := k18m3) (c := k18c3) (by decide +kernel) rfl rfl rfl (by decide +kernel)
set_option maxRecDepth 65536 in
theorem w_c43 : (Jvm.Cond.code ({ cls := "java/lang/StringUTF16", name := "coderFromArrayLen", desc := "([BI)B" } : Jvm.MethodName) jdk_52_method_15_code (2 : Nat) (Option.some Jvm.ClassFile.FieldType.byte)).before args0 about1 = true := code_word (m := ⟨18, 1⟩) (meth := k18m1) (c := k18c1) (by decide +kernel) rfl rfl rfl (by decide +kernel)
def codes1 : List Jvm.Cond := [Jvm.Cond.code x code maxLocals ret, Jvm.Cond.code ({ cls := "com/example/runnel/runnel/broker/PipeAfterPinLaw", name := "str", desc := "(I)Ljava/lang/String;" } : Jvm.MethodName) method_3_code (4 : Nat) (Option.some (Jvm.ClassFile.FieldType.object "java/lang/String")), Jvm.Cond.code ({ cls := "java/lang/String", name := "<init>", desc := "([C)V" } : Jvm.MethodName) jdk_42_method_3_code (2 : Nat) (Option.none : Option Jvm.ClassFile.FieldType), Jvm.Cond.code ({ cls := "java/lang/String", name := "<init>", desc := "([CIILjava/lang/Void;)V" } : Jvm.MethodName) jdk_42_method_149_code (6 : Nat) (Option.none : Option Jvm.ClassFile.FieldType), Jvm.Cond.code ({ cls := "java/lang/Object", name := "<init>", desc := "()V" } : Jvm.MethodName) object_method_1_code (1 : Nat) (Option.none : Option Jvm.ClassFile.FieldType), Jvm.Cond.code ({ cls := "com/example/runnel/runnel/broker/Pipe", name := "after", desc := "(Ljava/lang/String;Ljava/lang/String;)Lcom/example/runnel/runnel/broker/Pipe;" } : Jvm.MethodName) prog_24_method_2_code (3 : Nat) (Option.some (Jvm.ClassFile.FieldType.object "com/example/runnel/runnel/broker/Pipe")), Jvm.Cond.code ({ cls := "java/lang/StringBuilder", name := "<init>", desc := "()V" } : Jvm.MethodName) jdk_67_method_1_code (1 : Nat) (Option.none : Option Jvm.ClassFile.FieldType), Jvm.Cond.code ({ cls := "java/lang/AbstractStringBuilder", name := "<init>", desc := "(I)V" } : Jvm.MethodName) jdk_68_method_2_code (2 : Nat) (Option.none : Option Jvm.ClassFile.FieldType), Jvm.Cond.code ({ cls := "java/lang/StringBuilder", name := "append", desc := "(Ljava/lang/String;)Ljava/lang/StringBuilder;" } : Jvm.MethodName) jdk_67_method_7_code (2 : Nat) (Option.some (Jvm.ClassFile.FieldType.object "java/lang/StringBuilder")), Jvm.Cond.code ({ cls := "java/lang/AbstractStringBuilder", name := "append", desc := "(Ljava/lang/String;)Ljava/lang/AbstractStringBuilder;" } : Jvm.MethodName) jdk_68_method_22_code (3 : Nat) (Option.some (Jvm.ClassFile.FieldType.object "java/lang/AbstractStringBuilder")), Jvm.Cond.code ({ cls := "java/lang/String", name := "length", desc := "()I" } : Jvm.MethodName) jdk_42_method_54_code (1 : Nat) (Option.some Jvm.ClassFile.FieldType.int), Jvm.Cond.code ({ cls := "java/lang/String", name := "coder", desc := "()B" } : Jvm.MethodName) jdk_42_method_152_code (1 : Nat) (Option.some Jvm.ClassFile.FieldType.byte), Jvm.Cond.code ({ cls := "java/lang/AbstractStringBuilder", name := "ensureCapacityInternal", desc := "(I)V" } : Jvm.MethodName) jdk_68_method_9_code (3 : Nat) (Option.none : Option Jvm.ClassFile.FieldType), Jvm.Cond.code ({ cls := "java/lang/AbstractStringBuilder", name := "putStringAt", desc := "(ILjava/lang/String;)V" } : Jvm.MethodName) jdk_68_method_73_code (3 : Nat) (Option.none : Option Jvm.ClassFile.FieldType), Jvm.Cond.code ({ cls := "java/lang/AbstractStringBuilder", name := "inflateIfNeededFor", desc := "(Ljava/lang/String;)V" } : Jvm.MethodName) jdk_68_method_71_code (2 : Nat) (Option.none : Option Jvm.ClassFile.FieldType), Jvm.Cond.code ({ cls := "java/lang/String", name := "getBytes", desc := "([BIB)V" } : Jvm.MethodName) jdk_42_method_147_code (4 : Nat) (Option.none : Option Jvm.ClassFile.FieldType), Jvm.Cond.code ({ cls := "java/lang/StringBuilder", name := "toString", desc := "()Ljava/lang/String;" } : Jvm.MethodName) jdk_67_method_42_code (1 : Nat) (Option.some (Jvm.ClassFile.FieldType.object "java/lang/String")), Jvm.Cond.code ({ cls := "java/lang/String", name := "<init>", desc := "(Ljava/lang/StringBuilder;)V" } : Jvm.MethodName) jdk_42_method_53_code (2 : Nat) (Option.none : Option Jvm.ClassFile.FieldType), Jvm.Cond.code ({ cls := "java/lang/String", name := "<init>", desc := "(Ljava/lang/AbstractStringBuilder;Ljava/lang/Void;)V" } : Jvm.MethodName) jdk_42_method_150_code (5 : Nat) (Option.none : Option Jvm.ClassFile.FieldType), Jvm.Cond.code ({ cls := "java/lang/AbstractStringBuilder", name := "getValue", desc := "()[B" } : Jvm.MethodName) jdk_68_method_64_code (1 : Nat) (Option.some (Jvm.ClassFile.FieldType.array Jvm.ClassFile.FieldType.byte)), Jvm.Cond.code ({ cls := "java/lang/StringBuilder", name := "length", desc := "()I" } : Jvm.MethodName) jdk_67_method_93_code (1 : Nat) (Option.some Jvm.ClassFile.FieldType.int), Jvm.Cond.code ({ cls := "java/lang/AbstractStringBuilder", name := "length", desc := "()I" } : Jvm.MethodName) jdk_68_method_6_code (1 : Nat) (Option.some Jvm.ClassFile.FieldType.int), Jvm.Cond.code ({ cls := "java/lang/AbstractStringBuilder", name := "isLatin1", desc := "()Z" } : Jvm.MethodName) jdk_68_method_68_code (1 : Nat) (Option.some Jvm.ClassFile.FieldType.boolean), Jvm.Cond.code ({ cls := "java/util/Arrays", name := "copyOfRange", desc := "([BII)[B" } : Jvm.MethodName) jdk_65_method_132_code (3 : Nat) (Option.some (Jvm.ClassFile.FieldType.array Jvm.ClassFile.FieldType.byte)), Jvm.Cond.code ({ cls := "java/util/Arrays", name := "copyOfRangeByte", desc := "([BII)[B" } : Jvm.MethodName) jdk_65_method_133_code (5 : Nat) (Option.some (Jvm.ClassFile.FieldType.array Jvm.ClassFile.FieldType.byte)), Jvm.Cond.code ({ cls := "java/util/Arrays", name := "checkLength", desc := "(II)V" } : Jvm.MethodName) jdk_65_method_131_code (2 : Nat) (Option.none : Option Jvm.ClassFile.FieldType), Jvm.Cond.code ({ cls := "java/lang/Math", name := "min", desc := "(II)I" } : Jvm.MethodName) jdk_29_method_69_code (2 : Nat) (Option.some Jvm.ClassFile.FieldType.int), Jvm.Cond.code ({ cls := "com/example/runnel/runnel/broker/Pipe", name := "<init>", desc := "(Ljava/lang/String;Ljava/lang/String;)V" } : Jvm.MethodName) prog_24_method_1_code (3 : Nat) (Option.none : Option Jvm.ClassFile.FieldType), Jvm.Cond.code ({ cls := "java/lang/Record", name := "<init>", desc := "()V" } : Jvm.MethodName) jdk_30_method_1_code (1 : Nat) (Option.none : Option Jvm.ClassFile.FieldType), Jvm.Cond.code ({ cls := "com/example/runnel/runnel/broker/Pipe", name := "exchange", desc := "()Ljava/lang/String;" } : Jvm.MethodName) prog_24_method_6_code (1 : Nat) (Option.some (Jvm.ClassFile.FieldType.object "java/lang/String")), Jvm.Cond.code ({ cls := "com/example/runnel/runnel/broker/Pipe", name := "queue", desc := "()Ljava/lang/String;" } : Jvm.MethodName) prog_24_method_7_code (1 : Nat) (Option.some (Jvm.ClassFile.FieldType.object "java/lang/String")), Jvm.Cond.code ({ cls := "com/example/runnel/runnel/broker/PipeAfterPinLaw", name := "exOk", desc := "(Ljava/lang/String;Ljava/lang/String;Ljava/lang/String;I)Z" } : Jvm.MethodName) method_7_code (4 : Nat) (Option.some Jvm.ClassFile.FieldType.boolean), Jvm.Cond.code ({ cls := "com/example/runnel/runnel/broker/PipeAfterPinLaw", name := "at", desc := "(Ljava/lang/String;I)I" } : Jvm.MethodName) method_4_code (2 : Nat) (Option.some Jvm.ClassFile.FieldType.int), Jvm.Cond.code ({ cls := "java/lang/String", name := "charAt", desc := "(I)C" } : Jvm.MethodName) jdk_42_method_56_code (2 : Nat) (Option.some Jvm.ClassFile.FieldType.char), Jvm.Cond.code ({ cls := "java/lang/String", name := "isLatin1", desc := "()Z" } : Jvm.MethodName) jdk_42_method_154_code (1 : Nat) (Option.some Jvm.ClassFile.FieldType.boolean), Jvm.Cond.code ({ cls := "java/lang/StringLatin1", name := "charAt", desc := "([BI)C" } : Jvm.MethodName) jdk_43_method_2_code (2 : Nat) (Option.some Jvm.ClassFile.FieldType.char), Jvm.Cond.code ({ cls := "java/lang/String", name := "checkIndex", desc := "(II)V" } : Jvm.MethodName) jdk_42_method_155_code (2 : Nat) (Option.none : Option Jvm.ClassFile.FieldType), Jvm.Cond.code ({ cls := "jdk/internal/util/Preconditions", name := "checkIndex", desc := "(IILjava/util/function/BiFunction;)I" } : Jvm.MethodName) jdk_41_method_11_code (3 : Nat) (Option.some Jvm.ClassFile.FieldType.int), Jvm.Cond.code ({ cls := "com/example/runnel/runnel/broker/PipeAfterPinLaw", name := "expEx", desc := "(Ljava/lang/String;Ljava/lang/String;I)I" } : Jvm.MethodName) method_5_code (4 : Nat) (Option.some Jvm.ClassFile.FieldType.int), Jvm.Cond.code ({ cls := "com/example/runnel/runnel/broker/PipeAfterPinLaw", name := "qOk", desc := "(Ljava/lang/String;Ljava/lang/String;Ljava/lang/String;I)Z" } : Jvm.MethodName) method_8_code (4 : Nat) (Option.some Jvm.ClassFile.FieldType.boolean), Jvm.Cond.code ({ cls := "com/example/runnel/runnel/broker/PipeAfterPinLaw", name := "expQ", desc := "(Ljava/lang/String;Ljava/lang/String;I)I" } : Jvm.MethodName) method_6_code (4 : Nat) (Option.some Jvm.ClassFile.FieldType.int), Jvm.Cond.code ({ cls := "java/lang/StringUTF16", name := "compress", desc := "([CII)[B" } : Jvm.MethodName) jdk_52_method_16_code (6 : Nat) (Option.some (Jvm.ClassFile.FieldType.array Jvm.ClassFile.FieldType.byte)), Jvm.Cond.code ({ cls := "java/lang/StringUTF16", name := "compress", desc := "([CI[BII)I" } : Jvm.MethodName) jdk_52_method_21_code (7 : Nat) (Option.some Jvm.ClassFile.FieldType.int), Jvm.Cond.code ({ cls := "java/lang/StringUTF16", name := "coderFromArrayLen", desc := "([BI)B" } : Jvm.MethodName) jdk_52_method_15_code (2 : Nat) (Option.some Jvm.ClassFile.FieldType.byte)]
set_option maxRecDepth 65536 in
theorem codes_eq : words1.filter isCode = codes1 := rfl
theorem w_codes : ∀ c ∈ words1.filter isCode, c.before args0 about1 = true := by
  rw [codes_eq]
  intro c hc
  simp only [codes1, List.mem_cons, List.not_mem_nil, or_false] at hc
  rcases hc with rfl | rfl | rfl | rfl | rfl | rfl | rfl | rfl | rfl | rfl | rfl | rfl | rfl | rfl | rfl | rfl | rfl | rfl | rfl | rfl | rfl | rfl | rfl | rfl | rfl | rfl | rfl | rfl | rfl | rfl | rfl | rfl | rfl | rfl | rfl | rfl | rfl | rfl | rfl | rfl | rfl | rfl | rfl | rfl
  · exact w_c0
  · exact w_c1
  · exact w_c2
  · exact w_c3
  · exact w_c4
  · exact w_c5
  · exact w_c6
  · exact w_c7
  · exact w_c8
  · exact w_c9
  · exact w_c10
  · exact w_c11
  · exact w_c12
  · exact w_c13
  · exact w_c14
  · exact w_c15
  · exact w_c16
  · exact w_c17
  · exact w_c18
  · exact w_c19
  · exact w_c20
  · exact w_c21
  · exact w_c22
  · exact w_c23
  · exact w_c24
  · exact w_c25
  · exact w_c26
  · exact w_c27
  · exact w_c28
  · exact w_c29
  · exact w_c30
  · exact w_c31
  · exact w_c32
  · exact w_c33
  · exact w_c34
  · exact w_c35
  · exact w_c36
  · exact w_c37
  · exact w_c38
  · exact w_c39
  · exact w_c40
  · exact w_c41
  · exact w_c42
  · exact w_c43
set_option maxRecDepth 65536 in
theorem w_t1 : (words1.take 24).all (fun c => isCode c || c.before args0 about1) = true := by decide +kernel
set_option maxRecDepth 65536 in
theorem w_t2 : ((words1.drop 24).take 24).all (fun c => isCode c || c.before args0 about1) = true := by decide +kernel
set_option maxRecDepth 65536 in
theorem w_t3 : (((words1.drop 24).drop 24).take 24).all (fun c => isCode c || c.before args0 about1) = true := by decide +kernel
set_option maxRecDepth 65536 in
theorem w_t4 : ((((words1.drop 24).drop 24).drop 24).take 24).all (fun c => isCode c || c.before args0 about1) = true := by decide +kernel
set_option maxRecDepth 65536 in
theorem w_t5 : (((((words1.drop 24).drop 24).drop 24).drop 24).take 24).all (fun c => isCode c || c.before args0 about1) = true := by decide +kernel
set_option maxRecDepth 65536 in
theorem w_t6 : ((((((words1.drop 24).drop 24).drop 24).drop 24).drop 24).take 24).all (fun c => isCode c || c.before args0 about1) = true := by decide +kernel
set_option maxRecDepth 65536 in
theorem w_t7 : (((((((words1.drop 24).drop 24).drop 24).drop 24).drop 24).drop 24).take 24).all (fun c => isCode c || c.before args0 about1) = true := by decide +kernel
set_option maxRecDepth 65536 in
theorem w_t8 : ((((((((words1.drop 24).drop 24).drop 24).drop 24).drop 24).drop 24).drop 24).take 24).all (fun c => isCode c || c.before args0 about1) = true := by decide +kernel
set_option maxRecDepth 65536 in
theorem w_t9 : ((((((((words1.drop 24).drop 24).drop 24).drop 24).drop 24).drop 24).drop 24).drop 24).all (fun c => isCode c || c.before args0 about1) = true := by decide +kernel
theorem w_tables : (allAtoms (Jvm.Cond.code x code maxLocals ret :: tables_1)).before args0 about1 = true := by
  rw [allAtoms_all]
  show words1.all (fun c => c.before args0 about1) = true
  refine all_split ?_ w_codes
  rw [← List.take_append_drop 24 words1, List.all_append, w_t1, ← List.take_append_drop 24 (words1.drop 24), List.all_append, w_t2, ← List.take_append_drop 24 ((words1.drop 24).drop 24), List.all_append, w_t3, ← List.take_append_drop 24 (((words1.drop 24).drop 24).drop 24), List.all_append, w_t4, ← List.take_append_drop 24 ((((words1.drop 24).drop 24).drop 24).drop 24), List.all_append, w_t5, ← List.take_append_drop 24 (((((words1.drop 24).drop 24).drop 24).drop 24).drop 24), List.all_append, w_t6, ← List.take_append_drop 24 ((((((words1.drop 24).drop 24).drop 24).drop 24).drop 24).drop 24), List.all_append, w_t7, ← List.take_append_drop 24 (((((((words1.drop 24).drop 24).drop 24).drop 24).drop 24).drop 24).drop 24), List.all_append, w_t8, w_t9]
  rfl
set_option maxRecDepth 65536 in
theorem w_rest : rest_1_c.before args0 about1 = true := by decide +kernel
set_option maxRecDepth 65536 in
theorem w_case : (Jvm.Cond.and given_1 narrow_1).before args0 about1 = true := by decide +kernel
set_option maxRecDepth 65536 in
theorem w_consts : constsHeld consts_1 about1 := Jvm.Lit.constsHeldB_iff.mp (by decide +kernel)
theorem w_applies : (headSpec (Jvm.Cond.code x code maxLocals ret :: tables_1) room_1).applies x e0.platform about1 = true :=
  (Spec.applies_iff w_frames).mpr ⟨w_running, w_runnable, w_alone, w_named, w_hears, w_ripe, w_room, w_tables⟩
theorem atStart : AtStart classFile x code maxLocals ret World_1 tables_1 room_1 Calls_1 rest_1 Pre_1 launch0 p0 e0 about1 theMethod args0 below0 :=
  ⟨lists_1, trivial, launch0.admits_env _ _ _, launch0.least_env, fairChoices_fair.cas, fairChoices_fair.clock, w_frames, w_args, w_heap, w_applies, ⟨w_consts, trivial⟩, w_rest, w_case⟩
end start1
theorem witness_1 : WitnessClaimed_1 := ⟨start1.p0, start1.e0, start1.about1, start1.theMethod, start1.args0, start1.below0, start1.atStart⟩
end Jvm.Pilot.@@N@@
