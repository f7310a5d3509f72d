import JvmDerived
import JvmDerived.Pilot.@@N@@Statement
import JvmDerived.Pilot.@@N@@Code
set_option linter.unusedVariables false
set_option linter.unusedSimpArgs false
namespace Jvm.Pilot.@@N@@
open Jvm Jvm.ClassFile Sem Op Lib Jvm.Free Jvm.Stand Jvm.LawKit Jvm.RoadKit Bundle Jvm.Pilot.@@N@@.Jvm.D
/-! ## The walk goes forward from its goal: own_W says that the run from here ends as Q asks. -/
def own_Post (s : State) (Q : Option Value → Heap → List Loc → Prop) (kc ks : Nat) (o : Outcome) (s₂ : State) : Prop := ∃ v L, o = .returned v ∧ Q v s₂.heap L ∧ FrameEnd s o s₂ L kc ks
def own_Fin (p : Program) (e : Env) (below : List Frame) (P : Outcome → State → Prop) (A : State) : Prop :=
  ∃ s₂ o, Steps p.tables e below A s₂ ∧ s₂.status = .running ∧ Ended s₂ below o ∧ P o s₂
def own_W (p : Program) (e : Env) (below : List Frame) (P : Outcome → State → Prop) (T : State) (m : MethodId) (pc : Nat) (Ls : Array Slot) (S : List Value) : Prop :=
  own_Fin p e below P (T.setTop (mkF m pc Ls S))
theorem own_w {Z : State} {a0 : Array Value} (hw : ∀ d ∈ tables_1, d.before a0 Z = true) (i : Nat) {d : Jvm.Cond} (h : tables_1[i]? = some d) : d.before a0 Z = true := hw d (List.mem_of_getElem? h)
section OwnKit
variable {p : Program} {l : Launch} {e : Env} {R : Room} {s : State} {m : MethodId} {args : Array Value} {below : List Frame} {meth : Method} {c : Code} {T : State} {locs : List Loc} {cells slots : Nat} {Z : State} {a0 : Array Value} {h : Heap}
  {P : Outcome → State → Prop} {Q : Option Value → Heap → List Loc → Prop} {kc ks : Nat} {pc pc' : Nat} {Ls Ls' : Array Slot} {S : List Value}
theorem own_go {A B : State} (st : ∀ t, Steps p.tables e below B t → Steps p.tables e below A t) (K : own_Fin p e below P B) : own_Fin p e below P A :=
  let ⟨s₂, o, h1, r⟩ := K; ⟨s₂, o, st _ h1, r⟩
theorem own_enter {ml : Nat} (q : entryFrame m args ml = mkF m 0 Ls []) (K : own_W p e below (own_Post s Q kc ks) T m 0 Ls []) :
    ∃ s₂ o, Steps p.tables e below (T.setTop (entryFrame m args ml)) s₂ ∧ s₂.status = .running ∧ Ended s₂ below o ∧ ∃ v L, o = .returned v ∧ Q v s₂.heap L ∧ FrameEnd s o s₂ L kc ks := by
  rw [q]; exact K
theorem own_iloadN (X : Stand p l e R s m args below meth c T locs cells slots) (hx : p.tables.exec = Jvm.exec) {k : Fin 4} {v : Int32} (hd : decode c.code pc = .ok (.iload_n k, 1)) (hp : pc + 1 = pc') (hl : Ls[k.val]? = some (.val (.int v))) (K : own_W p e below P T m pc' Ls (.int v :: S)) : own_W p e below P T m pc Ls S := by
  subst hp; exact own_go (fun t => XS.iloadN (g := mkF m pc Ls S) X.here hx rfl hd hl) K
theorem own_iload (X : Stand p l e R s m args below meth c T locs cells slots) (hx : p.tables.exec = Jvm.exec) {k : Nat} {v : Int32} (hd : decode c.code pc = .ok (.iload k, 2)) (hp : pc + 2 = pc') (hl : Ls[k]? = some (.val (.int v))) (K : own_W p e below P T m pc' Ls (.int v :: S)) : own_W p e below P T m pc Ls S := by
  subst hp; exact own_go (fun t => XS.iload (g := mkF m pc Ls S) X.here hx rfl hd hl) K
theorem own_lloadN (X : Stand p l e R s m args below meth c T locs cells slots) (hx : p.tables.exec = Jvm.exec) {k : Fin 4} {v : Int64} (hd : decode c.code pc = .ok (.lload_n k, 1)) (hp : pc + 1 = pc') (hl : Ls[k.val]? = some (.val (.long v))) (K : own_W p e below P T m pc' Ls (.long v :: S)) : own_W p e below P T m pc Ls S := by
  subst hp; exact own_go (fun t => XT.lloadN (g := mkF m pc Ls S) X.here hx rfl hd hl) K
theorem own_lload (X : Stand p l e R s m args below meth c T locs cells slots) (hx : p.tables.exec = Jvm.exec) {k : Nat} {v : Int64} (hd : decode c.code pc = .ok (.lload k, 2)) (hp : pc + 2 = pc') (hl : Ls[k]? = some (.val (.long v))) (K : own_W p e below P T m pc' Ls (.long v :: S)) : own_W p e below P T m pc Ls S := by
  subst hp; exact own_go (fun t => XT.lload (g := mkF m pc Ls S) X.here hx rfl hd hl) K
theorem own_aloadN (X : Stand p l e R s m args below meth c T locs cells slots) (hx : p.tables.exec = Jvm.exec) {k : Fin 4} {v : Value} (hd : decode c.code pc = .ok (.aload_n k, 1)) (hp : pc + 1 = pc') (hl : Ls[k.val]? = some (.val v)) (hv : v.isRef = true) (K : own_W p e below P T m pc' Ls (v :: S)) : own_W p e below P T m pc Ls S := by
  subst hp; exact own_go (fun t => XS.aloadN (g := mkF m pc Ls S) X.here hx rfl hd hl hv) K
theorem own_aload (X : Stand p l e R s m args below meth c T locs cells slots) (hx : p.tables.exec = Jvm.exec) {k : Nat} {v : Value} (hd : decode c.code pc = .ok (.aload k, 2)) (hp : pc + 2 = pc') (hl : Ls[k]? = some (.val v)) (hv : v.isRef = true) (K : own_W p e below P T m pc' Ls (v :: S)) : own_W p e below P T m pc Ls S := by
  subst hp; exact own_go (fun t => XS.aload (g := mkF m pc Ls S) X.here hx rfl hd hl hv) K
theorem own_istoreN (X : Stand p l e R s m args below meth c T locs cells slots) (hx : p.tables.exec = Jvm.exec) {k : Fin 4} {v : Int32} (hd : decode c.code pc = .ok (.istore_n k, 1)) (hp : pc + 1 = pc') (hl : storeLocals Ls k.val (.int v) = some Ls') (K : own_W p e below P T m pc' Ls' S) : own_W p e below P T m pc Ls (.int v :: S) := by
  subst hp; exact own_go (fun t => XS.istoreN (g := mkF m pc Ls (.int v :: S)) X.here hx rfl hd rfl hl) K
theorem own_istore (X : Stand p l e R s m args below meth c T locs cells slots) (hx : p.tables.exec = Jvm.exec) {k : Nat} {v : Int32} (hd : decode c.code pc = .ok (.istore k, 2)) (hp : pc + 2 = pc') (hl : storeLocals Ls k (.int v) = some Ls') (K : own_W p e below P T m pc' Ls' S) : own_W p e below P T m pc Ls (.int v :: S) := by
  subst hp; exact own_go (fun t => XS.istore (g := mkF m pc Ls (.int v :: S)) X.here hx rfl hd rfl hl) K
theorem own_lstoreN (X : Stand p l e R s m args below meth c T locs cells slots) (hx : p.tables.exec = Jvm.exec) {k : Fin 4} {v : Int64} (hd : decode c.code pc = .ok (.lstore_n k, 1)) (hp : pc + 1 = pc') (hl : storeLocals Ls k.val (.long v) = some Ls') (K : own_W p e below P T m pc' Ls' S) : own_W p e below P T m pc Ls (.long v :: S) := by
  subst hp; exact own_go (fun t => XT.lstoreN (g := mkF m pc Ls (.long v :: S)) X.here hx rfl hd rfl hl) K
theorem own_lstore (X : Stand p l e R s m args below meth c T locs cells slots) (hx : p.tables.exec = Jvm.exec) {k : Nat} {v : Int64} (hd : decode c.code pc = .ok (.lstore k, 2)) (hp : pc + 2 = pc') (hl : storeLocals Ls k (.long v) = some Ls') (K : own_W p e below P T m pc' Ls' S) : own_W p e below P T m pc Ls (.long v :: S) := by
  subst hp; exact own_go (fun t => XT.lstore (g := mkF m pc Ls (.long v :: S)) X.here hx rfl hd rfl hl) K
theorem own_astoreN (X : Stand p l e R s m args below meth c T locs cells slots) (hx : p.tables.exec = Jvm.exec) {k : Fin 4} {v : Value} (hd : decode c.code pc = .ok (.astore_n k, 1)) (hp : pc + 1 = pc') (hv : v.isRef = true) (hl : storeLocals Ls k.val v = some Ls') (K : own_W p e below P T m pc' Ls' S) : own_W p e below P T m pc Ls (v :: S) := by
  subst hp; exact own_go (fun t => XS.astoreN (g := mkF m pc Ls (v :: S)) X.here hx rfl hd rfl hv hl) K
theorem own_astore (X : Stand p l e R s m args below meth c T locs cells slots) (hx : p.tables.exec = Jvm.exec) {k : Nat} {v : Value} (hd : decode c.code pc = .ok (.astore k, 2)) (hp : pc + 2 = pc') (hv : v.isRef = true) (hl : storeLocals Ls k v = some Ls') (K : own_W p e below P T m pc' Ls' S) : own_W p e below P T m pc Ls (v :: S) := by
  subst hp; exact own_go (fun t => XS.astore (g := mkF m pc Ls (v :: S)) X.here hx rfl hd rfl hv hl) K
theorem own_iconst (X : Stand p l e R s m args below meth c T locs cells slots) (hx : p.tables.exec = Jvm.exec) {i : Int} (v : Int32) (hd : decode c.code pc = .ok (.iconst i, 1)) (hp : pc + 1 = pc') (hv : Int32.ofInt i = v) (K : own_W p e below P T m pc' Ls (.int v :: S)) : own_W p e below P T m pc Ls S := by
  subst hp hv; exact own_go (fun t => XS.iconst (g := mkF m pc Ls S) X.here hx rfl hd) K
theorem own_bipush (X : Stand p l e R s m args below meth c T locs cells slots) (hx : p.tables.exec = Jvm.exec) {i : Int} (v : Int32) (hd : decode c.code pc = .ok (.bipush i, 2)) (hp : pc + 2 = pc') (hv : (Int8.ofInt i).toInt32 = v) (K : own_W p e below P T m pc' Ls (.int v :: S)) : own_W p e below P T m pc Ls S := by
  subst hp; exact own_go (fun t => XT.bipushV (g := mkF m pc Ls S) X.here hx rfl v hd hv) K
theorem own_sipush (X : Stand p l e R s m args below meth c T locs cells slots) (hx : p.tables.exec = Jvm.exec) {i : Int} (v : Int32) (hd : decode c.code pc = .ok (.sipush i, 3)) (hp : pc + 3 = pc') (hv : (Int16.ofInt i).toInt32 = v) (K : own_W p e below P T m pc' Ls (.int v :: S)) : own_W p e below P T m pc Ls S := by
  subst hp; exact own_go (fun t => XT.sipushV (g := mkF m pc Ls S) X.here hx rfl v hd hv) K
theorem own_lconst (X : Stand p l e R s m args below meth c T locs cells slots) (hx : p.tables.exec = Jvm.exec) {k : Fin 2} (v : Int64) (hd : decode c.code pc = .ok (.lconst k, 1)) (hp : pc + 1 = pc') (hv : Int64.ofNat k = v) (K : own_W p e below P T m pc' Ls (.long v :: S)) : own_W p e below P T m pc Ls S := by
  subst hp; exact own_go (fun t => XT.lconstV (g := mkF m pc Ls S) X.here hx rfl v hd hv) K
theorem own_aconst_null (X : Stand p l e R s m args below meth c T locs cells slots) (hx : p.tables.exec = Jvm.exec) (hd : decode c.code pc = .ok (.aconst_null, 1)) (hp : pc + 1 = pc') (K : own_W p e below P T m pc' Ls (.null :: S)) : own_W p e below P T m pc Ls S := by
  subst hp; exact own_go (fun t => XS.aconstNull (g := mkF m pc Ls S) X.here hx rfl hd) K
theorem own_ldc (X : Stand p l e R s m args below meth c T locs cells slots) (hx : p.tables.exec = Jvm.exec) (hZ : Z.Warmed39 s.vm) {own : String} {index : Nat} {v : Int32} (hown : s.vm.findClass own = some m.cls) (w : (Cond.constant own index v).before a0 Z = true) (hd : decode c.code pc = .ok (.ldc index, 2)) (hp : pc + 2 = pc') (K : own_W p e below P T m pc' Ls (.int v :: S)) : own_W p e below P T m pc Ls S := by
  subst hp; exact own_go (fun t => X.ldcI (g := mkF m pc Ls S) hx hown (mvT hZ w) rfl hd) K
theorem own_ldc2 (X : Stand p l e R s m args below meth c T locs cells slots) (hx : p.tables.exec = Jvm.exec) (hZ : Z.Warmed39 s.vm) {own : String} {index : Nat} {v : Int64} (hown : s.vm.findClass own = some m.cls) (w : (Cond.constantLong own index v).before a0 Z = true) (hd : decode c.code pc = .ok (.ldc2_w index, 3)) (hp : pc + 3 = pc') (K : own_W p e below P T m pc' Ls (.long v :: S)) : own_W p e below P T m pc Ls S := by
  subst hp; exact own_go (fun t => X.ldc2J (g := mkF m pc Ls S) hx hown (mvT hZ w) rfl hd) K
theorem own_iadd (X : Stand p l e R s m args below meth c T locs cells slots) (hx : p.tables.exec = Jvm.exec) {x y : Int32} (hd : decode c.code pc = .ok (.iadd, 1)) (hp : pc + 1 = pc') (K : own_W p e below P T m pc' Ls (.int (x + y) :: S)) : own_W p e below P T m pc Ls (.int y :: .int x :: S) := by
  subst hp; exact own_go (fun t => XS.iadd (g := mkF m pc Ls (.int y :: .int x :: S)) X.here hx rfl hd rfl) K
theorem own_isub (X : Stand p l e R s m args below meth c T locs cells slots) (hx : p.tables.exec = Jvm.exec) {x y : Int32} (hd : decode c.code pc = .ok (.isub, 1)) (hp : pc + 1 = pc') (K : own_W p e below P T m pc' Ls (.int (x - y) :: S)) : own_W p e below P T m pc Ls (.int y :: .int x :: S) := by
  subst hp; exact own_go (fun t => XS.isub (g := mkF m pc Ls (.int y :: .int x :: S)) X.here hx rfl hd rfl) K
theorem own_imul (X : Stand p l e R s m args below meth c T locs cells slots) (hx : p.tables.exec = Jvm.exec) {x y : Int32} (hd : decode c.code pc = .ok (.imul, 1)) (hp : pc + 1 = pc') (K : own_W p e below P T m pc' Ls (.int (x * y) :: S)) : own_W p e below P T m pc Ls (.int y :: .int x :: S) := by
  subst hp; exact own_go (fun t => XS.imul (g := mkF m pc Ls (.int y :: .int x :: S)) X.here hx rfl hd rfl) K
theorem own_iand (X : Stand p l e R s m args below meth c T locs cells slots) (hx : p.tables.exec = Jvm.exec) {x y : Int32} (hd : decode c.code pc = .ok (.iand, 1)) (hp : pc + 1 = pc') (K : own_W p e below P T m pc' Ls (.int (x &&& y) :: S)) : own_W p e below P T m pc Ls (.int y :: .int x :: S) := by
  subst hp; exact own_go (fun t => XS.iand (g := mkF m pc Ls (.int y :: .int x :: S)) X.here hx rfl hd rfl) K
theorem own_ior (X : Stand p l e R s m args below meth c T locs cells slots) (hx : p.tables.exec = Jvm.exec) {x y : Int32} (hd : decode c.code pc = .ok (.ior, 1)) (hp : pc + 1 = pc') (K : own_W p e below P T m pc' Ls (.int (x ||| y) :: S)) : own_W p e below P T m pc Ls (.int y :: .int x :: S) := by
  subst hp; exact own_go (fun t => XT.ior (g := mkF m pc Ls (.int y :: .int x :: S)) X.here hx rfl hd rfl) K
theorem own_ixor (X : Stand p l e R s m args below meth c T locs cells slots) (hx : p.tables.exec = Jvm.exec) {x y : Int32} (hd : decode c.code pc = .ok (.ixor, 1)) (hp : pc + 1 = pc') (K : own_W p e below P T m pc' Ls (.int (x ^^^ y) :: S)) : own_W p e below P T m pc Ls (.int y :: .int x :: S) := by
  subst hp; exact own_go (fun t => XT.ixor (g := mkF m pc Ls (.int y :: .int x :: S)) X.here hx rfl hd rfl) K
theorem own_ishl (X : Stand p l e R s m args below meth c T locs cells slots) (hx : p.tables.exec = Jvm.exec) {x y : Int32} (hd : decode c.code pc = .ok (.ishl, 1)) (hp : pc + 1 = pc') (K : own_W p e below P T m pc' Ls (.int (x <<< (y &&& 31)) :: S)) : own_W p e below P T m pc Ls (.int y :: .int x :: S) := by
  subst hp; exact own_go (fun t => XT.ishl (g := mkF m pc Ls (.int y :: .int x :: S)) X.here hx rfl hd rfl) K
theorem own_ishr (X : Stand p l e R s m args below meth c T locs cells slots) (hx : p.tables.exec = Jvm.exec) {x y : Int32} (hd : decode c.code pc = .ok (.ishr, 1)) (hp : pc + 1 = pc') (K : own_W p e below P T m pc' Ls (.int (x >>> (y &&& 31)) :: S)) : own_W p e below P T m pc Ls (.int y :: .int x :: S) := by
  subst hp; exact own_go (fun t => XT.ishr (g := mkF m pc Ls (.int y :: .int x :: S)) X.here hx rfl hd rfl) K
theorem own_iushr (X : Stand p l e R s m args below meth c T locs cells slots) (hx : p.tables.exec = Jvm.exec) {x y : Int32} (hd : decode c.code pc = .ok (.iushr, 1)) (hp : pc + 1 = pc') (K : own_W p e below P T m pc' Ls (.int (XT.ushr x y) :: S)) : own_W p e below P T m pc Ls (.int y :: .int x :: S) := by
  subst hp; exact own_go (fun t => XT.iushr (g := mkF m pc Ls (.int y :: .int x :: S)) X.here hx rfl hd rfl) K
theorem own_ladd (X : Stand p l e R s m args below meth c T locs cells slots) (hx : p.tables.exec = Jvm.exec) {x y : Int64} (hd : decode c.code pc = .ok (.ladd, 1)) (hp : pc + 1 = pc') (K : own_W p e below P T m pc' Ls (.long (x + y) :: S)) : own_W p e below P T m pc Ls (.long y :: .long x :: S) := by
  subst hp; exact own_go (fun t => XT.ladd (g := mkF m pc Ls (.long y :: .long x :: S)) X.here hx rfl hd rfl) K
theorem own_lsub (X : Stand p l e R s m args below meth c T locs cells slots) (hx : p.tables.exec = Jvm.exec) {x y : Int64} (hd : decode c.code pc = .ok (.lsub, 1)) (hp : pc + 1 = pc') (K : own_W p e below P T m pc' Ls (.long (x - y) :: S)) : own_W p e below P T m pc Ls (.long y :: .long x :: S) := by
  subst hp; exact own_go (fun t => XT.lsub (g := mkF m pc Ls (.long y :: .long x :: S)) X.here hx rfl hd rfl) K
theorem own_lmul (X : Stand p l e R s m args below meth c T locs cells slots) (hx : p.tables.exec = Jvm.exec) {x y : Int64} (hd : decode c.code pc = .ok (.lmul, 1)) (hp : pc + 1 = pc') (K : own_W p e below P T m pc' Ls (.long (x * y) :: S)) : own_W p e below P T m pc Ls (.long y :: .long x :: S) := by
  subst hp; exact own_go (fun t => XT.lmul (g := mkF m pc Ls (.long y :: .long x :: S)) X.here hx rfl hd rfl) K
theorem own_land (X : Stand p l e R s m args below meth c T locs cells slots) (hx : p.tables.exec = Jvm.exec) {x y : Int64} (hd : decode c.code pc = .ok (.land, 1)) (hp : pc + 1 = pc') (K : own_W p e below P T m pc' Ls (.long (x &&& y) :: S)) : own_W p e below P T m pc Ls (.long y :: .long x :: S) := by
  subst hp; exact own_go (fun t => XT.land (g := mkF m pc Ls (.long y :: .long x :: S)) X.here hx rfl hd rfl) K
theorem own_lor (X : Stand p l e R s m args below meth c T locs cells slots) (hx : p.tables.exec = Jvm.exec) {x y : Int64} (hd : decode c.code pc = .ok (.lor, 1)) (hp : pc + 1 = pc') (K : own_W p e below P T m pc' Ls (.long (x ||| y) :: S)) : own_W p e below P T m pc Ls (.long y :: .long x :: S) := by
  subst hp; exact own_go (fun t => XT.lor (g := mkF m pc Ls (.long y :: .long x :: S)) X.here hx rfl hd rfl) K
theorem own_lxor (X : Stand p l e R s m args below meth c T locs cells slots) (hx : p.tables.exec = Jvm.exec) {x y : Int64} (hd : decode c.code pc = .ok (.lxor, 1)) (hp : pc + 1 = pc') (K : own_W p e below P T m pc' Ls (.long (x ^^^ y) :: S)) : own_W p e below P T m pc Ls (.long y :: .long x :: S) := by
  subst hp; exact own_go (fun t => XT.lxor (g := mkF m pc Ls (.long y :: .long x :: S)) X.here hx rfl hd rfl) K
theorem own_lshl (X : Stand p l e R s m args below meth c T locs cells slots) (hx : p.tables.exec = Jvm.exec) {x : Int64} {y : Int32} (hd : decode c.code pc = .ok (.lshl, 1)) (hp : pc + 1 = pc') (K : own_W p e below P T m pc' Ls (.long (x <<< (y.toInt64 &&& 63)) :: S)) : own_W p e below P T m pc Ls (.int y :: .long x :: S) := by
  subst hp; exact own_go (fun t => XT.lshl (g := mkF m pc Ls (.int y :: .long x :: S)) X.here hx rfl hd rfl) K
theorem own_lshr (X : Stand p l e R s m args below meth c T locs cells slots) (hx : p.tables.exec = Jvm.exec) {x : Int64} {y : Int32} (hd : decode c.code pc = .ok (.lshr, 1)) (hp : pc + 1 = pc') (K : own_W p e below P T m pc' Ls (.long (x >>> (y.toInt64 &&& 63)) :: S)) : own_W p e below P T m pc Ls (.int y :: .long x :: S) := by
  subst hp; exact own_go (fun t => XT.lshr (g := mkF m pc Ls (.int y :: .long x :: S)) X.here hx rfl hd rfl) K
theorem own_lushr (X : Stand p l e R s m args below meth c T locs cells slots) (hx : p.tables.exec = Jvm.exec) {x : Int64} {y : Int32} (hd : decode c.code pc = .ok (.lushr, 1)) (hp : pc + 1 = pc') (K : own_W p e below P T m pc' Ls (.long (XT.ushrL x y) :: S)) : own_W p e below P T m pc Ls (.int y :: .long x :: S) := by
  subst hp; exact own_go (fun t => XT.lushr (g := mkF m pc Ls (.int y :: .long x :: S)) X.here hx rfl hd rfl) K
theorem own_idiv (X : Stand p l e R s m args below meth c T locs cells slots) (hx : p.tables.exec = Jvm.exec) {x y : Int32} (hd : decode c.code pc = .ok (.idiv, 1)) (hp : pc + 1 = pc') (hy : y ≠ 0) (K : own_W p e below P T m pc' Ls (.int (x / y) :: S)) : own_W p e below P T m pc Ls (.int y :: .int x :: S) := by
  subst hp; exact own_go (fun t => XS.idiv (g := mkF m pc Ls (.int y :: .int x :: S)) X.here hx rfl hd rfl hy) K
theorem own_irem (X : Stand p l e R s m args below meth c T locs cells slots) (hx : p.tables.exec = Jvm.exec) {x y : Int32} (hd : decode c.code pc = .ok (.irem, 1)) (hp : pc + 1 = pc') (hy : y ≠ 0) (K : own_W p e below P T m pc' Ls (.int (x % y) :: S)) : own_W p e below P T m pc Ls (.int y :: .int x :: S) := by
  subst hp; exact own_go (fun t => iremM (g := mkF m pc Ls (.int y :: .int x :: S)) X hx rfl hd rfl hy) K
theorem own_ldiv (X : Stand p l e R s m args below meth c T locs cells slots) (hx : p.tables.exec = Jvm.exec) {x y : Int64} (hd : decode c.code pc = .ok (.ldiv, 1)) (hp : pc + 1 = pc') (hy : y ≠ 0) (K : own_W p e below P T m pc' Ls (.long (x / y) :: S)) : own_W p e below P T m pc Ls (.long y :: .long x :: S) := by
  subst hp; exact own_go (fun t => XT.ldiv (g := mkF m pc Ls (.long y :: .long x :: S)) X.here hx rfl hd rfl hy) K
theorem own_lrem (X : Stand p l e R s m args below meth c T locs cells slots) (hx : p.tables.exec = Jvm.exec) {x y : Int64} (hd : decode c.code pc = .ok (.lrem, 1)) (hp : pc + 1 = pc') (hy : y ≠ 0) (K : own_W p e below P T m pc' Ls (.long (x % y) :: S)) : own_W p e below P T m pc Ls (.long y :: .long x :: S) := by
  subst hp; rw [← lrem_mod] at K; exact own_go (fun t => XT.lrem (g := mkF m pc Ls (.long y :: .long x :: S)) X.here hx rfl hd rfl hy) K
theorem own_ineg (X : Stand p l e R s m args below meth c T locs cells slots) (hx : p.tables.exec = Jvm.exec) {x : Int32} (hd : decode c.code pc = .ok (.ineg, 1)) (hp : pc + 1 = pc') (K : own_W p e below P T m pc' Ls (.int (-x) :: S)) : own_W p e below P T m pc Ls (.int x :: S) := by
  subst hp; exact own_go (fun t => XS.ineg (g := mkF m pc Ls (.int x :: S)) X.here hx rfl hd rfl) K
theorem own_lneg (X : Stand p l e R s m args below meth c T locs cells slots) (hx : p.tables.exec = Jvm.exec) {x : Int64} (hd : decode c.code pc = .ok (.lneg, 1)) (hp : pc + 1 = pc') (K : own_W p e below P T m pc' Ls (.long (-x) :: S)) : own_W p e below P T m pc Ls (.long x :: S) := by
  subst hp; exact own_go (fun t => XT.lneg (g := mkF m pc Ls (.long x :: S)) X.here hx rfl hd rfl) K
theorem own_i2l (X : Stand p l e R s m args below meth c T locs cells slots) (hx : p.tables.exec = Jvm.exec) {x : Int32} (hd : decode c.code pc = .ok (.i2l, 1)) (hp : pc + 1 = pc') (K : own_W p e below P T m pc' Ls (.long (x.toInt64) :: S)) : own_W p e below P T m pc Ls (.int x :: S) := by
  subst hp; exact own_go (fun t => XT.i2l (g := mkF m pc Ls (.int x :: S)) X.here hx rfl hd rfl) K
theorem own_l2i (X : Stand p l e R s m args below meth c T locs cells slots) (hx : p.tables.exec = Jvm.exec) {x : Int64} (hd : decode c.code pc = .ok (.l2i, 1)) (hp : pc + 1 = pc') (K : own_W p e below P T m pc' Ls (.int (x.toInt32) :: S)) : own_W p e below P T m pc Ls (.long x :: S) := by
  subst hp; exact own_go (fun t => XT.l2i (g := mkF m pc Ls (.long x :: S)) X.here hx rfl hd rfl) K
theorem own_i2b (X : Stand p l e R s m args below meth c T locs cells slots) (hx : p.tables.exec = Jvm.exec) {x : Int32} (hd : decode c.code pc = .ok (.i2b, 1)) (hp : pc + 1 = pc') (K : own_W p e below P T m pc' Ls (.int (x.toInt8.toInt32) :: S)) : own_W p e below P T m pc Ls (.int x :: S) := by
  subst hp; exact own_go (fun t => XT.i2b (g := mkF m pc Ls (.int x :: S)) X.here hx rfl hd rfl) K
theorem own_i2c (X : Stand p l e R s m args below meth c T locs cells slots) (hx : p.tables.exec = Jvm.exec) {x : Int32} (hd : decode c.code pc = .ok (.i2c, 1)) (hp : pc + 1 = pc') (K : own_W p e below P T m pc' Ls (.int (x.toUInt32.toUInt16.toUInt32.toInt32) :: S)) : own_W p e below P T m pc Ls (.int x :: S) := by
  subst hp; exact own_go (fun t => XT.i2c (g := mkF m pc Ls (.int x :: S)) X.here hx rfl hd rfl) K
theorem own_i2s (X : Stand p l e R s m args below meth c T locs cells slots) (hx : p.tables.exec = Jvm.exec) {x : Int32} (hd : decode c.code pc = .ok (.i2s, 1)) (hp : pc + 1 = pc') (K : own_W p e below P T m pc' Ls (.int (x.toInt16.toInt32) :: S)) : own_W p e below P T m pc Ls (.int x :: S) := by
  subst hp; exact own_go (fun t => XT.i2s (g := mkF m pc Ls (.int x :: S)) X.here hx rfl hd rfl) K
theorem own_iinc (X : Stand p l e R s m args below meth c T locs cells slots) (hx : p.tables.exec = Jvm.exec) {k : Nat} {cst : Int} {x : Int32} (v : Int32) (hd : decode c.code pc = .ok (.iinc k cst, 3)) (hp : pc + 3 = pc') (hv : Int32.ofInt cst = v) (hl : Ls[k]? = some (.val (.int x))) (hl' : storeLocals Ls k (.int (x + v)) = some Ls') (K : own_W p e below P T m pc' Ls' S) : own_W p e below P T m pc Ls S := by
  subst hp; exact own_go (fun t => XT.iincV (g := mkF m pc Ls S) X.here hx rfl v hd hv hl hl') K
theorem own_dup (X : Stand p l e R s m args below meth c T locs cells slots) (hx : p.tables.exec = Jvm.exec) {x : Value} (hd : decode c.code pc = .ok (.dup, 1)) (hp : pc + 1 = pc') (hc : x.category = 1) (K : own_W p e below P T m pc' Ls (x :: x :: S)) : own_W p e below P T m pc Ls (x :: S) := by
  subst hp; exact own_go (fun t => XS.dup (g := mkF m pc Ls (x :: S)) X.here hx rfl hd rfl hc) K
theorem own_pop (X : Stand p l e R s m args below meth c T locs cells slots) (hx : p.tables.exec = Jvm.exec) {x : Value} (hd : decode c.code pc = .ok (.pop, 1)) (hp : pc + 1 = pc') (hc : x.category = 1) (K : own_W p e below P T m pc' Ls S) : own_W p e below P T m pc Ls (x :: S) := by
  subst hp; exact own_go (fun t => XT.pop (g := mkF m pc Ls (x :: S)) X.here hx rfl hd rfl hc) K
theorem own_dup2 (X : Stand p l e R s m args below meth c T locs cells slots) (hx : p.tables.exec = Jvm.exec) {x y : Value} (hd : decode c.code pc = .ok (.dup2, 1)) (hp : pc + 1 = pc') (hc : x.category = 1) (hc' : y.category = 1) (K : own_W p e below P T m pc' Ls (x :: y :: x :: y :: S)) : own_W p e below P T m pc Ls (x :: y :: S) := by
  subst hp; exact own_go (fun t => XT.dup2 (g := mkF m pc Ls (x :: y :: S)) X.here hx rfl hd rfl hc hc') K
theorem own_goto (X : Stand p l e R s m args below meth c T locs cells slots) (hx : p.tables.exec = Jvm.exec) {o : Int} (hd : decode c.code pc = .ok (.goto o, 3)) (ho : 0 ≤ (pc : Int) + o) (hp : ((pc : Int) + o).toNat = pc') (K : own_W p e below P T m pc' Ls S) : own_W p e below P T m pc Ls S :=
  own_go (fun t => XS.goto (g := mkF m pc Ls S) X.here hx rfl (pc0 := pc) (pc' := pc') rfl hd ho hp) K
/-- what a taken branch tells (own_P), what one that isn't taken tells (own_N) -/
def own_P : ClassFile.Cond → Int32 → Int32 → Prop
  | .eq, x, y => x = y
  | .ne, x, y => ¬ x = y
  | .lt, x, y => x < y
  | .ge, x, y => ¬ x < y
  | .gt, x, y => y < x
  | .le, x, y => ¬ y < x
def own_N : ClassFile.Cond → Int32 → Int32 → Prop
  | .eq, x, y => ¬ x = y
  | .ne, x, y => x = y
  | .lt, x, y => ¬ x < y
  | .ge, x, y => x < y
  | .gt, x, y => ¬ y < x
  | .le, x, y => y < x
theorem own_holdsT {cd : ClassFile.Cond} {x y : Int32} (q : own_P cd x y) : if_icmp.holds cd x y = true := by
  cases cd <;> first | exact (teq q).1 | exact (feq q).2 | exact (tlt q).1 | exact (flt q).2.1 | exact (tlt q).2.2.1 | exact (flt q).2.2.2
theorem own_holdsF {cd : ClassFile.Cond} {x y : Int32} (q : own_N cd x y) : if_icmp.holds cd x y = false := by
  cases cd <;> first | exact (feq q).1 | exact (teq q).2 | exact (flt q).1 | exact (tlt q).2.1 | exact (flt q).2.2.1 | exact (tlt q).2.2.2
theorem own_or (cd : ClassFile.Cond) (x y : Int32) : own_P cd x y ∨ own_N cd x y := by
  cases cd
  · exact Classical.em (x = y)
  · exact (Classical.em (x = y)).symm
  · exact Classical.em (x < y)
  · exact (Classical.em (x < y)).symm
  · exact Classical.em (y < x)
  · exact (Classical.em (y < x)).symm
theorem own_icmpY (X : Stand p l e R s m args below meth c T locs cells slots) (hx : p.tables.exec = Jvm.exec) {cd : ClassFile.Cond} {x y : Int32} {o : Int} (hd : decode c.code pc = .ok (.if_icmp cd o, 3)) (ho : 0 ≤ (pc : Int) + o) (hp : ((pc : Int) + o).toNat = pc') (q : own_P cd x y) (K : own_W p e below P T m pc' Ls S) : own_W p e below P T m pc Ls (.int y :: .int x :: S) :=
  own_go (fun t => XS.icmpYes (g := mkF m pc Ls (.int y :: .int x :: S)) X.here hx rfl (pc0 := pc) (pc' := pc') rfl hd rfl (own_holdsT q) ho hp) K
theorem own_icmpN (X : Stand p l e R s m args below meth c T locs cells slots) (hx : p.tables.exec = Jvm.exec) {cd : ClassFile.Cond} {x y : Int32} {o : Int} (hd : decode c.code pc = .ok (.if_icmp cd o, 3)) (hp : pc + 3 = pc') (q : own_N cd x y) (K : own_W p e below P T m pc' Ls S) : own_W p e below P T m pc Ls (.int y :: .int x :: S) := by
  subst hp; exact own_go (fun t => XS.icmpNo (g := mkF m pc Ls (.int y :: .int x :: S)) X.here hx rfl hd rfl (own_holdsF q)) K
theorem own_icmp (X : Stand p l e R s m args below meth c T locs cells slots) (hx : p.tables.exec = Jvm.exec) {cd : ClassFile.Cond} {x y : Int32} {o : Int} {pcY pcN : Nat} (hd : decode c.code pc = .ok (.if_icmp cd o, 3)) (ho : 0 ≤ (pc : Int) + o) (hY : ((pc : Int) + o).toNat = pcY) (hN : pc + 3 = pcN) (KY : own_P cd x y → own_W p e below P T m pcY Ls S) (KN : own_N cd x y → own_W p e below P T m pcN Ls S) : own_W p e below P T m pc Ls (.int y :: .int x :: S) :=
  (own_or cd x y).elim (fun q => own_icmpY X hx hd ho hY q (KY q)) (fun q => own_icmpN X hx hd hN q (KN q))
theorem own_ifY (X : Stand p l e R s m args below meth c T locs cells slots) (hx : p.tables.exec = Jvm.exec) {cd : ClassFile.Cond} {x : Int32} {o : Int} (hd : decode c.code pc = .ok (.ifCond cd o, 3)) (ho : 0 ≤ (pc : Int) + o) (hp : ((pc : Int) + o).toNat = pc') (q : own_P cd x 0) (K : own_W p e below P T m pc' Ls S) : own_W p e below P T m pc Ls (.int x :: S) :=
  own_go (fun t => XS.ifYes (g := mkF m pc Ls (.int x :: S)) X.here hx rfl (pc0 := pc) (pc' := pc') rfl hd rfl ((if0 _ _).trans (own_holdsT q)) ho hp) K
theorem own_ifN (X : Stand p l e R s m args below meth c T locs cells slots) (hx : p.tables.exec = Jvm.exec) {cd : ClassFile.Cond} {x : Int32} {o : Int} (hd : decode c.code pc = .ok (.ifCond cd o, 3)) (hp : pc + 3 = pc') (q : own_N cd x 0) (K : own_W p e below P T m pc' Ls S) : own_W p e below P T m pc Ls (.int x :: S) := by
  subst hp; exact own_go (fun t => XS.ifNo (g := mkF m pc Ls (.int x :: S)) X.here hx rfl hd rfl ((if0 _ _).trans (own_holdsF q))) K
theorem own_if (X : Stand p l e R s m args below meth c T locs cells slots) (hx : p.tables.exec = Jvm.exec) {cd : ClassFile.Cond} {x : Int32} {o : Int} {pcY pcN : Nat} (hd : decode c.code pc = .ok (.ifCond cd o, 3)) (ho : 0 ≤ (pc : Int) + o) (hY : ((pc : Int) + o).toNat = pcY) (hN : pc + 3 = pcN) (KY : own_P cd x 0 → own_W p e below P T m pcY Ls S) (KN : own_N cd x 0 → own_W p e below P T m pcN Ls S) : own_W p e below P T m pc Ls (.int x :: S) :=
  (own_or cd x 0).elim (fun q => own_ifY X hx hd ho hY q (KY q)) (fun q => own_ifN X hx hd hN q (KN q))
/-- the same of two longs: lcmp and the branch behind it, in one -/
def own_PL : ClassFile.Cond → Int64 → Int64 → Prop
  | .eq, x, y => x = y
  | .ne, x, y => ¬ x = y
  | .lt, x, y => x < y
  | .ge, x, y => ¬ x < y
  | .gt, x, y => y < x
  | .le, x, y => ¬ y < x
def own_NL : ClassFile.Cond → Int64 → Int64 → Prop
  | .eq, x, y => ¬ x = y
  | .ne, x, y => x = y
  | .lt, x, y => ¬ x < y
  | .ge, x, y => x < y
  | .gt, x, y => ¬ y < x
  | .le, x, y => y < x
theorem own_holdsLT {cd : ClassFile.Cond} {x y : Int64} (q : own_PL cd x y) : ifCond.holds cd (XT.cmpL x y) = true := by
  cases cd
  · exact XT.ll_eq_t q
  · exact XT.ll_ne_t q
  · exact XT.ll_lt_t q
  · exact XT.ll_ge_t q
  · exact XT.ll_gt_t q
  · exact XT.ll_le_t q
theorem own_holdsLF {cd : ClassFile.Cond} {x y : Int64} (q : own_NL cd x y) : ifCond.holds cd (XT.cmpL x y) = false := by
  cases cd
  · exact XT.ll_eq_f q
  · exact XT.ll_ne_f q
  · exact XT.ll_lt_f q
  · exact XT.ll_ge_f q
  · exact XT.ll_gt_f q
  · exact XT.ll_le_f q
theorem own_orL (cd : ClassFile.Cond) (x y : Int64) : own_PL cd x y ∨ own_NL cd x y := by
  cases cd
  · exact Classical.em (x = y)
  · exact (Classical.em (x = y)).symm
  · exact Classical.em (x < y)
  · exact (Classical.em (x < y)).symm
  · exact Classical.em (y < x)
  · exact (Classical.em (y < x)).symm
theorem own_lcY (X : Stand p l e R s m args below meth c T locs cells slots) (hx : p.tables.exec = Jvm.exec) {cd : ClassFile.Cond} {x y : Int64} {o : Int} (hd1 : decode c.code pc = .ok (.lcmp, 1)) (hd : decode c.code (pc + 1) = .ok (.ifCond cd o, 3)) (ho : 0 ≤ ((pc + 1 : Nat) : Int) + o) (hp : (((pc + 1 : Nat) : Int) + o).toNat = pc') (q : own_PL cd x y) (K : own_W p e below P T m pc' Ls S) : own_W p e below P T m pc Ls (.long y :: .long x :: S) :=
  own_go (fun t => XT.lcmp (g := mkF m pc Ls (.long y :: .long x :: S)) X.here hx rfl hd1 rfl) (own_go (fun t => XS.ifYes (g := mkF m (pc + 1) Ls (.int (XT.cmpL x y) :: S)) X.here hx rfl (pc0 := pc + 1) (pc' := pc') rfl hd rfl (own_holdsLT q) ho hp) K)
theorem own_lcN (X : Stand p l e R s m args below meth c T locs cells slots) (hx : p.tables.exec = Jvm.exec) {cd : ClassFile.Cond} {x y : Int64} {o : Int} (hd1 : decode c.code pc = .ok (.lcmp, 1)) (hd : decode c.code (pc + 1) = .ok (.ifCond cd o, 3)) (hp : pc + 4 = pc') (q : own_NL cd x y) (K : own_W p e below P T m pc' Ls S) : own_W p e below P T m pc Ls (.long y :: .long x :: S) := by
  subst hp; exact own_go (fun t => XT.lcmp (g := mkF m pc Ls (.long y :: .long x :: S)) X.here hx rfl hd1 rfl) (own_go (fun t => XS.ifNo (g := mkF m (pc + 1) Ls (.int (XT.cmpL x y) :: S)) X.here hx rfl hd rfl (own_holdsLF q)) K)
theorem own_lc (X : Stand p l e R s m args below meth c T locs cells slots) (hx : p.tables.exec = Jvm.exec) {cd : ClassFile.Cond} {x y : Int64} {o : Int} {pcY pcN : Nat} (hd1 : decode c.code pc = .ok (.lcmp, 1)) (hd : decode c.code (pc + 1) = .ok (.ifCond cd o, 3)) (ho : 0 ≤ ((pc + 1 : Nat) : Int) + o) (hY : (((pc + 1 : Nat) : Int) + o).toNat = pcY) (hN : pc + 4 = pcN) (KY : own_PL cd x y → own_W p e below P T m pcY Ls S) (KN : own_NL cd x y → own_W p e below P T m pcN Ls S) : own_W p e below P T m pc Ls (.long y :: .long x :: S) :=
  (own_orL cd x y).elim (fun q => own_lcY X hx hd1 hd ho hY q (KY q)) (fun q => own_lcN X hx hd1 hd hN q (KN q))
theorem own_ifnullY (X : Stand p l e R s m args below meth c T locs cells slots) (hx : p.tables.exec = Jvm.exec) {o : Int} (hd : decode c.code pc = .ok (.ifnull o, 3)) (ho : 0 ≤ (pc : Int) + o) (hp : ((pc : Int) + o).toNat = pc') (K : own_W p e below P T m pc' Ls S) : own_W p e below P T m pc Ls (.null :: S) :=
  own_go (fun t => XS.ifnullYes (g := mkF m pc Ls (.null :: S)) X.here hx rfl (pc0 := pc) (pc' := pc') rfl hd rfl ho hp) K
theorem own_ifnullN (X : Stand p l e R s m args below meth c T locs cells slots) (hx : p.tables.exec = Jvm.exec) {o : Int} {a : Addr} (hd : decode c.code pc = .ok (.ifnull o, 3)) (hp : pc + 3 = pc') (K : own_W p e below P T m pc' Ls S) : own_W p e below P T m pc Ls (.ref a :: S) := by
  subst hp; exact own_go (fun t => XS.ifnullNo (g := mkF m pc Ls (.ref a :: S)) X.here hx rfl hd rfl) K
theorem own_ifnonnullY (X : Stand p l e R s m args below meth c T locs cells slots) (hx : p.tables.exec = Jvm.exec) {o : Int} {a : Addr} (hd : decode c.code pc = .ok (.ifnonnull o, 3)) (ho : 0 ≤ (pc : Int) + o) (hp : ((pc : Int) + o).toNat = pc') (K : own_W p e below P T m pc' Ls S) : own_W p e below P T m pc Ls (.ref a :: S) :=
  own_go (fun t => XT.ifnonnullYes (g := mkF m pc Ls (.ref a :: S)) X.here hx rfl (pc0 := pc) (pc' := pc') rfl hd rfl ho hp) K
theorem own_ifnonnullN (X : Stand p l e R s m args below meth c T locs cells slots) (hx : p.tables.exec = Jvm.exec) {o : Int} (hd : decode c.code pc = .ok (.ifnonnull o, 3)) (hp : pc + 3 = pc') (K : own_W p e below P T m pc' Ls S) : own_W p e below P T m pc Ls (.null :: S) := by
  subst hp; exact own_go (fun t => XT.ifnonnullNo (g := mkF m pc Ls (.null :: S)) X.here hx rfl hd rfl) K
theorem own_acmpY (X : Stand p l e R s m args below meth c T locs cells slots) (hx : p.tables.exec = Jvm.exec) {cd : ClassFile.ACond} {x y : Value} {o : Int} (hd : decode c.code pc = .ok (.if_acmp cd o, 3)) (ho : 0 ≤ (pc : Int) + o) (hp : ((pc : Int) + o).toNat = pc') (hx' : x.isRef = true) (hy' : y.isRef = true) (q : XT.acmp cd x y = true) (K : own_W p e below P T m pc' Ls S) : own_W p e below P T m pc Ls (y :: x :: S) :=
  own_go (fun t => XT.acmpYes (g := mkF m pc Ls (y :: x :: S)) X.here hx rfl (pc0 := pc) (pc' := pc') rfl hd rfl hx' hy' q ho hp) K
theorem own_acmpN (X : Stand p l e R s m args below meth c T locs cells slots) (hx : p.tables.exec = Jvm.exec) {cd : ClassFile.ACond} {x y : Value} {o : Int} (hd : decode c.code pc = .ok (.if_acmp cd o, 3)) (hp : pc + 3 = pc') (hx' : x.isRef = true) (hy' : y.isRef = true) (q : XT.acmp cd x y = false) (K : own_W p e below P T m pc' Ls S) : own_W p e below P T m pc Ls (y :: x :: S) := by
  subst hp; exact own_go (fun t => XT.acmpNo (g := mkF m pc Ls (y :: x :: S)) X.here hx rfl hd rfl hx' hy' q) K
/-! heap -/
theorem own_getF (X : Stand p l e R s m args below meth c T locs cells slots) (hx : p.tables.exec = Jvm.exec) (hZ : Z.Warmed39 s.vm) {own R0 O n d host : String} {index : Nat} (hown : s.vm.findClass own = some m.cls) (w : (Cond.fieldLink own index R0 n d).before a0 Z = true ∨ (Cond.fieldLinkNest own index R0 n d host).before a0 Z = true) (via : Via Z R0 O n d)
    (eT : T.heap = h) {a : Addr} {v : Value} (F : Fld Z h a O n d v) (hd : decode c.code pc = .ok (.getfield index, 3)) (hp : pc + 3 = pc')
    (K : ∀ T', Stand p l e R s m args below meth c T' locs cells slots → T'.heap = h → own_W p e below P T' m pc' Ls (v :: S)) : own_W p e below P T m pc Ls (.ref a :: S) := by
  subst hp
  obtain ⟨T', X', e', st⟩ := getF X hx hZ hown w via eT F (g := mkF m pc Ls (.ref a :: S)) rfl rfl hd
  exact own_go st (K T' X' e')
theorem own_getS (X : Stand p l e R s m args below meth c T locs cells slots) (hx : p.tables.exec = Jvm.exec) (hZ : Z.Warmed39 s.vm) {own R0 O n d host : String} {index : Nat} (hown : s.vm.findClass own = some m.cls) (w : (Cond.fieldLink own index R0 n d).before a0 Z = true ∨ (Cond.fieldLinkNest own index R0 n d host).before a0 Z = true) (via : Via Z R0 O n d)
    (eT : T.heap = h) {v : Value} (F : Sta Z h O n d v) (hd : decode c.code pc = .ok (.getstatic index, 3)) (hp : pc + 3 = pc')
    (K : ∀ T', Stand p l e R s m args below meth c T' locs cells slots → T'.heap = h → own_W p e below P T' m pc' Ls (v :: S)) : own_W p e below P T m pc Ls S := by
  subst hp
  obtain ⟨T', X', e', st⟩ := getS2 X hx hZ hown w via eT F (g := mkF m pc Ls S) rfl hd
  exact own_go st (K T' X' e')
theorem own_putF (X : Stand p l e R s m args below meth c T locs cells slots) (hx : p.tables.exec = Jvm.exec) (hZ : Z.Warmed39 s.vm) {own R0 O n d C : String} {index kk : Nat} {ty : FieldType} (hown : s.vm.findClass own = some m.cls) (w : (Cond.fieldLink own index R0 n d).before a0 Z = true) (via : Via Z R0 O n d)
    (eT : T.heap = h) {a : Addr} {v v' old : Value} (F : Fld Z h a O n d old) (E : Exa Z h a C) (L : (Cond.lays C O n d).before a0 Z = true ∨ ((Cond.laysFinal C O n d).before a0 Z = true ∧ own = O ∧ meth.name = "<init>")) (wi : (Cond.instantiable C kk).before a0 Z = true)
    (hty : parseFieldDescriptor d = some ty) (hn : narrow ty v = v') (hf : fits ty v' = true) (hd : decode c.code pc = .ok (.putfield index, 3)) (hp : pc + 3 = pc')
    (K : ∀ T' h' lc, Stand p l e R s m args below meth c T' lc cells slots → T'.heap = h' → Wr h h' a (Jvm.RoadKit.slotOf Z O n d) v' → (∀ n0, n0 ≤ a → Fr n0 locs → Fr n0 lc) → own_W p e below P T' m pc' Ls S) : own_W p e below P T m pc Ls (v :: .ref a :: S) := by
  subst hp
  obtain ⟨T', h', X', e', W', st⟩ := putFN X hx hZ hown w via eT F E L wi hty hn hf (g := mkF m pc Ls (v :: .ref a :: S)) rfl rfl hd
  exact own_go st (K T' h' _ X' e' W' fun _ q N => Fr.snoc X' N q)
theorem own_new (X : Stand p l e R s m args below meth c T locs cells slots) (hx : p.tables.exec = Jvm.exec) (hZ : Z.Warmed39 s.vm) {own C : String} {index n : Nat} (hown : s.vm.findClass own = some m.cls) (w : (Cond.classLink own index C).before a0 Z = true) (wi : (Cond.instantiable C n).before a0 Z = true) (wz : (Cond.initialized C).before a0 Z = true) (eT : T.heap = h)
    (hd : decode c.code pc = .ok (.new index, 3)) (hp : pc + 3 = pc') {cells' slots' : Nat} (hc' : cells + 1 = cells') (hs' : slots + n = slots') (hc : cells' ≤ R.cells) (hl : slots' ≤ R.slots)
    (K : ∀ T' h' a, Stand p l e R s m args below meth c T' locs cells' slots' → T'.heap = h' → Ext h h' → a = h.size → Exa Z h' a C → (∀ {O nm d : String} {ty : FieldType}, Laid Z a0 C O nm d → parseFieldDescriptor d = some ty → Fld Z h' a O nm d (defaultValue ty)) → own_W p e below P T' m pc' Ls (.ref a :: S)) : own_W p e below P T m pc Ls S := by
  subst hp hc' hs'
  obtain ⟨T', h', X', e', E', A', D', -, st⟩ := newO X hx hZ hown w wi wz eT (g := mkF m pc Ls S) rfl hd hc hl
  exact own_go st (K T' h' _ X' e' E' rfl A' D')
theorem own_newarr (X : Stand p l e R s m args below meth c T locs cells slots) (hx : p.tables.exec = Jvm.exec) (hZ : Z.Warmed39 s.vm) {aty : ArrayType} (w : (Cond.arrayClass (newarray.typeOf aty)).before a0 Z = true) (eT : T.heap = h) (hd : decode c.code pc = .ok (.newarray aty, 2)) (hp : pc + 2 = pc') {n : Int32}
    (hn : ¬ n < 0) (cap : Nat) (hcap : n.toNatClampNeg ≤ cap) (hb : cap * 8 ≤ 536870912) {cells' slots' : Nat} (hc' : cells + 1 = cells') (hs' : slots + cap = slots') (hc : cells' ≤ R.cells) (hl : slots' ≤ R.slots)
    (K : ∀ T' h' cA a, Stand p l e R s m args below meth c T' locs cells' slots' → T'.heap = h' → Ext h h' → a = h.size → Arv Z h' a cA (newarray.typeOf aty) n [] (defaultValue (newarray.typeOf aty)) → own_W p e below P T' m pc' Ls (.ref a :: S)) : own_W p e below P T m pc Ls (.int n :: S) := by
  subst hp hc' hs'
  obtain ⟨T', h', cA, X', e', E', A', st⟩ := newP X hx hZ w eT (g := mkF m pc Ls (.int n :: S)) rfl hd rfl hn hcap hb hc hl
  exact own_go st (K T' h' cA _ X' e' E' rfl (Arv.new A' hn))
theorem own_arrlen (X : Stand p l e R s m args below meth c T locs cells slots) (hx : p.tables.exec = Jvm.exec) (hZ : Z.Warmed39 s.vm) (eT : T.heap = h) {a : Addr} {k : ClassId} {ty : FieldType} {n : Int32} {vs : List Value} {dv : Value} (A : Arv Z h a k ty n vs dv) (hd : decode c.code pc = .ok (.arraylength, 1)) (hp : pc + 1 = pc')
    (K : own_W p e below P T m pc' Ls (.int n :: S)) : own_W p e below P T m pc Ls (.ref a :: S) := by
  subst hp
  obtain ⟨cl, Ar, -, Sz, M, -⟩ := A
  have q := len_of Sz M
  rw [← q] at K
  exact own_go (fun t => X.arraylength hx (cell := cl) (by rw [eT]; exact Ar.1) (State.isArrayOf_alike hZ.alike Ar.2.1) (g := mkF m pc Ls (.ref a :: S)) rfl rfl hd t) K
theorem own_iaload (X : Stand p l e R s m args below meth c T locs cells slots) (hx : p.tables.exec = Jvm.exec) (hZ : Z.Warmed39 s.vm) (eT : T.heap = h) {a : Addr} {k : ClassId} {n : Int32} {vs : List Value} {dv : Value} (A : Arv Z h a k .int n vs dv) {j : Int32} {v : Value} (hj : ¬ j < 0 ∧ j < n) (hv : vs.getD j.toNatClampNeg dv = v) (hd : decode c.code pc = .ok (.iaload, 1)) (hp : pc + 1 = pc')
    (K : own_W p e below P T m pc' Ls (v :: S)) : own_W p e below P T m pc Ls (.int j :: .ref a :: S) := by
  subst hp
  obtain ⟨cl, Ar, -, Sz, M, H, -⟩ := A
  have hin := inb_of Sz hj
  exact own_go (fun t => X.iaload hx (cell := cl) (j := j) (v := v) (by rw [eT]; exact Ar.1) (State.isArrayOf_alike hZ.alike Ar.2.1) Ar.2.2 hin (H.at hin hv) (g := mkF m pc Ls (.int j :: .ref a :: S)) rfl rfl hd t) K
theorem own_laload (X : Stand p l e R s m args below meth c T locs cells slots) (hx : p.tables.exec = Jvm.exec) (hZ : Z.Warmed39 s.vm) (eT : T.heap = h) {a : Addr} {k : ClassId} {n : Int32} {vs : List Value} {dv : Value} (A : Arv Z h a k .long n vs dv) {j : Int32} {v : Value} (hj : ¬ j < 0 ∧ j < n) (hv : vs.getD j.toNatClampNeg dv = v) (hd : decode c.code pc = .ok (.laload, 1)) (hp : pc + 1 = pc')
    (K : own_W p e below P T m pc' Ls (v :: S)) : own_W p e below P T m pc Ls (.int j :: .ref a :: S) := by
  subst hp
  obtain ⟨cl, Ar, -, Sz, M, H, -⟩ := A
  have hin := inb_of Sz hj
  exact own_go (fun t => X.laload hx (cell := cl) (j := j) (v := v) (by rw [eT]; exact Ar.1) (State.isArrayOf_alike hZ.alike Ar.2.1) Ar.2.2 hin (H.at hin hv) (g := mkF m pc Ls (.int j :: .ref a :: S)) rfl rfl hd t) K
theorem own_caload (X : Stand p l e R s m args below meth c T locs cells slots) (hx : p.tables.exec = Jvm.exec) (hZ : Z.Warmed39 s.vm) (eT : T.heap = h) {a : Addr} {k : ClassId} {n : Int32} {vs : List Value} {dv : Value} (A : Arv Z h a k .char n vs dv) {j : Int32} {v : Value} (hj : ¬ j < 0 ∧ j < n) (hv : vs.getD j.toNatClampNeg dv = v) (hd : decode c.code pc = .ok (.caload, 1)) (hp : pc + 1 = pc')
    (K : own_W p e below P T m pc' Ls (v :: S)) : own_W p e below P T m pc Ls (.int j :: .ref a :: S) := by
  subst hp
  obtain ⟨cl, Ar, -, Sz, M, H, -⟩ := A
  have hin := inb_of Sz hj
  exact own_go (fun t => X.caload hx (cell := cl) (j := j) (v := v) (by rw [eT]; exact Ar.1) (State.isArrayOf_alike hZ.alike Ar.2.1) Ar.2.2 hin (H.at hin hv) (g := mkF m pc Ls (.int j :: .ref a :: S)) rfl rfl hd t) K
theorem own_baloadB (X : Stand p l e R s m args below meth c T locs cells slots) (hx : p.tables.exec = Jvm.exec) (hZ : Z.Warmed39 s.vm) (eT : T.heap = h) {a : Addr} {k : ClassId} {n : Int32} {vs : List Value} {dv : Value} (A : Arv Z h a k .byte n vs dv) {j : Int32} {v : Value} (hj : ¬ j < 0 ∧ j < n) (hv : vs.getD j.toNatClampNeg dv = v) (hd : decode c.code pc = .ok (.baload, 1)) (hp : pc + 1 = pc')
    (K : own_W p e below P T m pc' Ls (v :: S)) : own_W p e below P T m pc Ls (.int j :: .ref a :: S) := by
  subst hp
  obtain ⟨cl, Ar, -, Sz, M, H, -⟩ := A
  have hin := inb_of Sz hj
  exact own_go (fun t => X.baloadBytes hx (cell := cl) (j := j) (v := v) (by rw [eT]; exact Ar.1) (State.isArrayOf_alike hZ.alike Ar.2.1) Ar.2.2 hin (H.at hin hv) (g := mkF m pc Ls (.int j :: .ref a :: S)) rfl rfl hd t) K
theorem own_baloadZ (X : Stand p l e R s m args below meth c T locs cells slots) (hx : p.tables.exec = Jvm.exec) (hZ : Z.Warmed39 s.vm) (eT : T.heap = h) {a : Addr} {k : ClassId} {n : Int32} {vs : List Value} {dv : Value} (A : Arv Z h a k .boolean n vs dv) {j : Int32} {v : Value} (hj : ¬ j < 0 ∧ j < n) (hv : vs.getD j.toNatClampNeg dv = v) (hd : decode c.code pc = .ok (.baload, 1)) (hp : pc + 1 = pc')
    (K : own_W p e below P T m pc' Ls (v :: S)) : own_W p e below P T m pc Ls (.int j :: .ref a :: S) := by
  subst hp
  obtain ⟨cl, Ar, -, Sz, M, H, -⟩ := A
  have hin := inb_of Sz hj
  exact own_go (fun t => X.baloadBooleans hx (cell := cl) (j := j) (v := v) (by rw [eT]; exact Ar.1) (State.isArrayOf_alike hZ.alike Ar.2.1) Ar.2.2 hin (H.at hin hv) (g := mkF m pc Ls (.int j :: .ref a :: S)) rfl rfl hd t) K
theorem own_aaload (X : Stand p l e R s m args below meth c T locs cells slots) (hx : p.tables.exec = Jvm.exec) (hZ : Z.Warmed39 s.vm) (eT : T.heap = h) {a : Addr} {k : ClassId} {ty : FieldType} (hty : ty.isReference = true) {n : Int32} {vs : List Value} {dv : Value} (A : Arv Z h a k ty n vs dv) {j : Int32} {v : Value} (hj : ¬ j < 0 ∧ j < n) (hv : vs.getD j.toNatClampNeg dv = v) (hd : decode c.code pc = .ok (.aaload, 1)) (hp : pc + 1 = pc')
    (K : own_W p e below P T m pc' Ls (v :: S)) : own_W p e below P T m pc Ls (.int j :: .ref a :: S) := by
  subst hp
  obtain ⟨cl, Ar, -, Sz, M, H, -⟩ := A
  have hin := inb_of Sz hj
  exact own_go (fun t => X.aaload hx (cell := cl) (j := j) (v := v) (by rw [eT]; exact Ar.1) (State.isArrayOf_alike hZ.alike Ar.2.1) hty Ar.2.2 hin (H.at hin hv) (g := mkF m pc Ls (.int j :: .ref a :: S)) rfl rfl hd t) K
theorem own_iastore (X : Stand p l e R s m args below meth c T locs cells slots) (hx : p.tables.exec = Jvm.exec) (hZ : Z.Warmed39 s.vm) (eT : T.heap = h) {a : Addr} {k : ClassId} {n : Int32} {vs : List Value} {dv : Value} (A : Arv Z h a k .int n vs dv) {j : Int32} {x : Int32} (hj : ¬ j < 0 ∧ j < n) (i : Nat) (hi : j.toNatClampNeg = i) (hlen : i < vs.length) (hd : decode c.code pc = .ok (.iastore, 1)) (hp : pc + 1 = pc')
    (K : ∀ T' h' lc, Stand p l e R s m args below meth c T' lc cells slots → T'.heap = h' → Keep h h' [a] → Arv Z h' a k .int n (vs.set i (.int x)) dv → (∀ n0, n0 ≤ a → Fr n0 locs → Fr n0 lc) → own_W p e below P T' m pc' Ls S) : own_W p e below P T m pc Ls (.int x :: .int j :: .ref a :: S) := by
  subst hp
  obtain ⟨cl, Ar, q1, Sz, M, H, G⟩ := A
  obtain ⟨T', h', X', e', W', st⟩ := stI X hx hZ eT Ar (inb_of Sz hj) (g := mkF m pc Ls (.int x :: .int j :: .ref a :: S)) rfl rfl hd
  exact own_go st (K T' h' _ X' e' (Keep.of_wr W') (Arv.set Ar q1 Sz M H G rfl W' i hi hlen) fun _ q N => Fr.snoc X' N q)
theorem own_lastore (X : Stand p l e R s m args below meth c T locs cells slots) (hx : p.tables.exec = Jvm.exec) (hZ : Z.Warmed39 s.vm) (eT : T.heap = h) {a : Addr} {k : ClassId} {n : Int32} {vs : List Value} {dv : Value} (A : Arv Z h a k .long n vs dv) {j : Int32} {x : Int64} (hj : ¬ j < 0 ∧ j < n) (i : Nat) (hi : j.toNatClampNeg = i) (hlen : i < vs.length) (hd : decode c.code pc = .ok (.lastore, 1)) (hp : pc + 1 = pc')
    (K : ∀ T' h' lc, Stand p l e R s m args below meth c T' lc cells slots → T'.heap = h' → Keep h h' [a] → Arv Z h' a k .long n (vs.set i (.long x)) dv → (∀ n0, n0 ≤ a → Fr n0 locs → Fr n0 lc) → own_W p e below P T' m pc' Ls S) : own_W p e below P T m pc Ls (.long x :: .int j :: .ref a :: S) := by
  subst hp
  obtain ⟨cl, Ar, q1, Sz, M, H, G⟩ := A
  obtain ⟨T', h', X', e', W', st⟩ := stJ X hx hZ eT Ar (inb_of Sz hj) (g := mkF m pc Ls (.long x :: .int j :: .ref a :: S)) rfl rfl hd
  exact own_go st (K T' h' _ X' e' (Keep.of_wr W') (Arv.set Ar q1 Sz M H G rfl W' i hi hlen) fun _ q N => Fr.snoc X' N q)
theorem own_castore (X : Stand p l e R s m args below meth c T locs cells slots) (hx : p.tables.exec = Jvm.exec) (hZ : Z.Warmed39 s.vm) (eT : T.heap = h) {a : Addr} {k : ClassId} {n : Int32} {vs : List Value} {dv : Value} (A : Arv Z h a k .char n vs dv) {j : Int32} {x : Int32} (hj : ¬ j < 0 ∧ j < n) (i : Nat) (hi : j.toNatClampNeg = i) (hlen : i < vs.length) (hd : decode c.code pc = .ok (.castore, 1)) (hp : pc + 1 = pc')
    (K : ∀ T' h' lc, Stand p l e R s m args below meth c T' lc cells slots → T'.heap = h' → Keep h h' [a] → Arv Z h' a k .char n (vs.set i (.int (nar .char x))) dv → (∀ n0, n0 ≤ a → Fr n0 locs → Fr n0 lc) → own_W p e below P T' m pc' Ls S) : own_W p e below P T m pc Ls (.int x :: .int j :: .ref a :: S) := by
  subst hp
  obtain ⟨cl, Ar, q1, Sz, M, H, G⟩ := A
  obtain ⟨T', h', X', e', W', st⟩ := stC X hx hZ eT Ar (inb_of Sz hj) (g := mkF m pc Ls (.int x :: .int j :: .ref a :: S)) rfl rfl hd
  exact own_go st (K T' h' _ X' e' (Keep.of_wr W') (Arv.set Ar q1 Sz M H G (fits_nar_char x) W' i hi hlen) fun _ q N => Fr.snoc X' N q)
theorem own_bastoreZ (X : Stand p l e R s m args below meth c T locs cells slots) (hx : p.tables.exec = Jvm.exec) (hZ : Z.Warmed39 s.vm) (eT : T.heap = h) {a : Addr} {k : ClassId} {n : Int32} {vs : List Value} {dv : Value} (A : Arv Z h a k .boolean n vs dv) {j : Int32} {x : Int32} (hj : ¬ j < 0 ∧ j < n) (i : Nat) (hi : j.toNatClampNeg = i) (hlen : i < vs.length) (hd : decode c.code pc = .ok (.bastore, 1)) (hp : pc + 1 = pc')
    (K : ∀ T' h' lc, Stand p l e R s m args below meth c T' lc cells slots → T'.heap = h' → Keep h h' [a] → Arv Z h' a k .boolean n (vs.set i (.int (nar .boolean x))) dv → (∀ n0, n0 ≤ a → Fr n0 locs → Fr n0 lc) → own_W p e below P T' m pc' Ls S) : own_W p e below P T m pc Ls (.int x :: .int j :: .ref a :: S) := by
  subst hp
  obtain ⟨cl, Ar, q1, Sz, M, H, G⟩ := A
  obtain ⟨T', h', X', e', W', st⟩ := stZ X hx hZ eT Ar (inb_of Sz hj) (g := mkF m pc Ls (.int x :: .int j :: .ref a :: S)) rfl rfl hd
  exact own_go st (K T' h' _ X' e' (Keep.of_wr W') (Arv.set Ar q1 Sz M H G (fits_nar_bool x) W' i hi hlen) fun _ q N => Fr.snoc X' N q)
theorem own_bastoreB (X : Stand p l e R s m args below meth c T locs cells slots) (hx : p.tables.exec = Jvm.exec) (hZ : Z.Warmed39 s.vm) (eT : T.heap = h) {a : Addr} {k : ClassId} {n : Int32} {vs : List Value} {dv : Value} (A : Arv Z h a k .byte n vs dv) {j : Int32} {x : Int32} (hj : ¬ j < 0 ∧ j < n) (i : Nat) (hi : j.toNatClampNeg = i) (hlen : i < vs.length) (hd : decode c.code pc = .ok (.bastore, 1)) (hp : pc + 1 = pc')
    (K : ∀ T' h' lc, Stand p l e R s m args below meth c T' lc cells slots → T'.heap = h' → Keep h h' [a] → Arv Z h' a k .byte n (vs.set i (.int (nar .byte x))) dv → (∀ n0, n0 ≤ a → Fr n0 locs → Fr n0 lc) → own_W p e below P T' m pc' Ls S) : own_W p e below P T m pc Ls (.int x :: .int j :: .ref a :: S) := by
  subst hp
  obtain ⟨cl, Ar, q1, Sz, M, H, G⟩ := A
  obtain ⟨T', h', X', e', W', st⟩ := stB X hx hZ eT Ar (inb_of Sz hj) (g := mkF m pc Ls (.int x :: .int j :: .ref a :: S)) rfl rfl hd
  exact own_go st (K T' h' _ X' e' (Keep.of_wr W') (Arv.set Ar q1 Sz M H G (fits_nar_byte x) W' i hi hlen) fun _ q N => Fr.snoc X' N q)
theorem own_cast (X : Stand p l e R s m args below meth c T locs cells slots) (hx : p.tables.exec = Jvm.exec) (hZ : Z.Warmed39 s.vm) {own C : String} {index : Nat} (hown : s.vm.findClass own = some m.cls) (w : (Cond.classLink own index C).before a0 Z = true) (eT : T.heap = h) {a : Addr} (E : Exa Z h a C) (hd : decode c.code pc = .ok (.checkcast index, 3)) (hp : pc + 3 = pc')
    (K : ∀ T', Stand p l e R s m args below meth c T' locs cells slots → T'.heap = h → own_W p e below P T' m pc' Ls (.ref a :: S)) : own_W p e below P T m pc Ls (.ref a :: S) := by
  subst hp
  obtain ⟨T', X', e', st⟩ := castY X hx hZ hown w eT (Ins.self E) (g := mkF m pc Ls (.ref a :: S)) rfl rfl hd
  exact own_go st (K T' X' e')
theorem own_inst (X : Stand p l e R s m args below meth c T locs cells slots) (hx : p.tables.exec = Jvm.exec) (hZ : Z.Warmed39 s.vm) {own C : String} {index : Nat} (hown : s.vm.findClass own = some m.cls) (w : (Cond.classLink own index C).before a0 Z = true) (eT : T.heap = h) {a : Addr} (E : Exa Z h a C) (hd : decode c.code pc = .ok (.instanceof index, 3)) (hp : pc + 3 = pc')
    (K : ∀ T', Stand p l e R s m args below meth c T' locs cells slots → T'.heap = h → own_W p e below P T' m pc' Ls (.int 1 :: S)) : own_W p e below P T m pc Ls (.ref a :: S) := by
  subst hp
  obtain ⟨T', X', e', st⟩ := instY X hx hZ hown w eT (Ins.self E) (g := mkF m pc Ls (.ref a :: S)) rfl rfl hd
  exact own_go st (K T' X' e')
theorem own_acmpne (X : Stand p l e R s m args below meth c T locs cells slots) (hx : p.tables.exec = Jvm.exec) {x y : Addr} {o : Int} {pcY pcN : Nat} (hd : decode c.code pc = .ok (.if_acmp .ne o, 3)) (ho : 0 ≤ (pc : Int) + o) (hY : ((pc : Int) + o).toNat = pcY) (hN : pc + 3 = pcN) (KY : ¬ x = y → own_W p e below P T m pcY Ls S) (KN : x = y → own_W p e below P T m pcN Ls S) : own_W p e below P T m pc Ls (.ref y :: .ref x :: S) :=
  (Classical.em (x = y)).elim (fun q => own_acmpN X hx hd hN rfl rfl (XT.aa_ne_f (congrArg Value.ref q)) (KN q)) (fun q => own_acmpY X hx hd ho hY rfl rfl (XT.aa_ne_t fun z => q (Value.ref.inj z)) (KY q))
theorem own_sta_keep {h' : Heap} {ws : List Addr} {C n d : String} {v : Value} (F : Sta Z h C n d v) (K : Keep h h' ws) (hn : ∀ x ∈ ws, ∀ cell : Cell, h[x]? = some cell → cell.vm.isStatics = false) : Sta Z h' C n d v := by
  obtain ⟨cf, i, k, f, st, cell, h1, h2, h3, h4, h5, h6, h7⟩ := F
  exact ⟨cf, i, k, f, st, cell, h1, h2, h3, h4, K.2.1 _ _ h5 (fun q => by rw [hn _ q _ h5] at h6; cases h6), h6, h7⟩
theorem own_ns_exa {a : Addr} {C : String} (E : Exa Z h a C) : ∀ cell : Cell, h[a]? = some cell → cell.vm.isStatics = false := fun cell hc => by
  obtain ⟨c', k, h1, h2, h3, h4, h5⟩ := E
  cases h1.symm.trans hc; exact h4
theorem own_ns_arv {a : Addr} {k : ClassId} {ty : FieldType} {z : Int32} {vs : List Value} {dv : Value} (A : Arv Z h a k ty z vs dv) : ∀ cell : Cell, h[a]? = some cell → cell.vm.isStatics = false := fun cell hc => by
  obtain ⟨c', Ar, -⟩ := A
  cases Ar.1.symm.trans hc; exact Ar.plain
theorem own_callS (X : Stand p l e R s m args below meth c T locs cells slots) (hx : p.tables.exec = Jvm.exec) (hZ : Z.Warmed39 s.vm) {own : String} {index : Nat} {y : MethodName} {bytes : ByteArray} {maxL : Nat} {ret : Option FieldType} {rm : Room} {Qc : Option Value → Heap → List Loc → Prop} {as' : Array Value} {S' : List Value} (argsL : List Value)
    (hown : s.vm.findClass own = some m.cls) (w1 : (Cond.methodLink own index y).before a0 Z = true) (w2 : (Cond.static y).before a0 Z = true) (w3 : (Cond.initialized y.cls).before a0 Z = true) (w4 : (Cond.code y bytes maxL ret).before a0 Z = true) (hy : y.cls ≠ "java/lang/invoke/MethodHandle" ∧ y.cls ≠ "java/lang/invoke/VarHandle")
    (hM : MetFree l y (head1 [Cond.code y bytes maxL ret] rm) (fun a U => a = as' ∧ Z.Warmed39 U.vm ∧ U.heap = h) (fun _ _ _ _ _ => True) (fun _ U o U' => ∃ v L, o = .returned v ∧ Qc v U'.heap L ∧ FrameEnd U o U' L rm.cells rm.slots))
    (eT : T.heap = h) {W cells' slots' : Nat} (hf : rm.frames + 1 ≤ R.frames) (hl : W + (maxL + 11) + rm.locals ≤ R.locals) (hc' : cells + rm.cells = cells') (hs' : slots + rm.slots = slots') (hc : cells' ≤ R.cells) (hs : slots' ≤ R.slots) (hsize : Ls.size = c.maxLocals) (hlen : ∀ sig, parseMethodDescriptor y.desc = some sig → argsL.length = sig.parameters.length) (has : argsL.toArray = as') (hstk : S' = argsL.reverse ++ S) (hW : 2 * 0 + (S.map fun v => v.category).sum ≤ W) (hd : decode c.code pc = .ok (.invokestatic index, 3)) (hp : pc + 3 = pc')
    (K : ∀ v T' h' L lc, Stand p l e R s m args below meth c T' lc cells' slots' → T'.heap = h' → Qc v h' L → (∀ n0, Fr n0 locs → Fr n0 L → Fr n0 lc) → own_W p e below P T' m pc' Ls (v.toList ++ S)) : own_W p e below P T m pc Ls S' := by
  subst hp hc' hs'
  obtain ⟨v, vm₁, ⟨T1, L1, k1, n1⟩, -, X1, ⟨Lc1, hQ1, l1, y1, z1⟩, st1⟩ := Jvm.LawKit.callS X hx hown (mvT hZ w1) (mvT hZ w2) (mvT hZ w3) (mvT hZ w4) hy (backOf hM hZ w4 w3 hf hl) (g := mkF m pc Ls S') rfl hsize (argsL := argsL) (rest := S) hlen hstk hW hd (fun _ _ => ⟨has, eT, hc, hs⟩)
  dsimp only [Pt.U, Pt.locs, Pt.cells, Pt.slots] at X1 l1 y1 z1 st1 hQ1
  subst l1 y1 z1
  exact own_go st1 (K v T1 _ Lc1 _ X1 rfl hQ1 fun _ a b => Fr.app a b)
theorem own_callN (X : Stand p l e R s m args below meth c T locs cells slots) (hx : p.tables.exec = Jvm.exec) (hZ : Z.Warmed39 s.vm) {own : String} {index : Nat} {y : MethodName} {bytes : ByteArray} {maxL : Nat} {rm : Room} {Qc : Option Value → Heap → List Loc → Prop} {as' : Array Value} {S' : List Value} (a : Addr) (argsL : List Value) (hy1 : y.name = "<init>")
    (hown : s.vm.findClass own = some m.cls) (w1 : (Cond.methodLink own index y).before a0 Z = true) (w2 : (Cond.instanceMethod y).before a0 Z = true) (w3 : (Cond.initialized y.cls).before a0 Z = true) (w4 : (Cond.code y bytes maxL none).before a0 Z = true) (hy : y.cls ≠ "java/lang/invoke/MethodHandle" ∧ y.cls ≠ "java/lang/invoke/VarHandle")
    (hM : MetFree l y (head1 [Cond.code y bytes maxL none] rm) (fun a U => a = as' ∧ Z.Warmed39 U.vm ∧ U.heap = h) (fun _ _ _ _ _ => True) (fun _ U o U' => ∃ v L, o = .returned v ∧ Qc v U'.heap L ∧ FrameEnd U o U' L rm.cells rm.slots))
    (eT : T.heap = h) {W cells' slots' : Nat} (hf : rm.frames + 1 ≤ R.frames) (hl : W + (maxL + 11) + rm.locals ≤ R.locals) (hc' : cells + rm.cells = cells') (hs' : slots + rm.slots = slots') (hc : cells' ≤ R.cells) (hs : slots' ≤ R.slots) (hsize : Ls.size = c.maxLocals) (hlen : ∀ sig, parseMethodDescriptor y.desc = some sig → argsL.length = sig.parameters.length) (has : (.ref a :: argsL).toArray = as') (hstk : S' = argsL.reverse ++ .ref a :: S) (hW : 2 * 0 + (S.map fun v => v.category).sum ≤ W) (hd : decode c.code pc = .ok (.invokespecial index, 3)) (hp : pc + 3 = pc')
    (K : ∀ v T' h' L lc, Stand p l e R s m args below meth c T' lc cells' slots' → T'.heap = h' → Qc v h' L → (∀ n0, Fr n0 locs → Fr n0 L → Fr n0 lc) → own_W p e below P T' m pc' Ls (v.toList ++ S)) : own_W p e below P T m pc Ls S' := by
  subst hp hc' hs'
  obtain ⟨v, vm₁, ⟨T1, L1, k1, n1⟩, -, X1, ⟨Lc1, hQ1, l1, y1, z1⟩, st1⟩ := X.specialBack hx hy1 hown (mvT hZ w1) (mvT hZ w2) (mvT hZ w4) hy (backOf hM hZ w4 w3 hf hl) (g := mkF m pc Ls S') rfl hsize (Steps.refl _) (a := a) (argsL := argsL) (rest := S) hlen hstk hW hd (fun _ _ => ⟨has, eT, hc, hs⟩)
  dsimp only [Pt.U, Pt.locs, Pt.cells, Pt.slots] at X1 l1 y1 z1 st1 hQ1
  subst l1 y1 z1
  exact own_go (fun t k => st1.trans k) (K v T1 _ Lc1 _ X1 rfl hQ1 fun _ a b => Fr.app a b)
theorem own_callV (X : Stand p l e R s m args below meth c T locs cells slots) (hx : p.tables.exec = Jvm.exec) (hZ : Z.Warmed39 s.vm) {own C : String} {index : Nat} {y : MethodName} {bytes : ByteArray} {maxL : Nat} {ret : Option FieldType} {rm : Room} {Qc : Option Value → Heap → List Loc → Prop} {as' : Array Value} {S' : List Value} (a : Addr) (argsL : List Value)
    (hown : s.vm.findClass own = some m.cls) (w1 : (Cond.methodLink own index y).before a0 Z = true) (w2 : (Cond.declares y).before a0 Z = true) (w5 : (Cond.selects C y y).before a0 Z = true) (w6 : (Cond.instanceMethod y).before a0 Z = true) (w3 : (Cond.initialized y.cls).before a0 Z = true) (w4 : (Cond.code y bytes maxL ret).before a0 Z = true) (hy : y.cls ≠ "java/lang/invoke/MethodHandle" ∧ y.cls ≠ "java/lang/invoke/VarHandle")
    (hM : MetFree l y (head1 [Cond.code y bytes maxL ret] rm) (fun a U => a = as' ∧ Z.Warmed39 U.vm ∧ U.heap = h) (fun _ _ _ _ _ => True) (fun _ U o U' => ∃ v L, o = .returned v ∧ Qc v U'.heap L ∧ FrameEnd U o U' L rm.cells rm.slots))
    (E : Exa Z h a C) (eT : T.heap = h) {W cells' slots' : Nat} (hf : rm.frames + 1 ≤ R.frames) (hl : W + (maxL + 11) + rm.locals ≤ R.locals) (hc' : cells + rm.cells = cells') (hs' : slots + rm.slots = slots') (hc : cells' ≤ R.cells) (hs : slots' ≤ R.slots) (hsize : Ls.size = c.maxLocals) (hlen : ∀ sig, parseMethodDescriptor y.desc = some sig → argsL.length = sig.parameters.length) (has : (.ref a :: argsL).toArray = as') (hstk : S' = argsL.reverse ++ .ref a :: S) (hW : 2 * 0 + (S.map fun v => v.category).sum ≤ W) (hd : decode c.code pc = .ok (.invokevirtual index, 3)) (hp : pc + 3 = pc')
    (K : ∀ v T' h' L lc, Stand p l e R s m args below meth c T' lc cells' slots' → T'.heap = h' → Qc v h' L → (∀ n0, Fr n0 locs → Fr n0 L → Fr n0 lc) → own_W p e below P T' m pc' Ls (v.toList ++ S)) : own_W p e below P T m pc Ls S' := by
  subst hp hc' hs'
  obtain ⟨cq, kq, qa, qb, qc⟩ := isOf hZ eT E
  obtain ⟨v, vm₁, ⟨T1, L1, k1, n1⟩, -, X1, ⟨Lc1, hQ1, l1, y1, z1⟩, st1⟩ := X.virtualBack hx hown (mvT hZ w1) (mvT hZ w2) (notFace_of_selects (args := #[]) (mvT hZ w5)) (mvT hZ w5) (mvT hZ w6) hy (backOf hM hZ w4 w3 hf hl) qa qc (g := mkF m pc Ls S') rfl hsize (Steps.refl _) (argsL := argsL) (rest := S) hlen hstk hW hd (fun _ _ => ⟨has, eT, hc, hs⟩)
  dsimp only [Pt.U, Pt.locs, Pt.cells, Pt.slots] at X1 l1 y1 z1 st1 hQ1
  subst l1 y1 z1
  exact own_go (fun t k => st1.trans k) (K v T1 _ Lc1 _ X1 rfl hQ1 fun _ a b => Fr.app a b)
theorem own_initO (X : Stand p l e R s m args below meth c T locs cells slots) (hx : p.tables.exec = Jvm.exec) (hZ : Z.Warmed39 s.vm) {own : String} {idx : Nat} (hown : s.vm.findClass own = some m.cls) (w1 : (Cond.methodLink own idx Lib.objectInit).before a0 Z = true) (w2 : (Cond.instanceMethod Lib.objectInit).before a0 Z = true) (w3 : (Cond.code Lib.objectInit ⟨#[0xb1]⟩ 1 none).before a0 Z = true) (eT : T.heap = h)
    (hsize : Ls.size = c.maxLocals) {a : Addr} (hd : decode c.code pc = .ok (.invokespecial idx, 3)) (hp : pc + 3 = pc') (hf : 1 ≤ R.frames) {W : Nat} (hW : 2 * 0 + (S.map fun v => v.category).sum ≤ W) (hl : W + 12 ≤ R.locals)
    (K : ∀ T', Stand p l e R s m args below meth c T' locs cells slots → T'.heap = h → own_W p e below P T' m pc' Ls S) : own_W p e below P T m pc Ls (.ref a :: S) := by
  subst hp
  obtain ⟨T', X', e', st⟩ := initO X hx hZ hown w1 w2 w3 eT (g := mkF m pc Ls (.ref a :: S)) rfl hsize rfl hd hf (W := W) hW hl
  exact own_go st (K T' X' e')
/-! returns -/
theorem own_retI (X : Stand p l e R s m args below meth c T locs cells slots) (hx : p.tables.exec = Jvm.exec) (hlk : meth.locks = false) {t : FieldType} {w w' : Value} (hret : meth.sig.returnType = some t) (hd : decode c.code pc = .ok (.ireturn, 1)) {z : Int32} (hw : w = .int z) (hn : narrow t w = w') (ht : t = .int ∨ t = .boolean ∨ t = .byte ∨ t = .char ∨ t = .short) (hc : cells ≤ kc) (hs : slots ≤ ks) (hq : Q (some w') T.heap locs) : own_W p e below (own_Post s Q kc ks) T m pc Ls (w :: S) := by
  subst hw
  obtain ⟨fs, hr, hrun, hended, hW, hsame⟩ := X.leave (v := some w') (fun h => by rw [hret] at h; cases h) hlk
  refine ⟨_, _, ?_, hrun, hended, _, _, rfl, hq, ⟨_, rfl⟩, hW, hsame.mono hc hs⟩
  have hm' : T.vm.method? m = some meth := X.method'
  show Steps p.tables e below (T.setTop { method := m, pc := pc, locals := Ls, stack := _ :: S, locked := none }) _
  rcases ht with rfl | rfl | rfl | rfl | rfl
  all_goals
    jvm_step X.here [X.here.top, hx, hd, hm', hret, hn]
    first | (intro acts; rw [hr _ acts rfl rfl rfl]) | rw [hr _ _ rfl rfl rfl]
    exact Steps.refl _
theorem own_retJ (X : Stand p l e R s m args below meth c T locs cells slots) (hx : p.tables.exec = Jvm.exec) (hlk : meth.locks = false) {z : Int64} (hret : meth.sig.returnType = some .long) (hd : decode c.code pc = .ok (.lreturn, 1)) (hc : cells ≤ kc) (hs : slots ≤ ks) (hq : Q (some (.long z)) T.heap locs) : own_W p e below (own_Post s Q kc ks) T m pc Ls (.long z :: S) := by
  obtain ⟨fs, hr, hrun, hended, hW, hsame⟩ := X.leave (v := some (.long z)) (fun h => by rw [hret] at h; cases h) hlk
  exact ⟨_, _, retOut X hx hret rfl (Or.inr (Or.inl ⟨rfl, rfl, z, rfl⟩)) hd hr, hrun, hended, _, _, rfl, hq, ⟨_, rfl⟩, hW, hsame.mono hc hs⟩
theorem own_retA (X : Stand p l e R s m args below meth c T locs cells slots) (hx : p.tables.exec = Jvm.exec) (hlk : meth.locks = false) {t : FieldType} {w : Value} (hret : meth.sig.returnType = some t) (hd : decode c.code pc = .ok (.areturn, 1)) (ht : t.isReference = true) (hw : w.isRef = true) (hn : narrow t w = w) (hc : cells ≤ kc) (hs : slots ≤ ks) (hq : Q (some w) T.heap locs) : own_W p e below (own_Post s Q kc ks) T m pc Ls (w :: S) := by
  obtain ⟨fs, hr, hrun, hended, hW, hsame⟩ := X.leave (v := some w) (fun h => by rw [hret] at h; cases h) hlk
  exact ⟨_, _, retOut X hx hret hn (Or.inr (Or.inr (Or.inr (Or.inr ⟨rfl, ht, hw⟩)))) hd hr, hrun, hended, _, _, rfl, hq, ⟨_, rfl⟩, hW, hsame.mono hc hs⟩
theorem own_ret0 (X : Stand p l e R s m args below meth c T locs cells slots) (hx : p.tables.exec = Jvm.exec) (hlk : meth.locks = false) (hret : meth.sig.returnType = none) (hd : decode c.code pc = .ok (.return_, 1)) (hc : cells ≤ kc) (hs : slots ≤ ks) (hq : Q none T.heap locs) : own_W p e below (own_Post s Q kc ks) T m pc Ls [] := by
  obtain ⟨fs, hr, hrun, hended, hW, hsame⟩ := X.leave (v := none) (fun _ => rfl) hlk
  exact ⟨_, _, X.returnOut hx hret hd hr, hrun, hended, _, _, rfl, hq, ⟨_, rfl⟩, hW, hsame.mono hc hs⟩
end OwnKit
/-! ## the wide walk: String constants may be loaded; the Stand is over the start with the tables at hand (s.setVm vm0) -/
def own_PostS (Z : State) (EL : List (String × Nat)) (s : State) (Q : Option Value → Heap → List Loc → Prop) (kc ks : Nat) (o : Outcome) (s₂ : State) : Prop := ∃ v L, o = .returned v ∧ Q v s₂.heap L ∧ CHr Z EL s.vm s.heap s₂.vm s₂.heap ∧ ReturnedEndW s o s₂ L kc ks
theorem own_endW {s t : State} {o : Outcome} {L : List Loc} {k n k' n' : Nat} (h : ReturnedEndW s o t L k n) (hk : k ≤ k') (hn : n ≤ n') : ReturnedEndW s o t L k' n' := ⟨h.1, h.2.1, h.2.2.1, h.2.2.2.mono hk hn⟩
section OwnKit3
variable {p : Program} {l : Launch} {e : Env} {R : Room} {s : State} {m : MethodId} {args : Array Value} {below : List Frame} {meth : Method} {c : Code} {T : State} {locs : List Loc} {cells slots : Nat} {Z : State} {a0 : Array Value} {h h0 : Heap}
  {P : Outcome → State → Prop} {Q : Option Value → Heap → List Loc → Prop} {kc ks : Nat} {pc pc' : Nat} {Ls Ls' : Array Slot} {S : List Value} {EL : List (String × Nat)} {vm0 : Vm} {k0 : Nat}
theorem own_enterS {ml : Nat} (q : entryFrame m args ml = mkF m 0 Ls []) (K : own_W p e below (own_PostS Z EL s Q kc ks) T m 0 Ls []) :
    ∃ s₂ o, Steps p.tables e below (T.setTop (entryFrame m args ml)) s₂ ∧ s₂.status = .running ∧ Ended s₂ below o ∧ ∃ v L, o = .returned v ∧ Q v s₂.heap L ∧ CHr Z EL s.vm s.heap s₂.vm s₂.heap ∧ ReturnedEndW s o s₂ L kc ks := by
  rw [q]; exact K
theorem own_ldcS (X : Stand p l e R (s.setVm vm0) m args below meth c T locs cells slots) (hx : p.tables.exec = Jvm.exec) (hZ : Z.Warmed39 (s.setVm vm0).vm) {own text : String} {index : Nat} (hown : (s.setVm vm0).vm.findClass own = some m.cls) (w : (Cond.stringLink own index text).before a0 Z = true) (wS : ∀ a ∈ Bundle.stringAtoms, a.before a0 Z = true)
    (eT : T.heap = h) (hS : s.Since vm0 k0) (hk : k0 ≤ h.size) (hEL : EW Z a0 EL) (hmem : (own, index) ∈ EL) (H : CHv Z EL vm0 h) (vs : List Value) (z : Int32) (ht : (∀ c ∈ text.toList, c.toNat < 256) ∧ text.toList.map (fun c => Value.int (Jvm.Lit.byteI c.toNat.toUInt16)) = vs) (hz : ¬ z < 0) (hl : z.toNatClampNeg = vs.length)
    (hd : decode c.code pc = .ok (.ldc index, 2)) (hp : pc + 2 = pc') (n : Nat) (hn : 4 * text.toList.length ≤ n) (hbig : n ≤ 536870912) {cells' slots' : Nat} (hc' : cells + 2 = cells') (hs' : slots + (n + 4) = slots') (hc : cells' ≤ R.cells) (hl' : slots' ≤ R.slots)
    (K : ∀ a T' h' k1 b k vm1, Stand p l e R (s.setVm vm1) m args below meth c T' locs cells' slots' → T'.heap = h' → Ext h h' → s.Since vm1 k1 → k1 ≤ h'.size → Z.Warmed39 (s.setVm vm1).vm → (s.setVm vm1).vm.findClass own = some m.cls →
      Exa Z h' a "java/lang/String" → Fld Z h' a "java/lang/String" "coder" "B" (.int 0) → Fld Z h' a "java/lang/String" "value" "[B" (.ref b) → Arv Z h' b k .byte z vs (.int 0) → CHr Z EL vm0 h vm1 h' → (∀ x, Safe Z EL vm1 h' x → x ≠ a ∧ x ≠ b) → own_W p e below P T' m pc' Ls (.ref a :: S)) : own_W p e below P T m pc Ls S := by
  subst hp hc' hs'
  obtain ⟨a, T', h', k1, b, k, X', e', E', S', hk', hZ', ho', Ea, Fc, Fv, Av, -, -, C', -, hne, st⟩ := ldcCH X hx hZ hown w wS eT hS hk hEL hmem H ht hz hl (g := mkF m pc Ls S) rfl hd hn hbig hc hl'
  exact own_go st (K a T' h' k1 b k T'.vm X' e' E' S' hk' hZ' ho' Ea Fc Fv Av C' hne)
theorem own_callSS (X : Stand p l e R (s.setVm vm0) m args below meth c T locs cells slots) (hx : p.tables.exec = Jvm.exec) (hZ : Z.Warmed39 (s.setVm vm0).vm) {own : String} {index : Nat} {y : MethodName} {bytes : ByteArray} {maxL : Nat} {ret : Option FieldType} {rm : Room} {Qc : Option Value → Heap → List Loc → Prop} {as' : Array Value} {S' : List Value} (argsL : List Value)
    (hown : (s.setVm vm0).vm.findClass own = some m.cls) (w1 : (Cond.methodLink own index y).before a0 Z = true) (w2 : (Cond.static y).before a0 Z = true) (w3 : (Cond.initialized y.cls).before a0 Z = true) (w4 : (Cond.code y bytes maxL ret).before a0 Z = true) (hy : y.cls ≠ "java/lang/invoke/MethodHandle" ∧ y.cls ≠ "java/lang/invoke/VarHandle")
    (hM : MetFree l y (head1 [Cond.code y bytes maxL ret] rm) (fun a U => a = as' ∧ Z.Warmed39 U.vm ∧ U.heap = h ∧ CHv Z EL U.vm h) (fun _ _ _ _ _ => True) (fun _ U o U' => ∃ v L, o = .returned v ∧ Qc v U'.heap L ∧ CHr Z EL U.vm U.heap U'.vm U'.heap ∧ ReturnedEndW U o U' L rm.cells rm.slots))
    (eT : T.heap = h) (hS : s.Since vm0 k0) (hk : k0 ≤ h.size) (hEL : EW Z a0 EL) (H : CHv Z EL vm0 h) {W cells' slots' : Nat} (hf : rm.frames + 1 ≤ R.frames) (hl : W + (maxL + 11) + rm.locals ≤ R.locals) (hc' : cells + rm.cells = cells') (hs' : slots + rm.slots = slots') (hc : cells' ≤ R.cells) (hs : slots' ≤ R.slots) (hsize : Ls.size = c.maxLocals)
    (hlen : ∀ sig, parseMethodDescriptor y.desc = some sig → argsL.length = sig.parameters.length) (has : argsL.toArray = as') (hstk : S' = argsL.reverse ++ S) (hW : 2 * 0 + (S.map fun v => v.category).sum ≤ W) (hd : decode c.code pc = .ok (.invokestatic index, 3)) (hp : pc + 3 = pc')
    (K : ∀ v T' h' L lc vm1 k1, Stand p l e R (s.setVm vm1) m args below meth c T' lc cells' slots' → T'.heap = h' → s.Since vm1 k1 → k1 ≤ h'.size → Z.Warmed39 (s.setVm vm1).vm → (s.setVm vm1).vm.findClass own = some m.cls → CHr Z EL vm0 h vm1 h' → Qc v h' L → (∀ n0, Fr n0 locs → Fr n0 L → Fr n0 lc) → own_W p e below P T' m pc' Ls (v.toList ++ S)) : own_W p e below P T m pc Ls S' := by
  subst hp hc' hs' eT
  obtain ⟨v, vm₁, ⟨T1, L1, k1, n1⟩, -, X1, S1, g1, ⟨Lc1, hQ1, l1, y1, z1, C1⟩, st1⟩ := callSS X hx hown (mvT hZ w1) (mvT hZ w2) (mvT hZ w3) (mvT hZ w4) hy (backOfSH (s := s) (vm0 := vm0) hM hZ w4 w3 hf hl hEL H) (g := mkF m pc Ls S') rfl hsize (argsL := argsL) (rest := S) hlen hstk hW hd (fun _ _ => ⟨has, rfl, hc, hs⟩)
  dsimp only [Pt.U, Pt.locs, Pt.cells, Pt.slots] at X1 l1 y1 z1 st1 hQ1 S1 g1 C1
  subst l1 y1 z1
  obtain ⟨X2, S2, Z2, o2⟩ := rebS hS hk X1 S1 g1 hZ hown
  exact own_go (fun t k => st1.trans k) (K v T1 _ Lc1 _ _ _ X2 rfl S2 (Nat.le_refl _) Z2 o2 C1 hQ1 fun _ a b => Fr.app a b)
theorem own_callNS (X : Stand p l e R (s.setVm vm0) m args below meth c T locs cells slots) (hx : p.tables.exec = Jvm.exec) (hZ : Z.Warmed39 (s.setVm vm0).vm) {own : String} {index : Nat} {y : MethodName} {bytes : ByteArray} {maxL : Nat} {rm : Room} {Qc : Option Value → Heap → List Loc → Prop} {as' : Array Value} {S' : List Value} (a : Addr) (argsL : List Value) (hy1 : y.name = "<init>")
    (hown : (s.setVm vm0).vm.findClass own = some m.cls) (w1 : (Cond.methodLink own index y).before a0 Z = true) (w2 : (Cond.instanceMethod y).before a0 Z = true) (w3 : (Cond.initialized y.cls).before a0 Z = true) (w4 : (Cond.code y bytes maxL none).before a0 Z = true) (hy : y.cls ≠ "java/lang/invoke/MethodHandle" ∧ y.cls ≠ "java/lang/invoke/VarHandle")
    (hM : MetFree l y (head1 [Cond.code y bytes maxL none] rm) (fun a U => a = as' ∧ Z.Warmed39 U.vm ∧ U.heap = h ∧ CHv Z EL U.vm h) (fun _ _ _ _ _ => True) (fun _ U o U' => ∃ v L, o = .returned v ∧ Qc v U'.heap L ∧ CHr Z EL U.vm U.heap U'.vm U'.heap ∧ ReturnedEndW U o U' L rm.cells rm.slots))
    (eT : T.heap = h) (hS : s.Since vm0 k0) (hk : k0 ≤ h.size) (hEL : EW Z a0 EL) (H : CHv Z EL vm0 h) {W cells' slots' : Nat} (hf : rm.frames + 1 ≤ R.frames) (hl : W + (maxL + 11) + rm.locals ≤ R.locals) (hc' : cells + rm.cells = cells') (hs' : slots + rm.slots = slots') (hc : cells' ≤ R.cells) (hs : slots' ≤ R.slots) (hsize : Ls.size = c.maxLocals)
    (hlen : ∀ sig, parseMethodDescriptor y.desc = some sig → argsL.length = sig.parameters.length) (has : (.ref a :: argsL).toArray = as') (hstk : S' = argsL.reverse ++ .ref a :: S) (hW : 2 * 0 + (S.map fun v => v.category).sum ≤ W) (hd : decode c.code pc = .ok (.invokespecial index, 3)) (hp : pc + 3 = pc')
    (K : ∀ v T' h' L lc vm1 k1, Stand p l e R (s.setVm vm1) m args below meth c T' lc cells' slots' → T'.heap = h' → s.Since vm1 k1 → k1 ≤ h'.size → Z.Warmed39 (s.setVm vm1).vm → (s.setVm vm1).vm.findClass own = some m.cls → CHr Z EL vm0 h vm1 h' → Qc v h' L → (∀ n0, Fr n0 locs → Fr n0 L → Fr n0 lc) → own_W p e below P T' m pc' Ls (v.toList ++ S)) : own_W p e below P T m pc Ls S' := by
  subst hp hc' hs' eT
  obtain ⟨v, vm₁, ⟨T1, L1, k1, n1⟩, -, X1, S1, g1, ⟨Lc1, hQ1, l1, y1, z1, C1⟩, st1⟩ := X.specialBackS hx hy1 hown (mvT hZ w1) (mvT hZ w2) (mvT hZ w4) hy (backOfSH (s := s) (vm0 := vm0) hM hZ w4 w3 hf hl hEL H) (g := mkF m pc Ls S') rfl hsize (Steps.refl _) (a := a) (argsL := argsL) (rest := S) hlen hstk hW hd (fun _ _ => ⟨has, rfl, hc, hs⟩)
  dsimp only [Pt.U, Pt.locs, Pt.cells, Pt.slots] at X1 l1 y1 z1 st1 hQ1 S1 g1 C1
  subst l1 y1 z1
  obtain ⟨X2, S2, Z2, o2⟩ := rebS hS hk X1 S1 g1 hZ hown
  exact own_go (fun t k => st1.trans k) (K v T1 _ Lc1 _ _ _ X2 rfl S2 (Nat.le_refl _) Z2 o2 C1 hQ1 fun _ a b => Fr.app a b)
theorem own_callVS (X : Stand p l e R (s.setVm vm0) m args below meth c T locs cells slots) (hx : p.tables.exec = Jvm.exec) (hZ : Z.Warmed39 (s.setVm vm0).vm) {own C : String} {index : Nat} {y : MethodName} {bytes : ByteArray} {maxL : Nat} {ret : Option FieldType} {rm : Room} {Qc : Option Value → Heap → List Loc → Prop} {as' : Array Value} {S' : List Value} (a : Addr) (argsL : List Value)
    (hown : (s.setVm vm0).vm.findClass own = some m.cls) (w1 : (Cond.methodLink own index y).before a0 Z = true) (w2 : (Cond.declares y).before a0 Z = true) (w5 : (Cond.selects C y y).before a0 Z = true) (w6 : (Cond.instanceMethod y).before a0 Z = true) (w3 : (Cond.initialized y.cls).before a0 Z = true) (w4 : (Cond.code y bytes maxL ret).before a0 Z = true) (hy : y.cls ≠ "java/lang/invoke/MethodHandle" ∧ y.cls ≠ "java/lang/invoke/VarHandle")
    (hM : MetFree l y (head1 [Cond.code y bytes maxL ret] rm) (fun a U => a = as' ∧ Z.Warmed39 U.vm ∧ U.heap = h ∧ CHv Z EL U.vm h) (fun _ _ _ _ _ => True) (fun _ U o U' => ∃ v L, o = .returned v ∧ Qc v U'.heap L ∧ CHr Z EL U.vm U.heap U'.vm U'.heap ∧ ReturnedEndW U o U' L rm.cells rm.slots))
    (E : Exa Z h a C) (eT : T.heap = h) (hS : s.Since vm0 k0) (hk : k0 ≤ h.size) (hEL : EW Z a0 EL) (H : CHv Z EL vm0 h) {W cells' slots' : Nat} (hf : rm.frames + 1 ≤ R.frames) (hl : W + (maxL + 11) + rm.locals ≤ R.locals) (hc' : cells + rm.cells = cells') (hs' : slots + rm.slots = slots') (hc : cells' ≤ R.cells) (hs : slots' ≤ R.slots) (hsize : Ls.size = c.maxLocals)
    (hlen : ∀ sig, parseMethodDescriptor y.desc = some sig → argsL.length = sig.parameters.length) (has : (.ref a :: argsL).toArray = as') (hstk : S' = argsL.reverse ++ .ref a :: S) (hW : 2 * 0 + (S.map fun v => v.category).sum ≤ W) (hd : decode c.code pc = .ok (.invokevirtual index, 3)) (hp : pc + 3 = pc')
    (K : ∀ v T' h' L lc vm1 k1, Stand p l e R (s.setVm vm1) m args below meth c T' lc cells' slots' → T'.heap = h' → s.Since vm1 k1 → k1 ≤ h'.size → Z.Warmed39 (s.setVm vm1).vm → (s.setVm vm1).vm.findClass own = some m.cls → CHr Z EL vm0 h vm1 h' → Qc v h' L → (∀ n0, Fr n0 locs → Fr n0 L → Fr n0 lc) → own_W p e below P T' m pc' Ls (v.toList ++ S)) : own_W p e below P T m pc Ls S' := by
  subst hp hc' hs' eT
  obtain ⟨cq, kq, qa, qb, qc⟩ := isOf hZ rfl E
  obtain ⟨v, vm₁, ⟨T1, L1, k1, n1⟩, -, X1, S1, g1, ⟨Lc1, hQ1, l1, y1, z1, C1⟩, st1⟩ := X.virtualBackS hx hown (mvT hZ w1) (mvT hZ w2) (notFace_of_selects (args := #[]) (mvT hZ w5)) (mvT hZ w5) (mvT hZ w6) hy (backOfSH (s := s) (vm0 := vm0) hM hZ w4 w3 hf hl hEL H) qa qc (g := mkF m pc Ls S') rfl hsize (Steps.refl _) (argsL := argsL) (rest := S) hlen hstk hW hd (fun _ _ => ⟨has, rfl, hc, hs⟩)
  dsimp only [Pt.U, Pt.locs, Pt.cells, Pt.slots] at X1 l1 y1 z1 st1 hQ1 S1 g1 C1
  subst l1 y1 z1
  obtain ⟨X2, S2, Z2, o2⟩ := rebS hS hk X1 S1 g1 hZ hown
  exact own_go (fun t k => st1.trans k) (K v T1 _ Lc1 _ _ _ X2 rfl S2 (Nat.le_refl _) Z2 o2 C1 hQ1 fun _ a b => Fr.app a b)
theorem own_chr (X : Stand p l e R (s.setVm vm0) m args below meth c T locs cells slots) (hZ : Z.Warmed39 (s.setVm vm0).vm) (eT : T.heap = h) (hh : s.heap = h0) (hEL : EW Z a0 EL) (H : CHv Z EL vm0 h) (CR : CHr Z EL s.vm h0 vm0 h) (fs : List Frame) : CHr Z EL s.vm s.heap (T.setFrames fs).vm (T.setFrames fs).heap := by
  have q := CR.trans (CHv.at X hZ hEL H)
  rw [← hh, ← eT] at q
  exact q
theorem own_retIS (X : Stand p l e R (s.setVm vm0) m args below meth c T locs cells slots) (hx : p.tables.exec = Jvm.exec) (hlk : meth.locks = false) (hZ : Z.Warmed39 (s.setVm vm0).vm) (eT : T.heap = h) (hh : s.heap = h0) (hS : s.Since vm0 k0) (hk : k0 ≤ h.size) (hEL : EW Z a0 EL) (H : CHv Z EL vm0 h) (CR : CHr Z EL s.vm h0 vm0 h)
    {t : FieldType} {w w' : Value} (hret : meth.sig.returnType = some t) (hd : decode c.code pc = .ok (.ireturn, 1)) {z : Int32} (hw : w = .int z) (hn : narrow t w = w') (ht : t = .int ∨ t = .boolean ∨ t = .byte ∨ t = .char ∨ t = .short) (hc : cells ≤ kc) (hs : slots ≤ ks) (hq : Q (some w') T.heap locs) : own_W p e below (own_PostS Z EL s Q kc ks) T m pc Ls (w :: S) := by
  subst hw
  obtain ⟨fs, hr, hrun, hended, hW⟩ := X.leaveW hS (by rw [eT]; exact hk) (v := some w') (fun h => by rw [hret] at h; cases h) hlk
  refine ⟨_, _, ?_, hrun, hended, _, _, rfl, hq, own_chr X hZ eT hh hEL H CR fs, own_endW hW hc hs⟩
  have hm' : T.vm.method? m = some meth := X.method'
  show Steps p.tables e below (T.setTop { method := m, pc := pc, locals := Ls, stack := _ :: S, locked := none }) _
  rcases ht with rfl | rfl | rfl | rfl | rfl
  all_goals
    jvm_step X.here [X.here.top, hx, hd, hm', hret, hn]
    first | (intro acts; rw [hr _ acts rfl rfl rfl]) | rw [hr _ _ rfl rfl rfl]
    exact Steps.refl _
theorem own_retAS (X : Stand p l e R (s.setVm vm0) m args below meth c T locs cells slots) (hx : p.tables.exec = Jvm.exec) (hlk : meth.locks = false) (hZ : Z.Warmed39 (s.setVm vm0).vm) (eT : T.heap = h) (hh : s.heap = h0) (hS : s.Since vm0 k0) (hk : k0 ≤ h.size) (hEL : EW Z a0 EL) (H : CHv Z EL vm0 h) (CR : CHr Z EL s.vm h0 vm0 h)
    {t : FieldType} {w : Value} (hret : meth.sig.returnType = some t) (hd : decode c.code pc = .ok (.areturn, 1)) (ht : t.isReference = true) (hw : w.isRef = true) (hn : narrow t w = w) (hc : cells ≤ kc) (hs : slots ≤ ks) (hq : Q (some w) T.heap locs) : own_W p e below (own_PostS Z EL s Q kc ks) T m pc Ls (w :: S) := by
  obtain ⟨fs, hr, hrun, hended, hW⟩ := X.leaveW hS (by rw [eT]; exact hk) (v := some w) (fun h => by rw [hret] at h; cases h) hlk
  exact ⟨_, _, retOut X hx hret hn (Or.inr (Or.inr (Or.inr (Or.inr ⟨rfl, ht, hw⟩)))) hd hr, hrun, hended, _, _, rfl, hq, own_chr X hZ eT hh hEL H CR fs, own_endW hW hc hs⟩
theorem own_ret0S (X : Stand p l e R (s.setVm vm0) m args below meth c T locs cells slots) (hx : p.tables.exec = Jvm.exec) (hlk : meth.locks = false) (hZ : Z.Warmed39 (s.setVm vm0).vm) (eT : T.heap = h) (hh : s.heap = h0) (hS : s.Since vm0 k0) (hk : k0 ≤ h.size) (hEL : EW Z a0 EL) (H : CHv Z EL vm0 h) (CR : CHr Z EL s.vm h0 vm0 h)
    (hret : meth.sig.returnType = none) (hd : decode c.code pc = .ok (.return_, 1)) (hc : cells ≤ kc) (hs : slots ≤ ks) (hq : Q none T.heap locs) : own_W p e below (own_PostS Z EL s Q kc ks) T m pc Ls [] := by
  obtain ⟨fs, hr, hrun, hended, hW⟩ := X.leaveW hS (by rw [eT]; exact hk) (v := none) (fun _ => rfl) hlk
  exact ⟨_, _, X.returnOut hx hret hd hr, hrun, hended, _, _, rfl, hq, own_chr X hZ eT hh hEL H CR fs, own_endW hW hc hs⟩
end OwnKit3
/-- a String under construction (its value is null yet) is no booked literal -/
theorem own_safe_null {Z : State} {EL : List (String × Nat)} {vm : Vm} {h : Heap} {x : Addr} (hal : Z.vm.Alike vm) (E : Exa Z h x "java/lang/String") (F : Fld Z h x "java/lang/String" "value" "[B" .null) : Safe Z EL vm h x := by
  rintro ⟨p, hp, u, a, hb, q, rfl, ⟨cS, ⟨⟨s1, s2, s3, ⟨cv, kv, iv, s4, s4'⟩, ⟨cc, kc, ic, s5, s5'⟩, s6, s7, s8, s9, s10, s11, s12, s13, s14, s15, s16⟩, hfS, hcS⟩, ⟨kS, k1, k2, k3⟩, hB, hbyt⟩, hy⟩
  rcases hy with rfl | rfl
  · obtain ⟨cell, cf, k, i, f, f1, f2, f3, f4, f5, f6, f7⟩ := F
    obtain ⟨kv', z4⟩ := ff_back (Z := Z) (U := Wst Z vm h) hal s4
    have c1 : h[q.sa]? = some q.sC := s1
    cases c1.symm.trans f1
    cases z4.symm.trans f2
    cases s8.symm.trans f7
  · obtain ⟨cell, k, e1, e2, e3, e4, e5⟩ := E
    have c1 : h[q.sd]? = some q.SA := s10
    cases c1.symm.trans e1
    have hfS' : Z.vm.findClass "java/lang/String" = some q.SA.cls := e2
    have hB' : Z.vm.findClass "[B" = some q.SA.cls := by rw [← hal.findClass]; exact hB
    obtain ⟨ka, a1, a2⟩ := Vm.findClass_spec hfS'
    obtain ⟨kb, b1, b2⟩ := Vm.findClass_spec hB'
    cases a1.symm.trans b1
    exact absurd (a2.symm.trans b2) (by decide)
theorem own_arv_at {Z : State} {h : Heap} {a : Addr} {k k' : ClassId} {ty ty' : FieldType} {z z' : Int32} {vs vs' : List Value} {d d' : Value} (A : Arv Z h a k ty z vs d) (B : Arv Z h a k' ty' z' vs' d') (i : Nat) (hi : i < z.toNatClampNeg) : vs.getD i d = vs'.getD i d' := by
  obtain ⟨c1, a1, -, s1, -, h1, -⟩ := A
  obtain ⟨c2, b1, -, s2, -, h2, -⟩ := B
  cases a1.1.symm.trans b1.1
  exact Option.some.inj ((h1 i (by rw [s1]; exact hi)).symm.trans (h2 i (by rw [s1]; exact hi)))
theorem own_fld_at {Z : State} {h : Heap} {a : Addr} {C n d : String} {v w : Value} (F : Fld Z h a C n d v) (G : Fld Z h a C n d w) : v = w := Classical.byContradiction fun q => F.ne G q rfl
def own_EL : List (String × Nat) := consts_1
theorem own_mem_10 : ("com/example/modelkiln/modelkiln/ocl/BooleanValue", 31) ∈ own_EL := by simp [own_EL, consts_1]
theorem own_txt_10 : (∀ c ∈ "false".toList, c.toNat < 256) ∧ "false".toList.map (fun c => Value.int (Jvm.Lit.byteI c.toNat.toUInt16)) = [(.int (102 : Int32)), (.int (97 : Int32)), (.int (108 : Int32)), (.int (115 : Int32)), (.int (101 : Int32))] := by decide +kernel
theorem own_mem_54 : ("com/example/modelkiln/modelkiln/ocl/BooleanValue", 29) ∈ own_EL := by simp [own_EL, consts_1]
theorem own_txt_54 : (∀ c ∈ "true".toList, c.toNat < 256) ∧ "true".toList.map (fun c => Value.int (Jvm.Lit.byteI c.toNat.toUInt16)) = [(.int (116 : Int32)), (.int (114 : Int32)), (.int (117 : Int32)), (.int (101 : Int32))] := by decide +kernel
theorem own_wS {Z : State} {a0 : Array Value} (hw : ∀ d ∈ tables_1, d.before a0 Z = true) : ∀ a ∈ Bundle.stringAtoms, a.before a0 Z = true := by
  intro a ha
  simp only [Bundle.stringAtoms, List.mem_cons, List.not_mem_nil, or_false] at ha
  rcases ha with rfl | rfl | rfl | rfl | rfl | rfl | rfl
  all_goals first | exact (own_w hw 11 rfl) | exact (own_w hw 12 rfl) | exact (own_w hw 13 rfl) | exact (own_w hw 14 rfl) | exact (own_w hw 15 rfl) | exact (own_w hw 16 rfl) | exact (own_w hw 17 rfl)
theorem own_feq {args : Array Value} {s : State} {t : Term} {x : Addr} {C n d : String} {k : Int32} (ev : t.eval args s none [] s = some (.ref x)) (h : (Jvm.Cond.eq (Term.field t C n d) (Term.int k)).value args s none s [] = some true) : s.fieldOf? x C n d = some (.int k) := by
  have e1 := fld_at (C := C) (n := n) (dd := d) ev
  simp only [Cond.value, e1, Term.int_eval] at h
  cases hf : s.fieldOf? x C n d with
  | none => simp [hf] at h
  | some v => cases v <;> simp [hf] at h ⊢; exact h
theorem own_d_jdk_42_method_152_code_0 : decode jdk_42_method_152_code 0 = .ok (.getstatic 38, 3) := by decide +kernel
theorem own_d_jdk_42_method_152_code_3 : decode jdk_42_method_152_code 3 = .ok (.ifCond .eq 10, 3) := by decide +kernel
theorem own_d_jdk_42_method_152_code_6 : decode jdk_42_method_152_code 6 = .ok (.aload_n 0, 1) := by decide +kernel
theorem own_d_jdk_42_method_152_code_7 : decode jdk_42_method_152_code 7 = .ok (.getfield 15, 3) := by decide +kernel
theorem own_d_jdk_42_method_152_code_10 : decode jdk_42_method_152_code 10 = .ok (.goto 4, 3) := by decide +kernel
theorem own_d_jdk_42_method_152_code_14 : decode jdk_42_method_152_code 14 = .ok (.ireturn, 1) := by decide +kernel
theorem own_pn_java_lang_String : plainName "java/lang/String" = true := by first | (simp [plainName, overriddenIn]; done) | decide +kernel
theorem ef_coder (m : MethodId) (x0 : Addr) : entryFrame m #[(.ref x0)] 1 = mkF m 0 #[.val (.ref x0)] [] := by first | (simp [entryFrame, mkF, argsToLocals, Value.category]; done) | rfl
def Q_coder (Z : State) (a1 : Addr) (cs : Int32) (h0 : Heap) (n0 : Nat) (v : Option Value) (h : Heap) (L : List Loc) : Prop := v = some (.int (0 : Int32)) ∧ Fr n0 L ∧ h = h0
set_option maxRecDepth 65536 in
set_option maxHeartbeats 40000000 in
theorem rm_coder (l : Launch) (Z : State) (a0 : Array Value) (hw : ∀ d ∈ tables_1, d.before a0 Z = true) (ws : List Jvm.Cond) (a1 : Addr) (cs : Int32) (h0 : Heap) (n0 : Nat) (Z0 : n0 ≤ h0.size) (S_C : Sta Z h0 "java/lang/String" "COMPACT_STRINGS" "Z" (.int cs)) (hcs : ¬ cs = 0) (F_c : Fld Z h0 a1 "java/lang/String" "coder" "B" (.int (0 : Int32))) :
    MetFree l (⟨"java/lang/String", "coder", "()B"⟩ : MethodName) (head1 (Jvm.Cond.code (⟨"java/lang/String", "coder", "()B"⟩ : MethodName) jdk_42_method_152_code 1 (some .byte) :: ws) ({ frames := 0, cells := 0, slots := 0, locals := 0 } : Room)) (fun a U => a = #[(.ref a1)] ∧ Z.Warmed39 U.vm ∧ U.heap = h0) (fun _ _ _ _ _ => True) (fun _ U o U' => ∃ v L, o = .returned v ∧ Q_coder Z a1 cs h0 n0 v U'.heap L ∧ FrameEnd U o U' L ({ frames := 0, cells := 0, slots := 0, locals := 0 } : Room).cells ({ frames := 0, cells := 0, slots := 0, locals := 0 } : Room).slots) := by
  refine MetFree.of_bodySF (plainFor_of_name own_pn_java_lang_String) hisR ?_
  intro p e s m args below meth c s₁ Bd hml0 hP hK
  obtain ⟨rfl, hZ, hh⟩ := hP
  have hx := Bd.exec
  have hby := Bd.bytes
  have hml : c.maxLocals = 1 := hml0
  have hown : s.vm.findClass "java/lang/String" = some m.cls := findClass_of_methodNamed Bd.named
  have hnm := (name_of_methodNamed Bd.named Bd.method).1
  have hlk := Bd.notSynchronized
  obtain ⟨lc, hlc⟩ : ∃ lc : List Loc, lc = [] := ⟨_, rfl⟩
  have X : Stand p l e ({ frames := 0, cells := 0, slots := 0, locals := 0 } : Room) s m #[(.ref a1)] below meth c s₁ lc 0 0 := hlc ▸ Stand.of_body Bd
  have eT : s₁.heap = h0 := by rw [← hh, Bd.state]; rfl
  have N : Fr n0 lc := hlc ▸ Fr.nil n0
  refine own_enter (ef_coder m a1) ?_
  obtain ⟨T, hT⟩ : ∃ T : State, T = s₁ := ⟨_, rfl⟩
  rw [← hT] at X eT ⊢
  show own_W p e below (own_Post s (Q_coder Z a1 cs h0 n0) 0 0) T m 0 #[.val (.ref a1)] []
  refine own_getS X hx hZ hown (host := "") (Or.inl (own_w hw 29 rfl)) Via.refl eT S_C (hb hby own_d_jdk_42_method_152_code_0) (pc' := 3) rfl ?_
  intro T X eT
  refine own_ifN X hx (hb hby own_d_jdk_42_method_152_code_3) (pc' := 6) rfl (show ¬ (cs = (0 : Int32)) from hcs) ?_
  refine own_aloadN X hx (hb hby own_d_jdk_42_method_152_code_6) (pc' := 7) rfl rfl rfl ?_
  refine own_getF X hx hZ hown (host := "") (Or.inl (own_w hw 30 rfl)) Via.refl eT F_c (hb hby own_d_jdk_42_method_152_code_7) (pc' := 10) rfl ?_
  intro T X eT
  refine own_goto X hx (hb hby own_d_jdk_42_method_152_code_10) (by decide) (pc' := 14) rfl ?_
  refine own_retI X hx hlk (t := .byte) (w' := (.int (0 : Int32))) Bd.returns (hb hby own_d_jdk_42_method_152_code_14) rfl rfl (by simp) (by decide) (by decide) ?_
  rw [eT]
  exact ⟨rfl, N, rfl⟩
theorem own_d_jdk_42_method_154_code_0 : decode jdk_42_method_154_code 0 = .ok (.getstatic 38, 3) := by decide +kernel
theorem own_d_jdk_42_method_154_code_3 : decode jdk_42_method_154_code 3 = .ok (.ifCond .eq 14, 3) := by decide +kernel
theorem own_d_jdk_42_method_154_code_6 : decode jdk_42_method_154_code 6 = .ok (.aload_n 0, 1) := by decide +kernel
theorem own_d_jdk_42_method_154_code_7 : decode jdk_42_method_154_code 7 = .ok (.getfield 15, 3) := by decide +kernel
theorem own_d_jdk_42_method_154_code_10 : decode jdk_42_method_154_code 10 = .ok (.ifCond .ne 7, 3) := by decide +kernel
theorem own_d_jdk_42_method_154_code_13 : decode jdk_42_method_154_code 13 = .ok (.iconst 1, 1) := by decide +kernel
theorem own_d_jdk_42_method_154_code_14 : decode jdk_42_method_154_code 14 = .ok (.goto 4, 3) := by decide +kernel
theorem own_d_jdk_42_method_154_code_18 : decode jdk_42_method_154_code 18 = .ok (.ireturn, 1) := by decide +kernel
theorem ef_isLat (m : MethodId) (x0 : Addr) : entryFrame m #[(.ref x0)] 1 = mkF m 0 #[.val (.ref x0)] [] := by first | (simp [entryFrame, mkF, argsToLocals, Value.category]; done) | rfl
def Q_isLat (Z : State) (a1 : Addr) (cs : Int32) (h0 : Heap) (n0 : Nat) (v : Option Value) (h : Heap) (L : List Loc) : Prop := v = some (.int (1 : Int32)) ∧ Fr n0 L ∧ h = h0
set_option maxRecDepth 65536 in
set_option maxHeartbeats 40000000 in
theorem rm_isLat (l : Launch) (Z : State) (a0 : Array Value) (hw : ∀ d ∈ tables_1, d.before a0 Z = true) (ws : List Jvm.Cond) (a1 : Addr) (cs : Int32) (h0 : Heap) (n0 : Nat) (Z0 : n0 ≤ h0.size) (S_C : Sta Z h0 "java/lang/String" "COMPACT_STRINGS" "Z" (.int cs)) (hcs : ¬ cs = 0) (F_c : Fld Z h0 a1 "java/lang/String" "coder" "B" (.int (0 : Int32))) :
    MetFree l (⟨"java/lang/String", "isLatin1", "()Z"⟩ : MethodName) (head1 (Jvm.Cond.code (⟨"java/lang/String", "isLatin1", "()Z"⟩ : MethodName) jdk_42_method_154_code 1 (some .boolean) :: ws) ({ frames := 0, cells := 0, slots := 0, locals := 0 } : Room)) (fun a U => a = #[(.ref a1)] ∧ Z.Warmed39 U.vm ∧ U.heap = h0) (fun _ _ _ _ _ => True) (fun _ U o U' => ∃ v L, o = .returned v ∧ Q_isLat Z a1 cs h0 n0 v U'.heap L ∧ FrameEnd U o U' L ({ frames := 0, cells := 0, slots := 0, locals := 0 } : Room).cells ({ frames := 0, cells := 0, slots := 0, locals := 0 } : Room).slots) := by
  refine MetFree.of_bodySF (plainFor_of_name own_pn_java_lang_String) hisR ?_
  intro p e s m args below meth c s₁ Bd hml0 hP hK
  obtain ⟨rfl, hZ, hh⟩ := hP
  have hx := Bd.exec
  have hby := Bd.bytes
  have hml : c.maxLocals = 1 := hml0
  have hown : s.vm.findClass "java/lang/String" = some m.cls := findClass_of_methodNamed Bd.named
  have hnm := (name_of_methodNamed Bd.named Bd.method).1
  have hlk := Bd.notSynchronized
  obtain ⟨lc, hlc⟩ : ∃ lc : List Loc, lc = [] := ⟨_, rfl⟩
  have X : Stand p l e ({ frames := 0, cells := 0, slots := 0, locals := 0 } : Room) s m #[(.ref a1)] below meth c s₁ lc 0 0 := hlc ▸ Stand.of_body Bd
  have eT : s₁.heap = h0 := by rw [← hh, Bd.state]; rfl
  have N : Fr n0 lc := hlc ▸ Fr.nil n0
  refine own_enter (ef_isLat m a1) ?_
  obtain ⟨T, hT⟩ : ∃ T : State, T = s₁ := ⟨_, rfl⟩
  rw [← hT] at X eT ⊢
  show own_W p e below (own_Post s (Q_isLat Z a1 cs h0 n0) 0 0) T m 0 #[.val (.ref a1)] []
  refine own_getS X hx hZ hown (host := "") (Or.inl (own_w hw 29 rfl)) Via.refl eT S_C (hb hby own_d_jdk_42_method_154_code_0) (pc' := 3) rfl ?_
  intro T X eT
  refine own_ifN X hx (hb hby own_d_jdk_42_method_154_code_3) (pc' := 6) rfl (show ¬ (cs = (0 : Int32)) from hcs) ?_
  refine own_aloadN X hx (hb hby own_d_jdk_42_method_154_code_6) (pc' := 7) rfl rfl rfl ?_
  refine own_getF X hx hZ hown (host := "") (Or.inl (own_w hw 30 rfl)) Via.refl eT F_c (hb hby own_d_jdk_42_method_154_code_7) (pc' := 10) rfl ?_
  intro T X eT
  refine own_ifN X hx (hb hby own_d_jdk_42_method_154_code_10) (pc' := 13) rfl (show (0 : Int32) = (0 : Int32) from (by decide)) ?_
  refine own_iconst X hx (1 : Int32) (hb hby own_d_jdk_42_method_154_code_13) (pc' := 14) rfl rfl ?_
  refine own_goto X hx (hb hby own_d_jdk_42_method_154_code_14) (by decide) (pc' := 18) rfl ?_
  refine own_retI X hx hlk (t := .boolean) (w' := (.int (1 : Int32))) Bd.returns (hb hby own_d_jdk_42_method_154_code_18) rfl rfl (by simp) (by decide) (by decide) ?_
  rw [eT]
  exact ⟨rfl, N, rfl⟩
theorem own_shr0 (x : Int32) : x >>> ((0 : Int32) &&& 31) = x := by simp
theorem own_d_jdk_42_method_54_code_0 : decode jdk_42_method_54_code 0 = .ok (.aload_n 0, 1) := by decide +kernel
theorem own_d_jdk_42_method_54_code_1 : decode jdk_42_method_54_code 1 = .ok (.getfield 9, 3) := by decide +kernel
theorem own_d_jdk_42_method_54_code_4 : decode jdk_42_method_54_code 4 = .ok (.arraylength, 1) := by decide +kernel
theorem own_d_jdk_42_method_54_code_5 : decode jdk_42_method_54_code 5 = .ok (.aload_n 0, 1) := by decide +kernel
theorem own_d_jdk_42_method_54_code_6 : decode jdk_42_method_54_code 6 = .ok (.invokevirtual 335, 3) := by decide +kernel
theorem own_pd_2829B : parseMethodDescriptor "()B" = some ⟨[], some .byte⟩ := by decide +kernel
theorem own_d_jdk_42_method_54_code_9 : decode jdk_42_method_54_code 9 = .ok (.ishr, 1) := by decide +kernel
theorem own_d_jdk_42_method_54_code_10 : decode jdk_42_method_54_code 10 = .ok (.ireturn, 1) := by decide +kernel
theorem ef_len (m : MethodId) (x0 : Addr) : entryFrame m #[(.ref x0)] 1 = mkF m 0 #[.val (.ref x0)] [] := by first | (simp [entryFrame, mkF, argsToLocals, Value.category]; done) | rfl
def Q_len (Z : State) (a1 b : Addr) (cs nl : Int32) (h0 : Heap) (n0 : Nat) (v : Option Value) (h : Heap) (L : List Loc) : Prop := v = some (.int nl) ∧ Fr n0 L ∧ h = h0
set_option maxRecDepth 65536 in
set_option maxHeartbeats 40000000 in
theorem rm_len (l : Launch) (Z : State) (a0 : Array Value) (hw : ∀ d ∈ tables_1, d.before a0 Z = true) (ws : List Jvm.Cond) (a1 b : Addr) (cs nl : Int32) (h0 : Heap) (n0 : Nat) (Z0 : n0 ≤ h0.size) (S_C : Sta Z h0 "java/lang/String" "COMPACT_STRINGS" "Z" (.int cs)) (hcs : ¬ cs = 0) (E_a1 : Exa Z h0 a1 "java/lang/String") (F_c : Fld Z h0 a1 "java/lang/String" "coder" "B" (.int (0 : Int32))) (F_v : Fld Z h0 a1 "java/lang/String" "value" "[B" (.ref b)) (k : ClassId) (vs : List Value) (A_b : Arv Z h0 b k .byte nl vs (.int (0 : Int32))) :
    MetFree l (⟨"java/lang/String", "length", "()I"⟩ : MethodName) (head1 (Jvm.Cond.code (⟨"java/lang/String", "length", "()I"⟩ : MethodName) jdk_42_method_54_code 1 (some .int) :: ws) ({ frames := 1, cells := 0, slots := 0, locals := 13 } : Room)) (fun a U => a = #[(.ref a1)] ∧ Z.Warmed39 U.vm ∧ U.heap = h0) (fun _ _ _ _ _ => True) (fun _ U o U' => ∃ v L, o = .returned v ∧ Q_len Z a1 b cs nl h0 n0 v U'.heap L ∧ FrameEnd U o U' L ({ frames := 1, cells := 0, slots := 0, locals := 13 } : Room).cells ({ frames := 1, cells := 0, slots := 0, locals := 13 } : Room).slots) := by
  refine MetFree.of_bodySF (plainFor_of_name own_pn_java_lang_String) hisR ?_
  intro p e s m args below meth c s₁ Bd hml0 hP hK
  obtain ⟨rfl, hZ, hh⟩ := hP
  have hx := Bd.exec
  have hby := Bd.bytes
  have hml : c.maxLocals = 1 := hml0
  have hown : s.vm.findClass "java/lang/String" = some m.cls := findClass_of_methodNamed Bd.named
  have hnm := (name_of_methodNamed Bd.named Bd.method).1
  have hlk := Bd.notSynchronized
  obtain ⟨lc, hlc⟩ : ∃ lc : List Loc, lc = [] := ⟨_, rfl⟩
  have X : Stand p l e ({ frames := 1, cells := 0, slots := 0, locals := 13 } : Room) s m #[(.ref a1)] below meth c s₁ lc 0 0 := hlc ▸ Stand.of_body Bd
  have eT : s₁.heap = h0 := by rw [← hh, Bd.state]; rfl
  have N : Fr n0 lc := hlc ▸ Fr.nil n0
  refine own_enter (ef_len m a1) ?_
  obtain ⟨T, hT⟩ : ∃ T : State, T = s₁ := ⟨_, rfl⟩
  rw [← hT] at X eT ⊢
  show own_W p e below (own_Post s (Q_len Z a1 b cs nl h0 n0) 0 0) T m 0 #[.val (.ref a1)] []
  refine own_aloadN X hx (hb hby own_d_jdk_42_method_54_code_0) (pc' := 1) rfl rfl rfl ?_
  refine own_getF X hx hZ hown (host := "") (Or.inl (own_w hw 23 rfl)) Via.refl eT F_v (hb hby own_d_jdk_42_method_54_code_1) (pc' := 4) rfl ?_
  intro T X eT
  refine own_arrlen X hx hZ eT A_b (hb hby own_d_jdk_42_method_54_code_4) (pc' := 5) rfl ?_
  refine own_aloadN X hx (hb hby own_d_jdk_42_method_54_code_5) (pc' := 6) rfl rfl rfl ?_
  refine own_callV X hx hZ (y := (⟨"java/lang/String", "coder", "()B"⟩ : MethodName)) a1 [] hown (own_w hw 24 rfl) (own_w hw 25 rfl) (own_w hw 27 rfl) (own_w hw 26 rfl) (own_w hw 11 rfl) (own_w hw 28 rfl) (by decide) (rm_coder l Z a0 hw [] a1 cs h0 n0 Z0 S_C hcs F_c) E_a1 eT (W := 1) (by decide) (by decide) (cells' := 0) (slots' := 0) rfl rfl (by decide) (by decide) (by rw [hml]; rfl) (lenOf own_pd_2829B rfl) rfl (S := [(.int nl)]) rfl (Nat.le_of_eq rfl) (hb hby own_d_jdk_42_method_54_code_6) (pc' := 9) rfl ?_
  intro v T h1 L lc X eT hq fN
  obtain ⟨rfl, Nq, hqe⟩ := hq
  have N := fN _ N Nq
  rw [hqe] at eT
  show own_W p e below (own_Post s (Q_len Z a1 b cs nl h0 n0) 0 0) T m 9 #[.val (.ref a1)] [(.int (0 : Int32)), (.int nl)]
  refine own_ishr X hx (hb hby own_d_jdk_42_method_54_code_9) (pc' := 10) rfl ?_
  refine own_retI X hx hlk (t := .int) (w' := (.int (nl >>> ((0 : Int32) &&& 31)))) Bd.returns (hb hby own_d_jdk_42_method_54_code_10) rfl rfl (by simp) (by decide) (by decide) ?_
  rw [eT]
  exact ⟨by rw [own_shr0], N, rfl⟩
theorem own_d_jdk_41_method_11_code_0 : decode jdk_41_method_11_code 0 = .ok (.iload_n 0, 1) := by decide +kernel
theorem own_d_jdk_41_method_11_code_1 : decode jdk_41_method_11_code 1 = .ok (.ifCond .lt 8, 3) := by decide +kernel
theorem own_d_jdk_41_method_11_code_4 : decode jdk_41_method_11_code 4 = .ok (.iload_n 0, 1) := by decide +kernel
theorem own_d_jdk_41_method_11_code_5 : decode jdk_41_method_11_code 5 = .ok (.iload_n 1, 1) := by decide +kernel
theorem own_d_jdk_41_method_11_code_6 : decode jdk_41_method_11_code 6 = .ok (.if_icmp .lt 10, 3) := by decide +kernel
theorem own_d_jdk_41_method_11_code_16 : decode jdk_41_method_11_code 16 = .ok (.iload_n 0, 1) := by decide +kernel
theorem own_d_jdk_41_method_11_code_17 : decode jdk_41_method_11_code 17 = .ok (.ireturn, 1) := by decide +kernel
theorem own_pn_jdk_internal_util_Preconditions : plainName "jdk/internal/util/Preconditions" = true := by first | (simp [plainName, overriddenIn]; done) | decide +kernel
theorem ef_pci (m : MethodId) (x0 : Int32) (x1 : Int32) (x2 : Value) (hx2 : x2.isRef = true) : entryFrame m #[(.int x0), (.int x1), x2] 3 = mkF m 0 #[.val (.int x0), .val (.int x1), .val x2] [] := by rcases ref_cases hx2 with rfl | ⟨_, rfl⟩ <;> first | (simp [entryFrame, mkF, argsToLocals, Value.category]; done) | rfl
def Q_pci (Z : State) (p0 p1 : Int32) (fm : Value) (h0 : Heap) (n0 : Nat) (v : Option Value) (h : Heap) (L : List Loc) : Prop := v = some (.int p0) ∧ Fr n0 L ∧ h = h0
set_option maxRecDepth 65536 in
set_option maxHeartbeats 40000000 in
theorem rm_pci (l : Launch) (Z : State) (a0 : Array Value) (hw : ∀ d ∈ tables_1, d.before a0 Z = true) (ws : List Jvm.Cond) (p0 p1 : Int32) (fm : Value) (h0 : Heap) (n0 : Nat) (Z0 : n0 ≤ h0.size) (hfm : fm.isRef = true) (hj0 : ¬ p0 < 0) (hj1 : p0 < p1) :
    MetFree l (⟨"jdk/internal/util/Preconditions", "checkIndex", "(IILjava/util/function/BiFunction;)I"⟩ : MethodName) (head1 (Jvm.Cond.code (⟨"jdk/internal/util/Preconditions", "checkIndex", "(IILjava/util/function/BiFunction;)I"⟩ : MethodName) jdk_41_method_11_code 3 (some .int) :: ws) ({ frames := 0, cells := 0, slots := 0, locals := 0 } : Room)) (fun a U => a = #[(.int p0), (.int p1), fm] ∧ Z.Warmed39 U.vm ∧ U.heap = h0) (fun _ _ _ _ _ => True) (fun _ U o U' => ∃ v L, o = .returned v ∧ Q_pci Z p0 p1 fm h0 n0 v U'.heap L ∧ FrameEnd U o U' L ({ frames := 0, cells := 0, slots := 0, locals := 0 } : Room).cells ({ frames := 0, cells := 0, slots := 0, locals := 0 } : Room).slots) := by
  refine MetFree.of_bodySF (plainFor_of_name own_pn_jdk_internal_util_Preconditions) hisR ?_
  intro p e s m args below meth c s₁ Bd hml0 hP hK
  obtain ⟨rfl, hZ, hh⟩ := hP
  have hx := Bd.exec
  have hby := Bd.bytes
  have hml : c.maxLocals = 3 := hml0
  have hown : s.vm.findClass "jdk/internal/util/Preconditions" = some m.cls := findClass_of_methodNamed Bd.named
  have hnm := (name_of_methodNamed Bd.named Bd.method).1
  have hlk := Bd.notSynchronized
  obtain ⟨lc, hlc⟩ : ∃ lc : List Loc, lc = [] := ⟨_, rfl⟩
  have X : Stand p l e ({ frames := 0, cells := 0, slots := 0, locals := 0 } : Room) s m #[(.int p0), (.int p1), fm] below meth c s₁ lc 0 0 := hlc ▸ Stand.of_body Bd
  have eT : s₁.heap = h0 := by rw [← hh, Bd.state]; rfl
  have N : Fr n0 lc := hlc ▸ Fr.nil n0
  refine own_enter (ef_pci m p0 p1 fm hfm) ?_
  obtain ⟨T, hT⟩ : ∃ T : State, T = s₁ := ⟨_, rfl⟩
  rw [← hT] at X eT ⊢
  show own_W p e below (own_Post s (Q_pci Z p0 p1 fm h0 n0) 0 0) T m 0 #[.val (.int p0), .val (.int p1), .val fm] []
  refine own_iloadN X hx (hb hby own_d_jdk_41_method_11_code_0) (pc' := 1) rfl rfl ?_
  refine own_ifN X hx (hb hby own_d_jdk_41_method_11_code_1) (pc' := 4) rfl (show ¬ (p0 < (0 : Int32)) from hj0) ?_
  refine own_iloadN X hx (hb hby own_d_jdk_41_method_11_code_4) (pc' := 5) rfl rfl ?_
  refine own_iloadN X hx (hb hby own_d_jdk_41_method_11_code_5) (pc' := 6) rfl rfl ?_
  refine own_icmpY X hx (hb hby own_d_jdk_41_method_11_code_6) (by decide) (pc' := 16) rfl (show p0 < p1 from hj1) ?_
  refine own_iloadN X hx (hb hby own_d_jdk_41_method_11_code_16) (pc' := 17) rfl rfl ?_
  refine own_retI X hx hlk (t := .int) (w' := (.int p0)) Bd.returns (hb hby own_d_jdk_41_method_11_code_17) rfl rfl (by simp) (by decide) (by decide) ?_
  rw [eT]
  exact ⟨rfl, N, rfl⟩
theorem own_d_jdk_42_method_155_code_0 : decode jdk_42_method_155_code 0 = .ok (.iload_n 0, 1) := by decide +kernel
theorem own_d_jdk_42_method_155_code_1 : decode jdk_42_method_155_code 1 = .ok (.iload_n 1, 1) := by decide +kernel
theorem own_d_jdk_42_method_155_code_2 : decode jdk_42_method_155_code 2 = .ok (.getstatic 1053, 3) := by decide +kernel
theorem own_d_jdk_42_method_155_code_5 : decode jdk_42_method_155_code 5 = .ok (.invokestatic 1059, 3) := by decide +kernel
theorem own_pd_28IILjava2futil2ffunction2fBiFunction3b29I : parseMethodDescriptor "(IILjava/util/function/BiFunction;)I" = some ⟨[.int, .int, (.object "java/util/function/BiFunction")], some .int⟩ := by decide +kernel
theorem own_d_jdk_42_method_155_code_8 : decode jdk_42_method_155_code 8 = .ok (.pop, 1) := by decide +kernel
theorem own_d_jdk_42_method_155_code_9 : decode jdk_42_method_155_code 9 = .ok (.return_, 1) := by decide +kernel
theorem ef_sci (m : MethodId) (x0 : Int32) (x1 : Int32) : entryFrame m #[(.int x0), (.int x1)] 2 = mkF m 0 #[.val (.int x0), .val (.int x1)] [] := by first | (simp [entryFrame, mkF, argsToLocals, Value.category]; done) | rfl
def Q_sci (Z : State) (p0 p1 : Int32) (fm : Value) (h0 : Heap) (n0 : Nat) (v : Option Value) (h : Heap) (L : List Loc) : Prop := v = none ∧ Fr n0 L ∧ h = h0
set_option maxRecDepth 65536 in
set_option maxHeartbeats 40000000 in
theorem rm_sci (l : Launch) (Z : State) (a0 : Array Value) (hw : ∀ d ∈ tables_1, d.before a0 Z = true) (ws : List Jvm.Cond) (p0 p1 : Int32) (fm : Value) (h0 : Heap) (n0 : Nat) (Z0 : n0 ≤ h0.size) (S_F : Sta Z h0 "jdk/internal/util/Preconditions" "SIOOBE_FORMATTER" "Ljava/util/function/BiFunction;" fm) (hfm : fm.isRef = true) (hj0 : ¬ p0 < 0) (hj1 : p0 < p1) :
    MetFree l (⟨"java/lang/String", "checkIndex", "(II)V"⟩ : MethodName) (head1 (Jvm.Cond.code (⟨"java/lang/String", "checkIndex", "(II)V"⟩ : MethodName) jdk_42_method_155_code 2 none :: ws) ({ frames := 1, cells := 0, slots := 0, locals := 14 } : Room)) (fun a U => a = #[(.int p0), (.int p1)] ∧ Z.Warmed39 U.vm ∧ U.heap = h0) (fun _ _ _ _ _ => True) (fun _ U o U' => ∃ v L, o = .returned v ∧ Q_sci Z p0 p1 fm h0 n0 v U'.heap L ∧ FrameEnd U o U' L ({ frames := 1, cells := 0, slots := 0, locals := 14 } : Room).cells ({ frames := 1, cells := 0, slots := 0, locals := 14 } : Room).slots) := by
  refine MetFree.of_bodySF (plainFor_of_name own_pn_java_lang_String) hisR ?_
  intro p e s m args below meth c s₁ Bd hml0 hP hK
  obtain ⟨rfl, hZ, hh⟩ := hP
  have hx := Bd.exec
  have hby := Bd.bytes
  have hml : c.maxLocals = 2 := hml0
  have hown : s.vm.findClass "java/lang/String" = some m.cls := findClass_of_methodNamed Bd.named
  have hnm := (name_of_methodNamed Bd.named Bd.method).1
  have hlk := Bd.notSynchronized
  obtain ⟨lc, hlc⟩ : ∃ lc : List Loc, lc = [] := ⟨_, rfl⟩
  have X : Stand p l e ({ frames := 1, cells := 0, slots := 0, locals := 14 } : Room) s m #[(.int p0), (.int p1)] below meth c s₁ lc 0 0 := hlc ▸ Stand.of_body Bd
  have eT : s₁.heap = h0 := by rw [← hh, Bd.state]; rfl
  have N : Fr n0 lc := hlc ▸ Fr.nil n0
  refine own_enter (ef_sci m p0 p1) ?_
  obtain ⟨T, hT⟩ : ∃ T : State, T = s₁ := ⟨_, rfl⟩
  rw [← hT] at X eT ⊢
  show own_W p e below (own_Post s (Q_sci Z p0 p1 fm h0 n0) 0 0) T m 0 #[.val (.int p0), .val (.int p1)] []
  refine own_iloadN X hx (hb hby own_d_jdk_42_method_155_code_0) (pc' := 1) rfl rfl ?_
  refine own_iloadN X hx (hb hby own_d_jdk_42_method_155_code_1) (pc' := 2) rfl rfl ?_
  refine own_getS X hx hZ hown (host := "") (Or.inl (own_w hw 48 rfl)) Via.refl eT S_F (hb hby own_d_jdk_42_method_155_code_2) (pc' := 5) rfl ?_
  intro T X eT
  refine own_callS X hx hZ [(.int p0), (.int p1), fm] hown (own_w hw 50 rfl) (own_w hw 51 rfl) (own_w hw 49 rfl) (own_w hw 52 rfl) (by decide) (rm_pci l Z a0 hw [] p0 p1 fm h0 n0 Z0 hfm hj0 hj1) eT (W := 0) (by decide) (by decide) (cells' := 0) (slots' := 0) rfl rfl (by decide) (by decide) (by rw [hml]; rfl) (lenOf own_pd_28IILjava2futil2ffunction2fBiFunction3b29I rfl) rfl (S := []) rfl (Nat.le_of_eq rfl) (hb hby own_d_jdk_42_method_155_code_5) (pc' := 8) rfl ?_
  intro v T h1 L lc X eT hq fN
  obtain ⟨rfl, Nq, hqe⟩ := hq
  have N := fN _ N Nq
  rw [hqe] at eT
  show own_W p e below (own_Post s (Q_sci Z p0 p1 fm h0 n0) 0 0) T m 8 #[.val (.int p0), .val (.int p1)] [(.int p0)]
  refine own_pop X hx (hb hby own_d_jdk_42_method_155_code_8) (pc' := 9) rfl rfl ?_
  refine own_ret0 X hx hlk Bd.returns (hb hby own_d_jdk_42_method_155_code_9) (by decide) (by decide) ?_
  rw [eT]
  exact ⟨rfl, N, rfl⟩
theorem own_d_jdk_43_method_2_code_0 : decode jdk_43_method_2_code 0 = .ok (.iload_n 1, 1) := by decide +kernel
theorem own_d_jdk_43_method_2_code_1 : decode jdk_43_method_2_code 1 = .ok (.aload_n 0, 1) := by decide +kernel
theorem own_d_jdk_43_method_2_code_2 : decode jdk_43_method_2_code 2 = .ok (.arraylength, 1) := by decide +kernel
theorem own_d_jdk_43_method_2_code_3 : decode jdk_43_method_2_code 3 = .ok (.invokestatic 9, 3) := by decide +kernel
theorem own_pd_28II29V : parseMethodDescriptor "(II)V" = some ⟨[.int, .int], none⟩ := by decide +kernel
theorem own_d_jdk_43_method_2_code_6 : decode jdk_43_method_2_code 6 = .ok (.aload_n 0, 1) := by decide +kernel
theorem own_d_jdk_43_method_2_code_7 : decode jdk_43_method_2_code 7 = .ok (.iload_n 1, 1) := by decide +kernel
theorem own_d_jdk_43_method_2_code_8 : decode jdk_43_method_2_code 8 = .ok (.baload, 1) := by decide +kernel
theorem own_d_jdk_43_method_2_code_9 : decode jdk_43_method_2_code 9 = .ok (.sipush 255, 3) := by decide +kernel
theorem own_d_jdk_43_method_2_code_12 : decode jdk_43_method_2_code 12 = .ok (.iand, 1) := by decide +kernel
theorem own_d_jdk_43_method_2_code_13 : decode jdk_43_method_2_code 13 = .ok (.i2c, 1) := by decide +kernel
theorem own_d_jdk_43_method_2_code_14 : decode jdk_43_method_2_code 14 = .ok (.ireturn, 1) := by decide +kernel
theorem own_pn_java_lang_StringLatin1 : plainName "java/lang/StringLatin1" = true := by first | (simp [plainName, overriddenIn]; done) | decide +kernel
theorem ef_lch (m : MethodId) (x0 : Addr) (x1 : Int32) : entryFrame m #[(.ref x0), (.int x1)] 2 = mkF m 0 #[.val (.ref x0), .val (.int x1)] [] := by first | (simp [entryFrame, mkF, argsToLocals, Value.category]; done) | rfl
def Q_lch (Z : State) (b : Addr) (p1 ch : Int32) (fm : Value) (h0 : Heap) (n0 : Nat) (v : Option Value) (h : Heap) (L : List Loc) : Prop := v = some (.int (nar .char (ch &&& 255).toUInt32.toUInt16.toUInt32.toInt32)) ∧ Fr n0 L ∧ h = h0
set_option maxRecDepth 65536 in
set_option maxHeartbeats 40000000 in
theorem rm_lch (l : Launch) (Z : State) (a0 : Array Value) (hw : ∀ d ∈ tables_1, d.before a0 Z = true) (ws : List Jvm.Cond) (b : Addr) (p1 ch : Int32) (fm : Value) (h0 : Heap) (n0 : Nat) (Z0 : n0 ≤ h0.size) (S_F : Sta Z h0 "jdk/internal/util/Preconditions" "SIOOBE_FORMATTER" "Ljava/util/function/BiFunction;" fm) (hfm : fm.isRef = true) (k : ClassId) (nn : Int32) (vs : List Value) (A_b : Arv Z h0 b k .byte nn vs (.int (0 : Int32))) (hj0 : ¬ p1 < 0) (hj1 : p1 < nn) (hv : vs.getD p1.toNatClampNeg (.int (0 : Int32)) = .int ch) :
    MetFree l (⟨"java/lang/StringLatin1", "charAt", "([BI)C"⟩ : MethodName) (head1 (Jvm.Cond.code (⟨"java/lang/StringLatin1", "charAt", "([BI)C"⟩ : MethodName) jdk_43_method_2_code 2 (some .char) :: ws) ({ frames := 2, cells := 0, slots := 0, locals := 27 } : Room)) (fun a U => a = #[(.ref b), (.int p1)] ∧ Z.Warmed39 U.vm ∧ U.heap = h0) (fun _ _ _ _ _ => True) (fun _ U o U' => ∃ v L, o = .returned v ∧ Q_lch Z b p1 ch fm h0 n0 v U'.heap L ∧ FrameEnd U o U' L ({ frames := 2, cells := 0, slots := 0, locals := 27 } : Room).cells ({ frames := 2, cells := 0, slots := 0, locals := 27 } : Room).slots) := by
  refine MetFree.of_bodySF (plainFor_of_name own_pn_java_lang_StringLatin1) hisR ?_
  intro p e s m args below meth c s₁ Bd hml0 hP hK
  obtain ⟨rfl, hZ, hh⟩ := hP
  have hx := Bd.exec
  have hby := Bd.bytes
  have hml : c.maxLocals = 2 := hml0
  have hown : s.vm.findClass "java/lang/StringLatin1" = some m.cls := findClass_of_methodNamed Bd.named
  have hnm := (name_of_methodNamed Bd.named Bd.method).1
  have hlk := Bd.notSynchronized
  obtain ⟨lc, hlc⟩ : ∃ lc : List Loc, lc = [] := ⟨_, rfl⟩
  have X : Stand p l e ({ frames := 2, cells := 0, slots := 0, locals := 27 } : Room) s m #[(.ref b), (.int p1)] below meth c s₁ lc 0 0 := hlc ▸ Stand.of_body Bd
  have eT : s₁.heap = h0 := by rw [← hh, Bd.state]; rfl
  have N : Fr n0 lc := hlc ▸ Fr.nil n0
  refine own_enter (ef_lch m b p1) ?_
  obtain ⟨T, hT⟩ : ∃ T : State, T = s₁ := ⟨_, rfl⟩
  rw [← hT] at X eT ⊢
  show own_W p e below (own_Post s (Q_lch Z b p1 ch fm h0 n0) 0 0) T m 0 #[.val (.ref b), .val (.int p1)] []
  refine own_iloadN X hx (hb hby own_d_jdk_43_method_2_code_0) (pc' := 1) rfl rfl ?_
  refine own_aloadN X hx (hb hby own_d_jdk_43_method_2_code_1) (pc' := 2) rfl rfl rfl ?_
  refine own_arrlen X hx hZ eT A_b (hb hby own_d_jdk_43_method_2_code_2) (pc' := 3) rfl ?_
  refine own_callS X hx hZ [(.int p1), (.int nn)] hown (own_w hw 45 rfl) (own_w hw 46 rfl) (own_w hw 11 rfl) (own_w hw 47 rfl) (by decide) (rm_sci l Z a0 hw [] p1 nn fm h0 n0 Z0 S_F hfm hj0 hj1) eT (W := 0) (by decide) (by decide) (cells' := 0) (slots' := 0) rfl rfl (by decide) (by decide) (by rw [hml]; rfl) (lenOf own_pd_28II29V rfl) rfl (S := []) rfl (Nat.le_of_eq rfl) (hb hby own_d_jdk_43_method_2_code_3) (pc' := 6) rfl ?_
  intro v T h1 L lc X eT hq fN
  obtain ⟨rfl, Nq, hqe⟩ := hq
  have N := fN _ N Nq
  rw [hqe] at eT
  show own_W p e below (own_Post s (Q_lch Z b p1 ch fm h0 n0) 0 0) T m 6 #[.val (.ref b), .val (.int p1)] []
  refine own_aloadN X hx (hb hby own_d_jdk_43_method_2_code_6) (pc' := 7) rfl rfl rfl ?_
  refine own_iloadN X hx (hb hby own_d_jdk_43_method_2_code_7) (pc' := 8) rfl rfl ?_
  refine own_baloadB X hx hZ eT A_b (v := (.int ch)) ⟨hj0, hj1⟩ hv (hb hby own_d_jdk_43_method_2_code_8) (pc' := 9) rfl ?_
  refine own_sipush X hx (255 : Int32) (hb hby own_d_jdk_43_method_2_code_9) (pc' := 12) rfl rfl ?_
  refine own_iand X hx (hb hby own_d_jdk_43_method_2_code_12) (pc' := 13) rfl ?_
  refine own_i2c X hx (hb hby own_d_jdk_43_method_2_code_13) (pc' := 14) rfl ?_
  refine own_retI X hx hlk (t := .char) (w' := (.int (nar .char (ch &&& (255 : Int32)).toUInt32.toUInt16.toUInt32.toInt32))) Bd.returns (hb hby own_d_jdk_43_method_2_code_14) rfl rfl (by simp) (by decide) (by decide) ?_
  rw [eT]
  exact ⟨rfl, N, rfl⟩
theorem own_d_jdk_42_method_56_code_0 : decode jdk_42_method_56_code 0 = .ok (.aload_n 0, 1) := by decide +kernel
theorem own_d_jdk_42_method_56_code_1 : decode jdk_42_method_56_code 1 = .ok (.invokevirtual 492, 3) := by decide +kernel
theorem own_pd_2829Z : parseMethodDescriptor "()Z" = some ⟨[], some .boolean⟩ := by decide +kernel
theorem own_d_jdk_42_method_56_code_4 : decode jdk_42_method_56_code 4 = .ok (.ifCond .eq 12, 3) := by decide +kernel
theorem own_d_jdk_42_method_56_code_7 : decode jdk_42_method_56_code 7 = .ok (.aload_n 0, 1) := by decide +kernel
theorem own_d_jdk_42_method_56_code_8 : decode jdk_42_method_56_code 8 = .ok (.getfield 9, 3) := by decide +kernel
theorem own_d_jdk_42_method_56_code_11 : decode jdk_42_method_56_code 11 = .ok (.iload_n 1, 1) := by decide +kernel
theorem own_d_jdk_42_method_56_code_12 : decode jdk_42_method_56_code 12 = .ok (.invokestatic 495, 3) := by decide +kernel
theorem own_pd_285bBI29C : parseMethodDescriptor "([BI)C" = some ⟨[(.array .byte), .int], some .char⟩ := by decide +kernel
theorem own_d_jdk_42_method_56_code_15 : decode jdk_42_method_56_code 15 = .ok (.ireturn, 1) := by decide +kernel
theorem ef_chAt (m : MethodId) (x0 : Addr) (x1 : Int32) : entryFrame m #[(.ref x0), (.int x1)] 2 = mkF m 0 #[.val (.ref x0), .val (.int x1)] [] := by first | (simp [entryFrame, mkF, argsToLocals, Value.category]; done) | rfl
def Q_chAt (Z : State) (a1 b : Addr) (p1 ch cs : Int32) (fm : Value) (h0 : Heap) (n0 : Nat) (v : Option Value) (h : Heap) (L : List Loc) : Prop := v = some (.int (nar .char (nar .char (ch &&& 255).toUInt32.toUInt16.toUInt32.toInt32))) ∧ Fr n0 L ∧ h = h0
set_option maxRecDepth 65536 in
set_option maxHeartbeats 40000000 in
theorem rm_chAt (l : Launch) (Z : State) (a0 : Array Value) (hw : ∀ d ∈ tables_1, d.before a0 Z = true) (ws : List Jvm.Cond) (a1 b : Addr) (p1 ch cs : Int32) (fm : Value) (h0 : Heap) (n0 : Nat) (Z0 : n0 ≤ h0.size) (S_C : Sta Z h0 "java/lang/String" "COMPACT_STRINGS" "Z" (.int cs)) (hcs : ¬ cs = 0) (S_F : Sta Z h0 "jdk/internal/util/Preconditions" "SIOOBE_FORMATTER" "Ljava/util/function/BiFunction;" fm) (hfm : fm.isRef = true) (E_a1 : Exa Z h0 a1 "java/lang/String") (F_c : Fld Z h0 a1 "java/lang/String" "coder" "B" (.int (0 : Int32))) (F_v : Fld Z h0 a1 "java/lang/String" "value" "[B" (.ref b)) (k : ClassId) (nn : Int32) (vs : List Value) (A_b : Arv Z h0 b k .byte nn vs (.int (0 : Int32))) (hj0 : ¬ p1 < 0) (hj1 : p1 < nn) (hv : vs.getD p1.toNatClampNeg (.int (0 : Int32)) = .int ch) :
    MetFree l (⟨"java/lang/String", "charAt", "(I)C"⟩ : MethodName) (head1 (Jvm.Cond.code (⟨"java/lang/String", "charAt", "(I)C"⟩ : MethodName) jdk_42_method_56_code 2 (some .char) :: ws) ({ frames := 3, cells := 0, slots := 0, locals := 40 } : Room)) (fun a U => a = #[(.ref a1), (.int p1)] ∧ Z.Warmed39 U.vm ∧ U.heap = h0) (fun _ _ _ _ _ => True) (fun _ U o U' => ∃ v L, o = .returned v ∧ Q_chAt Z a1 b p1 ch cs fm h0 n0 v U'.heap L ∧ FrameEnd U o U' L ({ frames := 3, cells := 0, slots := 0, locals := 40 } : Room).cells ({ frames := 3, cells := 0, slots := 0, locals := 40 } : Room).slots) := by
  refine MetFree.of_bodySF (plainFor_of_name own_pn_java_lang_String) hisR ?_
  intro p e s m args below meth c s₁ Bd hml0 hP hK
  obtain ⟨rfl, hZ, hh⟩ := hP
  have hx := Bd.exec
  have hby := Bd.bytes
  have hml : c.maxLocals = 2 := hml0
  have hown : s.vm.findClass "java/lang/String" = some m.cls := findClass_of_methodNamed Bd.named
  have hnm := (name_of_methodNamed Bd.named Bd.method).1
  have hlk := Bd.notSynchronized
  obtain ⟨lc, hlc⟩ : ∃ lc : List Loc, lc = [] := ⟨_, rfl⟩
  have X : Stand p l e ({ frames := 3, cells := 0, slots := 0, locals := 40 } : Room) s m #[(.ref a1), (.int p1)] below meth c s₁ lc 0 0 := hlc ▸ Stand.of_body Bd
  have eT : s₁.heap = h0 := by rw [← hh, Bd.state]; rfl
  have N : Fr n0 lc := hlc ▸ Fr.nil n0
  refine own_enter (ef_chAt m a1 p1) ?_
  obtain ⟨T, hT⟩ : ∃ T : State, T = s₁ := ⟨_, rfl⟩
  rw [← hT] at X eT ⊢
  show own_W p e below (own_Post s (Q_chAt Z a1 b p1 ch cs fm h0 n0) 0 0) T m 0 #[.val (.ref a1), .val (.int p1)] []
  refine own_aloadN X hx (hb hby own_d_jdk_42_method_56_code_0) (pc' := 1) rfl rfl rfl ?_
  refine own_callV X hx hZ (y := (⟨"java/lang/String", "isLatin1", "()Z"⟩ : MethodName)) a1 [] hown (own_w hw 36 rfl) (own_w hw 37 rfl) (own_w hw 39 rfl) (own_w hw 38 rfl) (own_w hw 11 rfl) (own_w hw 40 rfl) (by decide) (rm_isLat l Z a0 hw [] a1 cs h0 n0 Z0 S_C hcs F_c) E_a1 eT (W := 0) (by decide) (by decide) (cells' := 0) (slots' := 0) rfl rfl (by decide) (by decide) (by rw [hml]; rfl) (lenOf own_pd_2829Z rfl) rfl (S := []) rfl (Nat.le_of_eq rfl) (hb hby own_d_jdk_42_method_56_code_1) (pc' := 4) rfl ?_
  intro v T h1 L lc X eT hq fN
  obtain ⟨rfl, Nq, hqe⟩ := hq
  have N := fN _ N Nq
  rw [hqe] at eT
  show own_W p e below (own_Post s (Q_chAt Z a1 b p1 ch cs fm h0 n0) 0 0) T m 4 #[.val (.ref a1), .val (.int p1)] [(.int (1 : Int32))]
  refine own_ifN X hx (hb hby own_d_jdk_42_method_56_code_4) (pc' := 7) rfl (show ¬ ((1 : Int32) = (0 : Int32)) from (by decide)) ?_
  refine own_aloadN X hx (hb hby own_d_jdk_42_method_56_code_7) (pc' := 8) rfl rfl rfl ?_
  refine own_getF X hx hZ hown (host := "") (Or.inl (own_w hw 23 rfl)) Via.refl eT F_v (hb hby own_d_jdk_42_method_56_code_8) (pc' := 11) rfl ?_
  intro T X eT
  refine own_iloadN X hx (hb hby own_d_jdk_42_method_56_code_11) (pc' := 12) rfl rfl ?_
  refine own_callS X hx hZ [(.ref b), (.int p1)] hown (own_w hw 41 rfl) (own_w hw 42 rfl) (own_w hw 43 rfl) (own_w hw 44 rfl) (by decide) (rm_lch l Z a0 hw [] b p1 ch fm h0 n0 Z0 S_F hfm k nn vs A_b hj0 hj1 hv) eT (W := 0) (by decide) (by decide) (cells' := 0) (slots' := 0) rfl rfl (by decide) (by decide) (by rw [hml]; rfl) (lenOf own_pd_285bBI29C rfl) rfl (S := []) rfl (Nat.le_of_eq rfl) (hb hby own_d_jdk_42_method_56_code_12) (pc' := 15) rfl ?_
  intro v T h2 L lc X eT hq fN
  obtain ⟨rfl, Nq, hqe⟩ := hq
  have N := fN _ N Nq
  rw [hqe] at eT
  show own_W p e below (own_Post s (Q_chAt Z a1 b p1 ch cs fm h0 n0) 0 0) T m 15 #[.val (.ref a1), .val (.int p1)] [(.int (nar .char (ch &&& 255).toUInt32.toUInt16.toUInt32.toInt32))]
  refine own_retI X hx hlk (t := .char) (w' := (.int (nar .char (nar .char (ch &&& 255).toUInt32.toUInt16.toUInt32.toInt32)))) Bd.returns (hb hby own_d_jdk_42_method_56_code_15) rfl rfl (by simp) (by decide) (by decide) ?_
  rw [eT]
  exact ⟨rfl, N, rfl⟩
theorem own_d_prog_82_method_6_code_0 : decode prog_82_method_6_code 0 = .ok (.aload_n 0, 1) := by decide +kernel
theorem own_d_prog_82_method_6_code_1 : decode prog_82_method_6_code 1 = .ok (.getstatic 7, 3) := by decide +kernel
theorem own_d_prog_82_method_6_code_4 : decode prog_82_method_6_code 4 = .ok (.if_acmp .ne 8, 3) := by decide +kernel
theorem own_d_prog_82_method_6_code_7 : decode prog_82_method_6_code 7 = .ok (.ldc 29, 2) := by decide +kernel
theorem own_d_prog_82_method_6_code_9 : decode prog_82_method_6_code 9 = .ok (.goto 5, 3) := by decide +kernel
theorem own_d_prog_82_method_6_code_14 : decode prog_82_method_6_code 14 = .ok (.areturn, 1) := by decide +kernel
theorem own_pn_com_example_modelkiln_modelkiln_ocl_BooleanValue : plainName "com/example/modelkiln/modelkiln/ocl/BooleanValue" = true := by first | (simp [plainName, overriddenIn]; done) | decide +kernel
theorem ef_tst (m : MethodId) (x0 : Addr) : entryFrame m #[(.ref x0)] 1 = mkF m 0 #[.val (.ref x0)] [] := by first | (simp [entryFrame, mkF, argsToLocals, Value.category]; done) | rfl
def Q_tst (Z : State) (aT aF : Addr) (h0 : Heap) (n0 : Nat) (v : Option Value) (h : Heap) (L : List Loc) : Prop := ∃ (a b : Addr) (k : ClassId), v = some (.ref a) ∧ Fr n0 L ∧ Ext h0 h ∧ Exa Z h a "java/lang/String" ∧ Fld Z h a "java/lang/String" "coder" "B" (.int (0 : Int32)) ∧ Fld Z h a "java/lang/String" "value" "[B" (.ref b) ∧ Arv Z h b k .byte (4 : Int32) [(.int (116 : Int32)), (.int (114 : Int32)), (.int (117 : Int32)), (.int (101 : Int32))] (.int (0 : Int32))
set_option maxRecDepth 65536 in
set_option maxHeartbeats 40000000 in
theorem rm_tst (l : Launch) (Z : State) (a0 : Array Value) (hw : ∀ d ∈ tables_1, d.before a0 Z = true) (hEL : EW Z a0 own_EL) (ws : List Jvm.Cond) (aT aF : Addr) (h0 : Heap) (n0 : Nat) (Z0 : n0 ≤ h0.size) (hTF : aT ≠ aF) (S_T : Sta Z h0 "com/example/modelkiln/modelkiln/ocl/BooleanValue" "TRUE" "Lcom/example/modelkiln/modelkiln/ocl/BooleanValue;" (.ref aT)) :
    MetFree l (⟨"com/example/modelkiln/modelkiln/ocl/BooleanValue", "toString", "()Ljava/lang/String;"⟩ : MethodName) (head1 (Jvm.Cond.code (⟨"com/example/modelkiln/modelkiln/ocl/BooleanValue", "toString", "()Ljava/lang/String;"⟩ : MethodName) prog_82_method_6_code 1 (some (.object "java/lang/String")) :: ws) ({ frames := 0, cells := 2, slots := 24, locals := 0 } : Room)) (fun a U => a = #[(.ref aT)] ∧ Z.Warmed39 U.vm ∧ U.heap = h0 ∧ CHv Z own_EL U.vm h0) (fun _ _ _ _ _ => True) (fun _ U o U' => ∃ v L, o = .returned v ∧ Q_tst Z aT aF h0 n0 v U'.heap L ∧ CHr Z own_EL U.vm U.heap U'.vm U'.heap ∧ ReturnedEndW U o U' L ({ frames := 0, cells := 2, slots := 24, locals := 0 } : Room).cells ({ frames := 0, cells := 2, slots := 24, locals := 0 } : Room).slots) := by
  refine MetFree.of_bodySF (plainFor_of_name own_pn_com_example_modelkiln_modelkiln_ocl_BooleanValue) hisR ?_
  intro p e s m args below meth c s₁ Bd hml0 hP hK
  obtain ⟨rfl, hZ, hh, H⟩ := hP
  have hx := Bd.exec
  have hby := Bd.bytes
  have hml : c.maxLocals = 1 := hml0
  have hown : s.vm.findClass "com/example/modelkiln/modelkiln/ocl/BooleanValue" = some m.cls := findClass_of_methodNamed Bd.named
  have hnm := (name_of_methodNamed Bd.named Bd.method).1
  have hlk := Bd.notSynchronized
  obtain ⟨lc, hlc⟩ : ∃ lc : List Loc, lc = [] := ⟨_, rfl⟩
  have X : Stand p l e ({ frames := 0, cells := 2, slots := 24, locals := 0 } : Room) s m #[(.ref aT)] below meth c s₁ lc 0 0 := hlc ▸ Stand.of_body Bd
  have eT : s₁.heap = h0 := by rw [← hh, Bd.state]; rfl
  have N : Fr n0 lc := hlc ▸ Fr.nil n0
  obtain ⟨vm0, hvm⟩ : ∃ v : Vm, v = s.vm := ⟨_, rfl⟩
  have X : Stand p l e ({ frames := 0, cells := 2, slots := 24, locals := 0 } : Room) (s.setVm vm0) m #[(.ref aT)] below meth c s₁ lc 0 0 := by rw [hvm]; exact X
  have hZ : Z.Warmed39 (s.setVm vm0).vm := by rw [hvm]; exact hZ
  have hown : (s.setVm vm0).vm.findClass "com/example/modelkiln/modelkiln/ocl/BooleanValue" = some m.cls := by rw [hvm]; exact hown
  have hS : s.Since vm0 h0.size := by rw [hvm]; exact (State.WarmedH.refl s).since _
  have hk : h0.size ≤ h0.size := Nat.le_refl _
  have CR : CHr Z own_EL s.vm h0 vm0 h0 := by rw [hvm]; exact CHr.refl H
  have H : CHv Z own_EL vm0 h0 := by rw [hvm]; exact H
  refine own_enterS (ef_tst m aT) ?_
  obtain ⟨T, hT⟩ : ∃ T : State, T = s₁ := ⟨_, rfl⟩
  rw [← hT] at X eT ⊢
  show own_W p e below (own_PostS Z own_EL s (Q_tst Z aT aF h0 n0) 2 24) T m 0 #[.val (.ref aT)] []
  refine own_aloadN X hx (hb hby own_d_prog_82_method_6_code_0) (pc' := 1) rfl rfl rfl ?_
  refine own_getS X hx hZ hown (host := "") (Or.inl (own_w hw 8 rfl)) Via.refl eT S_T (hb hby own_d_prog_82_method_6_code_1) (pc' := 4) rfl ?_
  intro T X eT
  refine own_acmpN X hx (hb hby own_d_prog_82_method_6_code_4) (pc' := 7) rfl rfl rfl (XT.aa_ne_f rfl) ?_
  refine own_ldcS X hx hZ hown (own_w hw 54 rfl) (own_wS hw) eT hS hk hEL own_mem_54 H [(.int (116 : Int32)), (.int (114 : Int32)), (.int (117 : Int32)), (.int (101 : Int32))] (4 : Int32) own_txt_54 (by decide) rfl (hb hby own_d_prog_82_method_6_code_7) (pc' := 9) rfl 16 (by decide) (by decide) (cells' := 2) (slots' := 20) rfl rfl (by decide) (by decide) ?_
  intro sa1 T h1 k1 sb1 k_sb1 vm0 X eT E hS hk hZ hown E_sa1 FC_sa1 FV_sa1 A_sb1 CQ hne_sa1
  have CR := CR.trans CQ
  have H := CQ.1
  have S_T := S_T.ext E
  have Z0 := Nat.le_trans Z0 E.1
  have E0 := E
  refine own_goto X hx (hb hby own_d_prog_82_method_6_code_9) (by decide) (pc' := 14) rfl ?_
  refine own_retAS X hx hlk hZ eT hh hS hk hEL H CR Bd.returns (hb hby own_d_prog_82_method_6_code_14) rfl rfl rfl (by decide) (by decide) ?_
  rw [eT]
  exact ⟨_, _, _, rfl, N, E0, E_sa1, FC_sa1, FV_sa1, A_sb1⟩
theorem own_d_prog_82_method_6_code_12 : decode prog_82_method_6_code 12 = .ok (.ldc 31, 2) := by decide +kernel
theorem ef_tsf (m : MethodId) (x0 : Addr) : entryFrame m #[(.ref x0)] 1 = mkF m 0 #[.val (.ref x0)] [] := by first | (simp [entryFrame, mkF, argsToLocals, Value.category]; done) | rfl
def Q_tsf (Z : State) (aT aF : Addr) (h0 : Heap) (n0 : Nat) (v : Option Value) (h : Heap) (L : List Loc) : Prop := ∃ (a b : Addr) (k : ClassId), v = some (.ref a) ∧ Fr n0 L ∧ Ext h0 h ∧ Exa Z h a "java/lang/String" ∧ Fld Z h a "java/lang/String" "coder" "B" (.int (0 : Int32)) ∧ Fld Z h a "java/lang/String" "value" "[B" (.ref b) ∧ Arv Z h b k .byte (5 : Int32) [(.int (102 : Int32)), (.int (97 : Int32)), (.int (108 : Int32)), (.int (115 : Int32)), (.int (101 : Int32))] (.int (0 : Int32))
set_option maxRecDepth 65536 in
set_option maxHeartbeats 40000000 in
theorem rm_tsf (l : Launch) (Z : State) (a0 : Array Value) (hw : ∀ d ∈ tables_1, d.before a0 Z = true) (hEL : EW Z a0 own_EL) (ws : List Jvm.Cond) (aT aF : Addr) (h0 : Heap) (n0 : Nat) (Z0 : n0 ≤ h0.size) (hTF : aT ≠ aF) (S_T : Sta Z h0 "com/example/modelkiln/modelkiln/ocl/BooleanValue" "TRUE" "Lcom/example/modelkiln/modelkiln/ocl/BooleanValue;" (.ref aT)) :
    MetFree l (⟨"com/example/modelkiln/modelkiln/ocl/BooleanValue", "toString", "()Ljava/lang/String;"⟩ : MethodName) (head1 (Jvm.Cond.code (⟨"com/example/modelkiln/modelkiln/ocl/BooleanValue", "toString", "()Ljava/lang/String;"⟩ : MethodName) prog_82_method_6_code 1 (some (.object "java/lang/String")) :: ws) ({ frames := 0, cells := 2, slots := 24, locals := 0 } : Room)) (fun a U => a = #[(.ref aF)] ∧ Z.Warmed39 U.vm ∧ U.heap = h0 ∧ CHv Z own_EL U.vm h0) (fun _ _ _ _ _ => True) (fun _ U o U' => ∃ v L, o = .returned v ∧ Q_tsf Z aT aF h0 n0 v U'.heap L ∧ CHr Z own_EL U.vm U.heap U'.vm U'.heap ∧ ReturnedEndW U o U' L ({ frames := 0, cells := 2, slots := 24, locals := 0 } : Room).cells ({ frames := 0, cells := 2, slots := 24, locals := 0 } : Room).slots) := by
  refine MetFree.of_bodySF (plainFor_of_name own_pn_com_example_modelkiln_modelkiln_ocl_BooleanValue) hisR ?_
  intro p e s m args below meth c s₁ Bd hml0 hP hK
  obtain ⟨rfl, hZ, hh, H⟩ := hP
  have hx := Bd.exec
  have hby := Bd.bytes
  have hml : c.maxLocals = 1 := hml0
  have hown : s.vm.findClass "com/example/modelkiln/modelkiln/ocl/BooleanValue" = some m.cls := findClass_of_methodNamed Bd.named
  have hnm := (name_of_methodNamed Bd.named Bd.method).1
  have hlk := Bd.notSynchronized
  obtain ⟨lc, hlc⟩ : ∃ lc : List Loc, lc = [] := ⟨_, rfl⟩
  have X : Stand p l e ({ frames := 0, cells := 2, slots := 24, locals := 0 } : Room) s m #[(.ref aF)] below meth c s₁ lc 0 0 := hlc ▸ Stand.of_body Bd
  have eT : s₁.heap = h0 := by rw [← hh, Bd.state]; rfl
  have N : Fr n0 lc := hlc ▸ Fr.nil n0
  obtain ⟨vm0, hvm⟩ : ∃ v : Vm, v = s.vm := ⟨_, rfl⟩
  have X : Stand p l e ({ frames := 0, cells := 2, slots := 24, locals := 0 } : Room) (s.setVm vm0) m #[(.ref aF)] below meth c s₁ lc 0 0 := by rw [hvm]; exact X
  have hZ : Z.Warmed39 (s.setVm vm0).vm := by rw [hvm]; exact hZ
  have hown : (s.setVm vm0).vm.findClass "com/example/modelkiln/modelkiln/ocl/BooleanValue" = some m.cls := by rw [hvm]; exact hown
  have hS : s.Since vm0 h0.size := by rw [hvm]; exact (State.WarmedH.refl s).since _
  have hk : h0.size ≤ h0.size := Nat.le_refl _
  have CR : CHr Z own_EL s.vm h0 vm0 h0 := by rw [hvm]; exact CHr.refl H
  have H : CHv Z own_EL vm0 h0 := by rw [hvm]; exact H
  refine own_enterS (ef_tsf m aF) ?_
  obtain ⟨T, hT⟩ : ∃ T : State, T = s₁ := ⟨_, rfl⟩
  rw [← hT] at X eT ⊢
  show own_W p e below (own_PostS Z own_EL s (Q_tsf Z aT aF h0 n0) 2 24) T m 0 #[.val (.ref aF)] []
  refine own_aloadN X hx (hb hby own_d_prog_82_method_6_code_0) (pc' := 1) rfl rfl rfl ?_
  refine own_getS X hx hZ hown (host := "") (Or.inl (own_w hw 8 rfl)) Via.refl eT S_T (hb hby own_d_prog_82_method_6_code_1) (pc' := 4) rfl ?_
  intro T X eT
  refine own_acmpY X hx (hb hby own_d_prog_82_method_6_code_4) (by decide) (pc' := 12) rfl rfl rfl (XT.aa_ne_t fun q => hTF (Value.ref.inj q).symm) ?_
  refine own_ldcS X hx hZ hown (own_w hw 10 rfl) (own_wS hw) eT hS hk hEL own_mem_10 H [(.int (102 : Int32)), (.int (97 : Int32)), (.int (108 : Int32)), (.int (115 : Int32)), (.int (101 : Int32))] (5 : Int32) own_txt_10 (by decide) rfl (hb hby own_d_prog_82_method_6_code_12) (pc' := 14) rfl 20 (by decide) (by decide) (cells' := 2) (slots' := 24) rfl rfl (by decide) (by decide) ?_
  intro sa1 T h1 k1 sb1 k_sb1 vm0 X eT E hS hk hZ hown E_sa1 FC_sa1 FV_sa1 A_sb1 CQ hne_sa1
  have CR := CR.trans CQ
  have H := CQ.1
  have S_T := S_T.ext E
  have Z0 := Nat.le_trans Z0 E.1
  have E0 := E
  refine own_retAS X hx hlk hZ eT hh hS hk hEL H CR Bd.returns (hb hby own_d_prog_82_method_6_code_14) rfl rfl rfl (by decide) (by decide) ?_
  rw [eT]
  exact ⟨_, _, _, rfl, N, E0, E_sa1, FC_sa1, FV_sa1, A_sb1⟩
theorem own_pd_2829Ljava2flang2fString3b : parseMethodDescriptor "()Ljava/lang/String;" = some ⟨[], some (.object "java/lang/String")⟩ := by decide +kernel
theorem own_pd_2829I : parseMethodDescriptor "()I" = some ⟨[], some .int⟩ := by decide +kernel
theorem own_pd_28I29C : parseMethodDescriptor "(I)C" = some ⟨[.int], some .char⟩ := by decide +kernel
theorem own_pn_com_example_modelkiln_modelkiln_ocl_BooleanValueToStringPinLaw : plainName "com/example/modelkiln/modelkiln/ocl/BooleanValueToStringPinLaw" = true := by first | (simp [plainName, overriddenIn]; done) | decide +kernel
theorem ef_law (m : MethodId) (x0 : Int32) : entryFrame m #[(.int x0)] maxLocals = mkF m 0 #[.val (.int x0), .unset, .unset, .unset] [] := by first | (simp [entryFrame, mkF, argsToLocals, Value.category, maxLocals]; done) | rfl
def Q_law (Z : State) (p0 : Int32) (aT aF : Addr) (cs : Int32) (fm : Value) (h0 : Heap) (n0 : Nat) (v : Option Value) (h : Heap) (L : List Loc) : Prop := v = some (.int 1) ∧ Fr n0 L
set_option maxRecDepth 65536 in
set_option maxHeartbeats 40000000 in
theorem rm_law (l : Launch) (Z : State) (a0 : Array Value) (hw : ∀ d ∈ tables_1, d.before a0 Z = true) (hEL : EW Z a0 own_EL) (ws : List Jvm.Cond) (p0 : Int32) (aT aF : Addr) (cs : Int32) (fm : Value) (h0 : Heap) (n0 : Nat) (Z0 : n0 ≤ h0.size) (S_C : Sta Z h0 "java/lang/String" "COMPACT_STRINGS" "Z" (.int cs)) (hcs : ¬ cs = 0) (S_F : Sta Z h0 "jdk/internal/util/Preconditions" "SIOOBE_FORMATTER" "Ljava/util/function/BiFunction;" fm) (hfm : fm.isRef = true) (hTF : aT ≠ aF) (S_T : Sta Z h0 "com/example/modelkiln/modelkiln/ocl/BooleanValue" "TRUE" "Lcom/example/modelkiln/modelkiln/ocl/BooleanValue;" (.ref aT)) (S_N : Sta Z h0 "com/example/modelkiln/modelkiln/ocl/BooleanValue" "FALSE" "Lcom/example/modelkiln/modelkiln/ocl/BooleanValue;" (.ref aF)) (E_aT : Exa Z h0 aT "com/example/modelkiln/modelkiln/ocl/BooleanValue") (E_aF : Exa Z h0 aF "com/example/modelkiln/modelkiln/ocl/BooleanValue") :
    MetFree l x (head1 (Jvm.Cond.code x code maxLocals ret :: ws) room_1) (fun a U => a = #[(.int p0)] ∧ Z.Warmed39 U.vm ∧ U.heap = h0 ∧ CHv Z own_EL U.vm h0) (fun _ _ _ _ _ => True) (fun _ U o U' => ∃ v L, o = .returned v ∧ Q_law Z p0 aT aF cs fm h0 n0 v U'.heap L ∧ CHr Z own_EL U.vm U.heap U'.vm U'.heap ∧ ReturnedEndW U o U' L room_1.cells room_1.slots) := by
  refine MetFree.of_bodySF (plainFor_of_name own_pn_com_example_modelkiln_modelkiln_ocl_BooleanValueToStringPinLaw) hisR ?_
  intro p e s m args below meth c s₁ Bd hml0 hP hK
  obtain ⟨rfl, hZ, hh, H⟩ := hP
  have hx := Bd.exec
  have hby := Bd.bytes
  have hml : c.maxLocals = 4 := hml0
  have hown : s.vm.findClass "com/example/modelkiln/modelkiln/ocl/BooleanValueToStringPinLaw" = some m.cls := findClass_of_methodNamed Bd.named
  have hnm := (name_of_methodNamed Bd.named Bd.method).1
  have hlk := Bd.notSynchronized
  obtain ⟨lc, hlc⟩ : ∃ lc : List Loc, lc = [] := ⟨_, rfl⟩
  have X : Stand p l e room_1 s m #[(.int p0)] below meth c s₁ lc 0 0 := hlc ▸ Stand.of_body Bd
  have eT : s₁.heap = h0 := by rw [← hh, Bd.state]; rfl
  have N : Fr n0 lc := hlc ▸ Fr.nil n0
  obtain ⟨vm0, hvm⟩ : ∃ v : Vm, v = s.vm := ⟨_, rfl⟩
  have X : Stand p l e room_1 (s.setVm vm0) m #[(.int p0)] below meth c s₁ lc 0 0 := by rw [hvm]; exact X
  have hZ : Z.Warmed39 (s.setVm vm0).vm := by rw [hvm]; exact hZ
  have hown : (s.setVm vm0).vm.findClass "com/example/modelkiln/modelkiln/ocl/BooleanValueToStringPinLaw" = some m.cls := by rw [hvm]; exact hown
  have hS : s.Since vm0 h0.size := by rw [hvm]; exact (State.WarmedH.refl s).since _
  have hk : h0.size ≤ h0.size := Nat.le_refl _
  have CR : CHr Z own_EL s.vm h0 vm0 h0 := by rw [hvm]; exact CHr.refl H
  have H : CHv Z own_EL vm0 h0 := by rw [hvm]; exact H
  refine own_enterS (ef_law m p0) ?_
  obtain ⟨T, hT⟩ : ∃ T : State, T = s₁ := ⟨_, rfl⟩
  rw [← hT] at X eT ⊢
  show own_W p e below (own_PostS Z own_EL s (Q_law Z p0 aT aF cs fm h0 n0) 8 2112) T m 0 #[.val (.int p0), .unset, .unset, .unset] []
  refine own_iloadN X hx (hb hby at_0) (pc' := 1) rfl rfl ?_
  refine own_iconst X hx (1 : Int32) (hb hby at_1) (pc' := 2) rfl rfl ?_
  refine own_iand X hx (hb hby at_2) (pc' := 3) rfl ?_
  refine own_if X hx (hb hby at_3) (by decide) (pcY := 10) (pcN := 6) rfl rfl (fun (hc3 : (p0 &&& (1 : Int32)) = (0 : Int32)) => ?_) (fun (hc3 : ¬ ((p0 &&& (1 : Int32)) = (0 : Int32))) => ?_)
  · refine own_iconst X hx (0 : Int32) (hb hby at_10) (pc' := 11) rfl rfl ?_
    refine own_istoreN X hx (hb hby at_11) (pc' := 12) rfl (Ls' := #[.val (.int p0), .val (.int (0 : Int32)), .unset, .unset]) rfl ?_
    refine own_iloadN X hx (hb hby at_12) (pc' := 13) rfl rfl ?_
    refine own_ifY X hx (hb hby at_13) (by decide) (pc' := 22) rfl (show (0 : Int32) = (0 : Int32) from (by decide)) ?_
    refine own_getS X hx hZ hown (host := "") (Or.inl (own_w hw 0 rfl)) Via.refl eT S_N (hb hby at_22) (pc' := 25) rfl ?_
    intro T X eT
    refine own_astoreN X hx (hb hby at_25) (pc' := 26) rfl rfl (Ls' := #[.val (.int p0), .val (.int (0 : Int32)), .val (.ref aF), .unset]) rfl ?_
    refine own_aloadN X hx (hb hby at_26) (pc' := 27) rfl rfl rfl ?_
    refine own_callVS X hx hZ (y := (⟨"com/example/modelkiln/modelkiln/ocl/BooleanValue", "toString", "()Ljava/lang/String;"⟩ : MethodName)) aF [] hown (own_w hw 3 rfl) (own_w hw 4 rfl) (own_w hw 6 rfl) (own_w hw 5 rfl) (own_w hw 1 rfl) (own_w hw 7 rfl) (by decide) (rm_tsf l Z a0 hw hEL [] aT aF h0 n0 Z0 hTF S_T) E_aF eT hS hk hEL H (W := 0) (by decide) (by decide) (cells' := 2) (slots' := 24) rfl rfl (by decide) (by decide) (by rw [hml]; rfl) (lenOf own_pd_2829Ljava2flang2fString3b rfl) rfl (S := []) rfl (Nat.le_of_eq rfl) (hb hby at_27) (pc' := 30) rfl ?_
    intro v T h1 L lc vm0 k1 X eT hS hk hZ hown CQ hq fN
    obtain ⟨sa, sb, kb, rfl, Nq, Eq, E_sa, FC_sa, FV_sa, A_sb⟩ := hq
    have N := fN _ N Nq
    have CR := CR.trans CQ
    have H := CQ.1
    have S_C := S_C.ext Eq
    have S_F := S_F.ext Eq
    have S_T := S_T.ext Eq
    have S_N := S_N.ext Eq
    have E_aT := E_aT.ext Eq
    have E_aF := E_aF.ext Eq
    have Z0 := Nat.le_trans Z0 Eq.1
    show own_W p e below (own_PostS Z own_EL s (Q_law Z p0 aT aF cs fm h0 n0) 8 2112) T m 30 #[.val (.int p0), .val (.int (0 : Int32)), .val (.ref aF), .unset] [(.ref sa)]
    refine own_astoreN X hx (hb hby at_30) (pc' := 31) rfl rfl (Ls' := #[.val (.int p0), .val (.int (0 : Int32)), .val (.ref aF), .val (.ref sa)]) rfl ?_
    refine own_aloadN X hx (hb hby at_31) (pc' := 32) rfl rfl rfl ?_
    refine own_ifnonnullY X hx (hb hby at_32) (by decide) (pc' := 37) rfl ?_
    refine own_iloadN X hx (hb hby at_37) (pc' := 38) rfl rfl ?_
    refine own_ifY X hx (hb hby at_38) (by decide) (pc' := 95) rfl (show (0 : Int32) = (0 : Int32) from (by decide)) ?_
    refine own_aloadN X hx (hb hby at_95) (pc' := 96) rfl rfl rfl ?_
    refine own_callV X hx hZ (y := (⟨"java/lang/String", "length", "()I"⟩ : MethodName)) sa [] hown (own_w hw 18 rfl) (own_w hw 19 rfl) (own_w hw 21 rfl) (own_w hw 20 rfl) (own_w hw 11 rfl) (own_w hw 22 rfl) (by decide) (rm_len l Z a0 hw [] sa sb cs (5 : Int32) h1 n0 Z0 S_C hcs E_sa FC_sa FV_sa _ _ A_sb) E_sa eT (W := 0) (by decide) (by decide) (cells' := 2) (slots' := 24) rfl rfl (by decide) (by decide) (by rw [hml]; rfl) (lenOf own_pd_2829I rfl) rfl (S := []) rfl (Nat.le_of_eq rfl) (hb hby at_96) (pc' := 99) rfl ?_
    intro v T h2 L lc X eT hq fN
    obtain ⟨rfl, Nq, hqe⟩ := hq
    have N := fN _ N Nq
    rw [hqe] at eT
    show own_W p e below (own_PostS Z own_EL s (Q_law Z p0 aT aF cs fm h0 n0) 8 2112) T m 99 #[.val (.int p0), .val (.int (0 : Int32)), .val (.ref aF), .val (.ref sa)] [(.int (5 : Int32))]
    refine own_iconst X hx (5 : Int32) (hb hby at_99) (pc' := 100) rfl rfl ?_
    refine own_icmpN X hx (hb hby at_100) (pc' := 103) rfl (show (5 : Int32) = (5 : Int32) from (by decide)) ?_
    refine own_aloadN X hx (hb hby at_103) (pc' := 104) rfl rfl rfl ?_
    refine own_iconst X hx (0 : Int32) (hb hby at_104) (pc' := 105) rfl rfl ?_
    refine own_callV X hx hZ (y := (⟨"java/lang/String", "charAt", "(I)C"⟩ : MethodName)) sa [(.int (0 : Int32))] hown (own_w hw 31 rfl) (own_w hw 32 rfl) (own_w hw 34 rfl) (own_w hw 33 rfl) (own_w hw 11 rfl) (own_w hw 35 rfl) (by decide) (rm_chAt l Z a0 hw [] sa sb (0 : Int32) (102 : Int32) cs fm h1 n0 Z0 S_C hcs S_F hfm E_sa FC_sa FV_sa _ _ _ A_sb (by decide) (by decide) rfl) E_sa eT (W := 0) (by decide) (by decide) (cells' := 2) (slots' := 24) rfl rfl (by decide) (by decide) (by rw [hml]; rfl) (lenOf own_pd_28I29C rfl) rfl (S := []) rfl (Nat.le_of_eq rfl) (hb hby at_105) (pc' := 108) rfl ?_
    intro v T h3 L lc X eT hq fN
    obtain ⟨rfl, Nq, hqe⟩ := hq
    have N := fN _ N Nq
    rw [hqe] at eT
    show own_W p e below (own_PostS Z own_EL s (Q_law Z p0 aT aF cs fm h0 n0) 8 2112) T m 108 #[.val (.int p0), .val (.int (0 : Int32)), .val (.ref aF), .val (.ref sa)] [(.int (nar .char (nar .char ((102 : Int32) &&& 255).toUInt32.toUInt16.toUInt32.toInt32)))]
    refine own_bipush X hx (102 : Int32) (hb hby at_108) (pc' := 110) rfl rfl ?_
    refine own_icmpN X hx (hb hby at_110) (pc' := 113) rfl (show (nar .char (nar .char ((102 : Int32) &&& 255).toUInt32.toUInt16.toUInt32.toInt32)) = (102 : Int32) from (by decide)) ?_
    refine own_aloadN X hx (hb hby at_113) (pc' := 114) rfl rfl rfl ?_
    refine own_iconst X hx (1 : Int32) (hb hby at_114) (pc' := 115) rfl rfl ?_
    refine own_callV X hx hZ (y := (⟨"java/lang/String", "charAt", "(I)C"⟩ : MethodName)) sa [(.int (1 : Int32))] hown (own_w hw 31 rfl) (own_w hw 32 rfl) (own_w hw 34 rfl) (own_w hw 33 rfl) (own_w hw 11 rfl) (own_w hw 35 rfl) (by decide) (rm_chAt l Z a0 hw [] sa sb (1 : Int32) (97 : Int32) cs fm h1 n0 Z0 S_C hcs S_F hfm E_sa FC_sa FV_sa _ _ _ A_sb (by decide) (by decide) rfl) E_sa eT (W := 0) (by decide) (by decide) (cells' := 2) (slots' := 24) rfl rfl (by decide) (by decide) (by rw [hml]; rfl) (lenOf own_pd_28I29C rfl) rfl (S := []) rfl (Nat.le_of_eq rfl) (hb hby at_115) (pc' := 118) rfl ?_
    intro v T h4 L lc X eT hq fN
    obtain ⟨rfl, Nq, hqe⟩ := hq
    have N := fN _ N Nq
    rw [hqe] at eT
    show own_W p e below (own_PostS Z own_EL s (Q_law Z p0 aT aF cs fm h0 n0) 8 2112) T m 118 #[.val (.int p0), .val (.int (0 : Int32)), .val (.ref aF), .val (.ref sa)] [(.int (nar .char (nar .char ((97 : Int32) &&& 255).toUInt32.toUInt16.toUInt32.toInt32)))]
    refine own_bipush X hx (97 : Int32) (hb hby at_118) (pc' := 120) rfl rfl ?_
    refine own_icmpN X hx (hb hby at_120) (pc' := 123) rfl (show (nar .char (nar .char ((97 : Int32) &&& 255).toUInt32.toUInt16.toUInt32.toInt32)) = (97 : Int32) from (by decide)) ?_
    refine own_aloadN X hx (hb hby at_123) (pc' := 124) rfl rfl rfl ?_
    refine own_iconst X hx (2 : Int32) (hb hby at_124) (pc' := 125) rfl rfl ?_
    refine own_callV X hx hZ (y := (⟨"java/lang/String", "charAt", "(I)C"⟩ : MethodName)) sa [(.int (2 : Int32))] hown (own_w hw 31 rfl) (own_w hw 32 rfl) (own_w hw 34 rfl) (own_w hw 33 rfl) (own_w hw 11 rfl) (own_w hw 35 rfl) (by decide) (rm_chAt l Z a0 hw [] sa sb (2 : Int32) (108 : Int32) cs fm h1 n0 Z0 S_C hcs S_F hfm E_sa FC_sa FV_sa _ _ _ A_sb (by decide) (by decide) rfl) E_sa eT (W := 0) (by decide) (by decide) (cells' := 2) (slots' := 24) rfl rfl (by decide) (by decide) (by rw [hml]; rfl) (lenOf own_pd_28I29C rfl) rfl (S := []) rfl (Nat.le_of_eq rfl) (hb hby at_125) (pc' := 128) rfl ?_
    intro v T h5 L lc X eT hq fN
    obtain ⟨rfl, Nq, hqe⟩ := hq
    have N := fN _ N Nq
    rw [hqe] at eT
    show own_W p e below (own_PostS Z own_EL s (Q_law Z p0 aT aF cs fm h0 n0) 8 2112) T m 128 #[.val (.int p0), .val (.int (0 : Int32)), .val (.ref aF), .val (.ref sa)] [(.int (nar .char (nar .char ((108 : Int32) &&& 255).toUInt32.toUInt16.toUInt32.toInt32)))]
    refine own_bipush X hx (108 : Int32) (hb hby at_128) (pc' := 130) rfl rfl ?_
    refine own_icmpN X hx (hb hby at_130) (pc' := 133) rfl (show (nar .char (nar .char ((108 : Int32) &&& 255).toUInt32.toUInt16.toUInt32.toInt32)) = (108 : Int32) from (by decide)) ?_
    refine own_aloadN X hx (hb hby at_133) (pc' := 134) rfl rfl rfl ?_
    refine own_iconst X hx (3 : Int32) (hb hby at_134) (pc' := 135) rfl rfl ?_
    refine own_callV X hx hZ (y := (⟨"java/lang/String", "charAt", "(I)C"⟩ : MethodName)) sa [(.int (3 : Int32))] hown (own_w hw 31 rfl) (own_w hw 32 rfl) (own_w hw 34 rfl) (own_w hw 33 rfl) (own_w hw 11 rfl) (own_w hw 35 rfl) (by decide) (rm_chAt l Z a0 hw [] sa sb (3 : Int32) (115 : Int32) cs fm h1 n0 Z0 S_C hcs S_F hfm E_sa FC_sa FV_sa _ _ _ A_sb (by decide) (by decide) rfl) E_sa eT (W := 0) (by decide) (by decide) (cells' := 2) (slots' := 24) rfl rfl (by decide) (by decide) (by rw [hml]; rfl) (lenOf own_pd_28I29C rfl) rfl (S := []) rfl (Nat.le_of_eq rfl) (hb hby at_135) (pc' := 138) rfl ?_
    intro v T h6 L lc X eT hq fN
    obtain ⟨rfl, Nq, hqe⟩ := hq
    have N := fN _ N Nq
    rw [hqe] at eT
    show own_W p e below (own_PostS Z own_EL s (Q_law Z p0 aT aF cs fm h0 n0) 8 2112) T m 138 #[.val (.int p0), .val (.int (0 : Int32)), .val (.ref aF), .val (.ref sa)] [(.int (nar .char (nar .char ((115 : Int32) &&& 255).toUInt32.toUInt16.toUInt32.toInt32)))]
    refine own_bipush X hx (115 : Int32) (hb hby at_138) (pc' := 140) rfl rfl ?_
    refine own_icmpN X hx (hb hby at_140) (pc' := 143) rfl (show (nar .char (nar .char ((115 : Int32) &&& 255).toUInt32.toUInt16.toUInt32.toInt32)) = (115 : Int32) from (by decide)) ?_
    refine own_aloadN X hx (hb hby at_143) (pc' := 144) rfl rfl rfl ?_
    refine own_iconst X hx (4 : Int32) (hb hby at_144) (pc' := 145) rfl rfl ?_
    refine own_callV X hx hZ (y := (⟨"java/lang/String", "charAt", "(I)C"⟩ : MethodName)) sa [(.int (4 : Int32))] hown (own_w hw 31 rfl) (own_w hw 32 rfl) (own_w hw 34 rfl) (own_w hw 33 rfl) (own_w hw 11 rfl) (own_w hw 35 rfl) (by decide) (rm_chAt l Z a0 hw [] sa sb (4 : Int32) (101 : Int32) cs fm h1 n0 Z0 S_C hcs S_F hfm E_sa FC_sa FV_sa _ _ _ A_sb (by decide) (by decide) rfl) E_sa eT (W := 0) (by decide) (by decide) (cells' := 2) (slots' := 24) rfl rfl (by decide) (by decide) (by rw [hml]; rfl) (lenOf own_pd_28I29C rfl) rfl (S := []) rfl (Nat.le_of_eq rfl) (hb hby at_145) (pc' := 148) rfl ?_
    intro v T h7 L lc X eT hq fN
    obtain ⟨rfl, Nq, hqe⟩ := hq
    have N := fN _ N Nq
    rw [hqe] at eT
    show own_W p e below (own_PostS Z own_EL s (Q_law Z p0 aT aF cs fm h0 n0) 8 2112) T m 148 #[.val (.int p0), .val (.int (0 : Int32)), .val (.ref aF), .val (.ref sa)] [(.int (nar .char (nar .char ((101 : Int32) &&& 255).toUInt32.toUInt16.toUInt32.toInt32)))]
    refine own_bipush X hx (101 : Int32) (hb hby at_148) (pc' := 150) rfl rfl ?_
    refine own_icmpN X hx (hb hby at_150) (pc' := 153) rfl (show (nar .char (nar .char ((101 : Int32) &&& 255).toUInt32.toUInt16.toUInt32.toInt32)) = (101 : Int32) from (by decide)) ?_
    refine own_iconst X hx (1 : Int32) (hb hby at_153) (pc' := 154) rfl rfl ?_
    refine own_goto X hx (hb hby at_154) (by decide) (pc' := 158) rfl ?_
    refine own_retIS X hx hlk hZ eT hh hS hk hEL H CR (t := .boolean) (w' := (.int (1 : Int32))) Bd.returns (hb hby at_158) rfl rfl (by simp) (by decide) (by decide) ?_
    rw [eT]
    exact ⟨rfl, N⟩
  · refine own_iconst X hx (1 : Int32) (hb hby at_6) (pc' := 7) rfl rfl ?_
    refine own_goto X hx (hb hby at_7) (by decide) (pc' := 11) rfl ?_
    refine own_istoreN X hx (hb hby at_11) (pc' := 12) rfl (Ls' := #[.val (.int p0), .val (.int (1 : Int32)), .unset, .unset]) rfl ?_
    refine own_iloadN X hx (hb hby at_12) (pc' := 13) rfl rfl ?_
    refine own_ifN X hx (hb hby at_13) (pc' := 16) rfl (show ¬ ((1 : Int32) = (0 : Int32)) from (by decide)) ?_
    refine own_getS X hx hZ hown (host := "") (Or.inl (own_w hw 53 rfl)) Via.refl eT S_T (hb hby at_16) (pc' := 19) rfl ?_
    intro T X eT
    refine own_goto X hx (hb hby at_19) (by decide) (pc' := 25) rfl ?_
    refine own_astoreN X hx (hb hby at_25) (pc' := 26) rfl rfl (Ls' := #[.val (.int p0), .val (.int (1 : Int32)), .val (.ref aT), .unset]) rfl ?_
    refine own_aloadN X hx (hb hby at_26) (pc' := 27) rfl rfl rfl ?_
    refine own_callVS X hx hZ (y := (⟨"com/example/modelkiln/modelkiln/ocl/BooleanValue", "toString", "()Ljava/lang/String;"⟩ : MethodName)) aT [] hown (own_w hw 3 rfl) (own_w hw 4 rfl) (own_w hw 6 rfl) (own_w hw 5 rfl) (own_w hw 1 rfl) (own_w hw 7 rfl) (by decide) (rm_tst l Z a0 hw hEL [] aT aF h0 n0 Z0 hTF S_T) E_aT eT hS hk hEL H (W := 0) (by decide) (by decide) (cells' := 2) (slots' := 24) rfl rfl (by decide) (by decide) (by rw [hml]; rfl) (lenOf own_pd_2829Ljava2flang2fString3b rfl) rfl (S := []) rfl (Nat.le_of_eq rfl) (hb hby at_27) (pc' := 30) rfl ?_
    intro v T h8 L lc vm0 k1 X eT hS hk hZ hown CQ hq fN
    obtain ⟨sa, sb, kb, rfl, Nq, Eq, E_sa, FC_sa, FV_sa, A_sb⟩ := hq
    have N := fN _ N Nq
    have CR := CR.trans CQ
    have H := CQ.1
    have S_C := S_C.ext Eq
    have S_F := S_F.ext Eq
    have S_T := S_T.ext Eq
    have S_N := S_N.ext Eq
    have E_aT := E_aT.ext Eq
    have E_aF := E_aF.ext Eq
    have Z0 := Nat.le_trans Z0 Eq.1
    show own_W p e below (own_PostS Z own_EL s (Q_law Z p0 aT aF cs fm h0 n0) 8 2112) T m 30 #[.val (.int p0), .val (.int (1 : Int32)), .val (.ref aT), .unset] [(.ref sa)]
    refine own_astoreN X hx (hb hby at_30) (pc' := 31) rfl rfl (Ls' := #[.val (.int p0), .val (.int (1 : Int32)), .val (.ref aT), .val (.ref sa)]) rfl ?_
    refine own_aloadN X hx (hb hby at_31) (pc' := 32) rfl rfl rfl ?_
    refine own_ifnonnullY X hx (hb hby at_32) (by decide) (pc' := 37) rfl ?_
    refine own_iloadN X hx (hb hby at_37) (pc' := 38) rfl rfl ?_
    refine own_ifN X hx (hb hby at_38) (pc' := 41) rfl (show ¬ ((1 : Int32) = (0 : Int32)) from (by decide)) ?_
    refine own_aloadN X hx (hb hby at_41) (pc' := 42) rfl rfl rfl ?_
    refine own_callV X hx hZ (y := (⟨"java/lang/String", "length", "()I"⟩ : MethodName)) sa [] hown (own_w hw 18 rfl) (own_w hw 19 rfl) (own_w hw 21 rfl) (own_w hw 20 rfl) (own_w hw 11 rfl) (own_w hw 22 rfl) (by decide) (rm_len l Z a0 hw [] sa sb cs (4 : Int32) h8 n0 Z0 S_C hcs E_sa FC_sa FV_sa _ _ A_sb) E_sa eT (W := 0) (by decide) (by decide) (cells' := 2) (slots' := 24) rfl rfl (by decide) (by decide) (by rw [hml]; rfl) (lenOf own_pd_2829I rfl) rfl (S := []) rfl (Nat.le_of_eq rfl) (hb hby at_42) (pc' := 45) rfl ?_
    intro v T h9 L lc X eT hq fN
    obtain ⟨rfl, Nq, hqe⟩ := hq
    have N := fN _ N Nq
    rw [hqe] at eT
    show own_W p e below (own_PostS Z own_EL s (Q_law Z p0 aT aF cs fm h0 n0) 8 2112) T m 45 #[.val (.int p0), .val (.int (1 : Int32)), .val (.ref aT), .val (.ref sa)] [(.int (4 : Int32))]
    refine own_iconst X hx (4 : Int32) (hb hby at_45) (pc' := 46) rfl rfl ?_
    refine own_icmpN X hx (hb hby at_46) (pc' := 49) rfl (show (4 : Int32) = (4 : Int32) from (by decide)) ?_
    refine own_aloadN X hx (hb hby at_49) (pc' := 50) rfl rfl rfl ?_
    refine own_iconst X hx (0 : Int32) (hb hby at_50) (pc' := 51) rfl rfl ?_
    refine own_callV X hx hZ (y := (⟨"java/lang/String", "charAt", "(I)C"⟩ : MethodName)) sa [(.int (0 : Int32))] hown (own_w hw 31 rfl) (own_w hw 32 rfl) (own_w hw 34 rfl) (own_w hw 33 rfl) (own_w hw 11 rfl) (own_w hw 35 rfl) (by decide) (rm_chAt l Z a0 hw [] sa sb (0 : Int32) (116 : Int32) cs fm h8 n0 Z0 S_C hcs S_F hfm E_sa FC_sa FV_sa _ _ _ A_sb (by decide) (by decide) rfl) E_sa eT (W := 0) (by decide) (by decide) (cells' := 2) (slots' := 24) rfl rfl (by decide) (by decide) (by rw [hml]; rfl) (lenOf own_pd_28I29C rfl) rfl (S := []) rfl (Nat.le_of_eq rfl) (hb hby at_51) (pc' := 54) rfl ?_
    intro v T h10 L lc X eT hq fN
    obtain ⟨rfl, Nq, hqe⟩ := hq
    have N := fN _ N Nq
    rw [hqe] at eT
    show own_W p e below (own_PostS Z own_EL s (Q_law Z p0 aT aF cs fm h0 n0) 8 2112) T m 54 #[.val (.int p0), .val (.int (1 : Int32)), .val (.ref aT), .val (.ref sa)] [(.int (nar .char (nar .char ((116 : Int32) &&& 255).toUInt32.toUInt16.toUInt32.toInt32)))]
    refine own_bipush X hx (116 : Int32) (hb hby at_54) (pc' := 56) rfl rfl ?_
    refine own_icmpN X hx (hb hby at_56) (pc' := 59) rfl (show (nar .char (nar .char ((116 : Int32) &&& 255).toUInt32.toUInt16.toUInt32.toInt32)) = (116 : Int32) from (by decide)) ?_
    refine own_aloadN X hx (hb hby at_59) (pc' := 60) rfl rfl rfl ?_
    refine own_iconst X hx (1 : Int32) (hb hby at_60) (pc' := 61) rfl rfl ?_
    refine own_callV X hx hZ (y := (⟨"java/lang/String", "charAt", "(I)C"⟩ : MethodName)) sa [(.int (1 : Int32))] hown (own_w hw 31 rfl) (own_w hw 32 rfl) (own_w hw 34 rfl) (own_w hw 33 rfl) (own_w hw 11 rfl) (own_w hw 35 rfl) (by decide) (rm_chAt l Z a0 hw [] sa sb (1 : Int32) (114 : Int32) cs fm h8 n0 Z0 S_C hcs S_F hfm E_sa FC_sa FV_sa _ _ _ A_sb (by decide) (by decide) rfl) E_sa eT (W := 0) (by decide) (by decide) (cells' := 2) (slots' := 24) rfl rfl (by decide) (by decide) (by rw [hml]; rfl) (lenOf own_pd_28I29C rfl) rfl (S := []) rfl (Nat.le_of_eq rfl) (hb hby at_61) (pc' := 64) rfl ?_
    intro v T h11 L lc X eT hq fN
    obtain ⟨rfl, Nq, hqe⟩ := hq
    have N := fN _ N Nq
    rw [hqe] at eT
    show own_W p e below (own_PostS Z own_EL s (Q_law Z p0 aT aF cs fm h0 n0) 8 2112) T m 64 #[.val (.int p0), .val (.int (1 : Int32)), .val (.ref aT), .val (.ref sa)] [(.int (nar .char (nar .char ((114 : Int32) &&& 255).toUInt32.toUInt16.toUInt32.toInt32)))]
    refine own_bipush X hx (114 : Int32) (hb hby at_64) (pc' := 66) rfl rfl ?_
    refine own_icmpN X hx (hb hby at_66) (pc' := 69) rfl (show (nar .char (nar .char ((114 : Int32) &&& 255).toUInt32.toUInt16.toUInt32.toInt32)) = (114 : Int32) from (by decide)) ?_
    refine own_aloadN X hx (hb hby at_69) (pc' := 70) rfl rfl rfl ?_
    refine own_iconst X hx (2 : Int32) (hb hby at_70) (pc' := 71) rfl rfl ?_
    refine own_callV X hx hZ (y := (⟨"java/lang/String", "charAt", "(I)C"⟩ : MethodName)) sa [(.int (2 : Int32))] hown (own_w hw 31 rfl) (own_w hw 32 rfl) (own_w hw 34 rfl) (own_w hw 33 rfl) (own_w hw 11 rfl) (own_w hw 35 rfl) (by decide) (rm_chAt l Z a0 hw [] sa sb (2 : Int32) (117 : Int32) cs fm h8 n0 Z0 S_C hcs S_F hfm E_sa FC_sa FV_sa _ _ _ A_sb (by decide) (by decide) rfl) E_sa eT (W := 0) (by decide) (by decide) (cells' := 2) (slots' := 24) rfl rfl (by decide) (by decide) (by rw [hml]; rfl) (lenOf own_pd_28I29C rfl) rfl (S := []) rfl (Nat.le_of_eq rfl) (hb hby at_71) (pc' := 74) rfl ?_
    intro v T h12 L lc X eT hq fN
    obtain ⟨rfl, Nq, hqe⟩ := hq
    have N := fN _ N Nq
    rw [hqe] at eT
    show own_W p e below (own_PostS Z own_EL s (Q_law Z p0 aT aF cs fm h0 n0) 8 2112) T m 74 #[.val (.int p0), .val (.int (1 : Int32)), .val (.ref aT), .val (.ref sa)] [(.int (nar .char (nar .char ((117 : Int32) &&& 255).toUInt32.toUInt16.toUInt32.toInt32)))]
    refine own_bipush X hx (117 : Int32) (hb hby at_74) (pc' := 76) rfl rfl ?_
    refine own_icmpN X hx (hb hby at_76) (pc' := 79) rfl (show (nar .char (nar .char ((117 : Int32) &&& 255).toUInt32.toUInt16.toUInt32.toInt32)) = (117 : Int32) from (by decide)) ?_
    refine own_aloadN X hx (hb hby at_79) (pc' := 80) rfl rfl rfl ?_
    refine own_iconst X hx (3 : Int32) (hb hby at_80) (pc' := 81) rfl rfl ?_
    refine own_callV X hx hZ (y := (⟨"java/lang/String", "charAt", "(I)C"⟩ : MethodName)) sa [(.int (3 : Int32))] hown (own_w hw 31 rfl) (own_w hw 32 rfl) (own_w hw 34 rfl) (own_w hw 33 rfl) (own_w hw 11 rfl) (own_w hw 35 rfl) (by decide) (rm_chAt l Z a0 hw [] sa sb (3 : Int32) (101 : Int32) cs fm h8 n0 Z0 S_C hcs S_F hfm E_sa FC_sa FV_sa _ _ _ A_sb (by decide) (by decide) rfl) E_sa eT (W := 0) (by decide) (by decide) (cells' := 2) (slots' := 24) rfl rfl (by decide) (by decide) (by rw [hml]; rfl) (lenOf own_pd_28I29C rfl) rfl (S := []) rfl (Nat.le_of_eq rfl) (hb hby at_81) (pc' := 84) rfl ?_
    intro v T h13 L lc X eT hq fN
    obtain ⟨rfl, Nq, hqe⟩ := hq
    have N := fN _ N Nq
    rw [hqe] at eT
    show own_W p e below (own_PostS Z own_EL s (Q_law Z p0 aT aF cs fm h0 n0) 8 2112) T m 84 #[.val (.int p0), .val (.int (1 : Int32)), .val (.ref aT), .val (.ref sa)] [(.int (nar .char (nar .char ((101 : Int32) &&& 255).toUInt32.toUInt16.toUInt32.toInt32)))]
    refine own_bipush X hx (101 : Int32) (hb hby at_84) (pc' := 86) rfl rfl ?_
    refine own_icmpN X hx (hb hby at_86) (pc' := 89) rfl (show (nar .char (nar .char ((101 : Int32) &&& 255).toUInt32.toUInt16.toUInt32.toInt32)) = (101 : Int32) from (by decide)) ?_
    refine own_iconst X hx (1 : Int32) (hb hby at_89) (pc' := 90) rfl rfl ?_
    refine own_goto X hx (hb hby at_90) (by decide) (pc' := 94) rfl ?_
    refine own_retIS X hx hlk hZ eT hh hS hk hEL H CR (t := .boolean) (w' := (.int (1 : Int32))) Bd.returns (hb hby at_94) rfl rfl (by simp) (by decide) (by decide) ?_
    rw [eT]
    exact ⟨rfl, N⟩
set_option maxRecDepth 65536 in
set_option maxHeartbeats 40000000 in
theorem comes_1 {Post : Tables → Env → Array Value → State → Outcome → State → Prop} (hpost : ∀ tb e args s v u, (limb_1_1.after args s (.returned v) u = true ∧ limb_1_2.after args s (.returned v) u = true ∧ True) → ReturnedEndW s (.returned v) u (Jvm.fieldLocs frame_1_writes args s ++ Jvm.arrayLocs frame_1_arrays args s ++ Jvm.staticLocs frame_1_statics s) 8 2112 → Post tb e args s (.returned v) u) :
    ArmFor flags0 classFile x code maxLocals ret World_1 tables_1 room_1 Calls_1 rest_1 Pre_1 Post := by
  intro l hfl _ _ p e ha hc hk s m args below hf hA hF happ hP
  obtain ⟨hcalls, hrest, hpre⟩ := hP
  obtain ⟨-, -, -, hnamed, -, -, -, hat⟩ := (Spec.applies_iff hf).mp happ
  obtain ⟨hg, hn⟩ := and_e (Cond.before_iff.mp (show (Jvm.Cond.and given_1 narrow_1).before args s = true from hpre))
  obtain ⟨gc, gr0⟩ := and_e hg
  obtain ⟨w0, rfl⟩ : ∃ w0 : Value, args = #[w0] := by
    have hs : args.size = 1 := by simpa [Cond.value, given_1] using gc
    obtain ⟨L⟩ := args
    match L, hs with
    | [w0], _ => exact ⟨w0, rfl⟩
  have hw := fun d (hd : d ∈ tables_1) => atoms_spec (ws := Jvm.Cond.code x code maxLocals ret :: tables_1) hat d (List.mem_cons_of_mem _ hd)
  obtain ⟨i0, ei0⟩ := is_v gr0
  obtain rfl : w0 = (.int i0) := Option.some.inj ei0
  obtain ⟨nF, n1⟩ := and_e hn
  obtain ⟨nT, n2⟩ := and_e n1
  obtain ⟨oF, oT⟩ := and_e n2
  obtain ⟨aF, eF⟩ := exa_v nF
  obtain ⟨aT, eT⟩ := exa_v nT
  have SF := Sta.start eF (Or.inr ⟨(own_w hw 1 rfl), (own_w hw 2 rfl)⟩)
  have ST := Sta.start eT (Or.inr ⟨(own_w hw 1 rfl), (own_w hw 9 rfl)⟩)
  have EF := Exa.start eF nF
  have ET := Exa.start eT nT
  have hTF : aT ≠ aF := (Fld.start (own_feq eT oT)).ne (Fld.start (own_feq eF oF)) (fun q => absurd (Value.int.inj q) (by decide))
  obtain ⟨hsets, hown0⟩ := atoms_of _ (rest_1_c_eq ▸ (show rest_1_c.before _ s = true from hrest))
  obtain ⟨cs, ecs⟩ := is_v (Cond.before_iff.mp (hsets _ (List.mem_of_getElem? (i := 1) rfl)))
  have SC := Sta.start ecs (Or.inl (hsets _ (List.mem_of_getElem? (i := 0) rfl)))
  have hcs : ¬ cs = 0 := fun q => by
      have z := not_v (Cond.before_iff.mp (hsets _ (List.mem_of_getElem? (i := 2) rfl)))
      rw [q] at ecs
      have u := eq_i ecs (Term.int_eval (0)) rfl
      rw [u] at z; cases z
  obtain ⟨fm, efm, hfm⟩ := isR_v (Cond.before_iff.mp (hsets _ (List.mem_of_getElem? (i := 8) rfl)))
  have SM := Sta.start efm (Or.inl (hsets _ (List.mem_of_getElem? (i := 7) rfl)))
  have hEL : EW s _ own_EL := EW.cons (own_w hw 54 rfl) own_txt_54.1 (EW.cons (own_w hw 10 rfl) own_txt_10.1 EW.nil)
  have H0 : CHv s own_EL s.vm s.heap := CHv.start hEL (fun p hp => hcalls.1 p hp) (hsets _ (List.mem_of_getElem? (i := 2) rfl)) (own_w hw 13 rfl) (own_w hw 12 rfl)
  obtain ⟨n, o, h1, h2, h3, _, L, rfl, ⟨rfl, N⟩, -, hq⟩ := rm_law l s _ hw hEL tables_1 i0 aT aF cs fm s.heap s.heap.size (Nat.le_refl _) SC hcs SM hfm hTF ST SF ET EF p e ha hc hk s m _ below hf ((Spec.applies_iff_loose hf).mp happ).1 ⟨rfl, State.Warmed39.refl s, rfl, H0⟩ trivial
  refine ⟨n, _, h1, h2, h3, hpost _ _ _ _ _ _ ⟨Cond.after_iff.mpr rfl, Cond.after_iff.mpr (eq_i res_at (Term.int_eval (1)) rfl), trivial⟩ ⟨hq.1, hq.2.1, hq.2.2.1, (hq.2.2.2.sift fun y hy => Or.inr (N y hy)).mono (by decide) (by decide)⟩⟩
theorem main_1_1 : Claimed_1_1 := comes_1 fun _ _ _ _ _ _ h hF => ⟨h.1, hF⟩
theorem main_1_2 : Claimed_1_2 := comes_1 fun _ _ _ _ _ _ h hF => ⟨h.2.1, hF⟩
end Jvm.Pilot.@@N@@
namespace Jvm.Pilot.@@N@@
open Jvm Jvm.ClassFile Sem Op Lib Jvm.Free Jvm.Stand Jvm.Pilot.@@N@@.Jvm.D
/-! MADE BY PROGRAM (witnessworld.py) out of the Statement's table words and the real class files: 19 classes; the members and pool entries that the words name. The judged class is class 1, her method 1. -/
namespace start1
open Jvm.ClassFile
def u (s : String) : CpInfo := .utf8 (stringToUtf16 s)
/-- a pool by its gaps: so many unusable entries, then the entry; so many at the end -/
def gap : Nat → List CpInfo → List CpInfo
  | 0, r => r
  | n + 1, r => .unusable :: gap n r
def poolList (es : List (Nat × CpInfo)) (last : Nat) : List CpInfo := es.foldr (fun e r => gap e.1 (e.2 :: r)) (gap last [])
def pool (es : List (Nat × CpInfo)) (last : Nat) : Array CpInfo := ⟨poolList es last⟩
def fileOf (pool : Array CpInfo) (this : Nat) (attrs : Array Attribute := #[]) (ms : Array MethodInfo := #[]) (fl : Nat := 33) (sup : Nat := 0) (ifs : Array Nat := #[]) (fds : Array FieldInfo := #[]) : ClassFile where
  minorVersion := 0
  majorVersion := 65
  constantPool := pool
  accessFlags := fl
  thisClass := this
  superClass := sup
  interfaces := ifs
  fields := fds
  methods := ms
  attributes := attrs
def plain (name : String) (sup : Option ClassId) : Class where
  name := name
  kind := .ordinary
  loader := none
  accessFlags := 33
  super := sup
  interfaces := #[]
  cf := none
  fields := #[]
  methods := #[]
  instanceTypes := #[]
  staticTypes := #[]
  resolved := #[]
  callSites := []
  init := .initialized
  statics := none
  mirror := none

def pool0 : Array CpInfo := pool [(5, u "<init>"), (0, u "()V"), (1, .class_ 10), (1, u "java/lang/Object")] 113

def k0m0 : Method := { name := "<init>", desc := "()V", sig := { parameters := [], returnType := none }, accessFlags := 1, code := none }
/-- java/lang/Object -/
def k0 : Class := { plain "java/lang/Object" none with
  accessFlags := 33
  interfaces := #[]
  cf := some (fileOf pool0 8 #[] #[{ accessFlags := 1, nameIndex := 5, descriptorIndex := 6, attributes := #[] }] 33 0 #[] #[])
  fields := #[]
  methods := #[k0m0]
  instanceTypes := #[]
  staticTypes := #[]
  resolved := Array.replicate 124 none
  statics := none }

def pool1 : Array CpInfo := pool [(2, .class_ 4), (1, u "java/lang/Object"), (0, u "<init>"), (0, u "()V"), (0, .fieldref 8 9), (0, .class_ 10), (0, .nameAndType 11 12), (0, u "com/example/modelkiln/modelkiln/ocl/BooleanValue"), (0, u "TRUE"), (0, u "Lcom/example/modelkiln/modelkiln/ocl/BooleanValue;"), (0, .fieldref 8 14), (0, .nameAndType 15 12), (0, u "FALSE"), (0, .methodref 8 17), (0, .nameAndType 18 19), (0, u "toString"), (0, u "()Ljava/lang/String;"), (0, .methodref 21 22), (0, .class_ 23), (0, .nameAndType 24 25), (0, u "java/lang/String"), (0, u "length"), (0, u "()I"), (0, .methodref 21 27), (0, .nameAndType 28 29), (0, u "charAt"), (0, u "(I)C"), (0, .class_ 31), (0, u "com/example/modelkiln/modelkiln/ocl/BooleanValueToStringPinLaw"), (2, u "law"), (0, u "(I)Z")] 3

def k1m0 : Method := { name := "<init>", desc := "()V", sig := { parameters := [], returnType := none }, accessFlags := 2, code := none }
def k1c1 : Code := { maxStack := 2, maxLocals := 4, code := code, exceptionTable := #[], attributes := #[] }
def k1m1 : Method := { name := "law", desc := "(I)Z", sig := { parameters := [.int], returnType := some .boolean }, accessFlags := 9, code := some k1c1 }
/-- com/example/modelkiln/modelkiln/ocl/BooleanValueToStringPinLaw -/
def k1 : Class := { plain "com/example/modelkiln/modelkiln/ocl/BooleanValueToStringPinLaw" (some 0) with
  accessFlags := 49
  interfaces := #[]
  cf := some (fileOf pool1 30 #[] #[{ accessFlags := 2, nameIndex := 5, descriptorIndex := 6, attributes := #[] }, { accessFlags := 9, nameIndex := 34, descriptorIndex := 35, attributes := #[] }] 49 2 #[] #[])
  fields := #[]
  methods := #[k1m0, k1m1]
  instanceTypes := #[]
  staticTypes := #[]
  resolved := Array.replicate 39 none
  statics := none }

def pool2 : Array CpInfo := pool [(1, .class_ 2), (0, u "java/lang/constant/Constable"), (0, .class_ 4), (0, u "java/lang/Object")] 6

/-- java/lang/constant/Constable -/
def k2 : Class := { plain "java/lang/constant/Constable" (some 0) with
  accessFlags := 1537
  interfaces := #[]
  cf := some (fileOf pool2 1 #[] #[] 1537 3 #[] #[])
  fields := #[]
  methods := #[]
  instanceTypes := #[]
  staticTypes := #[]
  resolved := Array.replicate 11 none
  statics := none }

def pool3 : Array CpInfo := pool [(1, .class_ 2), (0, u "java/lang/Comparable"), (0, .class_ 4), (0, u "java/lang/Object")] 7

/-- java/lang/Comparable -/
def k3 : Class := { plain "java/lang/Comparable" (some 0) with
  accessFlags := 1537
  interfaces := #[]
  cf := some (fileOf pool3 1 #[] #[] 1537 3 #[] #[])
  fields := #[]
  methods := #[]
  instanceTypes := #[]
  staticTypes := #[]
  resolved := Array.replicate 12 none
  statics := none }

def pool4 : Array CpInfo := pool [(1, .class_ 2), (0, u "java/io/Serializable"), (0, .class_ 4), (0, u "java/lang/Object")] 2

/-- java/io/Serializable -/
def k4 : Class := { plain "java/io/Serializable" (some 0) with
  accessFlags := 1537
  interfaces := #[]
  cf := some (fileOf pool4 1 #[] #[] 1537 3 #[] #[])
  fields := #[]
  methods := #[]
  instanceTypes := #[]
  staticTypes := #[]
  resolved := Array.replicate 7 none
  statics := none }

def pool5 : Array CpInfo := pool [(2, .class_ 4), (1, u "java/lang/Enum"), (0, u "name"), (0, u "Ljava/lang/String;"), (2, u "ordinal"), (0, u "I"), (1, .class_ 14), (1, u "java/lang/Object"), (4, u "hash"), (86, .class_ 108), (1, u "java/lang/Enum$EnumDesc"), (2, .class_ 112), (0, u "java/lang/constant/Constable"), (0, .class_ 114), (0, u "java/lang/Comparable"), (0, .class_ 116), (0, u "java/io/Serializable")] 87

/-- java/lang/Enum -/
def k5 : Class := { plain "java/lang/Enum" (some 0) with
  accessFlags := 1057
  interfaces := #[2, 3, 4]
  cf := some (fileOf pool5 2 #[.nestMembers #[106]] #[] 1057 12 #[111, 113, 115] #[{ accessFlags := 18, nameIndex := 5, descriptorIndex := 6, attributes := #[] }, { accessFlags := 18, nameIndex := 9, descriptorIndex := 10, attributes := #[] }, { accessFlags := 2, nameIndex := 19, descriptorIndex := 10, attributes := #[] }])
  fields := #[{ name := "name", type := (.object "java/lang/String"), accessFlags := 18, slot := 0, constantValue := 0 }, { name := "ordinal", type := .int, accessFlags := 18, slot := 1, constantValue := 0 }, { name := "hash", type := .int, accessFlags := 2, slot := 2, constantValue := 0 }]
  methods := #[]
  instanceTypes := #[(.object "java/lang/String"), .int, .int]
  staticTypes := #[]
  resolved := Array.replicate 204 none
  statics := none }

def pool6 : Array CpInfo := pool [(28, .class_ 29), (0, u "com/example/modelkiln/modelkiln/ocl/Value"), (0, .class_ 31), (0, u "java/lang/Object")] 29

/-- com/example/modelkiln/modelkiln/ocl/Value -/
def k6 : Class := { plain "com/example/modelkiln/modelkiln/ocl/Value" (some 0) with
  accessFlags := 1537
  interfaces := #[]
  cf := some (fileOf pool6 28 #[] #[] 1537 30 #[] #[])
  fields := #[]
  methods := #[]
  instanceTypes := #[]
  staticTypes := #[]
  resolved := Array.replicate 61 none
  statics := none }

def pool7 : Array CpInfo := pool [(1, .class_ 2), (0, u "com/example/modelkiln/modelkiln/ocl/BooleanValue"), (2, u "FALSE"), (0, u "Lcom/example/modelkiln/modelkiln/ocl/BooleanValue;"), (0, .fieldref 1 8), (0, .nameAndType 9 6), (0, u "TRUE"), (2, u "$VALUES"), (0, u "[Lcom/example/modelkiln/modelkiln/ocl/BooleanValue;"), (6, .class_ 22), (1, u "java/lang/Enum"), (6, .string 30), (0, u "true"), (0, .string 32), (0, u "false"), (7, .class_ 41), (0, u "com/example/modelkiln/modelkiln/ocl/Value"), (12, u "toString"), (0, u "()Ljava/lang/String;")] 6

def k7c0 : Code := { maxStack := 2, maxLocals := 1, code := prog_82_method_6_code, exceptionTable := #[], attributes := #[] }
def k7m0 : Method := { name := "toString", desc := "()Ljava/lang/String;", sig := { parameters := [], returnType := some (.object "java/lang/String") }, accessFlags := 1, code := some k7c0 }
/-- com/example/modelkiln/modelkiln/ocl/BooleanValue -/
def k7 : Class := { plain "com/example/modelkiln/modelkiln/ocl/BooleanValue" (some 5) with
  accessFlags := 16433
  interfaces := #[6]
  cf := some (fileOf pool7 1 #[] #[{ accessFlags := 1, nameIndex := 54, descriptorIndex := 55, attributes := #[] }] 16433 20 #[40] #[{ accessFlags := 16409, nameIndex := 5, descriptorIndex := 6, attributes := #[] }, { accessFlags := 16409, nameIndex := 9, descriptorIndex := 6, attributes := #[] }, { accessFlags := 4122, nameIndex := 12, descriptorIndex := 13, attributes := #[] }])
  fields := #[{ name := "FALSE", type := (.object "com/example/modelkiln/modelkiln/ocl/BooleanValue"), accessFlags := 16409, slot := 0, constantValue := 0 }, { name := "TRUE", type := (.object "com/example/modelkiln/modelkiln/ocl/BooleanValue"), accessFlags := 16409, slot := 1, constantValue := 0 }, { name := "$VALUES", type := (.array (.object "com/example/modelkiln/modelkiln/ocl/BooleanValue")), accessFlags := 4122, slot := 2, constantValue := 0 }]
  methods := #[k7m0]
  instanceTypes := #[(.object "java/lang/String"), .int, .int]
  staticTypes := #[(.object "com/example/modelkiln/modelkiln/ocl/BooleanValue"), (.object "com/example/modelkiln/modelkiln/ocl/BooleanValue"), (.array (.object "com/example/modelkiln/modelkiln/ocl/BooleanValue"))]
  resolved := Array.replicate 62 none
  statics := some 0 }

def pool8 : Array CpInfo := pool [(2, .class_ 4), (1, u "java/lang/CharSequence"), (42, .class_ 48), (0, u "java/lang/CharSequence$1CodePointIterator"), (10, .class_ 60), (0, u "java/lang/CharSequence$1CharIterator"), (5, .class_ 67), (0, u "java/lang/Object")] 63

/-- java/lang/CharSequence -/
def k8 : Class := { plain "java/lang/CharSequence" (some 0) with
  accessFlags := 1537
  interfaces := #[]
  cf := some (fileOf pool8 2 #[.nestMembers #[47, 59]] #[] 1537 66 #[] #[])
  fields := #[]
  methods := #[]
  instanceTypes := #[]
  staticTypes := #[]
  resolved := Array.replicate 131 none
  statics := none }

def pool9 : Array CpInfo := pool [(1, .class_ 2), (0, u "java/lang/constant/ConstantDesc"), (0, .class_ 4), (0, u "java/lang/Object")] 32

/-- java/lang/constant/ConstantDesc -/
def k9 : Class := { plain "java/lang/constant/ConstantDesc" (some 0) with
  accessFlags := 1537
  interfaces := #[]
  cf := some (fileOf pool9 1 #[] #[] 1537 3 #[] #[])
  fields := #[]
  methods := #[]
  instanceTypes := #[]
  staticTypes := #[]
  resolved := Array.replicate 37 none
  statics := none }

def pool10 : Array CpInfo := pool [(2, .class_ 4), (1, u "java/lang/Object"), (0, u "<init>"), (0, u "()V"), (2, .fieldref 10 11), (0, .class_ 12), (0, .nameAndType 13 14), (0, u "java/lang/String"), (0, u "value"), (0, u "[B"), (0, .fieldref 10 16), (0, .nameAndType 17 18), (0, u "coder"), (0, u "B"), (2, u "hash"), (0, u "I"), (2, u "hashIsZero"), (0, u "Z"), (11, .fieldref 10 39), (0, .nameAndType 40 26), (0, u "COMPACT_STRINGS"), (66, .class_ 109), (1, u "java/lang/StringLatin1"), (32, u "()Z"), (191, u "()I"), (0, .methodref 10 336), (0, .nameAndType 17 337), (0, u "()B"), (25, u "([BI)C"), (27, u "(II)V"), (35, u "(I)C"), (64, .methodref 10 493), (0, .nameAndType 494 142), (0, u "isLatin1"), (0, .methodref 107 496), (0, .nameAndType 497 363), (0, u "charAt"), (3, u "checkIndex"), (5, u "length"), (67, .class_ 576), (0, u "java/lang/CharSequence"), (22, u "CASE_INSENSITIVE_ORDER"), (0, u "Ljava/util/Comparator;"), (452, .fieldref 1054 1055), (0, .class_ 1056), (0, .nameAndType 1057 1058), (0, u "jdk/internal/util/Preconditions"), (0, u "SIOOBE_FORMATTER"), (0, u "Ljava/util/function/BiFunction;"), (0, .methodref 1054 1060), (0, .nameAndType 501 1061), (0, u "(IILjava/util/function/BiFunction;)I"), (39, u "serialPersistentFields"), (0, u "[Ljava/io/ObjectStreamField;"), (0, .class_ 1104), (0, u "java/lang/String$CaseInsensitiveComparator"), (1, .class_ 1107), (0, u "java/io/Serializable"), (0, .class_ 1109), (0, u "java/lang/Comparable"), (0, .class_ 1111), (0, u "java/lang/constant/Constable"), (0, .class_ 1113), (0, u "java/lang/constant/ConstantDesc"), (2, u "serialVersionUID"), (0, u "J"), (3, u "REPL"), (0, u "C"), (2, u "LATIN1"), (1, u "UTF16")] 323

def k10m0 : Method := { name := "<init>", desc := "()V", sig := { parameters := [], returnType := none }, accessFlags := 1, code := none }
def k10c1 : Code := { maxStack := 2, maxLocals := 1, code := jdk_42_method_54_code, exceptionTable := #[], attributes := #[] }
def k10m1 : Method := { name := "length", desc := "()I", sig := { parameters := [], returnType := some .int }, accessFlags := 1, code := some k10c1 }
def k10c2 : Code := { maxStack := 2, maxLocals := 2, code := jdk_42_method_56_code, exceptionTable := #[], attributes := #[] }
def k10m2 : Method := { name := "charAt", desc := "(I)C", sig := { parameters := [.int], returnType := some .char }, accessFlags := 1, code := some k10c2 }
def k10c3 : Code := { maxStack := 1, maxLocals := 1, code := jdk_42_method_152_code, exceptionTable := #[], attributes := #[] }
def k10m3 : Method := { name := "coder", desc := "()B", sig := { parameters := [], returnType := some .byte }, accessFlags := 0, code := some k10c3 }
def k10c4 : Code := { maxStack := 1, maxLocals := 1, code := jdk_42_method_154_code, exceptionTable := #[], attributes := #[] }
def k10m4 : Method := { name := "isLatin1", desc := "()Z", sig := { parameters := [], returnType := some .boolean }, accessFlags := 0, code := some k10c4 }
def k10c5 : Code := { maxStack := 3, maxLocals := 2, code := jdk_42_method_155_code, exceptionTable := #[], attributes := #[] }
def k10m5 : Method := { name := "checkIndex", desc := "(II)V", sig := { parameters := [.int, .int], returnType := none }, accessFlags := 8, code := some k10c5 }
/-- java/lang/String -/
def k10 : Class := { plain "java/lang/String" (some 0) with
  accessFlags := 49
  interfaces := #[4, 3, 8, 2, 9]
  cf := some (fileOf pool10 10 #[.nestMembers #[1103]] #[{ accessFlags := 1, nameIndex := 5, descriptorIndex := 6, attributes := #[] }, { accessFlags := 1, nameIndex := 507, descriptorIndex := 334, attributes := #[] }, { accessFlags := 1, nameIndex := 497, descriptorIndex := 427, attributes := #[] }, { accessFlags := 0, nameIndex := 17, descriptorIndex := 337, attributes := #[] }, { accessFlags := 0, nameIndex := 494, descriptorIndex := 142, attributes := #[] }, { accessFlags := 8, nameIndex := 501, descriptorIndex := 391, attributes := #[] }] 49 2 #[1106, 1108, 575, 1110, 1112] #[{ accessFlags := 18, nameIndex := 13, descriptorIndex := 14, attributes := #[] }, { accessFlags := 18, nameIndex := 17, descriptorIndex := 18, attributes := #[] }, { accessFlags := 2, nameIndex := 21, descriptorIndex := 22, attributes := #[] }, { accessFlags := 2, nameIndex := 25, descriptorIndex := 26, attributes := #[] }, { accessFlags := 26, nameIndex := 1116, descriptorIndex := 1117, attributes := #[] }, { accessFlags := 24, nameIndex := 40, descriptorIndex := 26, attributes := #[] }, { accessFlags := 26, nameIndex := 1101, descriptorIndex := 1102, attributes := #[] }, { accessFlags := 26, nameIndex := 1121, descriptorIndex := 1122, attributes := #[] }, { accessFlags := 25, nameIndex := 599, descriptorIndex := 600, attributes := #[] }, { accessFlags := 24, nameIndex := 1125, descriptorIndex := 18, attributes := #[] }, { accessFlags := 24, nameIndex := 1127, descriptorIndex := 18, attributes := #[] }])
  fields := #[{ name := "value", type := (.array .byte), accessFlags := 18, slot := 0, constantValue := 0 }, { name := "coder", type := .byte, accessFlags := 18, slot := 1, constantValue := 0 }, { name := "hash", type := .int, accessFlags := 2, slot := 2, constantValue := 0 }, { name := "hashIsZero", type := .boolean, accessFlags := 2, slot := 3, constantValue := 0 }, { name := "serialVersionUID", type := .long, accessFlags := 26, slot := 0, constantValue := 0 }, { name := "COMPACT_STRINGS", type := .boolean, accessFlags := 24, slot := 1, constantValue := 0 }, { name := "serialPersistentFields", type := (.array (.object "java/io/ObjectStreamField")), accessFlags := 26, slot := 2, constantValue := 0 }, { name := "REPL", type := .char, accessFlags := 26, slot := 3, constantValue := 0 }, { name := "CASE_INSENSITIVE_ORDER", type := (.object "java/util/Comparator"), accessFlags := 25, slot := 4, constantValue := 0 }, { name := "LATIN1", type := .byte, accessFlags := 24, slot := 5, constantValue := 0 }, { name := "UTF16", type := .byte, accessFlags := 24, slot := 6, constantValue := 0 }]
  methods := #[k10m0, k10m1, k10m2, k10m3, k10m4, k10m5]
  instanceTypes := #[(.array .byte), .byte, .int, .boolean]
  staticTypes := #[.long, .boolean, (.array (.object "java/io/ObjectStreamField")), .char, (.object "java/util/Comparator"), .byte, .byte]
  resolved := Array.replicate 1451 none
  statics := some 1 }

def pool11 : Array CpInfo := pool [(1, .class_ 2), (0, u "java/lang/String"), (1, .class_ 6), (1, u "java/lang/Object"), (0, u "<init>"), (0, u "()V"), (0, .methodref 1 10), (0, .nameAndType 11 12), (0, u "checkIndex"), (0, u "(II)V"), (1, .class_ 16), (1, u "java/lang/StringLatin1"), (36, u "([BI)C"), (67, u "$assertionsDisabled"), (0, u "Z"), (98, .class_ 223), (1, u "java/lang/StringLatin1$LinesSpliterator"), (28, u "charAt"), (137, .class_ 391), (0, u "java/lang/StringLatin1$CharsSpliterator")] 3

def k11m0 : Method := { name := "<init>", desc := "()V", sig := { parameters := [], returnType := none }, accessFlags := 0, code := none }
def k11c1 : Code := { maxStack := 2, maxLocals := 2, code := jdk_43_method_2_code, exceptionTable := #[], attributes := #[] }
def k11m1 : Method := { name := "charAt", desc := "([BI)C", sig := { parameters := [(.array .byte), .int], returnType := some .char }, accessFlags := 9, code := some k11c1 }
/-- java/lang/StringLatin1 -/
def k11 : Class := { plain "java/lang/StringLatin1" (some 0) with
  accessFlags := 48
  interfaces := #[]
  cf := some (fileOf pool11 14 #[.nestMembers #[390, 221]] #[{ accessFlags := 0, nameIndex := 7, descriptorIndex := 8, attributes := #[] }, { accessFlags := 9, nameIndex := 252, descriptorIndex := 53, attributes := #[] }] 48 4 #[] #[{ accessFlags := 4120, nameIndex := 121, descriptorIndex := 122, attributes := #[] }])
  fields := #[{ name := "$assertionsDisabled", type := .boolean, accessFlags := 4120, slot := 0, constantValue := 0 }]
  methods := #[k11m0, k11m1]
  instanceTypes := #[]
  staticTypes := #[.boolean]
  resolved := Array.replicate 395 none
  statics := none }

def pool12 : Array CpInfo := pool [(2, .class_ 4), (1, u "java/lang/Object"), (0, u "<init>"), (0, u "()V"), (17, .class_ 26), (1, u "jdk/internal/util/Preconditions"), (6, u "checkIndex"), (21, .class_ 56), (0, u "jdk/internal/util/Preconditions$4"), (57, .class_ 115), (0, u "jdk/internal/util/Preconditions$1"), (7, u "SIOOBE_FORMATTER"), (0, u "Ljava/util/function/BiFunction;"), (0, .class_ 126), (0, u "jdk/internal/util/Preconditions$2"), (3, u "AIOOBE_FORMATTER"), (0, .class_ 132), (0, u "jdk/internal/util/Preconditions$3"), (3, u "IOOBE_FORMATTER"), (41, u "(IILjava/util/function/BiFunction;)I")] 15

def k12m0 : Method := { name := "<init>", desc := "()V", sig := { parameters := [], returnType := none }, accessFlags := 1, code := none }
def k12c1 : Code := { maxStack := 3, maxLocals := 3, code := jdk_41_method_11_code, exceptionTable := #[], attributes := #[] }
def k12m1 : Method := { name := "checkIndex", desc := "(IILjava/util/function/BiFunction;)I", sig := { parameters := [.int, .int, (.object "java/util/function/BiFunction")], returnType := some .int }, accessFlags := 9, code := some k12c1 }
/-- jdk/internal/util/Preconditions -/
def k12 : Class := { plain "jdk/internal/util/Preconditions" (some 0) with
  accessFlags := 33
  interfaces := #[]
  cf := some (fileOf pool12 24 #[.nestMembers #[55, 131, 125, 114]] #[{ accessFlags := 1, nameIndex := 5, descriptorIndex := 6, attributes := #[] }, { accessFlags := 9, nameIndex := 33, descriptorIndex := 178, attributes := #[] }] 33 2 #[] #[{ accessFlags := 25, nameIndex := 123, descriptorIndex := 124, attributes := #[] }, { accessFlags := 25, nameIndex := 130, descriptorIndex := 124, attributes := #[] }, { accessFlags := 25, nameIndex := 136, descriptorIndex := 124, attributes := #[] }])
  fields := #[{ name := "SIOOBE_FORMATTER", type := (.object "java/util/function/BiFunction"), accessFlags := 25, slot := 0, constantValue := 0 }, { name := "AIOOBE_FORMATTER", type := (.object "java/util/function/BiFunction"), accessFlags := 25, slot := 1, constantValue := 0 }, { name := "IOOBE_FORMATTER", type := (.object "java/util/function/BiFunction"), accessFlags := 25, slot := 2, constantValue := 0 }]
  methods := #[k12m0, k12m1]
  instanceTypes := #[]
  staticTypes := #[(.object "java/util/function/BiFunction"), (.object "java/util/function/BiFunction"), (.object "java/util/function/BiFunction")]
  resolved := Array.replicate 194 none
  statics := some 2 }

def pool13 : Array CpInfo := pool [(9, u "<init>"), (6, .class_ 18), (1, u "java/lang/Object"), (0, u "()V"), (1, .class_ 23), (1, u "jdk/internal/util/ArraysSupport"), (0, u "LOG2_ARRAY_LONG_INDEX_SCALE"), (0, u "I"), (2, u "U"), (0, u "Ljdk/internal/misc/Unsafe;"), (8, u "BIG_ENDIAN"), (0, u "Z"), (8, u "LOG2_BYTE_BIT_SIZE"), (4, u "LOG2_ARRAY_INT_INDEX_SCALE"), (54, u "JLA"), (0, u "Ljdk/internal/access/JavaLangAccess;"), (11, u "LOG2_ARRAY_BOOLEAN_INDEX_SCALE"), (9, u "LOG2_ARRAY_BYTE_INDEX_SCALE"), (5, u "LOG2_ARRAY_CHAR_INDEX_SCALE"), (5, u "LOG2_ARRAY_SHORT_INDEX_SCALE"), (18, u "LOG2_ARRAY_FLOAT_INDEX_SCALE"), (24, u "LOG2_ARRAY_DOUBLE_INDEX_SCALE"), (89, u "T_BOOLEAN"), (2, u "T_CHAR"), (1, u "T_FLOAT"), (1, u "T_DOUBLE"), (1, u "T_BYTE"), (1, u "T_SHORT"), (1, u "T_INT"), (1, u "T_LONG"), (1, u "SOFT_MAX_ARRAY_LENGTH")] 83

def k13m0 : Method := { name := "<init>", desc := "()V", sig := { parameters := [], returnType := none }, accessFlags := 2, code := none }
/-- jdk/internal/util/ArraysSupport -/
def k13 : Class := { plain "jdk/internal/util/ArraysSupport" (some 0) with
  accessFlags := 33
  interfaces := #[]
  cf := some (fileOf pool13 21 #[] #[{ accessFlags := 2, nameIndex := 9, descriptorIndex := 19, attributes := #[] }] 33 16 #[] #[{ accessFlags := 24, nameIndex := 28, descriptorIndex := 29, attributes := #[] }, { accessFlags := 26, nameIndex := 38, descriptorIndex := 39, attributes := #[] }, { accessFlags := 25, nameIndex := 121, descriptorIndex := 25, attributes := #[] }, { accessFlags := 25, nameIndex := 131, descriptorIndex := 25, attributes := #[] }, { accessFlags := 25, nameIndex := 137, descriptorIndex := 25, attributes := #[] }, { accessFlags := 25, nameIndex := 143, descriptorIndex := 25, attributes := #[] }, { accessFlags := 25, nameIndex := 53, descriptorIndex := 25, attributes := #[] }, { accessFlags := 25, nameIndex := 24, descriptorIndex := 25, attributes := #[] }, { accessFlags := 25, nameIndex := 162, descriptorIndex := 25, attributes := #[] }, { accessFlags := 25, nameIndex := 187, descriptorIndex := 25, attributes := #[] }, { accessFlags := 26, nameIndex := 48, descriptorIndex := 25, attributes := #[] }, { accessFlags := 25, nameIndex := 277, descriptorIndex := 25, attributes := #[] }, { accessFlags := 25, nameIndex := 280, descriptorIndex := 25, attributes := #[] }, { accessFlags := 25, nameIndex := 282, descriptorIndex := 25, attributes := #[] }, { accessFlags := 25, nameIndex := 284, descriptorIndex := 25, attributes := #[] }, { accessFlags := 25, nameIndex := 286, descriptorIndex := 25, attributes := #[] }, { accessFlags := 25, nameIndex := 288, descriptorIndex := 25, attributes := #[] }, { accessFlags := 25, nameIndex := 290, descriptorIndex := 25, attributes := #[] }, { accessFlags := 25, nameIndex := 292, descriptorIndex := 25, attributes := #[] }, { accessFlags := 26, nameIndex := 108, descriptorIndex := 109, attributes := #[] }, { accessFlags := 25, nameIndex := 294, descriptorIndex := 25, attributes := #[] }])
  fields := #[{ name := "U", type := (.object "jdk/internal/misc/Unsafe"), accessFlags := 24, slot := 0, constantValue := 0 }, { name := "BIG_ENDIAN", type := .boolean, accessFlags := 26, slot := 1, constantValue := 0 }, { name := "LOG2_ARRAY_BOOLEAN_INDEX_SCALE", type := .int, accessFlags := 25, slot := 2, constantValue := 0 }, { name := "LOG2_ARRAY_BYTE_INDEX_SCALE", type := .int, accessFlags := 25, slot := 3, constantValue := 0 }, { name := "LOG2_ARRAY_CHAR_INDEX_SCALE", type := .int, accessFlags := 25, slot := 4, constantValue := 0 }, { name := "LOG2_ARRAY_SHORT_INDEX_SCALE", type := .int, accessFlags := 25, slot := 5, constantValue := 0 }, { name := "LOG2_ARRAY_INT_INDEX_SCALE", type := .int, accessFlags := 25, slot := 6, constantValue := 0 }, { name := "LOG2_ARRAY_LONG_INDEX_SCALE", type := .int, accessFlags := 25, slot := 7, constantValue := 0 }, { name := "LOG2_ARRAY_FLOAT_INDEX_SCALE", type := .int, accessFlags := 25, slot := 8, constantValue := 0 }, { name := "LOG2_ARRAY_DOUBLE_INDEX_SCALE", type := .int, accessFlags := 25, slot := 9, constantValue := 0 }, { name := "LOG2_BYTE_BIT_SIZE", type := .int, accessFlags := 26, slot := 10, constantValue := 0 }, { name := "T_BOOLEAN", type := .int, accessFlags := 25, slot := 11, constantValue := 0 }, { name := "T_CHAR", type := .int, accessFlags := 25, slot := 12, constantValue := 0 }, { name := "T_FLOAT", type := .int, accessFlags := 25, slot := 13, constantValue := 0 }, { name := "T_DOUBLE", type := .int, accessFlags := 25, slot := 14, constantValue := 0 }, { name := "T_BYTE", type := .int, accessFlags := 25, slot := 15, constantValue := 0 }, { name := "T_SHORT", type := .int, accessFlags := 25, slot := 16, constantValue := 0 }, { name := "T_INT", type := .int, accessFlags := 25, slot := 17, constantValue := 0 }, { name := "T_LONG", type := .int, accessFlags := 25, slot := 18, constantValue := 0 }, { name := "JLA", type := (.object "jdk/internal/access/JavaLangAccess"), accessFlags := 26, slot := 19, constantValue := 0 }, { name := "SOFT_MAX_ARRAY_LENGTH", type := .int, accessFlags := 25, slot := 20, constantValue := 0 }]
  methods := #[k13m0]
  instanceTypes := #[]
  staticTypes := #[(.object "jdk/internal/misc/Unsafe"), .boolean, .int, .int, .int, .int, .int, .int, .int, .int, .int, .int, .int, .int, .int, .int, .int, .int, .int, (.object "jdk/internal/access/JavaLangAccess"), .int]
  resolved := Array.replicate 378 none
  statics := none }

def pool14 : Array CpInfo := pool [(1, u "java/lang/Cloneable"), (0, .class_ 1), (0, u "java/lang/Object"), (0, .class_ 3)] 3

/-- java/lang/Cloneable -/
def k14 : Class := { plain "java/lang/Cloneable" (some 0) with
  accessFlags := 1537
  interfaces := #[]
  cf := some (fileOf pool14 2 #[] #[] 1537 4 #[] #[])
  fields := #[]
  methods := #[]
  instanceTypes := #[]
  staticTypes := #[]
  resolved := Array.replicate 8 none
  statics := none }

/-- the primitive byte -/
def k15 : Class := { plain "byte" none with kind := .primitive 'B', accessFlags := 0x411 }
/-- [B -/
def k16 : Class := { plain "[B" (some 0) with kind := .array 15 .byte, interfaces := #[14, 4], accessFlags := 1041 }

/-- the primitive int -/
def k17 : Class := { plain "int" none with kind := .primitive 'I', accessFlags := 0x411 }
/-- [I -/
def k18 : Class := { plain "[I" (some 0) with kind := .array 17 .int, interfaces := #[14, 4], accessFlags := 1041 }

def heap : Heap := #[{ cls := 7, slots := #[.ref 3, .ref 4, .null], vm := .statics 7 },
  { cls := 10, slots := #[.long 0, .int 1, .null, .int 0, .null, .int 0, .int 0], vm := .statics 10 },
  { cls := 12, slots := #[.null, .null, .null], vm := .statics 12 },
  { cls := 7, slots := #[.null, .int 0, .int 0], vm := .none },
  { cls := 7, slots := #[.null, .int 1, .int 0], vm := .none }]
def classes : Array Class := #[k0, k1, k2, k3, k4, k5, k6, k7, k8, k9, k10, k11, k12, k13, k14, k15, k16, k17, k18]
def interned : List (Array UInt16 × Addr) := []
def slotsUsed : Nat := 19
def theMethod : MethodId := ⟨1, 1⟩
def args0 : Array Value := #[.int 1]
def aboutOver (below : List Frame) : State where
  vm := { classes := classes, interned := interned.toArray }
  heap := heap
  slotsUsed := slotsUsed
  threads := #[{ frames := .invoking theMethod args0 :: below }]
def below0 : List Frame := [.native { method := ⟨0, 0⟩, args := #[] }]
def about1 : State := aboutOver below0
def p0 : Program := .bare "" "" ""
def e0 : Env := launch0.env 0 0 0
theorem w_frames : about1.frames = Frame.invoking theMethod args0 :: below0 := rfl
set_option maxRecDepth 65536 in
theorem w_args : argsFit about1.vm theMethod args0 = true := by decide +kernel
set_option maxRecDepth 65536 in
theorem w_heap : heapFits about1 = true := by decide +kernel
set_option maxRecDepth 65536 in
theorem w_runnable : about1.curStatus? = some .runnable := by decide +kernel
set_option maxRecDepth 65536 in
theorem w_alone : about1.alone = true := by decide +kernel
set_option maxRecDepth 65536 in
theorem w_named : about1.methodNamed? x = some theMethod := by decide +kernel
set_option maxRecDepth 65536 in
theorem w_hears : about1.hears theMethod below0 = true := by decide +kernel
set_option maxRecDepth 65536 in
theorem w_ripe : about1.ripe theMethod args0 below0 = true := by decide +kernel
theorem w_running : about1.status = .running := rfl
set_option maxRecDepth 65536 in
theorem w_room : about1.hasRoom e0.platform room_1 = true :=
  launch0.hasRoom_least _ room_1 (by decide +kernel) (by decide +kernel) (by decide +kernel) (by decide +kernel) (by decide +kernel) (by decide +kernel)
theorem allAtoms_all (ts : List Jvm.Cond) (a : Array Jvm.Value) (st : Jvm.State) : (allAtoms ts).before a st = ts.all (fun c => c.before a st) := by
  induction ts with
  | nil => rfl
  | cons c t ih =>
    show (Jvm.Cond.and c (allAtoms t)).before a st = _
    rw [Jvm.Cond.before_and, ih, List.all_cons]
def words1 : List Jvm.Cond := Jvm.Cond.code x code maxLocals ret :: tables_1
/-- a 'code' word, met by the world's own term for the bytes: nothing is compared byte by byte -/
theorem code_word {y : MethodName} {bytes : ByteArray} {mx : Nat} {rt : Option FieldType} {a : Array Value} {s : State} {m : MethodId} {meth : Method} {c : Code} (h1 : s.methodNamed? y = some m) (h2 : s.vm.method? m = some meth) (h3 : meth.code = some c) (h4 : c.code = bytes)
    (h5 : (c.maxLocals == mx && c.exceptionTable.isEmpty && decide (c.maxStack ≤ mostOperands) && decide (meth.sig.returnType = rt) && !meth.locks && decide (parseMethodDescriptor y.desc = some meth.sig)) = true) : (Jvm.Cond.code y bytes mx rt).before a s = true := by
  simp only [Bool.and_eq_true, beq_iff_eq, Bool.not_eq_true', decide_eq_true_eq] at h5
  obtain ⟨⟨⟨⟨⟨g1, g2⟩, g3⟩, g4⟩, g5⟩, g6⟩ := h5
  simp [Cond.before, Cond.holds, Cond.value, h1, h2, h3, h4, g1, g2, g3, g4, g5, g6]
def isCode : Jvm.Cond → Bool
  | .code _ _ _ _ => true
  | _ => false
theorem all_split {L : List Jvm.Cond} {P : Jvm.Cond → Bool} (h1 : L.all (fun c => isCode c || P c) = true) (h2 : ∀ c ∈ L.filter isCode, P c = true) : L.all P = true := by
  refine List.all_eq_true.mpr fun c hc => ?_
  have h := List.all_eq_true.mp h1 c hc
  rcases Bool.eq_false_or_eq_true (isCode c) with hi | hi
  · exact h2 c (List.mem_filter.mpr ⟨hc, hi⟩)
  · simpa [hi] using h
set_option maxRecDepth 65536 in
theorem w_c0 : (Jvm.Cond.code x code maxLocals ret).before args0 about1 = true := code_word (m := ⟨1, 1⟩) (meth := k1m1) (c := k1c1) (by decide +kernel) rfl rfl rfl (by decide +kernel)
set_option maxRecDepth 65536 in
theorem w_c1 : (Jvm.Cond.code ({ cls := "com/example/modelkiln/modelkiln/ocl/BooleanValue", name := "toString", desc := "()Ljava/lang/String;" } : Jvm.MethodName) prog_82_method_6_code (1 : Nat) (Option.some (Jvm.ClassFile.FieldType.object "java/lang/String"))).before args0 about1 = true := code_word (m := ⟨7, 0⟩) (meth := k7m0) (c := k7c0) (by decide +kernel) rfl rfl rfl (by decide +kernel)
set_option maxRecDepth 65536 in
theorem w_c2 : (Jvm.Cond.code ({ cls := "java/lang/String", name := "length", desc := "()I" } : Jvm.MethodName) jdk_42_method_54_code (1 : Nat) (Option.some Jvm.ClassFile.FieldType.int)).before args0 about1 = true := code_word (m := ⟨10, 1⟩) (meth := k10m1) (c := k10c1) (by decide +kernel) rfl rfl rfl (by decide +kernel)
set_option maxRecDepth 65536 in
theorem w_c3 : (Jvm.Cond.code ({ cls := "java/lang/String", name := "coder", desc := "()B" } : Jvm.MethodName) jdk_42_method_152_code (1 : Nat) (Option.some Jvm.ClassFile.FieldType.byte)).before args0 about1 = true := code_word (m := ⟨10, 3⟩) (meth := k10m3) (c := k10c3) (by decide +kernel) rfl rfl rfl (by decide +kernel)
set_option maxRecDepth 65536 in
theorem w_c4 : (Jvm.Cond.code ({ cls := "java/lang/String", name := "charAt", desc := "(I)C" } : Jvm.MethodName) jdk_42_method_56_code (2 : Nat) (Option.some Jvm.ClassFile.FieldType.char)).before args0 about1 = true := code_word (m := ⟨10, 2⟩) (meth := k10m2) (c := k10c2) (by decide +kernel) rfl rfl rfl (by decide +kernel)
set_option maxRecDepth 65536 in
theorem w_c5 : (Jvm.Cond.code ({ cls := "java/lang/String", name := "isLatin1", desc := "()Z" } : Jvm.MethodName) jdk_42_method_154_code (1 : Nat) (Option.some Jvm.ClassFile.FieldType.boolean)).before args0 about1 = true := code_word (m := ⟨10, 4⟩) (meth := k10m4) (c := k10c4) (by decide +kernel) rfl rfl rfl (by decide +kernel)
set_option maxRecDepth 65536 in
theorem w_c6 : (Jvm.Cond.code ({ cls := "java/lang/StringLatin1", name := "charAt", desc := "([BI)C" } : Jvm.MethodName) jdk_43_method_2_code (2 : Nat) (Option.some Jvm.ClassFile.FieldType.char)).before args0 about1 = true := code_word (m := ⟨11, 1⟩) (meth := k11m1) (c := k11c1) (by decide +kernel) rfl rfl rfl (by decide +kernel)
set_option maxRecDepth 65536 in
theorem w_c7 : (Jvm.Cond.code ({ cls := "java/lang/String", name := "checkIndex", desc := "(II)V" } : Jvm.MethodName) jdk_42_method_155_code (2 : Nat) (Option.none : Option Jvm.ClassFile.FieldType)).before args0 about1 = true := code_word (m := ⟨10, 5⟩) (meth := k10m5) (c := k10c5) (by decide +kernel) rfl rfl rfl (by decide +kernel)
set_option maxRecDepth 65536 in
theorem w_c8 : (Jvm.Cond.code ({ cls := "jdk/internal/util/Preconditions", name := "checkIndex", desc := "(IILjava/util/function/BiFunction;)I" } : Jvm.MethodName) jdk_41_method_11_code (3 : Nat) (Option.some Jvm.ClassFile.FieldType.int)).before args0 about1 = true := code_word (m := ⟨12, 1⟩) (meth := k12m1) (c := k12c1) (by decide +kernel) rfl rfl rfl (by decide +kernel)
def codes1 : List Jvm.Cond := [Jvm.Cond.code x code maxLocals ret, Jvm.Cond.code ({ cls := "com/example/modelkiln/modelkiln/ocl/BooleanValue", name := "toString", desc := "()Ljava/lang/String;" } : Jvm.MethodName) prog_82_method_6_code (1 : Nat) (Option.some (Jvm.ClassFile.FieldType.object "java/lang/String")), Jvm.Cond.code ({ cls := "java/lang/String", name := "length", desc := "()I" } : Jvm.MethodName) jdk_42_method_54_code (1 : Nat) (Option.some Jvm.ClassFile.FieldType.int), Jvm.Cond.code ({ cls := "java/lang/String", name := "coder", desc := "()B" } : Jvm.MethodName) jdk_42_method_152_code (1 : Nat) (Option.some Jvm.ClassFile.FieldType.byte), Jvm.Cond.code ({ cls := "java/lang/String", name := "charAt", desc := "(I)C" } : Jvm.MethodName) jdk_42_method_56_code (2 : Nat) (Option.some Jvm.ClassFile.FieldType.char), Jvm.Cond.code ({ cls := "java/lang/String", name := "isLatin1", desc := "()Z" } : Jvm.MethodName) jdk_42_method_154_code (1 : Nat) (Option.some Jvm.ClassFile.FieldType.boolean), Jvm.Cond.code ({ cls := "java/lang/StringLatin1", name := "charAt", desc := "([BI)C" } : Jvm.MethodName) jdk_43_method_2_code (2 : Nat) (Option.some Jvm.ClassFile.FieldType.char), Jvm.Cond.code ({ cls := "java/lang/String", name := "checkIndex", desc := "(II)V" } : Jvm.MethodName) jdk_42_method_155_code (2 : Nat) (Option.none : Option Jvm.ClassFile.FieldType), Jvm.Cond.code ({ cls := "jdk/internal/util/Preconditions", name := "checkIndex", desc := "(IILjava/util/function/BiFunction;)I" } : Jvm.MethodName) jdk_41_method_11_code (3 : Nat) (Option.some Jvm.ClassFile.FieldType.int)]
set_option maxRecDepth 65536 in
theorem codes_eq : words1.filter isCode = codes1 := rfl
theorem w_codes : ∀ c ∈ words1.filter isCode, c.before args0 about1 = true := by
  rw [codes_eq]
  intro c hc
  simp only [codes1, List.mem_cons, List.not_mem_nil, or_false] at hc
  rcases hc with rfl | rfl | rfl | rfl | rfl | rfl | rfl | rfl | rfl
  · exact w_c0
  · exact w_c1
  · exact w_c2
  · exact w_c3
  · exact w_c4
  · exact w_c5
  · exact w_c6
  · exact w_c7
  · exact w_c8
set_option maxRecDepth 65536 in
theorem w_t1 : (words1.take 24).all (fun c => isCode c || c.before args0 about1) = true := by decide +kernel
set_option maxRecDepth 65536 in
theorem w_t2 : ((words1.drop 24).take 24).all (fun c => isCode c || c.before args0 about1) = true := by decide +kernel
set_option maxRecDepth 65536 in
theorem w_t3 : ((words1.drop 24).drop 24).all (fun c => isCode c || c.before args0 about1) = true := by decide +kernel
theorem w_tables : (allAtoms (Jvm.Cond.code x code maxLocals ret :: tables_1)).before args0 about1 = true := by
  rw [allAtoms_all]
  show words1.all (fun c => c.before args0 about1) = true
  refine all_split ?_ w_codes
  rw [← List.take_append_drop 24 words1, List.all_append, w_t1, ← List.take_append_drop 24 (words1.drop 24), List.all_append, w_t2, w_t3]
  rfl
set_option maxRecDepth 65536 in
theorem w_rest : rest_1_c.before args0 about1 = true := by decide +kernel
set_option maxRecDepth 65536 in
theorem w_case : (Jvm.Cond.and given_1 narrow_1).before args0 about1 = true := by decide +kernel
set_option maxRecDepth 65536 in
theorem w_consts : constsHeld consts_1 about1 := Jvm.Lit.constsHeldB_iff.mp (by decide +kernel)
theorem w_applies : (headSpec (Jvm.Cond.code x code maxLocals ret :: tables_1) room_1).applies x e0.platform about1 = true :=
  (Spec.applies_iff w_frames).mpr ⟨w_running, w_runnable, w_alone, w_named, w_hears, w_ripe, w_room, w_tables⟩
theorem atStart : AtStart classFile x code maxLocals ret World_1 tables_1 room_1 Calls_1 rest_1 Pre_1 launch0 p0 e0 about1 theMethod args0 below0 :=
  ⟨lists_1, trivial, launch0.admits_env _ _ _, launch0.least_env, fairChoices_fair.cas, fairChoices_fair.clock, w_frames, w_args, w_heap, w_applies, ⟨w_consts, trivial⟩, w_rest, w_case⟩
end start1
theorem witness_1 : WitnessClaimed_1 := ⟨start1.p0, start1.e0, start1.about1, start1.theMethod, start1.args0, start1.below0, start1.atStart⟩
end Jvm.Pilot.@@N@@
