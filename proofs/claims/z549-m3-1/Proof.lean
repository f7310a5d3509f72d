import JvmDerived
import JvmDerived.Pilot.@@N@@Statement
import JvmDerived.Pilot.@@N@@Code
set_option linter.unusedVariables false
set_option linter.unusedSimpArgs false
namespace Jvm.Pilot.@@N@@
open Jvm Jvm.ClassFile Sem Op Lib Jvm.Free Jvm.Stand Jvm.LawKit Jvm.RoadKit Bundle Jvm.Pilot.@@N@@.Jvm.D
/-! ## The walk goes forward from its goal: own_W says that the run from here ends as Q asks. -/
def own_Post (s : State) (Q : Option Value → Heap → List Loc → Prop) (kc ks : Nat) (o : Outcome) (s₂ : State) : Prop := ∃ v L, o = .returned v ∧ Q v s₂.heap L ∧ FrameEnd s o s₂ L kc ks
def own_Fin (p : Program) (e : Env) (below : List Frame) (P : Outcome → State → Prop) (A : State) : Prop :=
  ∃ s₂ o, Steps p.tables e below A s₂ ∧ s₂.status = .running ∧ Ended s₂ below o ∧ P o s₂
def own_W (p : Program) (e : Env) (below : List Frame) (P : Outcome → State → Prop) (T : State) (m : MethodId) (pc : Nat) (Ls : Array Slot) (S : List Value) : Prop :=
  own_Fin p e below P (T.setTop (mkF m pc Ls S))
theorem own_w {Z : State} {a0 : Array Value} (hw : ∀ d ∈ tables_1, d.before a0 Z = true) (i : Nat) {d : Jvm.Cond} (h : tables_1[i]? = some d) : d.before a0 Z = true := hw d (List.mem_of_getElem? h)
section OwnKit
variable {p : Program} {l : Launch} {e : Env} {R : Room} {s : State} {m : MethodId} {args : Array Value} {below : List Frame} {meth : Method} {c : Code} {T : State} {locs : List Loc} {cells slots : Nat} {Z : State} {a0 : Array Value} {h : Heap}
  {P : Outcome → State → Prop} {Q : Option Value → Heap → List Loc → Prop} {kc ks : Nat} {pc pc' : Nat} {Ls Ls' : Array Slot} {S : List Value}
theorem own_go {A B : State} (st : ∀ t, Steps p.tables e below B t → Steps p.tables e below A t) (K : own_Fin p e below P B) : own_Fin p e below P A :=
  let ⟨s₂, o, h1, r⟩ := K; ⟨s₂, o, st _ h1, r⟩
theorem own_enter {ml : Nat} (q : entryFrame m args ml = mkF m 0 Ls []) (K : own_W p e below (own_Post s Q kc ks) T m 0 Ls []) :
    ∃ s₂ o, Steps p.tables e below (T.setTop (entryFrame m args ml)) s₂ ∧ s₂.status = .running ∧ Ended s₂ below o ∧ ∃ v L, o = .returned v ∧ Q v s₂.heap L ∧ FrameEnd s o s₂ L kc ks := by
  rw [q]; exact K
theorem own_iloadN (X : Stand p l e R s m args below meth c T locs cells slots) (hx : p.tables.exec = Jvm.exec) {k : Fin 4} {v : Int32} (hd : decode c.code pc = .ok (.iload_n k, 1)) (hp : pc + 1 = pc') (hl : Ls[k.val]? = some (.val (.int v))) (K : own_W p e below P T m pc' Ls (.int v :: S)) : own_W p e below P T m pc Ls S := by
  subst hp; exact own_go (fun t => XS.iloadN (g := mkF m pc Ls S) X.here hx rfl hd hl) K
theorem own_iload (X : Stand p l e R s m args below meth c T locs cells slots) (hx : p.tables.exec = Jvm.exec) {k : Nat} {v : Int32} (hd : decode c.code pc = .ok (.iload k, 2)) (hp : pc + 2 = pc') (hl : Ls[k]? = some (.val (.int v))) (K : own_W p e below P T m pc' Ls (.int v :: S)) : own_W p e below P T m pc Ls S := by
  subst hp; exact own_go (fun t => XS.iload (g := mkF m pc Ls S) X.here hx rfl hd hl) K
theorem own_lloadN (X : Stand p l e R s m args below meth c T locs cells slots) (hx : p.tables.exec = Jvm.exec) {k : Fin 4} {v : Int64} (hd : decode c.code pc = .ok (.lload_n k, 1)) (hp : pc + 1 = pc') (hl : Ls[k.val]? = some (.val (.long v))) (K : own_W p e below P T m pc' Ls (.long v :: S)) : own_W p e below P T m pc Ls S := by
  subst hp; exact own_go (fun t => XT.lloadN (g := mkF m pc Ls S) X.here hx rfl hd hl) K
theorem own_lload (X : Stand p l e R s m args below meth c T locs cells slots) (hx : p.tables.exec = Jvm.exec) {k : Nat} {v : Int64} (hd : decode c.code pc = .ok (.lload k, 2)) (hp : pc + 2 = pc') (hl : Ls[k]? = some (.val (.long v))) (K : own_W p e below P T m pc' Ls (.long v :: S)) : own_W p e below P T m pc Ls S := by
  subst hp; exact own_go (fun t => XT.lload (g := mkF m pc Ls S) X.here hx rfl hd hl) K
theorem own_aloadN (X : Stand p l e R s m args below meth c T locs cells slots) (hx : p.tables.exec = Jvm.exec) {k : Fin 4} {v : Value} (hd : decode c.code pc = .ok (.aload_n k, 1)) (hp : pc + 1 = pc') (hl : Ls[k.val]? = some (.val v)) (hv : v.isRef = true) (K : own_W p e below P T m pc' Ls (v :: S)) : own_W p e below P T m pc Ls S := by
  subst hp; exact own_go (fun t => XS.aloadN (g := mkF m pc Ls S) X.here hx rfl hd hl hv) K
theorem own_aload (X : Stand p l e R s m args below meth c T locs cells slots) (hx : p.tables.exec = Jvm.exec) {k : Nat} {v : Value} (hd : decode c.code pc = .ok (.aload k, 2)) (hp : pc + 2 = pc') (hl : Ls[k]? = some (.val v)) (hv : v.isRef = true) (K : own_W p e below P T m pc' Ls (v :: S)) : own_W p e below P T m pc Ls S := by
  subst hp; exact own_go (fun t => XS.aload (g := mkF m pc Ls S) X.here hx rfl hd hl hv) K
theorem own_istoreN (X : Stand p l e R s m args below meth c T locs cells slots) (hx : p.tables.exec = Jvm.exec) {k : Fin 4} {v : Int32} (hd : decode c.code pc = .ok (.istore_n k, 1)) (hp : pc + 1 = pc') (hl : storeLocals Ls k.val (.int v) = some Ls') (K : own_W p e below P T m pc' Ls' S) : own_W p e below P T m pc Ls (.int v :: S) := by
  subst hp; exact own_go (fun t => XS.istoreN (g := mkF m pc Ls (.int v :: S)) X.here hx rfl hd rfl hl) K
theorem own_istore (X : Stand p l e R s m args below meth c T locs cells slots) (hx : p.tables.exec = Jvm.exec) {k : Nat} {v : Int32} (hd : decode c.code pc = .ok (.istore k, 2)) (hp : pc + 2 = pc') (hl : storeLocals Ls k (.int v) = some Ls') (K : own_W p e below P T m pc' Ls' S) : own_W p e below P T m pc Ls (.int v :: S) := by
  subst hp; exact own_go (fun t => XS.istore (g := mkF m pc Ls (.int v :: S)) X.here hx rfl hd rfl hl) K
theorem own_lstoreN (X : Stand p l e R s m args below meth c T locs cells slots) (hx : p.tables.exec = Jvm.exec) {k : Fin 4} {v : Int64} (hd : decode c.code pc = .ok (.lstore_n k, 1)) (hp : pc + 1 = pc') (hl : storeLocals Ls k.val (.long v) = some Ls') (K : own_W p e below P T m pc' Ls' S) : own_W p e below P T m pc Ls (.long v :: S) := by
  subst hp; exact own_go (fun t => XT.lstoreN (g := mkF m pc Ls (.long v :: S)) X.here hx rfl hd rfl hl) K
theorem own_lstore (X : Stand p l e R s m args below meth c T locs cells slots) (hx : p.tables.exec = Jvm.exec) {k : Nat} {v : Int64} (hd : decode c.code pc = .ok (.lstore k, 2)) (hp : pc + 2 = pc') (hl : storeLocals Ls k (.long v) = some Ls') (K : own_W p e below P T m pc' Ls' S) : own_W p e below P T m pc Ls (.long v :: S) := by
  subst hp; exact own_go (fun t => XT.lstore (g := mkF m pc Ls (.long v :: S)) X.here hx rfl hd rfl hl) K
theorem own_astoreN (X : Stand p l e R s m args below meth c T locs cells slots) (hx : p.tables.exec = Jvm.exec) {k : Fin 4} {v : Value} (hd : decode c.code pc = .ok (.astore_n k, 1)) (hp : pc + 1 = pc') (hv : v.isRef = true) (hl : storeLocals Ls k.val v = some Ls') (K : own_W p e below P T m pc' Ls' S) : own_W p e below P T m pc Ls (v :: S) := by
  subst hp; exact own_go (fun t => XS.astoreN (g := mkF m pc Ls (v :: S)) X.here hx rfl hd rfl hv hl) K
theorem own_astore (X : Stand p l e R s m args below meth c T locs cells slots) (hx : p.tables.exec = Jvm.exec) {k : Nat} {v : Value} (hd : decode c.code pc = .ok (.astore k, 2)) (hp : pc + 2 = pc') (hv : v.isRef = true) (hl : storeLocals Ls k v = some Ls') (K : own_W p e below P T m pc' Ls' S) : own_W p e below P T m pc Ls (v :: S) := by
  subst hp; exact own_go (fun t => XS.astore (g := mkF m pc Ls (v :: S)) X.here hx rfl hd rfl hv hl) K
theorem own_iconst (X : Stand p l e R s m args below meth c T locs cells slots) (hx : p.tables.exec = Jvm.exec) {i : Int} (v : Int32) (hd : decode c.code pc = .ok (.iconst i, 1)) (hp : pc + 1 = pc') (hv : Int32.ofInt i = v) (K : own_W p e below P T m pc' Ls (.int v :: S)) : own_W p e below P T m pc Ls S := by
  subst hp hv; exact own_go (fun t => XS.iconst (g := mkF m pc Ls S) X.here hx rfl hd) K
theorem own_bipush (X : Stand p l e R s m args below meth c T locs cells slots) (hx : p.tables.exec = Jvm.exec) {i : Int} (v : Int32) (hd : decode c.code pc = .ok (.bipush i, 2)) (hp : pc + 2 = pc') (hv : (Int8.ofInt i).toInt32 = v) (K : own_W p e below P T m pc' Ls (.int v :: S)) : own_W p e below P T m pc Ls S := by
  subst hp; exact own_go (fun t => XT.bipushV (g := mkF m pc Ls S) X.here hx rfl v hd hv) K
theorem own_sipush (X : Stand p l e R s m args below meth c T locs cells slots) (hx : p.tables.exec = Jvm.exec) {i : Int} (v : Int32) (hd : decode c.code pc = .ok (.sipush i, 3)) (hp : pc + 3 = pc') (hv : (Int16.ofInt i).toInt32 = v) (K : own_W p e below P T m pc' Ls (.int v :: S)) : own_W p e below P T m pc Ls S := by
  subst hp; exact own_go (fun t => XT.sipushV (g := mkF m pc Ls S) X.here hx rfl v hd hv) K
theorem own_lconst (X : Stand p l e R s m args below meth c T locs cells slots) (hx : p.tables.exec = Jvm.exec) {k : Fin 2} (v : Int64) (hd : decode c.code pc = .ok (.lconst k, 1)) (hp : pc + 1 = pc') (hv : Int64.ofNat k = v) (K : own_W p e below P T m pc' Ls (.long v :: S)) : own_W p e below P T m pc Ls S := by
  subst hp; exact own_go (fun t => XT.lconstV (g := mkF m pc Ls S) X.here hx rfl v hd hv) K
theorem own_aconst_null (X : Stand p l e R s m args below meth c T locs cells slots) (hx : p.tables.exec = Jvm.exec) (hd : decode c.code pc = .ok (.aconst_null, 1)) (hp : pc + 1 = pc') (K : own_W p e below P T m pc' Ls (.null :: S)) : own_W p e below P T m pc Ls S := by
  subst hp; exact own_go (fun t => XS.aconstNull (g := mkF m pc Ls S) X.here hx rfl hd) K
theorem own_ldc (X : Stand p l e R s m args below meth c T locs cells slots) (hx : p.tables.exec = Jvm.exec) (hZ : Z.Warmed39 s.vm) {own : String} {index : Nat} {v : Int32} (hown : s.vm.findClass own = some m.cls) (w : (Cond.constant own index v).before a0 Z = true) (hd : decode c.code pc = .ok (.ldc index, 2)) (hp : pc + 2 = pc') (K : own_W p e below P T m pc' Ls (.int v :: S)) : own_W p e below P T m pc Ls S := by
  subst hp; exact own_go (fun t => X.ldcI (g := mkF m pc Ls S) hx hown (mvT hZ w) rfl hd) K
theorem own_ldc2 (X : Stand p l e R s m args below meth c T locs cells slots) (hx : p.tables.exec = Jvm.exec) (hZ : Z.Warmed39 s.vm) {own : String} {index : Nat} {v : Int64} (hown : s.vm.findClass own = some m.cls) (w : (Cond.constantLong own index v).before a0 Z = true) (hd : decode c.code pc = .ok (.ldc2_w index, 3)) (hp : pc + 3 = pc') (K : own_W p e below P T m pc' Ls (.long v :: S)) : own_W p e below P T m pc Ls S := by
  subst hp; exact own_go (fun t => X.ldc2J (g := mkF m pc Ls S) hx hown (mvT hZ w) rfl hd) K
theorem own_iadd (X : Stand p l e R s m args below meth c T locs cells slots) (hx : p.tables.exec = Jvm.exec) {x y : Int32} (hd : decode c.code pc = .ok (.iadd, 1)) (hp : pc + 1 = pc') (K : own_W p e below P T m pc' Ls (.int (x + y) :: S)) : own_W p e below P T m pc Ls (.int y :: .int x :: S) := by
  subst hp; exact own_go (fun t => XS.iadd (g := mkF m pc Ls (.int y :: .int x :: S)) X.here hx rfl hd rfl) K
theorem own_isub (X : Stand p l e R s m args below meth c T locs cells slots) (hx : p.tables.exec = Jvm.exec) {x y : Int32} (hd : decode c.code pc = .ok (.isub, 1)) (hp : pc + 1 = pc') (K : own_W p e below P T m pc' Ls (.int (x - y) :: S)) : own_W p e below P T m pc Ls (.int y :: .int x :: S) := by
  subst hp; exact own_go (fun t => XS.isub (g := mkF m pc Ls (.int y :: .int x :: S)) X.here hx rfl hd rfl) K
theorem own_imul (X : Stand p l e R s m args below meth c T locs cells slots) (hx : p.tables.exec = Jvm.exec) {x y : Int32} (hd : decode c.code pc = .ok (.imul, 1)) (hp : pc + 1 = pc') (K : own_W p e below P T m pc' Ls (.int (x * y) :: S)) : own_W p e below P T m pc Ls (.int y :: .int x :: S) := by
  subst hp; exact own_go (fun t => XS.imul (g := mkF m pc Ls (.int y :: .int x :: S)) X.here hx rfl hd rfl) K
theorem own_iand (X : Stand p l e R s m args below meth c T locs cells slots) (hx : p.tables.exec = Jvm.exec) {x y : Int32} (hd : decode c.code pc = .ok (.iand, 1)) (hp : pc + 1 = pc') (K : own_W p e below P T m pc' Ls (.int (x &&& y) :: S)) : own_W p e below P T m pc Ls (.int y :: .int x :: S) := by
  subst hp; exact own_go (fun t => XS.iand (g := mkF m pc Ls (.int y :: .int x :: S)) X.here hx rfl hd rfl) K
theorem own_ior (X : Stand p l e R s m args below meth c T locs cells slots) (hx : p.tables.exec = Jvm.exec) {x y : Int32} (hd : decode c.code pc = .ok (.ior, 1)) (hp : pc + 1 = pc') (K : own_W p e below P T m pc' Ls (.int (x ||| y) :: S)) : own_W p e below P T m pc Ls (.int y :: .int x :: S) := by
  subst hp; exact own_go (fun t => XT.ior (g := mkF m pc Ls (.int y :: .int x :: S)) X.here hx rfl hd rfl) K
theorem own_ixor (X : Stand p l e R s m args below meth c T locs cells slots) (hx : p.tables.exec = Jvm.exec) {x y : Int32} (hd : decode c.code pc = .ok (.ixor, 1)) (hp : pc + 1 = pc') (K : own_W p e below P T m pc' Ls (.int (x ^^^ y) :: S)) : own_W p e below P T m pc Ls (.int y :: .int x :: S) := by
  subst hp; exact own_go (fun t => XT.ixor (g := mkF m pc Ls (.int y :: .int x :: S)) X.here hx rfl hd rfl) K
theorem own_ishl (X : Stand p l e R s m args below meth c T locs cells slots) (hx : p.tables.exec = Jvm.exec) {x y : Int32} (hd : decode c.code pc = .ok (.ishl, 1)) (hp : pc + 1 = pc') (K : own_W p e below P T m pc' Ls (.int (x <<< (y &&& 31)) :: S)) : own_W p e below P T m pc Ls (.int y :: .int x :: S) := by
  subst hp; exact own_go (fun t => XT.ishl (g := mkF m pc Ls (.int y :: .int x :: S)) X.here hx rfl hd rfl) K
theorem own_ishr (X : Stand p l e R s m args below meth c T locs cells slots) (hx : p.tables.exec = Jvm.exec) {x y : Int32} (hd : decode c.code pc = .ok (.ishr, 1)) (hp : pc + 1 = pc') (K : own_W p e below P T m pc' Ls (.int (x >>> (y &&& 31)) :: S)) : own_W p e below P T m pc Ls (.int y :: .int x :: S) := by
  subst hp; exact own_go (fun t => XT.ishr (g := mkF m pc Ls (.int y :: .int x :: S)) X.here hx rfl hd rfl) K
theorem own_iushr (X : Stand p l e R s m args below meth c T locs cells slots) (hx : p.tables.exec = Jvm.exec) {x y : Int32} (hd : decode c.code pc = .ok (.iushr, 1)) (hp : pc + 1 = pc') (K : own_W p e below P T m pc' Ls (.int (XT.ushr x y) :: S)) : own_W p e below P T m pc Ls (.int y :: .int x :: S) := by
  subst hp; exact own_go (fun t => XT.iushr (g := mkF m pc Ls (.int y :: .int x :: S)) X.here hx rfl hd rfl) K
theorem own_ladd (X : Stand p l e R s m args below meth c T locs cells slots) (hx : p.tables.exec = Jvm.exec) {x y : Int64} (hd : decode c.code pc = .ok (.ladd, 1)) (hp : pc + 1 = pc') (K : own_W p e below P T m pc' Ls (.long (x + y) :: S)) : own_W p e below P T m pc Ls (.long y :: .long x :: S) := by
  subst hp; exact own_go (fun t => XT.ladd (g := mkF m pc Ls (.long y :: .long x :: S)) X.here hx rfl hd rfl) K
theorem own_lsub (X : Stand p l e R s m args below meth c T locs cells slots) (hx : p.tables.exec = Jvm.exec) {x y : Int64} (hd : decode c.code pc = .ok (.lsub, 1)) (hp : pc + 1 = pc') (K : own_W p e below P T m pc' Ls (.long (x - y) :: S)) : own_W p e below P T m pc Ls (.long y :: .long x :: S) := by
  subst hp; exact own_go (fun t => XT.lsub (g := mkF m pc Ls (.long y :: .long x :: S)) X.here hx rfl hd rfl) K
theorem own_lmul (X : Stand p l e R s m args below meth c T locs cells slots) (hx : p.tables.exec = Jvm.exec) {x y : Int64} (hd : decode c.code pc = .ok (.lmul, 1)) (hp : pc + 1 = pc') (K : own_W p e below P T m pc' Ls (.long (x * y) :: S)) : own_W p e below P T m pc Ls (.long y :: .long x :: S) := by
  subst hp; exact own_go (fun t => XT.lmul (g := mkF m pc Ls (.long y :: .long x :: S)) X.here hx rfl hd rfl) K
theorem own_land (X : Stand p l e R s m args below meth c T locs cells slots) (hx : p.tables.exec = Jvm.exec) {x y : Int64} (hd : decode c.code pc = .ok (.land, 1)) (hp : pc + 1 = pc') (K : own_W p e below P T m pc' Ls (.long (x &&& y) :: S)) : own_W p e below P T m pc Ls (.long y :: .long x :: S) := by
  subst hp; exact own_go (fun t => XT.land (g := mkF m pc Ls (.long y :: .long x :: S)) X.here hx rfl hd rfl) K
theorem own_lor (X : Stand p l e R s m args below meth c T locs cells slots) (hx : p.tables.exec = Jvm.exec) {x y : Int64} (hd : decode c.code pc = .ok (.lor, 1)) (hp : pc + 1 = pc') (K : own_W p e below P T m pc' Ls (.long (x ||| y) :: S)) : own_W p e below P T m pc Ls (.long y :: .long x :: S) := by
  subst hp; exact own_go (fun t => XT.lor (g := mkF m pc Ls (.long y :: .long x :: S)) X.here hx rfl hd rfl) K
theorem own_lxor (X : Stand p l e R s m args below meth c T locs cells slots) (hx : p.tables.exec = Jvm.exec) {x y : Int64} (hd : decode c.code pc = .ok (.lxor, 1)) (hp : pc + 1 = pc') (K : own_W p e below P T m pc' Ls (.long (x ^^^ y) :: S)) : own_W p e below P T m pc Ls (.long y :: .long x :: S) := by
  subst hp; exact own_go (fun t => XT.lxor (g := mkF m pc Ls (.long y :: .long x :: S)) X.here hx rfl hd rfl) K
theorem own_lshl (X : Stand p l e R s m args below meth c T locs cells slots) (hx : p.tables.exec = Jvm.exec) {x : Int64} {y : Int32} (hd : decode c.code pc = .ok (.lshl, 1)) (hp : pc + 1 = pc') (K : own_W p e below P T m pc' Ls (.long (x <<< (y.toInt64 &&& 63)) :: S)) : own_W p e below P T m pc Ls (.int y :: .long x :: S) := by
  subst hp; exact own_go (fun t => XT.lshl (g := mkF m pc Ls (.int y :: .long x :: S)) X.here hx rfl hd rfl) K
theorem own_lshr (X : Stand p l e R s m args below meth c T locs cells slots) (hx : p.tables.exec = Jvm.exec) {x : Int64} {y : Int32} (hd : decode c.code pc = .ok (.lshr, 1)) (hp : pc + 1 = pc') (K : own_W p e below P T m pc' Ls (.long (x >>> (y.toInt64 &&& 63)) :: S)) : own_W p e below P T m pc Ls (.int y :: .long x :: S) := by
  subst hp; exact own_go (fun t => XT.lshr (g := mkF m pc Ls (.int y :: .long x :: S)) X.here hx rfl hd rfl) K
theorem own_lushr (X : Stand p l e R s m args below meth c T locs cells slots) (hx : p.tables.exec = Jvm.exec) {x : Int64} {y : Int32} (hd : decode c.code pc = .ok (.lushr, 1)) (hp : pc + 1 = pc') (K : own_W p e below P T m pc' Ls (.long (XT.ushrL x y) :: S)) : own_W p e below P T m pc Ls (.int y :: .long x :: S) := by
  subst hp; exact own_go (fun t => XT.lushr (g := mkF m pc Ls (.int y :: .long x :: S)) X.here hx rfl hd rfl) K
theorem own_idiv (X : Stand p l e R s m args below meth c T locs cells slots) (hx : p.tables.exec = Jvm.exec) {x y : Int32} (hd : decode c.code pc = .ok (.idiv, 1)) (hp : pc + 1 = pc') (hy : y ≠ 0) (K : own_W p e below P T m pc' Ls (.int (x / y) :: S)) : own_W p e below P T m pc Ls (.int y :: .int x :: S) := by
  subst hp; exact own_go (fun t => XS.idiv (g := mkF m pc Ls (.int y :: .int x :: S)) X.here hx rfl hd rfl hy) K
theorem own_irem (X : Stand p l e R s m args below meth c T locs cells slots) (hx : p.tables.exec = Jvm.exec) {x y : Int32} (hd : decode c.code pc = .ok (.irem, 1)) (hp : pc + 1 = pc') (hy : y ≠ 0) (K : own_W p e below P T m pc' Ls (.int (x % y) :: S)) : own_W p e below P T m pc Ls (.int y :: .int x :: S) := by
  subst hp; exact own_go (fun t => iremM (g := mkF m pc Ls (.int y :: .int x :: S)) X hx rfl hd rfl hy) K
theorem own_ldiv (X : Stand p l e R s m args below meth c T locs cells slots) (hx : p.tables.exec = Jvm.exec) {x y : Int64} (hd : decode c.code pc = .ok (.ldiv, 1)) (hp : pc + 1 = pc') (hy : y ≠ 0) (K : own_W p e below P T m pc' Ls (.long (x / y) :: S)) : own_W p e below P T m pc Ls (.long y :: .long x :: S) := by
  subst hp; exact own_go (fun t => XT.ldiv (g := mkF m pc Ls (.long y :: .long x :: S)) X.here hx rfl hd rfl hy) K
theorem own_lrem (X : Stand p l e R s m args below meth c T locs cells slots) (hx : p.tables.exec = Jvm.exec) {x y : Int64} (hd : decode c.code pc = .ok (.lrem, 1)) (hp : pc + 1 = pc') (hy : y ≠ 0) (K : own_W p e below P T m pc' Ls (.long (x % y) :: S)) : own_W p e below P T m pc Ls (.long y :: .long x :: S) := by
  subst hp; rw [← lrem_mod] at K; exact own_go (fun t => XT.lrem (g := mkF m pc Ls (.long y :: .long x :: S)) X.here hx rfl hd rfl hy) K
theorem own_ineg (X : Stand p l e R s m args below meth c T locs cells slots) (hx : p.tables.exec = Jvm.exec) {x : Int32} (hd : decode c.code pc = .ok (.ineg, 1)) (hp : pc + 1 = pc') (K : own_W p e below P T m pc' Ls (.int (-x) :: S)) : own_W p e below P T m pc Ls (.int x :: S) := by
  subst hp; exact own_go (fun t => XS.ineg (g := mkF m pc Ls (.int x :: S)) X.here hx rfl hd rfl) K
theorem own_lneg (X : Stand p l e R s m args below meth c T locs cells slots) (hx : p.tables.exec = Jvm.exec) {x : Int64} (hd : decode c.code pc = .ok (.lneg, 1)) (hp : pc + 1 = pc') (K : own_W p e below P T m pc' Ls (.long (-x) :: S)) : own_W p e below P T m pc Ls (.long x :: S) := by
  subst hp; exact own_go (fun t => XT.lneg (g := mkF m pc Ls (.long x :: S)) X.here hx rfl hd rfl) K
theorem own_i2l (X : Stand p l e R s m args below meth c T locs cells slots) (hx : p.tables.exec = Jvm.exec) {x : Int32} (hd : decode c.code pc = .ok (.i2l, 1)) (hp : pc + 1 = pc') (K : own_W p e below P T m pc' Ls (.long (x.toInt64) :: S)) : own_W p e below P T m pc Ls (.int x :: S) := by
  subst hp; exact own_go (fun t => XT.i2l (g := mkF m pc Ls (.int x :: S)) X.here hx rfl hd rfl) K
theorem own_l2i (X : Stand p l e R s m args below meth c T locs cells slots) (hx : p.tables.exec = Jvm.exec) {x : Int64} (hd : decode c.code pc = .ok (.l2i, 1)) (hp : pc + 1 = pc') (K : own_W p e below P T m pc' Ls (.int (x.toInt32) :: S)) : own_W p e below P T m pc Ls (.long x :: S) := by
  subst hp; exact own_go (fun t => XT.l2i (g := mkF m pc Ls (.long x :: S)) X.here hx rfl hd rfl) K
theorem own_i2b (X : Stand p l e R s m args below meth c T locs cells slots) (hx : p.tables.exec = Jvm.exec) {x : Int32} (hd : decode c.code pc = .ok (.i2b, 1)) (hp : pc + 1 = pc') (K : own_W p e below P T m pc' Ls (.int (x.toInt8.toInt32) :: S)) : own_W p e below P T m pc Ls (.int x :: S) := by
  subst hp; exact own_go (fun t => XT.i2b (g := mkF m pc Ls (.int x :: S)) X.here hx rfl hd rfl) K
theorem own_i2c (X : Stand p l e R s m args below meth c T locs cells slots) (hx : p.tables.exec = Jvm.exec) {x : Int32} (hd : decode c.code pc = .ok (.i2c, 1)) (hp : pc + 1 = pc') (K : own_W p e below P T m pc' Ls (.int (x.toUInt32.toUInt16.toUInt32.toInt32) :: S)) : own_W p e below P T m pc Ls (.int x :: S) := by
  subst hp; exact own_go (fun t => XT.i2c (g := mkF m pc Ls (.int x :: S)) X.here hx rfl hd rfl) K
theorem own_i2s (X : Stand p l e R s m args below meth c T locs cells slots) (hx : p.tables.exec = Jvm.exec) {x : Int32} (hd : decode c.code pc = .ok (.i2s, 1)) (hp : pc + 1 = pc') (K : own_W p e below P T m pc' Ls (.int (x.toInt16.toInt32) :: S)) : own_W p e below P T m pc Ls (.int x :: S) := by
  subst hp; exact own_go (fun t => XT.i2s (g := mkF m pc Ls (.int x :: S)) X.here hx rfl hd rfl) K
theorem own_iinc (X : Stand p l e R s m args below meth c T locs cells slots) (hx : p.tables.exec = Jvm.exec) {k : Nat} {cst : Int} {x : Int32} (v : Int32) (hd : decode c.code pc = .ok (.iinc k cst, 3)) (hp : pc + 3 = pc') (hv : Int32.ofInt cst = v) (hl : Ls[k]? = some (.val (.int x))) (hl' : storeLocals Ls k (.int (x + v)) = some Ls') (K : own_W p e below P T m pc' Ls' S) : own_W p e below P T m pc Ls S := by
  subst hp; exact own_go (fun t => XT.iincV (g := mkF m pc Ls S) X.here hx rfl v hd hv hl hl') K
theorem own_dup (X : Stand p l e R s m args below meth c T locs cells slots) (hx : p.tables.exec = Jvm.exec) {x : Value} (hd : decode c.code pc = .ok (.dup, 1)) (hp : pc + 1 = pc') (hc : x.category = 1) (K : own_W p e below P T m pc' Ls (x :: x :: S)) : own_W p e below P T m pc Ls (x :: S) := by
  subst hp; exact own_go (fun t => XS.dup (g := mkF m pc Ls (x :: S)) X.here hx rfl hd rfl hc) K
theorem own_pop (X : Stand p l e R s m args below meth c T locs cells slots) (hx : p.tables.exec = Jvm.exec) {x : Value} (hd : decode c.code pc = .ok (.pop, 1)) (hp : pc + 1 = pc') (hc : x.category = 1) (K : own_W p e below P T m pc' Ls S) : own_W p e below P T m pc Ls (x :: S) := by
  subst hp; exact own_go (fun t => XT.pop (g := mkF m pc Ls (x :: S)) X.here hx rfl hd rfl hc) K
theorem own_dup2 (X : Stand p l e R s m args below meth c T locs cells slots) (hx : p.tables.exec = Jvm.exec) {x y : Value} (hd : decode c.code pc = .ok (.dup2, 1)) (hp : pc + 1 = pc') (hc : x.category = 1) (hc' : y.category = 1) (K : own_W p e below P T m pc' Ls (x :: y :: x :: y :: S)) : own_W p e below P T m pc Ls (x :: y :: S) := by
  subst hp; exact own_go (fun t => XT.dup2 (g := mkF m pc Ls (x :: y :: S)) X.here hx rfl hd rfl hc hc') K
theorem own_goto (X : Stand p l e R s m args below meth c T locs cells slots) (hx : p.tables.exec = Jvm.exec) {o : Int} (hd : decode c.code pc = .ok (.goto o, 3)) (ho : 0 ≤ (pc : Int) + o) (hp : ((pc : Int) + o).toNat = pc') (K : own_W p e below P T m pc' Ls S) : own_W p e below P T m pc Ls S :=
  own_go (fun t => XS.goto (g := mkF m pc Ls S) X.here hx rfl (pc0 := pc) (pc' := pc') rfl hd ho hp) K
/-- what a taken branch tells (own_P), what one that isn't taken tells (own_N) -/
def own_P : ClassFile.Cond → Int32 → Int32 → Prop
  | .eq, x, y => x = y
  | .ne, x, y => ¬ x = y
  | .lt, x, y => x < y
  | .ge, x, y => ¬ x < y
  | .gt, x, y => y < x
  | .le, x, y => ¬ y < x
def own_N : ClassFile.Cond → Int32 → Int32 → Prop
  | .eq, x, y => ¬ x = y
  | .ne, x, y => x = y
  | .lt, x, y => ¬ x < y
  | .ge, x, y => x < y
  | .gt, x, y => ¬ y < x
  | .le, x, y => y < x
theorem own_holdsT {cd : ClassFile.Cond} {x y : Int32} (q : own_P cd x y) : if_icmp.holds cd x y = true := by
  cases cd <;> first | exact (teq q).1 | exact (feq q).2 | exact (tlt q).1 | exact (flt q).2.1 | exact (tlt q).2.2.1 | exact (flt q).2.2.2
theorem own_holdsF {cd : ClassFile.Cond} {x y : Int32} (q : own_N cd x y) : if_icmp.holds cd x y = false := by
  cases cd <;> first | exact (feq q).1 | exact (teq q).2 | exact (flt q).1 | exact (tlt q).2.1 | exact (flt q).2.2.1 | exact (tlt q).2.2.2
theorem own_or (cd : ClassFile.Cond) (x y : Int32) : own_P cd x y ∨ own_N cd x y := by
  cases cd
  · exact Classical.em (x = y)
  · exact (Classical.em (x = y)).symm
  · exact Classical.em (x < y)
  · exact (Classical.em (x < y)).symm
  · exact Classical.em (y < x)
  · exact (Classical.em (y < x)).symm
theorem own_icmpY (X : Stand p l e R s m args below meth c T locs cells slots) (hx : p.tables.exec = Jvm.exec) {cd : ClassFile.Cond} {x y : Int32} {o : Int} (hd : decode c.code pc = .ok (.if_icmp cd o, 3)) (ho : 0 ≤ (pc : Int) + o) (hp : ((pc : Int) + o).toNat = pc') (q : own_P cd x y) (K : own_W p e below P T m pc' Ls S) : own_W p e below P T m pc Ls (.int y :: .int x :: S) :=
  own_go (fun t => XS.icmpYes (g := mkF m pc Ls (.int y :: .int x :: S)) X.here hx rfl (pc0 := pc) (pc' := pc') rfl hd rfl (own_holdsT q) ho hp) K
theorem own_icmpN (X : Stand p l e R s m args below meth c T locs cells slots) (hx : p.tables.exec = Jvm.exec) {cd : ClassFile.Cond} {x y : Int32} {o : Int} (hd : decode c.code pc = .ok (.if_icmp cd o, 3)) (hp : pc + 3 = pc') (q : own_N cd x y) (K : own_W p e below P T m pc' Ls S) : own_W p e below P T m pc Ls (.int y :: .int x :: S) := by
  subst hp; exact own_go (fun t => XS.icmpNo (g := mkF m pc Ls (.int y :: .int x :: S)) X.here hx rfl hd rfl (own_holdsF q)) K
theorem own_icmp (X : Stand p l e R s m args below meth c T locs cells slots) (hx : p.tables.exec = Jvm.exec) {cd : ClassFile.Cond} {x y : Int32} {o : Int} {pcY pcN : Nat} (hd : decode c.code pc = .ok (.if_icmp cd o, 3)) (ho : 0 ≤ (pc : Int) + o) (hY : ((pc : Int) + o).toNat = pcY) (hN : pc + 3 = pcN) (KY : own_P cd x y → own_W p e below P T m pcY Ls S) (KN : own_N cd x y → own_W p e below P T m pcN Ls S) : own_W p e below P T m pc Ls (.int y :: .int x :: S) :=
  (own_or cd x y).elim (fun q => own_icmpY X hx hd ho hY q (KY q)) (fun q => own_icmpN X hx hd hN q (KN q))
theorem own_ifY (X : Stand p l e R s m args below meth c T locs cells slots) (hx : p.tables.exec = Jvm.exec) {cd : ClassFile.Cond} {x : Int32} {o : Int} (hd : decode c.code pc = .ok (.ifCond cd o, 3)) (ho : 0 ≤ (pc : Int) + o) (hp : ((pc : Int) + o).toNat = pc') (q : own_P cd x 0) (K : own_W p e below P T m pc' Ls S) : own_W p e below P T m pc Ls (.int x :: S) :=
  own_go (fun t => XS.ifYes (g := mkF m pc Ls (.int x :: S)) X.here hx rfl (pc0 := pc) (pc' := pc') rfl hd rfl ((if0 _ _).trans (own_holdsT q)) ho hp) K
theorem own_ifN (X : Stand p l e R s m args below meth c T locs cells slots) (hx : p.tables.exec = Jvm.exec) {cd : ClassFile.Cond} {x : Int32} {o : Int} (hd : decode c.code pc = .ok (.ifCond cd o, 3)) (hp : pc + 3 = pc') (q : own_N cd x 0) (K : own_W p e below P T m pc' Ls S) : own_W p e below P T m pc Ls (.int x :: S) := by
  subst hp; exact own_go (fun t => XS.ifNo (g := mkF m pc Ls (.int x :: S)) X.here hx rfl hd rfl ((if0 _ _).trans (own_holdsF q))) K
theorem own_if (X : Stand p l e R s m args below meth c T locs cells slots) (hx : p.tables.exec = Jvm.exec) {cd : ClassFile.Cond} {x : Int32} {o : Int} {pcY pcN : Nat} (hd : decode c.code pc = .ok (.ifCond cd o, 3)) (ho : 0 ≤ (pc : Int) + o) (hY : ((pc : Int) + o).toNat = pcY) (hN : pc + 3 = pcN) (KY : own_P cd x 0 → own_W p e below P T m pcY Ls S) (KN : own_N cd x 0 → own_W p e below P T m pcN Ls S) : own_W p e below P T m pc Ls (.int x :: S) :=
  (own_or cd x 0).elim (fun q => own_ifY X hx hd ho hY q (KY q)) (fun q => own_ifN X hx hd hN q (KN q))
/-- the same of two longs: lcmp and the branch behind it, in one -/
def own_PL : ClassFile.Cond → Int64 → Int64 → Prop
  | .eq, x, y => x = y
  | .ne, x, y => ¬ x = y
  | .lt, x, y => x < y
  | .ge, x, y => ¬ x < y
  | .gt, x, y => y < x
  | .le, x, y => ¬ y < x
def own_NL : ClassFile.Cond → Int64 → Int64 → Prop
  | .eq, x, y => ¬ x = y
  | .ne, x, y => x = y
  | .lt, x, y => ¬ x < y
  | .ge, x, y => x < y
  | .gt, x, y => ¬ y < x
  | .le, x, y => y < x
theorem own_holdsLT {cd : ClassFile.Cond} {x y : Int64} (q : own_PL cd x y) : ifCond.holds cd (XT.cmpL x y) = true := by
  cases cd
  · exact XT.ll_eq_t q
  · exact XT.ll_ne_t q
  · exact XT.ll_lt_t q
  · exact XT.ll_ge_t q
  · exact XT.ll_gt_t q
  · exact XT.ll_le_t q
theorem own_holdsLF {cd : ClassFile.Cond} {x y : Int64} (q : own_NL cd x y) : ifCond.holds cd (XT.cmpL x y) = false := by
  cases cd
  · exact XT.ll_eq_f q
  · exact XT.ll_ne_f q
  · exact XT.ll_lt_f q
  · exact XT.ll_ge_f q
  · exact XT.ll_gt_f q
  · exact XT.ll_le_f q
theorem own_orL (cd : ClassFile.Cond) (x y : Int64) : own_PL cd x y ∨ own_NL cd x y := by
  cases cd
  · exact Classical.em (x = y)
  · exact (Classical.em (x = y)).symm
  · exact Classical.em (x < y)
  · exact (Classical.em (x < y)).symm
  · exact Classical.em (y < x)
  · exact (Classical.em (y < x)).symm
theorem own_lcY (X : Stand p l e R s m args below meth c T locs cells slots) (hx : p.tables.exec = Jvm.exec) {cd : ClassFile.Cond} {x y : Int64} {o : Int} (hd1 : decode c.code pc = .ok (.lcmp, 1)) (hd : decode c.code (pc + 1) = .ok (.ifCond cd o, 3)) (ho : 0 ≤ ((pc + 1 : Nat) : Int) + o) (hp : (((pc + 1 : Nat) : Int) + o).toNat = pc') (q : own_PL cd x y) (K : own_W p e below P T m pc' Ls S) : own_W p e below P T m pc Ls (.long y :: .long x :: S) :=
  own_go (fun t => XT.lcmp (g := mkF m pc Ls (.long y :: .long x :: S)) X.here hx rfl hd1 rfl) (own_go (fun t => XS.ifYes (g := mkF m (pc + 1) Ls (.int (XT.cmpL x y) :: S)) X.here hx rfl (pc0 := pc + 1) (pc' := pc') rfl hd rfl (own_holdsLT q) ho hp) K)
theorem own_lcN (X : Stand p l e R s m args below meth c T locs cells slots) (hx : p.tables.exec = Jvm.exec) {cd : ClassFile.Cond} {x y : Int64} {o : Int} (hd1 : decode c.code pc = .ok (.lcmp, 1)) (hd : decode c.code (pc + 1) = .ok (.ifCond cd o, 3)) (hp : pc + 4 = pc') (q : own_NL cd x y) (K : own_W p e below P T m pc' Ls S) : own_W p e below P T m pc Ls (.long y :: .long x :: S) := by
  subst hp; exact own_go (fun t => XT.lcmp (g := mkF m pc Ls (.long y :: .long x :: S)) X.here hx rfl hd1 rfl) (own_go (fun t => XS.ifNo (g := mkF m (pc + 1) Ls (.int (XT.cmpL x y) :: S)) X.here hx rfl hd rfl (own_holdsLF q)) K)
theorem own_lc (X : Stand p l e R s m args below meth c T locs cells slots) (hx : p.tables.exec = Jvm.exec) {cd : ClassFile.Cond} {x y : Int64} {o : Int} {pcY pcN : Nat} (hd1 : decode c.code pc = .ok (.lcmp, 1)) (hd : decode c.code (pc + 1) = .ok (.ifCond cd o, 3)) (ho : 0 ≤ ((pc + 1 : Nat) : Int) + o) (hY : (((pc + 1 : Nat) : Int) + o).toNat = pcY) (hN : pc + 4 = pcN) (KY : own_PL cd x y → own_W p e below P T m pcY Ls S) (KN : own_NL cd x y → own_W p e below P T m pcN Ls S) : own_W p e below P T m pc Ls (.long y :: .long x :: S) :=
  (own_orL cd x y).elim (fun q => own_lcY X hx hd1 hd ho hY q (KY q)) (fun q => own_lcN X hx hd1 hd hN q (KN q))
theorem own_ifnullY (X : Stand p l e R s m args below meth c T locs cells slots) (hx : p.tables.exec = Jvm.exec) {o : Int} (hd : decode c.code pc = .ok (.ifnull o, 3)) (ho : 0 ≤ (pc : Int) + o) (hp : ((pc : Int) + o).toNat = pc') (K : own_W p e below P T m pc' Ls S) : own_W p e below P T m pc Ls (.null :: S) :=
  own_go (fun t => XS.ifnullYes (g := mkF m pc Ls (.null :: S)) X.here hx rfl (pc0 := pc) (pc' := pc') rfl hd rfl ho hp) K
theorem own_ifnullN (X : Stand p l e R s m args below meth c T locs cells slots) (hx : p.tables.exec = Jvm.exec) {o : Int} {a : Addr} (hd : decode c.code pc = .ok (.ifnull o, 3)) (hp : pc + 3 = pc') (K : own_W p e below P T m pc' Ls S) : own_W p e below P T m pc Ls (.ref a :: S) := by
  subst hp; exact own_go (fun t => XS.ifnullNo (g := mkF m pc Ls (.ref a :: S)) X.here hx rfl hd rfl) K
theorem own_ifnonnullY (X : Stand p l e R s m args below meth c T locs cells slots) (hx : p.tables.exec = Jvm.exec) {o : Int} {a : Addr} (hd : decode c.code pc = .ok (.ifnonnull o, 3)) (ho : 0 ≤ (pc : Int) + o) (hp : ((pc : Int) + o).toNat = pc') (K : own_W p e below P T m pc' Ls S) : own_W p e below P T m pc Ls (.ref a :: S) :=
  own_go (fun t => XT.ifnonnullYes (g := mkF m pc Ls (.ref a :: S)) X.here hx rfl (pc0 := pc) (pc' := pc') rfl hd rfl ho hp) K
theorem own_ifnonnullN (X : Stand p l e R s m args below meth c T locs cells slots) (hx : p.tables.exec = Jvm.exec) {o : Int} (hd : decode c.code pc = .ok (.ifnonnull o, 3)) (hp : pc + 3 = pc') (K : own_W p e below P T m pc' Ls S) : own_W p e below P T m pc Ls (.null :: S) := by
  subst hp; exact own_go (fun t => XT.ifnonnullNo (g := mkF m pc Ls (.null :: S)) X.here hx rfl hd rfl) K
theorem own_acmpY (X : Stand p l e R s m args below meth c T locs cells slots) (hx : p.tables.exec = Jvm.exec) {cd : ClassFile.ACond} {x y : Value} {o : Int} (hd : decode c.code pc = .ok (.if_acmp cd o, 3)) (ho : 0 ≤ (pc : Int) + o) (hp : ((pc : Int) + o).toNat = pc') (hx' : x.isRef = true) (hy' : y.isRef = true) (q : XT.acmp cd x y = true) (K : own_W p e below P T m pc' Ls S) : own_W p e below P T m pc Ls (y :: x :: S) :=
  own_go (fun t => XT.acmpYes (g := mkF m pc Ls (y :: x :: S)) X.here hx rfl (pc0 := pc) (pc' := pc') rfl hd rfl hx' hy' q ho hp) K
theorem own_acmpN (X : Stand p l e R s m args below meth c T locs cells slots) (hx : p.tables.exec = Jvm.exec) {cd : ClassFile.ACond} {x y : Value} {o : Int} (hd : decode c.code pc = .ok (.if_acmp cd o, 3)) (hp : pc + 3 = pc') (hx' : x.isRef = true) (hy' : y.isRef = true) (q : XT.acmp cd x y = false) (K : own_W p e below P T m pc' Ls S) : own_W p e below P T m pc Ls (y :: x :: S) := by
  subst hp; exact own_go (fun t => XT.acmpNo (g := mkF m pc Ls (y :: x :: S)) X.here hx rfl hd rfl hx' hy' q) K
/-! heap -/
theorem own_getF (X : Stand p l e R s m args below meth c T locs cells slots) (hx : p.tables.exec = Jvm.exec) (hZ : Z.Warmed39 s.vm) {own R0 O n d host : String} {index : Nat} (hown : s.vm.findClass own = some m.cls) (w : (Cond.fieldLink own index R0 n d).before a0 Z = true ∨ (Cond.fieldLinkNest own index R0 n d host).before a0 Z = true) (via : Via Z R0 O n d)
    (eT : T.heap = h) {a : Addr} {v : Value} (F : Fld Z h a O n d v) (hd : decode c.code pc = .ok (.getfield index, 3)) (hp : pc + 3 = pc')
    (K : ∀ T', Stand p l e R s m args below meth c T' locs cells slots → T'.heap = h → own_W p e below P T' m pc' Ls (v :: S)) : own_W p e below P T m pc Ls (.ref a :: S) := by
  subst hp
  obtain ⟨T', X', e', st⟩ := getF X hx hZ hown w via eT F (g := mkF m pc Ls (.ref a :: S)) rfl rfl hd
  exact own_go st (K T' X' e')
theorem own_getS (X : Stand p l e R s m args below meth c T locs cells slots) (hx : p.tables.exec = Jvm.exec) (hZ : Z.Warmed39 s.vm) {own R0 O n d host : String} {index : Nat} (hown : s.vm.findClass own = some m.cls) (w : (Cond.fieldLink own index R0 n d).before a0 Z = true ∨ (Cond.fieldLinkNest own index R0 n d host).before a0 Z = true) (via : Via Z R0 O n d)
    (eT : T.heap = h) {v : Value} (F : Sta Z h O n d v) (hd : decode c.code pc = .ok (.getstatic index, 3)) (hp : pc + 3 = pc')
    (K : ∀ T', Stand p l e R s m args below meth c T' locs cells slots → T'.heap = h → own_W p e below P T' m pc' Ls (v :: S)) : own_W p e below P T m pc Ls S := by
  subst hp
  obtain ⟨T', X', e', st⟩ := getS2 X hx hZ hown w via eT F (g := mkF m pc Ls S) rfl hd
  exact own_go st (K T' X' e')
theorem own_putF (X : Stand p l e R s m args below meth c T locs cells slots) (hx : p.tables.exec = Jvm.exec) (hZ : Z.Warmed39 s.vm) {own R0 O n d C : String} {index kk : Nat} {ty : FieldType} (hown : s.vm.findClass own = some m.cls) (w : (Cond.fieldLink own index R0 n d).before a0 Z = true) (via : Via Z R0 O n d)
    (eT : T.heap = h) {a : Addr} {v v' old : Value} (F : Fld Z h a O n d old) (E : Exa Z h a C) (L : (Cond.lays C O n d).before a0 Z = true ∨ ((Cond.laysFinal C O n d).before a0 Z = true ∧ own = O ∧ meth.name = "<init>")) (wi : (Cond.instantiable C kk).before a0 Z = true)
    (hty : parseFieldDescriptor d = some ty) (hn : narrow ty v = v') (hf : fits ty v' = true) (hd : decode c.code pc = .ok (.putfield index, 3)) (hp : pc + 3 = pc')
    (K : ∀ T' h' lc, Stand p l e R s m args below meth c T' lc cells slots → T'.heap = h' → Wr h h' a (Jvm.RoadKit.slotOf Z O n d) v' → (∀ n0, n0 ≤ a → Fr n0 locs → Fr n0 lc) → own_W p e below P T' m pc' Ls S) : own_W p e below P T m pc Ls (v :: .ref a :: S) := by
  subst hp
  obtain ⟨T', h', X', e', W', st⟩ := putFN X hx hZ hown w via eT F E L wi hty hn hf (g := mkF m pc Ls (v :: .ref a :: S)) rfl rfl hd
  exact own_go st (K T' h' _ X' e' W' fun _ q N => Fr.snoc X' N q)
theorem own_new (X : Stand p l e R s m args below meth c T locs cells slots) (hx : p.tables.exec = Jvm.exec) (hZ : Z.Warmed39 s.vm) {own C : String} {index n : Nat} (hown : s.vm.findClass own = some m.cls) (w : (Cond.classLink own index C).before a0 Z = true) (wi : (Cond.instantiable C n).before a0 Z = true) (wz : (Cond.initialized C).before a0 Z = true) (eT : T.heap = h)
    (hd : decode c.code pc = .ok (.new index, 3)) (hp : pc + 3 = pc') {cells' slots' : Nat} (hc' : cells + 1 = cells') (hs' : slots + n = slots') (hc : cells' ≤ R.cells) (hl : slots' ≤ R.slots)
    (K : ∀ T' h' a, Stand p l e R s m args below meth c T' locs cells' slots' → T'.heap = h' → Ext h h' → a = h.size → Exa Z h' a C → (∀ {O nm d : String} {ty : FieldType}, Laid Z a0 C O nm d → parseFieldDescriptor d = some ty → Fld Z h' a O nm d (defaultValue ty)) → own_W p e below P T' m pc' Ls (.ref a :: S)) : own_W p e below P T m pc Ls S := by
  subst hp hc' hs'
  obtain ⟨T', h', X', e', E', A', D', -, st⟩ := newO X hx hZ hown w wi wz eT (g := mkF m pc Ls S) rfl hd hc hl
  exact own_go st (K T' h' _ X' e' E' rfl A' D')
theorem own_newarr (X : Stand p l e R s m args below meth c T locs cells slots) (hx : p.tables.exec = Jvm.exec) (hZ : Z.Warmed39 s.vm) {aty : ArrayType} (w : (Cond.arrayClass (newarray.typeOf aty)).before a0 Z = true) (eT : T.heap = h) (hd : decode c.code pc = .ok (.newarray aty, 2)) (hp : pc + 2 = pc') {n : Int32}
    (hn : ¬ n < 0) (cap : Nat) (hcap : n.toNatClampNeg ≤ cap) (hb : cap * 8 ≤ 536870912) {cells' slots' : Nat} (hc' : cells + 1 = cells') (hs' : slots + cap = slots') (hc : cells' ≤ R.cells) (hl : slots' ≤ R.slots)
    (K : ∀ T' h' cA a, Stand p l e R s m args below meth c T' locs cells' slots' → T'.heap = h' → Ext h h' → a = h.size → Arv Z h' a cA (newarray.typeOf aty) n [] (defaultValue (newarray.typeOf aty)) → own_W p e below P T' m pc' Ls (.ref a :: S)) : own_W p e below P T m pc Ls (.int n :: S) := by
  subst hp hc' hs'
  obtain ⟨T', h', cA, X', e', E', A', st⟩ := newP X hx hZ w eT (g := mkF m pc Ls (.int n :: S)) rfl hd rfl hn hcap hb hc hl
  exact own_go st (K T' h' cA _ X' e' E' rfl (Arv.new A' hn))
theorem own_arrlen (X : Stand p l e R s m args below meth c T locs cells slots) (hx : p.tables.exec = Jvm.exec) (hZ : Z.Warmed39 s.vm) (eT : T.heap = h) {a : Addr} {k : ClassId} {ty : FieldType} {n : Int32} {vs : List Value} {dv : Value} (A : Arv Z h a k ty n vs dv) (hd : decode c.code pc = .ok (.arraylength, 1)) (hp : pc + 1 = pc')
    (K : own_W p e below P T m pc' Ls (.int n :: S)) : own_W p e below P T m pc Ls (.ref a :: S) := by
  subst hp
  obtain ⟨cl, Ar, -, Sz, M, -⟩ := A
  have q := len_of Sz M
  rw [← q] at K
  exact own_go (fun t => X.arraylength hx (cell := cl) (by rw [eT]; exact Ar.1) (State.isArrayOf_alike hZ.alike Ar.2.1) (g := mkF m pc Ls (.ref a :: S)) rfl rfl hd t) K
theorem own_iaload (X : Stand p l e R s m args below meth c T locs cells slots) (hx : p.tables.exec = Jvm.exec) (hZ : Z.Warmed39 s.vm) (eT : T.heap = h) {a : Addr} {k : ClassId} {n : Int32} {vs : List Value} {dv : Value} (A : Arv Z h a k .int n vs dv) {j : Int32} {v : Value} (hj : ¬ j < 0 ∧ j < n) (hv : vs.getD j.toNatClampNeg dv = v) (hd : decode c.code pc = .ok (.iaload, 1)) (hp : pc + 1 = pc')
    (K : own_W p e below P T m pc' Ls (v :: S)) : own_W p e below P T m pc Ls (.int j :: .ref a :: S) := by
  subst hp
  obtain ⟨cl, Ar, -, Sz, M, H, -⟩ := A
  have hin := inb_of Sz hj
  exact own_go (fun t => X.iaload hx (cell := cl) (j := j) (v := v) (by rw [eT]; exact Ar.1) (State.isArrayOf_alike hZ.alike Ar.2.1) Ar.2.2 hin (H.at hin hv) (g := mkF m pc Ls (.int j :: .ref a :: S)) rfl rfl hd t) K
theorem own_laload (X : Stand p l e R s m args below meth c T locs cells slots) (hx : p.tables.exec = Jvm.exec) (hZ : Z.Warmed39 s.vm) (eT : T.heap = h) {a : Addr} {k : ClassId} {n : Int32} {vs : List Value} {dv : Value} (A : Arv Z h a k .long n vs dv) {j : Int32} {v : Value} (hj : ¬ j < 0 ∧ j < n) (hv : vs.getD j.toNatClampNeg dv = v) (hd : decode c.code pc = .ok (.laload, 1)) (hp : pc + 1 = pc')
    (K : own_W p e below P T m pc' Ls (v :: S)) : own_W p e below P T m pc Ls (.int j :: .ref a :: S) := by
  subst hp
  obtain ⟨cl, Ar, -, Sz, M, H, -⟩ := A
  have hin := inb_of Sz hj
  exact own_go (fun t => X.laload hx (cell := cl) (j := j) (v := v) (by rw [eT]; exact Ar.1) (State.isArrayOf_alike hZ.alike Ar.2.1) Ar.2.2 hin (H.at hin hv) (g := mkF m pc Ls (.int j :: .ref a :: S)) rfl rfl hd t) K
theorem own_caload (X : Stand p l e R s m args below meth c T locs cells slots) (hx : p.tables.exec = Jvm.exec) (hZ : Z.Warmed39 s.vm) (eT : T.heap = h) {a : Addr} {k : ClassId} {n : Int32} {vs : List Value} {dv : Value} (A : Arv Z h a k .char n vs dv) {j : Int32} {v : Value} (hj : ¬ j < 0 ∧ j < n) (hv : vs.getD j.toNatClampNeg dv = v) (hd : decode c.code pc = .ok (.caload, 1)) (hp : pc + 1 = pc')
    (K : own_W p e below P T m pc' Ls (v :: S)) : own_W p e below P T m pc Ls (.int j :: .ref a :: S) := by
  subst hp
  obtain ⟨cl, Ar, -, Sz, M, H, -⟩ := A
  have hin := inb_of Sz hj
  exact own_go (fun t => X.caload hx (cell := cl) (j := j) (v := v) (by rw [eT]; exact Ar.1) (State.isArrayOf_alike hZ.alike Ar.2.1) Ar.2.2 hin (H.at hin hv) (g := mkF m pc Ls (.int j :: .ref a :: S)) rfl rfl hd t) K
theorem own_baloadB (X : Stand p l e R s m args below meth c T locs cells slots) (hx : p.tables.exec = Jvm.exec) (hZ : Z.Warmed39 s.vm) (eT : T.heap = h) {a : Addr} {k : ClassId} {n : Int32} {vs : List Value} {dv : Value} (A : Arv Z h a k .byte n vs dv) {j : Int32} {v : Value} (hj : ¬ j < 0 ∧ j < n) (hv : vs.getD j.toNatClampNeg dv = v) (hd : decode c.code pc = .ok (.baload, 1)) (hp : pc + 1 = pc')
    (K : own_W p e below P T m pc' Ls (v :: S)) : own_W p e below P T m pc Ls (.int j :: .ref a :: S) := by
  subst hp
  obtain ⟨cl, Ar, -, Sz, M, H, -⟩ := A
  have hin := inb_of Sz hj
  exact own_go (fun t => X.baloadBytes hx (cell := cl) (j := j) (v := v) (by rw [eT]; exact Ar.1) (State.isArrayOf_alike hZ.alike Ar.2.1) Ar.2.2 hin (H.at hin hv) (g := mkF m pc Ls (.int j :: .ref a :: S)) rfl rfl hd t) K
theorem own_baloadZ (X : Stand p l e R s m args below meth c T locs cells slots) (hx : p.tables.exec = Jvm.exec) (hZ : Z.Warmed39 s.vm) (eT : T.heap = h) {a : Addr} {k : ClassId} {n : Int32} {vs : List Value} {dv : Value} (A : Arv Z h a k .boolean n vs dv) {j : Int32} {v : Value} (hj : ¬ j < 0 ∧ j < n) (hv : vs.getD j.toNatClampNeg dv = v) (hd : decode c.code pc = .ok (.baload, 1)) (hp : pc + 1 = pc')
    (K : own_W p e below P T m pc' Ls (v :: S)) : own_W p e below P T m pc Ls (.int j :: .ref a :: S) := by
  subst hp
  obtain ⟨cl, Ar, -, Sz, M, H, -⟩ := A
  have hin := inb_of Sz hj
  exact own_go (fun t => X.baloadBooleans hx (cell := cl) (j := j) (v := v) (by rw [eT]; exact Ar.1) (State.isArrayOf_alike hZ.alike Ar.2.1) Ar.2.2 hin (H.at hin hv) (g := mkF m pc Ls (.int j :: .ref a :: S)) rfl rfl hd t) K
theorem own_aaload (X : Stand p l e R s m args below meth c T locs cells slots) (hx : p.tables.exec = Jvm.exec) (hZ : Z.Warmed39 s.vm) (eT : T.heap = h) {a : Addr} {k : ClassId} {ty : FieldType} (hty : ty.isReference = true) {n : Int32} {vs : List Value} {dv : Value} (A : Arv Z h a k ty n vs dv) {j : Int32} {v : Value} (hj : ¬ j < 0 ∧ j < n) (hv : vs.getD j.toNatClampNeg dv = v) (hd : decode c.code pc = .ok (.aaload, 1)) (hp : pc + 1 = pc')
    (K : own_W p e below P T m pc' Ls (v :: S)) : own_W p e below P T m pc Ls (.int j :: .ref a :: S) := by
  subst hp
  obtain ⟨cl, Ar, -, Sz, M, H, -⟩ := A
  have hin := inb_of Sz hj
  exact own_go (fun t => X.aaload hx (cell := cl) (j := j) (v := v) (by rw [eT]; exact Ar.1) (State.isArrayOf_alike hZ.alike Ar.2.1) hty Ar.2.2 hin (H.at hin hv) (g := mkF m pc Ls (.int j :: .ref a :: S)) rfl rfl hd t) K
theorem own_iastore (X : Stand p l e R s m args below meth c T locs cells slots) (hx : p.tables.exec = Jvm.exec) (hZ : Z.Warmed39 s.vm) (eT : T.heap = h) {a : Addr} {k : ClassId} {n : Int32} {vs : List Value} {dv : Value} (A : Arv Z h a k .int n vs dv) {j : Int32} {x : Int32} (hj : ¬ j < 0 ∧ j < n) (i : Nat) (hi : j.toNatClampNeg = i) (hlen : i < vs.length) (hd : decode c.code pc = .ok (.iastore, 1)) (hp : pc + 1 = pc')
    (K : ∀ T' h' lc, Stand p l e R s m args below meth c T' lc cells slots → T'.heap = h' → Keep h h' [a] → Arv Z h' a k .int n (vs.set i (.int x)) dv → (∀ n0, n0 ≤ a → Fr n0 locs → Fr n0 lc) → own_W p e below P T' m pc' Ls S) : own_W p e below P T m pc Ls (.int x :: .int j :: .ref a :: S) := by
  subst hp
  obtain ⟨cl, Ar, q1, Sz, M, H, G⟩ := A
  obtain ⟨T', h', X', e', W', st⟩ := stI X hx hZ eT Ar (inb_of Sz hj) (g := mkF m pc Ls (.int x :: .int j :: .ref a :: S)) rfl rfl hd
  exact own_go st (K T' h' _ X' e' (Keep.of_wr W') (Arv.set Ar q1 Sz M H G rfl W' i hi hlen) fun _ q N => Fr.snoc X' N q)
theorem own_lastore (X : Stand p l e R s m args below meth c T locs cells slots) (hx : p.tables.exec = Jvm.exec) (hZ : Z.Warmed39 s.vm) (eT : T.heap = h) {a : Addr} {k : ClassId} {n : Int32} {vs : List Value} {dv : Value} (A : Arv Z h a k .long n vs dv) {j : Int32} {x : Int64} (hj : ¬ j < 0 ∧ j < n) (i : Nat) (hi : j.toNatClampNeg = i) (hlen : i < vs.length) (hd : decode c.code pc = .ok (.lastore, 1)) (hp : pc + 1 = pc')
    (K : ∀ T' h' lc, Stand p l e R s m args below meth c T' lc cells slots → T'.heap = h' → Keep h h' [a] → Arv Z h' a k .long n (vs.set i (.long x)) dv → (∀ n0, n0 ≤ a → Fr n0 locs → Fr n0 lc) → own_W p e below P T' m pc' Ls S) : own_W p e below P T m pc Ls (.long x :: .int j :: .ref a :: S) := by
  subst hp
  obtain ⟨cl, Ar, q1, Sz, M, H, G⟩ := A
  obtain ⟨T', h', X', e', W', st⟩ := stJ X hx hZ eT Ar (inb_of Sz hj) (g := mkF m pc Ls (.long x :: .int j :: .ref a :: S)) rfl rfl hd
  exact own_go st (K T' h' _ X' e' (Keep.of_wr W') (Arv.set Ar q1 Sz M H G rfl W' i hi hlen) fun _ q N => Fr.snoc X' N q)
theorem own_castore (X : Stand p l e R s m args below meth c T locs cells slots) (hx : p.tables.exec = Jvm.exec) (hZ : Z.Warmed39 s.vm) (eT : T.heap = h) {a : Addr} {k : ClassId} {n : Int32} {vs : List Value} {dv : Value} (A : Arv Z h a k .char n vs dv) {j : Int32} {x : Int32} (hj : ¬ j < 0 ∧ j < n) (i : Nat) (hi : j.toNatClampNeg = i) (hlen : i < vs.length) (hd : decode c.code pc = .ok (.castore, 1)) (hp : pc + 1 = pc')
    (K : ∀ T' h' lc, Stand p l e R s m args below meth c T' lc cells slots → T'.heap = h' → Keep h h' [a] → Arv Z h' a k .char n (vs.set i (.int (nar .char x))) dv → (∀ n0, n0 ≤ a → Fr n0 locs → Fr n0 lc) → own_W p e below P T' m pc' Ls S) : own_W p e below P T m pc Ls (.int x :: .int j :: .ref a :: S) := by
  subst hp
  obtain ⟨cl, Ar, q1, Sz, M, H, G⟩ := A
  obtain ⟨T', h', X', e', W', st⟩ := stC X hx hZ eT Ar (inb_of Sz hj) (g := mkF m pc Ls (.int x :: .int j :: .ref a :: S)) rfl rfl hd
  exact own_go st (K T' h' _ X' e' (Keep.of_wr W') (Arv.set Ar q1 Sz M H G (fits_nar_char x) W' i hi hlen) fun _ q N => Fr.snoc X' N q)
theorem own_bastoreZ (X : Stand p l e R s m args below meth c T locs cells slots) (hx : p.tables.exec = Jvm.exec) (hZ : Z.Warmed39 s.vm) (eT : T.heap = h) {a : Addr} {k : ClassId} {n : Int32} {vs : List Value} {dv : Value} (A : Arv Z h a k .boolean n vs dv) {j : Int32} {x : Int32} (hj : ¬ j < 0 ∧ j < n) (i : Nat) (hi : j.toNatClampNeg = i) (hlen : i < vs.length) (hd : decode c.code pc = .ok (.bastore, 1)) (hp : pc + 1 = pc')
    (K : ∀ T' h' lc, Stand p l e R s m args below meth c T' lc cells slots → T'.heap = h' → Keep h h' [a] → Arv Z h' a k .boolean n (vs.set i (.int (nar .boolean x))) dv → (∀ n0, n0 ≤ a → Fr n0 locs → Fr n0 lc) → own_W p e below P T' m pc' Ls S) : own_W p e below P T m pc Ls (.int x :: .int j :: .ref a :: S) := by
  subst hp
  obtain ⟨cl, Ar, q1, Sz, M, H, G⟩ := A
  obtain ⟨T', h', X', e', W', st⟩ := stZ X hx hZ eT Ar (inb_of Sz hj) (g := mkF m pc Ls (.int x :: .int j :: .ref a :: S)) rfl rfl hd
  exact own_go st (K T' h' _ X' e' (Keep.of_wr W') (Arv.set Ar q1 Sz M H G (fits_nar_bool x) W' i hi hlen) fun _ q N => Fr.snoc X' N q)
theorem own_bastoreB (X : Stand p l e R s m args below meth c T locs cells slots) (hx : p.tables.exec = Jvm.exec) (hZ : Z.Warmed39 s.vm) (eT : T.heap = h) {a : Addr} {k : ClassId} {n : Int32} {vs : List Value} {dv : Value} (A : Arv Z h a k .byte n vs dv) {j : Int32} {x : Int32} (hj : ¬ j < 0 ∧ j < n) (i : Nat) (hi : j.toNatClampNeg = i) (hlen : i < vs.length) (hd : decode c.code pc = .ok (.bastore, 1)) (hp : pc + 1 = pc')
    (K : ∀ T' h' lc, Stand p l e R s m args below meth c T' lc cells slots → T'.heap = h' → Keep h h' [a] → Arv Z h' a k .byte n (vs.set i (.int (nar .byte x))) dv → (∀ n0, n0 ≤ a → Fr n0 locs → Fr n0 lc) → own_W p e below P T' m pc' Ls S) : own_W p e below P T m pc Ls (.int x :: .int j :: .ref a :: S) := by
  subst hp
  obtain ⟨cl, Ar, q1, Sz, M, H, G⟩ := A
  obtain ⟨T', h', X', e', W', st⟩ := stB X hx hZ eT Ar (inb_of Sz hj) (g := mkF m pc Ls (.int x :: .int j :: .ref a :: S)) rfl rfl hd
  exact own_go st (K T' h' _ X' e' (Keep.of_wr W') (Arv.set Ar q1 Sz M H G (fits_nar_byte x) W' i hi hlen) fun _ q N => Fr.snoc X' N q)
theorem own_cast (X : Stand p l e R s m args below meth c T locs cells slots) (hx : p.tables.exec = Jvm.exec) (hZ : Z.Warmed39 s.vm) {own C : String} {index : Nat} (hown : s.vm.findClass own = some m.cls) (w : (Cond.classLink own index C).before a0 Z = true) (eT : T.heap = h) {a : Addr} (E : Exa Z h a C) (hd : decode c.code pc = .ok (.checkcast index, 3)) (hp : pc + 3 = pc')
    (K : ∀ T', Stand p l e R s m args below meth c T' locs cells slots → T'.heap = h → own_W p e below P T' m pc' Ls (.ref a :: S)) : own_W p e below P T m pc Ls (.ref a :: S) := by
  subst hp
  obtain ⟨T', X', e', st⟩ := castY X hx hZ hown w eT (Ins.self E) (g := mkF m pc Ls (.ref a :: S)) rfl rfl hd
  exact own_go st (K T' X' e')
theorem own_inst (X : Stand p l e R s m args below meth c T locs cells slots) (hx : p.tables.exec = Jvm.exec) (hZ : Z.Warmed39 s.vm) {own C : String} {index : Nat} (hown : s.vm.findClass own = some m.cls) (w : (Cond.classLink own index C).before a0 Z = true) (eT : T.heap = h) {a : Addr} (E : Exa Z h a C) (hd : decode c.code pc = .ok (.instanceof index, 3)) (hp : pc + 3 = pc')
    (K : ∀ T', Stand p l e R s m args below meth c T' locs cells slots → T'.heap = h → own_W p e below P T' m pc' Ls (.int 1 :: S)) : own_W p e below P T m pc Ls (.ref a :: S) := by
  subst hp
  obtain ⟨T', X', e', st⟩ := instY X hx hZ hown w eT (Ins.self E) (g := mkF m pc Ls (.ref a :: S)) rfl rfl hd
  exact own_go st (K T' X' e')
theorem own_acmpne (X : Stand p l e R s m args below meth c T locs cells slots) (hx : p.tables.exec = Jvm.exec) {x y : Addr} {o : Int} {pcY pcN : Nat} (hd : decode c.code pc = .ok (.if_acmp .ne o, 3)) (ho : 0 ≤ (pc : Int) + o) (hY : ((pc : Int) + o).toNat = pcY) (hN : pc + 3 = pcN) (KY : ¬ x = y → own_W p e below P T m pcY Ls S) (KN : x = y → own_W p e below P T m pcN Ls S) : own_W p e below P T m pc Ls (.ref y :: .ref x :: S) :=
  (Classical.em (x = y)).elim (fun q => own_acmpN X hx hd hN rfl rfl (XT.aa_ne_f (congrArg Value.ref q)) (KN q)) (fun q => own_acmpY X hx hd ho hY rfl rfl (XT.aa_ne_t fun z => q (Value.ref.inj z)) (KY q))
theorem own_sta_keep {h' : Heap} {ws : List Addr} {C n d : String} {v : Value} (F : Sta Z h C n d v) (K : Keep h h' ws) (hn : ∀ x ∈ ws, ∀ cell : Cell, h[x]? = some cell → cell.vm.isStatics = false) : Sta Z h' C n d v := by
  obtain ⟨cf, i, k, f, st, cell, h1, h2, h3, h4, h5, h6, h7⟩ := F
  exact ⟨cf, i, k, f, st, cell, h1, h2, h3, h4, K.2.1 _ _ h5 (fun q => by rw [hn _ q _ h5] at h6; cases h6), h6, h7⟩
theorem own_ns_exa {a : Addr} {C : String} (E : Exa Z h a C) : ∀ cell : Cell, h[a]? = some cell → cell.vm.isStatics = false := fun cell hc => by
  obtain ⟨c', k, h1, h2, h3, h4, h5⟩ := E
  cases h1.symm.trans hc; exact h4
theorem own_ns_arv {a : Addr} {k : ClassId} {ty : FieldType} {z : Int32} {vs : List Value} {dv : Value} (A : Arv Z h a k ty z vs dv) : ∀ cell : Cell, h[a]? = some cell → cell.vm.isStatics = false := fun cell hc => by
  obtain ⟨c', Ar, -⟩ := A
  cases Ar.1.symm.trans hc; exact Ar.plain
theorem own_callS (X : Stand p l e R s m args below meth c T locs cells slots) (hx : p.tables.exec = Jvm.exec) (hZ : Z.Warmed39 s.vm) {own : String} {index : Nat} {y : MethodName} {bytes : ByteArray} {maxL : Nat} {ret : Option FieldType} {rm : Room} {Qc : Option Value → Heap → List Loc → Prop} {as' : Array Value} {S' : List Value} (argsL : List Value)
    (hown : s.vm.findClass own = some m.cls) (w1 : (Cond.methodLink own index y).before a0 Z = true) (w2 : (Cond.static y).before a0 Z = true) (w3 : (Cond.initialized y.cls).before a0 Z = true) (w4 : (Cond.code y bytes maxL ret).before a0 Z = true) (hy : y.cls ≠ "java/lang/invoke/MethodHandle" ∧ y.cls ≠ "java/lang/invoke/VarHandle")
    (hM : MetFree l y (head1 [Cond.code y bytes maxL ret] rm) (fun a U => a = as' ∧ Z.Warmed39 U.vm ∧ U.heap = h) (fun _ _ _ _ _ => True) (fun _ U o U' => ∃ v L, o = .returned v ∧ Qc v U'.heap L ∧ FrameEnd U o U' L rm.cells rm.slots))
    (eT : T.heap = h) {W cells' slots' : Nat} (hf : rm.frames + 1 ≤ R.frames) (hl : W + (maxL + 11) + rm.locals ≤ R.locals) (hc' : cells + rm.cells = cells') (hs' : slots + rm.slots = slots') (hc : cells' ≤ R.cells) (hs : slots' ≤ R.slots) (hsize : Ls.size = c.maxLocals) (hlen : ∀ sig, parseMethodDescriptor y.desc = some sig → argsL.length = sig.parameters.length) (has : argsL.toArray = as') (hstk : S' = argsL.reverse ++ S) (hW : 2 * 0 + (S.map fun v => v.category).sum ≤ W) (hd : decode c.code pc = .ok (.invokestatic index, 3)) (hp : pc + 3 = pc')
    (K : ∀ v T' h' L lc, Stand p l e R s m args below meth c T' lc cells' slots' → T'.heap = h' → Qc v h' L → (∀ n0, Fr n0 locs → Fr n0 L → Fr n0 lc) → own_W p e below P T' m pc' Ls (v.toList ++ S)) : own_W p e below P T m pc Ls S' := by
  subst hp hc' hs'
  obtain ⟨v, vm₁, ⟨T1, L1, k1, n1⟩, -, X1, ⟨Lc1, hQ1, l1, y1, z1⟩, st1⟩ := Jvm.LawKit.callS X hx hown (mvT hZ w1) (mvT hZ w2) (mvT hZ w3) (mvT hZ w4) hy (backOf hM hZ w4 w3 hf hl) (g := mkF m pc Ls S') rfl hsize (argsL := argsL) (rest := S) hlen hstk hW hd (fun _ _ => ⟨has, eT, hc, hs⟩)
  dsimp only [Pt.U, Pt.locs, Pt.cells, Pt.slots] at X1 l1 y1 z1 st1 hQ1
  subst l1 y1 z1
  exact own_go st1 (K v T1 _ Lc1 _ X1 rfl hQ1 fun _ a b => Fr.app a b)
theorem own_callN (X : Stand p l e R s m args below meth c T locs cells slots) (hx : p.tables.exec = Jvm.exec) (hZ : Z.Warmed39 s.vm) {own : String} {index : Nat} {y : MethodName} {bytes : ByteArray} {maxL : Nat} {rm : Room} {Qc : Option Value → Heap → List Loc → Prop} {as' : Array Value} {S' : List Value} (a : Addr) (argsL : List Value) (hy1 : y.name = "<init>")
    (hown : s.vm.findClass own = some m.cls) (w1 : (Cond.methodLink own index y).before a0 Z = true) (w2 : (Cond.instanceMethod y).before a0 Z = true) (w3 : (Cond.initialized y.cls).before a0 Z = true) (w4 : (Cond.code y bytes maxL none).before a0 Z = true) (hy : y.cls ≠ "java/lang/invoke/MethodHandle" ∧ y.cls ≠ "java/lang/invoke/VarHandle")
    (hM : MetFree l y (head1 [Cond.code y bytes maxL none] rm) (fun a U => a = as' ∧ Z.Warmed39 U.vm ∧ U.heap = h) (fun _ _ _ _ _ => True) (fun _ U o U' => ∃ v L, o = .returned v ∧ Qc v U'.heap L ∧ FrameEnd U o U' L rm.cells rm.slots))
    (eT : T.heap = h) {W cells' slots' : Nat} (hf : rm.frames + 1 ≤ R.frames) (hl : W + (maxL + 11) + rm.locals ≤ R.locals) (hc' : cells + rm.cells = cells') (hs' : slots + rm.slots = slots') (hc : cells' ≤ R.cells) (hs : slots' ≤ R.slots) (hsize : Ls.size = c.maxLocals) (hlen : ∀ sig, parseMethodDescriptor y.desc = some sig → argsL.length = sig.parameters.length) (has : (.ref a :: argsL).toArray = as') (hstk : S' = argsL.reverse ++ .ref a :: S) (hW : 2 * 0 + (S.map fun v => v.category).sum ≤ W) (hd : decode c.code pc = .ok (.invokespecial index, 3)) (hp : pc + 3 = pc')
    (K : ∀ v T' h' L lc, Stand p l e R s m args below meth c T' lc cells' slots' → T'.heap = h' → Qc v h' L → (∀ n0, Fr n0 locs → Fr n0 L → Fr n0 lc) → own_W p e below P T' m pc' Ls (v.toList ++ S)) : own_W p e below P T m pc Ls S' := by
  subst hp hc' hs'
  obtain ⟨v, vm₁, ⟨T1, L1, k1, n1⟩, -, X1, ⟨Lc1, hQ1, l1, y1, z1⟩, st1⟩ := X.specialBack hx hy1 hown (mvT hZ w1) (mvT hZ w2) (mvT hZ w4) hy (backOf hM hZ w4 w3 hf hl) (g := mkF m pc Ls S') rfl hsize (Steps.refl _) (a := a) (argsL := argsL) (rest := S) hlen hstk hW hd (fun _ _ => ⟨has, eT, hc, hs⟩)
  dsimp only [Pt.U, Pt.locs, Pt.cells, Pt.slots] at X1 l1 y1 z1 st1 hQ1
  subst l1 y1 z1
  exact own_go (fun t k => st1.trans k) (K v T1 _ Lc1 _ X1 rfl hQ1 fun _ a b => Fr.app a b)
theorem own_callV (X : Stand p l e R s m args below meth c T locs cells slots) (hx : p.tables.exec = Jvm.exec) (hZ : Z.Warmed39 s.vm) {own C : String} {index : Nat} {y : MethodName} {bytes : ByteArray} {maxL : Nat} {ret : Option FieldType} {rm : Room} {Qc : Option Value → Heap → List Loc → Prop} {as' : Array Value} {S' : List Value} (a : Addr) (argsL : List Value)
    (hown : s.vm.findClass own = some m.cls) (w1 : (Cond.methodLink own index y).before a0 Z = true) (w2 : (Cond.declares y).before a0 Z = true) (w5 : (Cond.selects C y y).before a0 Z = true) (w6 : (Cond.instanceMethod y).before a0 Z = true) (w3 : (Cond.initialized y.cls).before a0 Z = true) (w4 : (Cond.code y bytes maxL ret).before a0 Z = true) (hy : y.cls ≠ "java/lang/invoke/MethodHandle" ∧ y.cls ≠ "java/lang/invoke/VarHandle")
    (hM : MetFree l y (head1 [Cond.code y bytes maxL ret] rm) (fun a U => a = as' ∧ Z.Warmed39 U.vm ∧ U.heap = h) (fun _ _ _ _ _ => True) (fun _ U o U' => ∃ v L, o = .returned v ∧ Qc v U'.heap L ∧ FrameEnd U o U' L rm.cells rm.slots))
    (E : Exa Z h a C) (eT : T.heap = h) {W cells' slots' : Nat} (hf : rm.frames + 1 ≤ R.frames) (hl : W + (maxL + 11) + rm.locals ≤ R.locals) (hc' : cells + rm.cells = cells') (hs' : slots + rm.slots = slots') (hc : cells' ≤ R.cells) (hs : slots' ≤ R.slots) (hsize : Ls.size = c.maxLocals) (hlen : ∀ sig, parseMethodDescriptor y.desc = some sig → argsL.length = sig.parameters.length) (has : (.ref a :: argsL).toArray = as') (hstk : S' = argsL.reverse ++ .ref a :: S) (hW : 2 * 0 + (S.map fun v => v.category).sum ≤ W) (hd : decode c.code pc = .ok (.invokevirtual index, 3)) (hp : pc + 3 = pc')
    (K : ∀ v T' h' L lc, Stand p l e R s m args below meth c T' lc cells' slots' → T'.heap = h' → Qc v h' L → (∀ n0, Fr n0 locs → Fr n0 L → Fr n0 lc) → own_W p e below P T' m pc' Ls (v.toList ++ S)) : own_W p e below P T m pc Ls S' := by
  subst hp hc' hs'
  obtain ⟨cq, kq, qa, qb, qc⟩ := isOf hZ eT E
  obtain ⟨v, vm₁, ⟨T1, L1, k1, n1⟩, -, X1, ⟨Lc1, hQ1, l1, y1, z1⟩, st1⟩ := X.virtualBack hx hown (mvT hZ w1) (mvT hZ w2) (notFace_of_selects (args := #[]) (mvT hZ w5)) (mvT hZ w5) (mvT hZ w6) hy (backOf hM hZ w4 w3 hf hl) qa qc (g := mkF m pc Ls S') rfl hsize (Steps.refl _) (argsL := argsL) (rest := S) hlen hstk hW hd (fun _ _ => ⟨has, eT, hc, hs⟩)
  dsimp only [Pt.U, Pt.locs, Pt.cells, Pt.slots] at X1 l1 y1 z1 st1 hQ1
  subst l1 y1 z1
  exact own_go (fun t k => st1.trans k) (K v T1 _ Lc1 _ X1 rfl hQ1 fun _ a b => Fr.app a b)
theorem own_initO (X : Stand p l e R s m args below meth c T locs cells slots) (hx : p.tables.exec = Jvm.exec) (hZ : Z.Warmed39 s.vm) {own : String} {idx : Nat} (hown : s.vm.findClass own = some m.cls) (w1 : (Cond.methodLink own idx Lib.objectInit).before a0 Z = true) (w2 : (Cond.instanceMethod Lib.objectInit).before a0 Z = true) (w3 : (Cond.code Lib.objectInit ⟨#[0xb1]⟩ 1 none).before a0 Z = true) (eT : T.heap = h)
    (hsize : Ls.size = c.maxLocals) {a : Addr} (hd : decode c.code pc = .ok (.invokespecial idx, 3)) (hp : pc + 3 = pc') (hf : 1 ≤ R.frames) {W : Nat} (hW : 2 * 0 + (S.map fun v => v.category).sum ≤ W) (hl : W + 12 ≤ R.locals)
    (K : ∀ T', Stand p l e R s m args below meth c T' locs cells slots → T'.heap = h → own_W p e below P T' m pc' Ls S) : own_W p e below P T m pc Ls (.ref a :: S) := by
  subst hp
  obtain ⟨T', X', e', st⟩ := initO X hx hZ hown w1 w2 w3 eT (g := mkF m pc Ls (.ref a :: S)) rfl hsize rfl hd hf (W := W) hW hl
  exact own_go st (K T' X' e')
/-! returns -/
theorem own_retI (X : Stand p l e R s m args below meth c T locs cells slots) (hx : p.tables.exec = Jvm.exec) (hlk : meth.locks = false) {t : FieldType} {w w' : Value} (hret : meth.sig.returnType = some t) (hd : decode c.code pc = .ok (.ireturn, 1)) {z : Int32} (hw : w = .int z) (hn : narrow t w = w') (ht : t = .int ∨ t = .boolean ∨ t = .byte ∨ t = .char ∨ t = .short) (hc : cells ≤ kc) (hs : slots ≤ ks) (hq : Q (some w') T.heap locs) : own_W p e below (own_Post s Q kc ks) T m pc Ls (w :: S) := by
  subst hw
  obtain ⟨fs, hr, hrun, hended, hW, hsame⟩ := X.leave (v := some w') (fun h => by rw [hret] at h; cases h) hlk
  refine ⟨_, _, ?_, hrun, hended, _, _, rfl, hq, ⟨_, rfl⟩, hW, hsame.mono hc hs⟩
  have hm' : T.vm.method? m = some meth := X.method'
  show Steps p.tables e below (T.setTop { method := m, pc := pc, locals := Ls, stack := _ :: S, locked := none }) _
  rcases ht with rfl | rfl | rfl | rfl | rfl
  all_goals
    jvm_step X.here [X.here.top, hx, hd, hm', hret, hn]
    first | (intro acts; rw [hr _ acts rfl rfl rfl]) | rw [hr _ _ rfl rfl rfl]
    exact Steps.refl _
theorem own_retJ (X : Stand p l e R s m args below meth c T locs cells slots) (hx : p.tables.exec = Jvm.exec) (hlk : meth.locks = false) {z : Int64} (hret : meth.sig.returnType = some .long) (hd : decode c.code pc = .ok (.lreturn, 1)) (hc : cells ≤ kc) (hs : slots ≤ ks) (hq : Q (some (.long z)) T.heap locs) : own_W p e below (own_Post s Q kc ks) T m pc Ls (.long z :: S) := by
  obtain ⟨fs, hr, hrun, hended, hW, hsame⟩ := X.leave (v := some (.long z)) (fun h => by rw [hret] at h; cases h) hlk
  exact ⟨_, _, retOut X hx hret rfl (Or.inr (Or.inl ⟨rfl, rfl, z, rfl⟩)) hd hr, hrun, hended, _, _, rfl, hq, ⟨_, rfl⟩, hW, hsame.mono hc hs⟩
theorem own_retA (X : Stand p l e R s m args below meth c T locs cells slots) (hx : p.tables.exec = Jvm.exec) (hlk : meth.locks = false) {t : FieldType} {w : Value} (hret : meth.sig.returnType = some t) (hd : decode c.code pc = .ok (.areturn, 1)) (ht : t.isReference = true) (hw : w.isRef = true) (hn : narrow t w = w) (hc : cells ≤ kc) (hs : slots ≤ ks) (hq : Q (some w) T.heap locs) : own_W p e below (own_Post s Q kc ks) T m pc Ls (w :: S) := by
  obtain ⟨fs, hr, hrun, hended, hW, hsame⟩ := X.leave (v := some w) (fun h => by rw [hret] at h; cases h) hlk
  exact ⟨_, _, retOut X hx hret hn (Or.inr (Or.inr (Or.inr (Or.inr ⟨rfl, ht, hw⟩)))) hd hr, hrun, hended, _, _, rfl, hq, ⟨_, rfl⟩, hW, hsame.mono hc hs⟩
theorem own_ret0 (X : Stand p l e R s m args below meth c T locs cells slots) (hx : p.tables.exec = Jvm.exec) (hlk : meth.locks = false) (hret : meth.sig.returnType = none) (hd : decode c.code pc = .ok (.return_, 1)) (hc : cells ≤ kc) (hs : slots ≤ ks) (hq : Q none T.heap locs) : own_W p e below (own_Post s Q kc ks) T m pc Ls [] := by
  obtain ⟨fs, hr, hrun, hended, hW, hsame⟩ := X.leave (v := none) (fun _ => rfl) hlk
  exact ⟨_, _, X.returnOut hx hret hd hr, hrun, hended, _, _, rfl, hq, ⟨_, rfl⟩, hW, hsame.mono hc hs⟩
end OwnKit
section OwnKit2
variable {p : Program} {l : Launch} {e : Env} {R : Room} {s : State} {m : MethodId} {args : Array Value} {below : List Frame} {meth : Method} {c : Code} {T : State} {locs : List Loc} {cells slots : Nat} {Z : State} {a0 : Array Value} {h : Heap}
  {P : Outcome → State → Prop} {Q : Option Value → Heap → List Loc → Prop} {kc ks : Nat} {pc pc' : Nat} {Ls Ls' : Array Slot} {S : List Value}
theorem own_newarrE (X : Stand p l e R s m args below meth c T locs cells slots) (hx : p.tables.exec = Jvm.exec) (hZ : Z.Warmed39 s.vm) {aty : ArrayType} (w : (Cond.arrayClass (newarray.typeOf aty)).before a0 Z = true) (eT : T.heap = h) (hd : decode c.code pc = .ok (.newarray aty, 2)) (hp : pc + 2 = pc') {n : Int32}
    (hn : ¬ n < 0) (cap : Nat) (hcap : n.toNatClampNeg ≤ cap) (hb : cap * 8 ≤ 536870912) {cells' slots' : Nat} (hc' : cells + 1 = cells') (hs' : slots + cap = slots') (hc : cells' ≤ R.cells) (hl : slots' ≤ R.slots) {ad : String} (had : "[" ++ (newarray.typeOf aty).toString = ad)
    (K : ∀ T' h' cA a, Stand p l e R s m args below meth c T' locs cells' slots' → T'.heap = h' → Ext h h' → a = h.size → Exa Z h' a ad → Arv Z h' a cA (newarray.typeOf aty) n [] (defaultValue (newarray.typeOf aty)) → own_W p e below P T' m pc' Ls (.ref a :: S)) : own_W p e below P T m pc Ls (.int n :: S) := by
  subst hp hc' hs'
  obtain ⟨T', h', cA, X', e', E', A', Ea, st⟩ := newPE X hx hZ w eT (g := mkF m pc Ls (.int n :: S)) rfl hd rfl hn hcap hb hc hl had
  exact own_go st (K T' h' cA _ X' e' E' rfl Ea (Arv.new A' hn))
theorem own_clone (X : Stand p l e R s m args below meth c T locs cells slots) (hx : p.tables.exec = Jvm.exec) (hZ : Z.Warmed39 s.vm) {own ad : String} {index : Nat} (hown : s.vm.findClass own = some m.cls)
    (w1 : (Cond.methodLink own index ⟨ad, "clone", "()Ljava/lang/Object;"⟩).before a0 Z = true) (w2 : (Cond.sameMethod ad "java/lang/Object" "clone" "()Ljava/lang/Object;").before a0 Z = true) (w3 : (Cond.native ⟨"java/lang/Object", "clone", "()Ljava/lang/Object;"⟩).before a0 Z = true)
    (w4 : (Cond.instanceMethod ⟨"java/lang/Object", "clone", "()Ljava/lang/Object;"⟩).before a0 Z = true) (w5 : (Cond.selects ad ⟨ad, "clone", "()Ljava/lang/Object;"⟩ ⟨"java/lang/Object", "clone", "()Ljava/lang/Object;"⟩).before a0 Z = true) (w6 : (Cond.castable ad "java/lang/Cloneable").before a0 Z = true)
    (eT : T.heap = h) {a : Addr} {k : ClassId} {ty : FieldType} {z : Int32} {vs : List Value} {dv : Value} (F : Arv Z h a k ty z vs dv) (E : Exa Z h a ad) (hsize : Ls.size = c.maxLocals) (hd : decode c.code pc = .ok (.invokevirtual index, 3)) (hp : pc + 3 = pc')
    (hf : 1 ≤ R.frames) {W : Nat} (cap : Nat) (hW : 2 * 0 + (S.map fun v => v.category).sum ≤ W) (hlo : W + 14 ≤ R.locals) (hcap : z.toNatClampNeg ≤ cap) {cells' slots' : Nat} (hc' : cells + 1 = cells') (hs' : slots + cap = slots') (hc : cells' ≤ R.cells) (hl : slots' ≤ R.slots)
    (K : ∀ T' h' b, Stand p l e R s m args below meth c T' locs cells' slots' → T'.heap = h' → Ext h h' → b = h.size → Arv Z h' b k ty z vs dv → Exa Z h' b ad → own_W p e below P T' m pc' Ls (.ref b :: S)) : own_W p e below P T m pc Ls (.ref a :: S) := by
  subst hp hc' hs'
  obtain ⟨T', h', X', e', E', A', Ea, st⟩ := cloneH X hx hZ hown w1 w2 w3 w4 w5 w6 eT F.arh E (g := mkF m pc Ls (.ref a :: S)) rfl hsize rfl hd hf (W := W) hW hlo hcap hc hl
  exact own_go st (K T' h' _ X' e' E' rfl A' Ea)
theorem own_grid (X : Stand p l e R s m args below meth c T locs cells slots) (hx : p.tables.exec = Jvm.exec) (hZ : Z.Warmed39 s.vm) {own C ad : String} {ty : FieldType} {index : Nat} (hown : s.vm.findClass own = some m.cls) (hC : (FieldType.array ty).toString = C) (had : "[" ++ C = ad)
    (w1 : (Cond.classLink own index ad).before a0 Z = true) (w2 : (Cond.arrayOver (.array ty)).before a0 Z = true) (w3 : (Cond.arrayClass ty).before a0 Z = true) (eT : T.heap = h) (hd : decode c.code pc = .ok (.multianewarray index 2, 4)) (hp : pc + 4 = pc') {n k : Int32}
    (hn : ¬ n < 0) (hk : ¬ k < 0) (N cap : Nat) (hN : n.toNatClampNeg = N) (hcap : k.toNatClampNeg ≤ cap) (hb : cap * 8 ≤ 536870912) (hb1 : N ≤ 1000) (hdf : fits ty (defaultValue ty) = true) (hdd : (defaultValue ty).isDefault = true) {cells' slots' : Nat} (hc' : cells + (1 + N) = cells') (hs' : slots + (N + N * cap) = slots') (hc : cells' ≤ R.cells) (hl : slots' ≤ R.slots)
    (K : ∀ T' h' cA comp a xs, Stand p l e R s m args below meth c T' locs cells' slots' → T'.heap = h' → Ext h h' → a = h.size → xs = (List.range N).map (fun j => h.size + 1 + j) → Arv Z h' a cA (.array ty) n (xs.map .ref) .null → Exa Z h' a ad → (∀ (j : Nat) (x : Addr), xs[j]? = some x → Arv Z h' x comp ty k [] (defaultValue ty) ∧ Exa Z h' x C) → own_W p e below P T' m pc' Ls (.ref a :: S)) : own_W p e below P T m pc Ls (.int k :: .int n :: S) := by
  subst hp hc' hs'
  obtain ⟨T', h', cA, comp, X', e', E', A', -, Ea, Hx, st⟩ := gridM X hx hZ hown hC had w1 w2 w3 eT (g := mkF m pc Ls (.int k :: .int n :: S)) rfl hd rfl hn hk hN rfl hcap hb hb1 hdf hdd hc hl
  exact own_go st (K T' h' cA comp _ _ X' e' E' rfl rfl A' Ea fun j x q => ⟨Arv.new (Hx j x q).1 hk, (Hx j x q).2⟩)
theorem own_gridW (X : Stand p l e R s m args below meth c T locs cells slots) (hx : p.tables.exec = Jvm.exec) (hZ : Z.Warmed39 s.vm) {own C ad : String} {ty : FieldType} {index : Nat} (hown : s.vm.findClass own = some m.cls) (hC : (FieldType.array ty).toString = C) (had : "[" ++ C = ad)
    (w1 : (Cond.classLink own index ad).before a0 Z = true) (w2 : (Cond.arrayOver (.array ty)).before a0 Z = true) (w3 : (Cond.arrayClass ty).before a0 Z = true) (eT : T.heap = h) (hd : decode c.code pc = .ok (.multianewarray index 2, 4)) (hp : pc + 4 = pc') {n k : Int32}
    (hn : ¬ n < 0) (hk : ¬ k < 0) (N cap : Nat) (hN : n.toNatClampNeg ≤ N) (hcap : k.toNatClampNeg ≤ cap) (hb : cap * 8 ≤ 536870912) (hb1 : N ≤ 1000) (hdf : fits ty (defaultValue ty) = true) (hdd : (defaultValue ty).isDefault = true) {cells' slots' : Nat} (hc' : cells + (1 + N) = cells') (hs' : slots + (N + N * cap) = slots') (hc : cells' ≤ R.cells) (hl : slots' ≤ R.slots)
    (K : ∀ T' h' a, Stand p l e R s m args below meth c T' locs cells' slots' → T'.heap = h' → Ext h h' → a = h.size → own_W p e below P T' m pc' Ls (.ref a :: S)) : own_W p e below P T m pc Ls (.int k :: .int n :: S) := by
  subst hp hc' hs'
  have hm : n.toNatClampNeg * cap ≤ N * cap := Nat.mul_le_mul hN (Nat.le_refl _)
  obtain ⟨T', h', cA, comp, X', e', E', A', -, Ea, Hx, st⟩ := gridM X hx hZ hown hC had w1 w2 w3 eT (g := mkF m pc Ls (.int k :: .int n :: S)) rfl hd rfl hn hk rfl rfl hcap hb (by omega) hdf hdd (by omega) (by omega)
  exact own_go st (K T' h' _ (X'.more (by omega) (by omega)) e' E' rfl)
end OwnKit2
def own_find (q : Int32) : List Int32 → Int32 → Int32
  | [], _ => -1
  | x :: r, i => if x = q then i else own_find q r (i + 1)
theorem own_n5 (sel : Int32) : (sel &&& 7) % 5 = (0 : Int32) ∨ (sel &&& 7) % 5 = (1 : Int32) ∨ (sel &&& 7) % 5 = (2 : Int32) ∨ (sel &&& 7) % 5 = (3 : Int32) ∨ (sel &&& 7) % 5 = (4 : Int32) := by
  have q := c_mask sel 7 3 (by decide) (by decide)
  have r := (c_irem (sel &&& 7) 5 5 (by decide)).1 (by rw [q]; omega)
  have e0 : (0 : Int32).toInt = 0 := by decide
  have e1 : (1 : Int32).toInt = 1 := by decide
  have e2 : (2 : Int32).toInt = 2 := by decide
  have e3 : (3 : Int32).toInt = 3 := by decide
  have e4 : (4 : Int32).toInt = 4 := by decide
  simp only [← Int32.toInt_inj, e0, e1, e2, e3, e4]
  omega
theorem own_d_prog_105_method_1_code_0 : decode prog_105_method_1_code 0 = .ok (.aload_n 0, 1) := by decide +kernel
theorem own_d_prog_105_method_1_code_1 : decode prog_105_method_1_code 1 = .ok (.invokespecial 1, 3) := by decide +kernel
theorem own_d_prog_105_method_1_code_4 : decode prog_105_method_1_code 4 = .ok (.iload_n 2, 1) := by decide +kernel
theorem own_d_prog_105_method_1_code_5 : decode prog_105_method_1_code 5 = .ok (.iconst 1, 1) := by decide +kernel
theorem own_d_prog_105_method_1_code_6 : decode prog_105_method_1_code 6 = .ok (.if_icmp .ge 17, 3) := by decide +kernel
theorem own_d_prog_105_method_1_code_23 : decode prog_105_method_1_code 23 = .ok (.aload_n 0, 1) := by decide +kernel
theorem own_d_prog_105_method_1_code_24 : decode prog_105_method_1_code 24 = .ok (.aload_n 1, 1) := by decide +kernel
theorem own_d_prog_105_method_1_code_25 : decode prog_105_method_1_code 25 = .ok (.invokevirtual 16, 3) := by decide +kernel
theorem own_d_prog_105_method_1_code_28 : decode prog_105_method_1_code 28 = .ok (.checkcast 17, 3) := by decide +kernel
theorem own_d_prog_105_method_1_code_31 : decode prog_105_method_1_code 31 = .ok (.putfield 22, 3) := by decide +kernel
theorem own_d_prog_105_method_1_code_34 : decode prog_105_method_1_code 34 = .ok (.aload_n 0, 1) := by decide +kernel
theorem own_d_prog_105_method_1_code_35 : decode prog_105_method_1_code 35 = .ok (.iload_n 2, 1) := by decide +kernel
theorem own_d_prog_105_method_1_code_36 : decode prog_105_method_1_code 36 = .ok (.newarray .long, 2) := by decide +kernel
theorem own_d_prog_105_method_1_code_38 : decode prog_105_method_1_code 38 = .ok (.putfield 27, 3) := by decide +kernel
theorem own_d_prog_105_method_1_code_41 : decode prog_105_method_1_code 41 = .ok (.aload_n 0, 1) := by decide +kernel
theorem own_d_prog_105_method_1_code_42 : decode prog_105_method_1_code 42 = .ok (.aload_n 1, 1) := by decide +kernel
theorem own_d_prog_105_method_1_code_43 : decode prog_105_method_1_code 43 = .ok (.arraylength, 1) := by decide +kernel
theorem own_d_prog_105_method_1_code_44 : decode prog_105_method_1_code 44 = .ok (.iload_n 2, 1) := by decide +kernel
theorem own_d_prog_105_method_1_code_45 : decode prog_105_method_1_code 45 = .ok (.multianewarray 31 2, 4) := by decide +kernel
theorem own_d_prog_105_method_1_code_49 : decode prog_105_method_1_code 49 = .ok (.putfield 33, 3) := by decide +kernel
theorem own_d_prog_105_method_1_code_52 : decode prog_105_method_1_code 52 = .ok (.aload_n 0, 1) := by decide +kernel
theorem own_d_prog_105_method_1_code_53 : decode prog_105_method_1_code 53 = .ok (.aload_n 1, 1) := by decide +kernel
theorem own_d_prog_105_method_1_code_54 : decode prog_105_method_1_code 54 = .ok (.arraylength, 1) := by decide +kernel
theorem own_d_prog_105_method_1_code_55 : decode prog_105_method_1_code 55 = .ok (.iload_n 2, 1) := by decide +kernel
theorem own_d_prog_105_method_1_code_56 : decode prog_105_method_1_code 56 = .ok (.multianewarray 36 2, 4) := by decide +kernel
theorem own_d_prog_105_method_1_code_60 : decode prog_105_method_1_code 60 = .ok (.putfield 38, 3) := by decide +kernel
theorem own_d_prog_105_method_1_code_63 : decode prog_105_method_1_code 63 = .ok (.return_, 1) := by decide +kernel
theorem own_pn_com_example_latchwork_latchwork_storage_ColumnBatch : plainName "com/example/latchwork/latchwork/storage/ColumnBatch" = true := by first | (simp [plainName, overriddenIn]; done) | decide +kernel
theorem ef_init (m : MethodId) (x0 : Addr) (x1 : Addr) (x2 : Int32) : entryFrame m #[(.ref x0), (.ref x1), (.int x2)] 3 = mkF m 0 #[.val (.ref x0), .val (.ref x1), .val (.int x2)] [] := by first | (simp [entryFrame, mkF, argsToLocals, Value.category]; done) | rfl
def Q_init (Z : State) (a1 a2 : Addr) (k2 : ClassId) (nn : Int32) (vs : List Value) (h0 : Heap) (n0 : Nat) (v : Option Value) (h : Heap) (L : List Loc) : Prop := v = none ∧ Fr n0 L ∧ Keep h0 h [a1] ∧ ∃ b : Addr, h0.size ≤ b ∧ Fld Z h a1 "com/example/latchwork/latchwork/storage/ColumnBatch" "columns" "[I" (.ref b) ∧ Arv Z h b k2 .int nn vs (.int (0 : Int32))
set_option maxRecDepth 65536 in
set_option maxHeartbeats 40000000 in
theorem rm_init (l : Launch) (Z : State) (a0 : Array Value) (hw : ∀ d ∈ tables_1, d.before a0 Z = true) (ws : List Jvm.Cond) (a1 a2 : Addr) (k2 : ClassId) (nn : Int32) (vs : List Value) (h0 : Heap) (n0 : Nat) (Z0 : n0 ≤ h0.size) (u_columns u_stamps u_values u_nulls : Value) (E_a1 : Exa Z h0 a1 "com/example/latchwork/latchwork/storage/ColumnBatch") (F_columns : Fld Z h0 a1 "com/example/latchwork/latchwork/storage/ColumnBatch" "columns" "[I" u_columns) (F_stamps : Fld Z h0 a1 "com/example/latchwork/latchwork/storage/ColumnBatch" "stamps" "[J" u_stamps) (F_values : Fld Z h0 a1 "com/example/latchwork/latchwork/storage/ColumnBatch" "values" "[[J" u_values) (F_nulls : Fld Z h0 a1 "com/example/latchwork/latchwork/storage/ColumnBatch" "nulls" "[[Z" u_nulls) (E_a2 : Exa Z h0 a2 "[I") (A_a2 : Arv Z h0 a2 k2 .int nn vs (.int (0 : Int32))) (ne12 : a1 ≠ a2) (hn0 : ¬ nn < 0) (hn4 : nn.toNatClampNeg ≤ 4) (z_a1 : n0 ≤ a1) :
    MetFree l (⟨"com/example/latchwork/latchwork/storage/ColumnBatch", "<init>", "([II)V"⟩ : MethodName) (head1 (Jvm.Cond.code (⟨"com/example/latchwork/latchwork/storage/ColumnBatch", "<init>", "([II)V"⟩ : MethodName) prog_105_method_1_code 3 none :: ws) ({ frames := 1, cells := 12, slots := 21, locals := 15 } : Room)) (fun a U => a = #[(.ref a1), (.ref a2), (.int (1 : Int32))] ∧ Z.Warmed39 U.vm ∧ U.heap = h0) (fun _ _ _ _ _ => True) (fun _ U o U' => ∃ v L, o = .returned v ∧ Q_init Z a1 a2 k2 nn vs h0 n0 v U'.heap L ∧ FrameEnd U o U' L ({ frames := 1, cells := 12, slots := 21, locals := 15 } : Room).cells ({ frames := 1, cells := 12, slots := 21, locals := 15 } : Room).slots) := by
  refine MetFree.of_bodySF (plainFor_of_name own_pn_com_example_latchwork_latchwork_storage_ColumnBatch) hisR ?_
  intro p e s m args below meth c s₁ Bd hml0 hP hK
  obtain ⟨rfl, hZ, hh⟩ := hP
  have hx := Bd.exec
  have hby := Bd.bytes
  have hml : c.maxLocals = 3 := hml0
  have hown : s.vm.findClass "com/example/latchwork/latchwork/storage/ColumnBatch" = some m.cls := findClass_of_methodNamed Bd.named
  have hnm := (name_of_methodNamed Bd.named Bd.method).1
  have hlk := Bd.notSynchronized
  obtain ⟨lc, hlc⟩ : ∃ lc : List Loc, lc = [] := ⟨_, rfl⟩
  have X : Stand p l e ({ frames := 1, cells := 12, slots := 21, locals := 15 } : Room) s m #[(.ref a1), (.ref a2), (.int (1 : Int32))] below meth c s₁ lc 0 0 := hlc ▸ Stand.of_body Bd
  have eT : s₁.heap = h0 := by rw [← hh, Bd.state]; rfl
  have N : Fr n0 lc := hlc ▸ Fr.nil n0
  refine own_enter (ef_init m a1 a2 (1 : Int32)) ?_
  obtain ⟨T, hT⟩ : ∃ T : State, T = s₁ := ⟨_, rfl⟩
  rw [← hT] at X eT ⊢
  show own_W p e below (own_Post s (Q_init Z a1 a2 k2 nn vs h0 n0) 12 21) T m 0 #[.val (.ref a1), .val (.ref a2), .val (.int (1 : Int32))] []
  have Kp : Keep h0 h0 [a1] := Keep.refl _ _
  refine own_aloadN X hx (hb hby own_d_prog_105_method_1_code_0) (pc' := 1) rfl rfl rfl ?_
  refine own_initO X hx hZ hown (own_w hw 7 rfl) (own_w hw 8 rfl) (own_w hw 9 rfl) eT (by rw [hml]; rfl) (hb hby own_d_prog_105_method_1_code_1) (pc' := 4) rfl (by decide) (W := 0) (Nat.le_of_eq rfl) (by decide) ?_
  intro T X eT
  refine own_iloadN X hx (hb hby own_d_prog_105_method_1_code_4) (pc' := 5) rfl rfl ?_
  refine own_iconst X hx (1 : Int32) (hb hby own_d_prog_105_method_1_code_5) (pc' := 6) rfl rfl ?_
  refine own_icmpY X hx (hb hby own_d_prog_105_method_1_code_6) (by decide) (pc' := 23) rfl (show ¬ ((1 : Int32) < (1 : Int32)) from (by decide)) ?_
  refine own_aloadN X hx (hb hby own_d_prog_105_method_1_code_23) (pc' := 24) rfl rfl rfl ?_
  refine own_aloadN X hx (hb hby own_d_prog_105_method_1_code_24) (pc' := 25) rfl rfl rfl ?_
  refine own_clone X hx hZ hown (own_w hw 10 rfl) (own_w hw 11 rfl) (own_w hw 15 rfl) (own_w hw 13 rfl) (own_w hw 14 rfl) (own_w hw 16 rfl) eT A_a2 E_a2 (by rw [hml]; rfl) (hb hby own_d_prog_105_method_1_code_25) (pc' := 28) rfl (by decide) (W := 1) 4 (Nat.le_of_eq rfl) (by decide) hn4 (cells' := 1) (slots' := 4) rfl rfl (by decide) (by decide) ?_
  intro T h1 b1 X eT E gb1 A_b1 E_b1
  have lt_a1_b1 : a1 < b1 := Nat.lt_of_lt_of_le E_a1.lt (Nat.le_of_eq gb1.symm)
  have ne_a1_b1 : a1 ≠ b1 := Nat.ne_of_lt lt_a1_b1
  have lt_a2_b1 : a2 < b1 := Nat.lt_of_lt_of_le E_a2.lt (Nat.le_of_eq gb1.symm)
  have ne_a2_b1 : a2 ≠ b1 := Nat.ne_of_lt lt_a2_b1
  have z_b1 : n0 ≤ b1 := Nat.le_trans Z0 (Nat.le_of_eq gb1.symm)
  have s_b1 : h0.size ≤ b1 := Nat.le_trans Kp.1 (Nat.le_of_eq gb1.symm)
  have E_a1 := E_a1.ext E
  have E_a2 := E_a2.ext E
  have A_a2 := A_a2.ext E
  have F_columns := F_columns.ext E
  have F_stamps := F_stamps.ext E
  have F_values := F_values.ext E
  have F_nulls := F_nulls.ext E
  have Z0 := Nat.le_trans Z0 E.1
  have Kp := Kp.ext E
  refine own_cast X hx hZ hown (own_w hw 17 rfl) eT E_b1 (hb hby own_d_prog_105_method_1_code_28) (pc' := 31) rfl ?_
  intro T X eT
  refine own_putF X hx hZ hown (own_w hw 19 rfl) Via.refl eT F_columns E_a1 (Or.inr ⟨(own_w hw 20 rfl), rfl, hnm⟩) (own_w hw 2 rfl) (ty := (.array .int)) (v' := (.ref b1)) (by decide) rfl rfl (hb hby own_d_prog_105_method_1_code_31) (pc' := 34) rfl ?_
  intro T h2 lc X eT Wq fN
  have F_columns := F_columns.same Wq
  have E_a1 := E_a1.wr Wq
  have E_a2 := E_a2.wr Wq
  have A_a2 := A_a2.other Wq (Ne.symm ne12)
  have F_stamps := F_stamps.other Wq (Or.inr (slot_ne (Or.inr (own_w hw 23 rfl)) (Or.inr (own_w hw 20 rfl)) (by decide) (t := (.array .long)) (t' := (.array .int)) (by decide) (by decide)))
  have F_values := F_values.other Wq (Or.inr (slot_ne (Or.inr (own_w hw 27 rfl)) (Or.inr (own_w hw 20 rfl)) (by decide) (t := (.array (.array .long))) (t' := (.array .int)) (by decide) (by decide)))
  have F_nulls := F_nulls.other Wq (Or.inr (slot_ne (Or.inr (own_w hw 32 rfl)) (Or.inr (own_w hw 20 rfl)) (by decide) (t := (.array (.array .boolean))) (t' := (.array .int)) (by decide) (by decide)))
  have E_b1 := E_b1.wr Wq
  have A_b1 := A_b1.other Wq (Ne.symm ne_a1_b1)
  have Z0 := Nat.le_trans Z0 (Keep.of_wr Wq).1
  have N := fN _ z_a1 N
  have Kp := Kp.wr Wq (Or.inl (List.mem_of_getElem? (i := 0) rfl))
  refine own_aloadN X hx (hb hby own_d_prog_105_method_1_code_34) (pc' := 35) rfl rfl rfl ?_
  refine own_iloadN X hx (hb hby own_d_prog_105_method_1_code_35) (pc' := 36) rfl rfl ?_
  refine own_newarr X hx hZ (own_w hw 21 rfl) eT (hb hby own_d_prog_105_method_1_code_36) (pc' := 38) rfl (by decide) 1 (by decide) (by decide) (cells' := 2) (slots' := 5) rfl rfl (by decide) (by decide) ?_
  intro T h3 k_b3 b3 X eT E gb3 A_b3
  have lt_a1_b3 : a1 < b3 := Nat.lt_of_lt_of_le E_a1.lt (Nat.le_of_eq gb3.symm)
  have ne_a1_b3 : a1 ≠ b3 := Nat.ne_of_lt lt_a1_b3
  have lt_a2_b3 : a2 < b3 := Nat.lt_of_lt_of_le E_a2.lt (Nat.le_of_eq gb3.symm)
  have ne_a2_b3 : a2 ≠ b3 := Nat.ne_of_lt lt_a2_b3
  have lt_b1_b3 : b1 < b3 := Nat.lt_of_lt_of_le E_b1.lt (Nat.le_of_eq gb3.symm)
  have ne_b1_b3 : b1 ≠ b3 := Nat.ne_of_lt lt_b1_b3
  have z_b3 : n0 ≤ b3 := Nat.le_trans Z0 (Nat.le_of_eq gb3.symm)
  have s_b3 : h0.size ≤ b3 := Nat.le_trans Kp.1 (Nat.le_of_eq gb3.symm)
  have E_a1 := E_a1.ext E
  have E_a2 := E_a2.ext E
  have A_a2 := A_a2.ext E
  have F_stamps := F_stamps.ext E
  have F_values := F_values.ext E
  have F_nulls := F_nulls.ext E
  have E_b1 := E_b1.ext E
  have A_b1 := A_b1.ext E
  have F_columns := F_columns.ext E
  have Z0 := Nat.le_trans Z0 E.1
  have Kp := Kp.ext E
  have A_b3 : Arv Z h3 b3 k_b3 .long (1 : Int32) [] (.long (0 : Int64)) := A_b3.pad (pad_rep [] (.long (0 : Int64)) 0)
  refine own_putF X hx hZ hown (own_w hw 22 rfl) Via.refl eT F_stamps E_a1 (Or.inr ⟨(own_w hw 23 rfl), rfl, hnm⟩) (own_w hw 2 rfl) (ty := (.array .long)) (v' := (.ref b3)) (by decide) rfl rfl (hb hby own_d_prog_105_method_1_code_38) (pc' := 41) rfl ?_
  intro T h4 lc X eT Wq fN
  have F_stamps := F_stamps.same Wq
  have E_a1 := E_a1.wr Wq
  have E_a2 := E_a2.wr Wq
  have A_a2 := A_a2.other Wq (Ne.symm ne12)
  have F_values := F_values.other Wq (Or.inr (slot_ne (Or.inr (own_w hw 27 rfl)) (Or.inr (own_w hw 23 rfl)) (by decide) (t := (.array (.array .long))) (t' := (.array .long)) (by decide) (by decide)))
  have F_nulls := F_nulls.other Wq (Or.inr (slot_ne (Or.inr (own_w hw 32 rfl)) (Or.inr (own_w hw 23 rfl)) (by decide) (t := (.array (.array .boolean))) (t' := (.array .long)) (by decide) (by decide)))
  have E_b1 := E_b1.wr Wq
  have A_b1 := A_b1.other Wq (Ne.symm ne_a1_b1)
  have F_columns := F_columns.other Wq (Or.inr (slot_ne (Or.inr (own_w hw 20 rfl)) (Or.inr (own_w hw 23 rfl)) (by decide) (t := (.array .int)) (t' := (.array .long)) (by decide) (by decide)))
  have A_b3 := A_b3.other Wq (Ne.symm ne_a1_b3)
  have Z0 := Nat.le_trans Z0 (Keep.of_wr Wq).1
  have N := fN _ z_a1 N
  have Kp := Kp.wr Wq (Or.inl (List.mem_of_getElem? (i := 0) rfl))
  refine own_aloadN X hx (hb hby own_d_prog_105_method_1_code_41) (pc' := 42) rfl rfl rfl ?_
  refine own_aloadN X hx (hb hby own_d_prog_105_method_1_code_42) (pc' := 43) rfl rfl rfl ?_
  refine own_arrlen X hx hZ eT A_a2 (hb hby own_d_prog_105_method_1_code_43) (pc' := 44) rfl ?_
  refine own_iloadN X hx (hb hby own_d_prog_105_method_1_code_44) (pc' := 45) rfl rfl ?_
  refine own_gridW X hx hZ hown (ty := .long) (C := "[J") (ad := "[[J") (by decide) (by decide) (own_w hw 24 rfl) (own_w hw 25 rfl) (own_w hw 21 rfl) eT (hb hby own_d_prog_105_method_1_code_45) (pc' := 49) rfl hn0 (by decide) 4 1 hn4 (by decide) (by decide) (by decide) rfl rfl (cells' := 7) (slots' := 13) rfl rfl (by decide) (by decide) ?_
  intro T h5 b5 X eT E gb5
  have lt_a1_b5 : a1 < b5 := Nat.lt_of_lt_of_le E_a1.lt (Nat.le_of_eq gb5.symm)
  have ne_a1_b5 : a1 ≠ b5 := Nat.ne_of_lt lt_a1_b5
  have lt_a2_b5 : a2 < b5 := Nat.lt_of_lt_of_le E_a2.lt (Nat.le_of_eq gb5.symm)
  have ne_a2_b5 : a2 ≠ b5 := Nat.ne_of_lt lt_a2_b5
  have lt_b1_b5 : b1 < b5 := Nat.lt_of_lt_of_le E_b1.lt (Nat.le_of_eq gb5.symm)
  have ne_b1_b5 : b1 ≠ b5 := Nat.ne_of_lt lt_b1_b5
  have lt_b3_b5 : b3 < b5 := Nat.lt_of_lt_of_le A_b3.lt (Nat.le_of_eq gb5.symm)
  have ne_b3_b5 : b3 ≠ b5 := Nat.ne_of_lt lt_b3_b5
  have z_b5 : n0 ≤ b5 := Nat.le_trans Z0 (Nat.le_of_eq gb5.symm)
  have s_b5 : h0.size ≤ b5 := Nat.le_trans Kp.1 (Nat.le_of_eq gb5.symm)
  have E_a1 := E_a1.ext E
  have E_a2 := E_a2.ext E
  have A_a2 := A_a2.ext E
  have F_values := F_values.ext E
  have F_nulls := F_nulls.ext E
  have E_b1 := E_b1.ext E
  have A_b1 := A_b1.ext E
  have F_columns := F_columns.ext E
  have A_b3 := A_b3.ext E
  have F_stamps := F_stamps.ext E
  have Z0 := Nat.le_trans Z0 E.1
  have Kp := Kp.ext E
  refine own_putF X hx hZ hown (own_w hw 26 rfl) Via.refl eT F_values E_a1 (Or.inr ⟨(own_w hw 27 rfl), rfl, hnm⟩) (own_w hw 2 rfl) (ty := (.array (.array .long))) (v' := (.ref b5)) (by decide) rfl rfl (hb hby own_d_prog_105_method_1_code_49) (pc' := 52) rfl ?_
  intro T h6 lc X eT Wq fN
  have F_values := F_values.same Wq
  have E_a1 := E_a1.wr Wq
  have E_a2 := E_a2.wr Wq
  have A_a2 := A_a2.other Wq (Ne.symm ne12)
  have F_nulls := F_nulls.other Wq (Or.inr (slot_ne (Or.inr (own_w hw 32 rfl)) (Or.inr (own_w hw 27 rfl)) (by decide) (t := (.array (.array .boolean))) (t' := (.array (.array .long))) (by decide) (by decide)))
  have E_b1 := E_b1.wr Wq
  have A_b1 := A_b1.other Wq (Ne.symm ne_a1_b1)
  have F_columns := F_columns.other Wq (Or.inr (slot_ne (Or.inr (own_w hw 20 rfl)) (Or.inr (own_w hw 27 rfl)) (by decide) (t := (.array .int)) (t' := (.array (.array .long))) (by decide) (by decide)))
  have A_b3 := A_b3.other Wq (Ne.symm ne_a1_b3)
  have F_stamps := F_stamps.other Wq (Or.inr (slot_ne (Or.inr (own_w hw 23 rfl)) (Or.inr (own_w hw 27 rfl)) (by decide) (t := (.array .long)) (t' := (.array (.array .long))) (by decide) (by decide)))
  have Z0 := Nat.le_trans Z0 (Keep.of_wr Wq).1
  have N := fN _ z_a1 N
  have Kp := Kp.wr Wq (Or.inl (List.mem_of_getElem? (i := 0) rfl))
  refine own_aloadN X hx (hb hby own_d_prog_105_method_1_code_52) (pc' := 53) rfl rfl rfl ?_
  refine own_aloadN X hx (hb hby own_d_prog_105_method_1_code_53) (pc' := 54) rfl rfl rfl ?_
  refine own_arrlen X hx hZ eT A_a2 (hb hby own_d_prog_105_method_1_code_54) (pc' := 55) rfl ?_
  refine own_iloadN X hx (hb hby own_d_prog_105_method_1_code_55) (pc' := 56) rfl rfl ?_
  refine own_gridW X hx hZ hown (ty := .boolean) (C := "[Z") (ad := "[[Z") (by decide) (by decide) (own_w hw 28 rfl) (own_w hw 29 rfl) (own_w hw 30 rfl) eT (hb hby own_d_prog_105_method_1_code_56) (pc' := 60) rfl hn0 (by decide) 4 1 hn4 (by decide) (by decide) (by decide) rfl rfl (cells' := 12) (slots' := 21) rfl rfl (by decide) (by decide) ?_
  intro T h7 b7 X eT E gb7
  have lt_a1_b7 : a1 < b7 := Nat.lt_of_lt_of_le E_a1.lt (Nat.le_of_eq gb7.symm)
  have ne_a1_b7 : a1 ≠ b7 := Nat.ne_of_lt lt_a1_b7
  have lt_a2_b7 : a2 < b7 := Nat.lt_of_lt_of_le E_a2.lt (Nat.le_of_eq gb7.symm)
  have ne_a2_b7 : a2 ≠ b7 := Nat.ne_of_lt lt_a2_b7
  have lt_b1_b7 : b1 < b7 := Nat.lt_of_lt_of_le E_b1.lt (Nat.le_of_eq gb7.symm)
  have ne_b1_b7 : b1 ≠ b7 := Nat.ne_of_lt lt_b1_b7
  have lt_b3_b7 : b3 < b7 := Nat.lt_of_lt_of_le A_b3.lt (Nat.le_of_eq gb7.symm)
  have ne_b3_b7 : b3 ≠ b7 := Nat.ne_of_lt lt_b3_b7
  have z_b7 : n0 ≤ b7 := Nat.le_trans Z0 (Nat.le_of_eq gb7.symm)
  have s_b7 : h0.size ≤ b7 := Nat.le_trans Kp.1 (Nat.le_of_eq gb7.symm)
  have E_a1 := E_a1.ext E
  have E_a2 := E_a2.ext E
  have A_a2 := A_a2.ext E
  have F_nulls := F_nulls.ext E
  have E_b1 := E_b1.ext E
  have A_b1 := A_b1.ext E
  have F_columns := F_columns.ext E
  have A_b3 := A_b3.ext E
  have F_stamps := F_stamps.ext E
  have F_values := F_values.ext E
  have Z0 := Nat.le_trans Z0 E.1
  have Kp := Kp.ext E
  refine own_putF X hx hZ hown (own_w hw 31 rfl) Via.refl eT F_nulls E_a1 (Or.inr ⟨(own_w hw 32 rfl), rfl, hnm⟩) (own_w hw 2 rfl) (ty := (.array (.array .boolean))) (v' := (.ref b7)) (by decide) rfl rfl (hb hby own_d_prog_105_method_1_code_60) (pc' := 63) rfl ?_
  intro T h8 lc X eT Wq fN
  have F_nulls := F_nulls.same Wq
  have E_a1 := E_a1.wr Wq
  have E_a2 := E_a2.wr Wq
  have A_a2 := A_a2.other Wq (Ne.symm ne12)
  have E_b1 := E_b1.wr Wq
  have A_b1 := A_b1.other Wq (Ne.symm ne_a1_b1)
  have F_columns := F_columns.other Wq (Or.inr (slot_ne (Or.inr (own_w hw 20 rfl)) (Or.inr (own_w hw 32 rfl)) (by decide) (t := (.array .int)) (t' := (.array (.array .boolean))) (by decide) (by decide)))
  have A_b3 := A_b3.other Wq (Ne.symm ne_a1_b3)
  have F_stamps := F_stamps.other Wq (Or.inr (slot_ne (Or.inr (own_w hw 23 rfl)) (Or.inr (own_w hw 32 rfl)) (by decide) (t := (.array .long)) (t' := (.array (.array .boolean))) (by decide) (by decide)))
  have F_values := F_values.other Wq (Or.inr (slot_ne (Or.inr (own_w hw 27 rfl)) (Or.inr (own_w hw 32 rfl)) (by decide) (t := (.array (.array .long))) (t' := (.array (.array .boolean))) (by decide) (by decide)))
  have Z0 := Nat.le_trans Z0 (Keep.of_wr Wq).1
  have N := fN _ z_a1 N
  have Kp := Kp.wr Wq (Or.inl (List.mem_of_getElem? (i := 0) rfl))
  refine own_ret0 X hx hlk Bd.returns (hb hby own_d_prog_105_method_1_code_63) (by decide) (by decide) ?_
  rw [eT]
  exact ⟨rfl, N, Kp, b1, s_b1, F_columns, A_b1⟩
theorem own_d_prog_105_method_5_code_0 : decode prog_105_method_5_code 0 = .ok (.iconst 0, 1) := by decide +kernel
theorem own_d_prog_105_method_5_code_1 : decode prog_105_method_5_code 1 = .ok (.istore_n 2, 1) := by decide +kernel
theorem own_d_prog_105_method_5_code_2 : decode prog_105_method_5_code 2 = .ok (.iload_n 2, 1) := by decide +kernel
theorem own_d_prog_105_method_5_code_3 : decode prog_105_method_5_code 3 = .ok (.aload_n 0, 1) := by decide +kernel
theorem own_d_prog_105_method_5_code_4 : decode prog_105_method_5_code 4 = .ok (.getfield 22, 3) := by decide +kernel
theorem own_d_prog_105_method_5_code_7 : decode prog_105_method_5_code 7 = .ok (.arraylength, 1) := by decide +kernel
theorem own_d_prog_105_method_5_code_8 : decode prog_105_method_5_code 8 = .ok (.if_icmp .ge 21, 3) := by decide +kernel
theorem own_d_prog_105_method_5_code_29 : decode prog_105_method_5_code 29 = .ok (.iconst (-1), 1) := by decide +kernel
theorem own_d_prog_105_method_5_code_30 : decode prog_105_method_5_code 30 = .ok (.ireturn, 1) := by decide +kernel
theorem ef_idx0 (m : MethodId) (x0 : Addr) (x1 : Int32) : entryFrame m #[(.ref x0), (.int x1)] 3 = mkF m 0 #[.val (.ref x0), .val (.int x1), .unset] [] := by first | (simp [entryFrame, mkF, argsToLocals, Value.category]; done) | rfl
def Q_idx0 (Z : State) (a1 b : Addr) (k : ClassId) (qv : Int32) (h0 : Heap) (n0 : Nat) (v : Option Value) (h : Heap) (L : List Loc) : Prop := v = some (.int (own_find qv [] 0)) ∧ Fr n0 L ∧ h = h0
set_option maxRecDepth 65536 in
set_option maxHeartbeats 40000000 in
theorem rm_idx0 (l : Launch) (Z : State) (a0 : Array Value) (hw : ∀ d ∈ tables_1, d.before a0 Z = true) (ws : List Jvm.Cond) (a1 b : Addr) (k : ClassId) (qv : Int32) (h0 : Heap) (n0 : Nat) (Z0 : n0 ≤ h0.size) (F_columns : Fld Z h0 a1 "com/example/latchwork/latchwork/storage/ColumnBatch" "columns" "[I" (.ref b)) (A_b : Arv Z h0 b k .int (0 : Int32) [] (.int (0 : Int32))) :
    MetFree l (⟨"com/example/latchwork/latchwork/storage/ColumnBatch", "indexOf", "(I)I"⟩ : MethodName) (head1 (Jvm.Cond.code (⟨"com/example/latchwork/latchwork/storage/ColumnBatch", "indexOf", "(I)I"⟩ : MethodName) prog_105_method_5_code 3 (some .int) :: ws) ({ frames := 0, cells := 0, slots := 0, locals := 0 } : Room)) (fun a U => a = #[(.ref a1), (.int qv)] ∧ Z.Warmed39 U.vm ∧ U.heap = h0) (fun _ _ _ _ _ => True) (fun _ U o U' => ∃ v L, o = .returned v ∧ Q_idx0 Z a1 b k qv h0 n0 v U'.heap L ∧ FrameEnd U o U' L ({ frames := 0, cells := 0, slots := 0, locals := 0 } : Room).cells ({ frames := 0, cells := 0, slots := 0, locals := 0 } : Room).slots) := by
  refine MetFree.of_bodySF (plainFor_of_name own_pn_com_example_latchwork_latchwork_storage_ColumnBatch) hisR ?_
  intro p e s m args below meth c s₁ Bd hml0 hP hK
  obtain ⟨rfl, hZ, hh⟩ := hP
  have hx := Bd.exec
  have hby := Bd.bytes
  have hml : c.maxLocals = 3 := hml0
  have hown : s.vm.findClass "com/example/latchwork/latchwork/storage/ColumnBatch" = some m.cls := findClass_of_methodNamed Bd.named
  have hnm := (name_of_methodNamed Bd.named Bd.method).1
  have hlk := Bd.notSynchronized
  obtain ⟨lc, hlc⟩ : ∃ lc : List Loc, lc = [] := ⟨_, rfl⟩
  have X : Stand p l e ({ frames := 0, cells := 0, slots := 0, locals := 0 } : Room) s m #[(.ref a1), (.int qv)] below meth c s₁ lc 0 0 := hlc ▸ Stand.of_body Bd
  have eT : s₁.heap = h0 := by rw [← hh, Bd.state]; rfl
  have N : Fr n0 lc := hlc ▸ Fr.nil n0
  refine own_enter (ef_idx0 m a1 qv) ?_
  obtain ⟨T, hT⟩ : ∃ T : State, T = s₁ := ⟨_, rfl⟩
  rw [← hT] at X eT ⊢
  show own_W p e below (own_Post s (Q_idx0 Z a1 b k qv h0 n0) 0 0) T m 0 #[.val (.ref a1), .val (.int qv), .unset] []
  refine own_iconst X hx (0 : Int32) (hb hby own_d_prog_105_method_5_code_0) (pc' := 1) rfl rfl ?_
  refine own_istoreN X hx (hb hby own_d_prog_105_method_5_code_1) (pc' := 2) rfl (Ls' := #[.val (.ref a1), .val (.int qv), .val (.int (0 : Int32))]) rfl ?_
  refine own_iloadN X hx (hb hby own_d_prog_105_method_5_code_2) (pc' := 3) rfl rfl ?_
  refine own_aloadN X hx (hb hby own_d_prog_105_method_5_code_3) (pc' := 4) rfl rfl rfl ?_
  refine own_getF X hx hZ hown (host := "") (Or.inl (own_w hw 19 rfl)) Via.refl eT F_columns (hb hby own_d_prog_105_method_5_code_4) (pc' := 7) rfl ?_
  intro T X eT
  refine own_arrlen X hx hZ eT A_b (hb hby own_d_prog_105_method_5_code_7) (pc' := 8) rfl ?_
  refine own_icmpY X hx (hb hby own_d_prog_105_method_5_code_8) (by decide) (pc' := 29) rfl (show ¬ ((0 : Int32) < (0 : Int32)) from (by decide)) ?_
  refine own_iconst X hx (-1 : Int32) (hb hby own_d_prog_105_method_5_code_29) (pc' := 30) rfl rfl ?_
  refine own_retI X hx hlk (t := .int) (w' := (.int (-1 : Int32))) Bd.returns (hb hby own_d_prog_105_method_5_code_30) rfl rfl (by simp) (by decide) (by decide) ?_
  rw [eT]
  exact ⟨by simp [own_find], N, rfl⟩
theorem own_d_prog_105_method_5_code_11 : decode prog_105_method_5_code 11 = .ok (.aload_n 0, 1) := by decide +kernel
theorem own_d_prog_105_method_5_code_12 : decode prog_105_method_5_code 12 = .ok (.getfield 22, 3) := by decide +kernel
theorem own_d_prog_105_method_5_code_15 : decode prog_105_method_5_code 15 = .ok (.iload_n 2, 1) := by decide +kernel
theorem own_d_prog_105_method_5_code_16 : decode prog_105_method_5_code 16 = .ok (.iaload, 1) := by decide +kernel
theorem own_d_prog_105_method_5_code_17 : decode prog_105_method_5_code 17 = .ok (.iload_n 1, 1) := by decide +kernel
theorem own_d_prog_105_method_5_code_18 : decode prog_105_method_5_code 18 = .ok (.if_icmp .ne 5, 3) := by decide +kernel
theorem own_d_prog_105_method_5_code_23 : decode prog_105_method_5_code 23 = .ok (.iinc 2 1, 3) := by decide +kernel
theorem own_d_prog_105_method_5_code_26 : decode prog_105_method_5_code 26 = .ok (.goto (-24), 3) := by decide +kernel
theorem own_d_prog_105_method_5_code_21 : decode prog_105_method_5_code 21 = .ok (.iload_n 2, 1) := by decide +kernel
theorem own_d_prog_105_method_5_code_22 : decode prog_105_method_5_code 22 = .ok (.ireturn, 1) := by decide +kernel
theorem ef_idx1 (m : MethodId) (x0 : Addr) (x1 : Int32) : entryFrame m #[(.ref x0), (.int x1)] 3 = mkF m 0 #[.val (.ref x0), .val (.int x1), .unset] [] := by first | (simp [entryFrame, mkF, argsToLocals, Value.category]; done) | rfl
def Q_idx1 (Z : State) (a1 b : Addr) (k : ClassId) (qv x0 : Int32) (h0 : Heap) (n0 : Nat) (v : Option Value) (h : Heap) (L : List Loc) : Prop := v = some (.int (own_find qv [x0] 0)) ∧ Fr n0 L ∧ h = h0
set_option maxRecDepth 65536 in
set_option maxHeartbeats 40000000 in
theorem rm_idx1 (l : Launch) (Z : State) (a0 : Array Value) (hw : ∀ d ∈ tables_1, d.before a0 Z = true) (ws : List Jvm.Cond) (a1 b : Addr) (k : ClassId) (qv x0 : Int32) (h0 : Heap) (n0 : Nat) (Z0 : n0 ≤ h0.size) (F_columns : Fld Z h0 a1 "com/example/latchwork/latchwork/storage/ColumnBatch" "columns" "[I" (.ref b)) (A_b : Arv Z h0 b k .int (1 : Int32) [(.int x0)] (.int (0 : Int32))) :
    MetFree l (⟨"com/example/latchwork/latchwork/storage/ColumnBatch", "indexOf", "(I)I"⟩ : MethodName) (head1 (Jvm.Cond.code (⟨"com/example/latchwork/latchwork/storage/ColumnBatch", "indexOf", "(I)I"⟩ : MethodName) prog_105_method_5_code 3 (some .int) :: ws) ({ frames := 0, cells := 0, slots := 0, locals := 0 } : Room)) (fun a U => a = #[(.ref a1), (.int qv)] ∧ Z.Warmed39 U.vm ∧ U.heap = h0) (fun _ _ _ _ _ => True) (fun _ U o U' => ∃ v L, o = .returned v ∧ Q_idx1 Z a1 b k qv x0 h0 n0 v U'.heap L ∧ FrameEnd U o U' L ({ frames := 0, cells := 0, slots := 0, locals := 0 } : Room).cells ({ frames := 0, cells := 0, slots := 0, locals := 0 } : Room).slots) := by
  refine MetFree.of_bodySF (plainFor_of_name own_pn_com_example_latchwork_latchwork_storage_ColumnBatch) hisR ?_
  intro p e s m args below meth c s₁ Bd hml0 hP hK
  obtain ⟨rfl, hZ, hh⟩ := hP
  have hx := Bd.exec
  have hby := Bd.bytes
  have hml : c.maxLocals = 3 := hml0
  have hown : s.vm.findClass "com/example/latchwork/latchwork/storage/ColumnBatch" = some m.cls := findClass_of_methodNamed Bd.named
  have hnm := (name_of_methodNamed Bd.named Bd.method).1
  have hlk := Bd.notSynchronized
  obtain ⟨lc, hlc⟩ : ∃ lc : List Loc, lc = [] := ⟨_, rfl⟩
  have X : Stand p l e ({ frames := 0, cells := 0, slots := 0, locals := 0 } : Room) s m #[(.ref a1), (.int qv)] below meth c s₁ lc 0 0 := hlc ▸ Stand.of_body Bd
  have eT : s₁.heap = h0 := by rw [← hh, Bd.state]; rfl
  have N : Fr n0 lc := hlc ▸ Fr.nil n0
  refine own_enter (ef_idx1 m a1 qv) ?_
  obtain ⟨T, hT⟩ : ∃ T : State, T = s₁ := ⟨_, rfl⟩
  rw [← hT] at X eT ⊢
  show own_W p e below (own_Post s (Q_idx1 Z a1 b k qv x0 h0 n0) 0 0) T m 0 #[.val (.ref a1), .val (.int qv), .unset] []
  refine own_iconst X hx (0 : Int32) (hb hby own_d_prog_105_method_5_code_0) (pc' := 1) rfl rfl ?_
  refine own_istoreN X hx (hb hby own_d_prog_105_method_5_code_1) (pc' := 2) rfl (Ls' := #[.val (.ref a1), .val (.int qv), .val (.int (0 : Int32))]) rfl ?_
  refine own_iloadN X hx (hb hby own_d_prog_105_method_5_code_2) (pc' := 3) rfl rfl ?_
  refine own_aloadN X hx (hb hby own_d_prog_105_method_5_code_3) (pc' := 4) rfl rfl rfl ?_
  refine own_getF X hx hZ hown (host := "") (Or.inl (own_w hw 19 rfl)) Via.refl eT F_columns (hb hby own_d_prog_105_method_5_code_4) (pc' := 7) rfl ?_
  intro T X eT
  refine own_arrlen X hx hZ eT A_b (hb hby own_d_prog_105_method_5_code_7) (pc' := 8) rfl ?_
  refine own_icmpN X hx (hb hby own_d_prog_105_method_5_code_8) (pc' := 11) rfl (show (0 : Int32) < (1 : Int32) from (by decide)) ?_
  refine own_aloadN X hx (hb hby own_d_prog_105_method_5_code_11) (pc' := 12) rfl rfl rfl ?_
  refine own_getF X hx hZ hown (host := "") (Or.inl (own_w hw 19 rfl)) Via.refl eT F_columns (hb hby own_d_prog_105_method_5_code_12) (pc' := 15) rfl ?_
  intro T X eT
  refine own_iloadN X hx (hb hby own_d_prog_105_method_5_code_15) (pc' := 16) rfl rfl ?_
  refine own_iaload X hx hZ eT A_b (v := (.int x0)) (by decide) rfl (hb hby own_d_prog_105_method_5_code_16) (pc' := 17) rfl ?_
  refine own_iloadN X hx (hb hby own_d_prog_105_method_5_code_17) (pc' := 18) rfl rfl ?_
  refine own_icmp X hx (hb hby own_d_prog_105_method_5_code_18) (by decide) (pcY := 23) (pcN := 21) rfl rfl (fun (hc18 : ¬ (x0 = qv)) => ?_) (fun (hc18 : x0 = qv) => ?_)
  · refine own_iinc X hx (1 : Int32) (hb hby own_d_prog_105_method_5_code_23) (pc' := 26) rfl rfl rfl (Ls' := #[.val (.ref a1), .val (.int qv), .val (.int (1 : Int32))]) rfl ?_
    refine own_goto X hx (hb hby own_d_prog_105_method_5_code_26) (by decide) (pc' := 2) rfl ?_
    refine own_iloadN X hx (hb hby own_d_prog_105_method_5_code_2) (pc' := 3) rfl rfl ?_
    refine own_aloadN X hx (hb hby own_d_prog_105_method_5_code_3) (pc' := 4) rfl rfl rfl ?_
    refine own_getF X hx hZ hown (host := "") (Or.inl (own_w hw 19 rfl)) Via.refl eT F_columns (hb hby own_d_prog_105_method_5_code_4) (pc' := 7) rfl ?_
    intro T X eT
    refine own_arrlen X hx hZ eT A_b (hb hby own_d_prog_105_method_5_code_7) (pc' := 8) rfl ?_
    refine own_icmpY X hx (hb hby own_d_prog_105_method_5_code_8) (by decide) (pc' := 29) rfl (show ¬ ((1 : Int32) < (1 : Int32)) from (by decide)) ?_
    refine own_iconst X hx (-1 : Int32) (hb hby own_d_prog_105_method_5_code_29) (pc' := 30) rfl rfl ?_
    refine own_retI X hx hlk (t := .int) (w' := (.int (-1 : Int32))) Bd.returns (hb hby own_d_prog_105_method_5_code_30) rfl rfl (by simp) (by decide) (by decide) ?_
    rw [eT]
    exact ⟨by simp [own_find, hc18], N, rfl⟩
  · refine own_iloadN X hx (hb hby own_d_prog_105_method_5_code_21) (pc' := 22) rfl rfl ?_
    refine own_retI X hx hlk (t := .int) (w' := (.int (0 : Int32))) Bd.returns (hb hby own_d_prog_105_method_5_code_22) rfl rfl (by simp) (by decide) (by decide) ?_
    rw [eT]
    exact ⟨by simp [own_find, hc18], N, rfl⟩
theorem ef_idx2 (m : MethodId) (x0 : Addr) (x1 : Int32) : entryFrame m #[(.ref x0), (.int x1)] 3 = mkF m 0 #[.val (.ref x0), .val (.int x1), .unset] [] := by first | (simp [entryFrame, mkF, argsToLocals, Value.category]; done) | rfl
def Q_idx2 (Z : State) (a1 b : Addr) (k : ClassId) (qv x0 x1 : Int32) (h0 : Heap) (n0 : Nat) (v : Option Value) (h : Heap) (L : List Loc) : Prop := v = some (.int (own_find qv [x0, x1] 0)) ∧ Fr n0 L ∧ h = h0
set_option maxRecDepth 65536 in
set_option maxHeartbeats 40000000 in
theorem rm_idx2 (l : Launch) (Z : State) (a0 : Array Value) (hw : ∀ d ∈ tables_1, d.before a0 Z = true) (ws : List Jvm.Cond) (a1 b : Addr) (k : ClassId) (qv x0 x1 : Int32) (h0 : Heap) (n0 : Nat) (Z0 : n0 ≤ h0.size) (F_columns : Fld Z h0 a1 "com/example/latchwork/latchwork/storage/ColumnBatch" "columns" "[I" (.ref b)) (A_b : Arv Z h0 b k .int (2 : Int32) [(.int x0), (.int x1)] (.int (0 : Int32))) :
    MetFree l (⟨"com/example/latchwork/latchwork/storage/ColumnBatch", "indexOf", "(I)I"⟩ : MethodName) (head1 (Jvm.Cond.code (⟨"com/example/latchwork/latchwork/storage/ColumnBatch", "indexOf", "(I)I"⟩ : MethodName) prog_105_method_5_code 3 (some .int) :: ws) ({ frames := 0, cells := 0, slots := 0, locals := 0 } : Room)) (fun a U => a = #[(.ref a1), (.int qv)] ∧ Z.Warmed39 U.vm ∧ U.heap = h0) (fun _ _ _ _ _ => True) (fun _ U o U' => ∃ v L, o = .returned v ∧ Q_idx2 Z a1 b k qv x0 x1 h0 n0 v U'.heap L ∧ FrameEnd U o U' L ({ frames := 0, cells := 0, slots := 0, locals := 0 } : Room).cells ({ frames := 0, cells := 0, slots := 0, locals := 0 } : Room).slots) := by
  refine MetFree.of_bodySF (plainFor_of_name own_pn_com_example_latchwork_latchwork_storage_ColumnBatch) hisR ?_
  intro p e s m args below meth c s₁ Bd hml0 hP hK
  obtain ⟨rfl, hZ, hh⟩ := hP
  have hx := Bd.exec
  have hby := Bd.bytes
  have hml : c.maxLocals = 3 := hml0
  have hown : s.vm.findClass "com/example/latchwork/latchwork/storage/ColumnBatch" = some m.cls := findClass_of_methodNamed Bd.named
  have hnm := (name_of_methodNamed Bd.named Bd.method).1
  have hlk := Bd.notSynchronized
  obtain ⟨lc, hlc⟩ : ∃ lc : List Loc, lc = [] := ⟨_, rfl⟩
  have X : Stand p l e ({ frames := 0, cells := 0, slots := 0, locals := 0 } : Room) s m #[(.ref a1), (.int qv)] below meth c s₁ lc 0 0 := hlc ▸ Stand.of_body Bd
  have eT : s₁.heap = h0 := by rw [← hh, Bd.state]; rfl
  have N : Fr n0 lc := hlc ▸ Fr.nil n0
  refine own_enter (ef_idx2 m a1 qv) ?_
  obtain ⟨T, hT⟩ : ∃ T : State, T = s₁ := ⟨_, rfl⟩
  rw [← hT] at X eT ⊢
  show own_W p e below (own_Post s (Q_idx2 Z a1 b k qv x0 x1 h0 n0) 0 0) T m 0 #[.val (.ref a1), .val (.int qv), .unset] []
  refine own_iconst X hx (0 : Int32) (hb hby own_d_prog_105_method_5_code_0) (pc' := 1) rfl rfl ?_
  refine own_istoreN X hx (hb hby own_d_prog_105_method_5_code_1) (pc' := 2) rfl (Ls' := #[.val (.ref a1), .val (.int qv), .val (.int (0 : Int32))]) rfl ?_
  refine own_iloadN X hx (hb hby own_d_prog_105_method_5_code_2) (pc' := 3) rfl rfl ?_
  refine own_aloadN X hx (hb hby own_d_prog_105_method_5_code_3) (pc' := 4) rfl rfl rfl ?_
  refine own_getF X hx hZ hown (host := "") (Or.inl (own_w hw 19 rfl)) Via.refl eT F_columns (hb hby own_d_prog_105_method_5_code_4) (pc' := 7) rfl ?_
  intro T X eT
  refine own_arrlen X hx hZ eT A_b (hb hby own_d_prog_105_method_5_code_7) (pc' := 8) rfl ?_
  refine own_icmpN X hx (hb hby own_d_prog_105_method_5_code_8) (pc' := 11) rfl (show (0 : Int32) < (2 : Int32) from (by decide)) ?_
  refine own_aloadN X hx (hb hby own_d_prog_105_method_5_code_11) (pc' := 12) rfl rfl rfl ?_
  refine own_getF X hx hZ hown (host := "") (Or.inl (own_w hw 19 rfl)) Via.refl eT F_columns (hb hby own_d_prog_105_method_5_code_12) (pc' := 15) rfl ?_
  intro T X eT
  refine own_iloadN X hx (hb hby own_d_prog_105_method_5_code_15) (pc' := 16) rfl rfl ?_
  refine own_iaload X hx hZ eT A_b (v := (.int x0)) (by decide) rfl (hb hby own_d_prog_105_method_5_code_16) (pc' := 17) rfl ?_
  refine own_iloadN X hx (hb hby own_d_prog_105_method_5_code_17) (pc' := 18) rfl rfl ?_
  refine own_icmp X hx (hb hby own_d_prog_105_method_5_code_18) (by decide) (pcY := 23) (pcN := 21) rfl rfl (fun (hc18 : ¬ (x0 = qv)) => ?_) (fun (hc18 : x0 = qv) => ?_)
  · refine own_iinc X hx (1 : Int32) (hb hby own_d_prog_105_method_5_code_23) (pc' := 26) rfl rfl rfl (Ls' := #[.val (.ref a1), .val (.int qv), .val (.int (1 : Int32))]) rfl ?_
    refine own_goto X hx (hb hby own_d_prog_105_method_5_code_26) (by decide) (pc' := 2) rfl ?_
    refine own_iloadN X hx (hb hby own_d_prog_105_method_5_code_2) (pc' := 3) rfl rfl ?_
    refine own_aloadN X hx (hb hby own_d_prog_105_method_5_code_3) (pc' := 4) rfl rfl rfl ?_
    refine own_getF X hx hZ hown (host := "") (Or.inl (own_w hw 19 rfl)) Via.refl eT F_columns (hb hby own_d_prog_105_method_5_code_4) (pc' := 7) rfl ?_
    intro T X eT
    refine own_arrlen X hx hZ eT A_b (hb hby own_d_prog_105_method_5_code_7) (pc' := 8) rfl ?_
    refine own_icmpN X hx (hb hby own_d_prog_105_method_5_code_8) (pc' := 11) rfl (show (1 : Int32) < (2 : Int32) from (by decide)) ?_
    refine own_aloadN X hx (hb hby own_d_prog_105_method_5_code_11) (pc' := 12) rfl rfl rfl ?_
    refine own_getF X hx hZ hown (host := "") (Or.inl (own_w hw 19 rfl)) Via.refl eT F_columns (hb hby own_d_prog_105_method_5_code_12) (pc' := 15) rfl ?_
    intro T X eT
    refine own_iloadN X hx (hb hby own_d_prog_105_method_5_code_15) (pc' := 16) rfl rfl ?_
    refine own_iaload X hx hZ eT A_b (v := (.int x1)) (by decide) rfl (hb hby own_d_prog_105_method_5_code_16) (pc' := 17) rfl ?_
    refine own_iloadN X hx (hb hby own_d_prog_105_method_5_code_17) (pc' := 18) rfl rfl ?_
    refine own_icmp X hx (hb hby own_d_prog_105_method_5_code_18) (by decide) (pcY := 23) (pcN := 21) rfl rfl (fun (hc18_2 : ¬ (x1 = qv)) => ?_) (fun (hc18_2 : x1 = qv) => ?_)
    · refine own_iinc X hx (1 : Int32) (hb hby own_d_prog_105_method_5_code_23) (pc' := 26) rfl rfl rfl (Ls' := #[.val (.ref a1), .val (.int qv), .val (.int (2 : Int32))]) rfl ?_
      refine own_goto X hx (hb hby own_d_prog_105_method_5_code_26) (by decide) (pc' := 2) rfl ?_
      refine own_iloadN X hx (hb hby own_d_prog_105_method_5_code_2) (pc' := 3) rfl rfl ?_
      refine own_aloadN X hx (hb hby own_d_prog_105_method_5_code_3) (pc' := 4) rfl rfl rfl ?_
      refine own_getF X hx hZ hown (host := "") (Or.inl (own_w hw 19 rfl)) Via.refl eT F_columns (hb hby own_d_prog_105_method_5_code_4) (pc' := 7) rfl ?_
      intro T X eT
      refine own_arrlen X hx hZ eT A_b (hb hby own_d_prog_105_method_5_code_7) (pc' := 8) rfl ?_
      refine own_icmpY X hx (hb hby own_d_prog_105_method_5_code_8) (by decide) (pc' := 29) rfl (show ¬ ((2 : Int32) < (2 : Int32)) from (by decide)) ?_
      refine own_iconst X hx (-1 : Int32) (hb hby own_d_prog_105_method_5_code_29) (pc' := 30) rfl rfl ?_
      refine own_retI X hx hlk (t := .int) (w' := (.int (-1 : Int32))) Bd.returns (hb hby own_d_prog_105_method_5_code_30) rfl rfl (by simp) (by decide) (by decide) ?_
      rw [eT]
      exact ⟨by simp [own_find, hc18, hc18_2], N, rfl⟩
    · refine own_iloadN X hx (hb hby own_d_prog_105_method_5_code_21) (pc' := 22) rfl rfl ?_
      refine own_retI X hx hlk (t := .int) (w' := (.int (1 : Int32))) Bd.returns (hb hby own_d_prog_105_method_5_code_22) rfl rfl (by simp) (by decide) (by decide) ?_
      rw [eT]
      exact ⟨by simp [own_find, hc18, hc18_2], N, rfl⟩
  · refine own_iloadN X hx (hb hby own_d_prog_105_method_5_code_21) (pc' := 22) rfl rfl ?_
    refine own_retI X hx hlk (t := .int) (w' := (.int (0 : Int32))) Bd.returns (hb hby own_d_prog_105_method_5_code_22) rfl rfl (by simp) (by decide) (by decide) ?_
    rw [eT]
    exact ⟨by simp [own_find, hc18], N, rfl⟩
theorem ef_idx3 (m : MethodId) (x0 : Addr) (x1 : Int32) : entryFrame m #[(.ref x0), (.int x1)] 3 = mkF m 0 #[.val (.ref x0), .val (.int x1), .unset] [] := by first | (simp [entryFrame, mkF, argsToLocals, Value.category]; done) | rfl
def Q_idx3 (Z : State) (a1 b : Addr) (k : ClassId) (qv x0 x1 x2 : Int32) (h0 : Heap) (n0 : Nat) (v : Option Value) (h : Heap) (L : List Loc) : Prop := v = some (.int (own_find qv [x0, x1, x2] 0)) ∧ Fr n0 L ∧ h = h0
set_option maxRecDepth 65536 in
set_option maxHeartbeats 40000000 in
theorem rm_idx3 (l : Launch) (Z : State) (a0 : Array Value) (hw : ∀ d ∈ tables_1, d.before a0 Z = true) (ws : List Jvm.Cond) (a1 b : Addr) (k : ClassId) (qv x0 x1 x2 : Int32) (h0 : Heap) (n0 : Nat) (Z0 : n0 ≤ h0.size) (F_columns : Fld Z h0 a1 "com/example/latchwork/latchwork/storage/ColumnBatch" "columns" "[I" (.ref b)) (A_b : Arv Z h0 b k .int (3 : Int32) [(.int x0), (.int x1), (.int x2)] (.int (0 : Int32))) :
    MetFree l (⟨"com/example/latchwork/latchwork/storage/ColumnBatch", "indexOf", "(I)I"⟩ : MethodName) (head1 (Jvm.Cond.code (⟨"com/example/latchwork/latchwork/storage/ColumnBatch", "indexOf", "(I)I"⟩ : MethodName) prog_105_method_5_code 3 (some .int) :: ws) ({ frames := 0, cells := 0, slots := 0, locals := 0 } : Room)) (fun a U => a = #[(.ref a1), (.int qv)] ∧ Z.Warmed39 U.vm ∧ U.heap = h0) (fun _ _ _ _ _ => True) (fun _ U o U' => ∃ v L, o = .returned v ∧ Q_idx3 Z a1 b k qv x0 x1 x2 h0 n0 v U'.heap L ∧ FrameEnd U o U' L ({ frames := 0, cells := 0, slots := 0, locals := 0 } : Room).cells ({ frames := 0, cells := 0, slots := 0, locals := 0 } : Room).slots) := by
  refine MetFree.of_bodySF (plainFor_of_name own_pn_com_example_latchwork_latchwork_storage_ColumnBatch) hisR ?_
  intro p e s m args below meth c s₁ Bd hml0 hP hK
  obtain ⟨rfl, hZ, hh⟩ := hP
  have hx := Bd.exec
  have hby := Bd.bytes
  have hml : c.maxLocals = 3 := hml0
  have hown : s.vm.findClass "com/example/latchwork/latchwork/storage/ColumnBatch" = some m.cls := findClass_of_methodNamed Bd.named
  have hnm := (name_of_methodNamed Bd.named Bd.method).1
  have hlk := Bd.notSynchronized
  obtain ⟨lc, hlc⟩ : ∃ lc : List Loc, lc = [] := ⟨_, rfl⟩
  have X : Stand p l e ({ frames := 0, cells := 0, slots := 0, locals := 0 } : Room) s m #[(.ref a1), (.int qv)] below meth c s₁ lc 0 0 := hlc ▸ Stand.of_body Bd
  have eT : s₁.heap = h0 := by rw [← hh, Bd.state]; rfl
  have N : Fr n0 lc := hlc ▸ Fr.nil n0
  refine own_enter (ef_idx3 m a1 qv) ?_
  obtain ⟨T, hT⟩ : ∃ T : State, T = s₁ := ⟨_, rfl⟩
  rw [← hT] at X eT ⊢
  show own_W p e below (own_Post s (Q_idx3 Z a1 b k qv x0 x1 x2 h0 n0) 0 0) T m 0 #[.val (.ref a1), .val (.int qv), .unset] []
  refine own_iconst X hx (0 : Int32) (hb hby own_d_prog_105_method_5_code_0) (pc' := 1) rfl rfl ?_
  refine own_istoreN X hx (hb hby own_d_prog_105_method_5_code_1) (pc' := 2) rfl (Ls' := #[.val (.ref a1), .val (.int qv), .val (.int (0 : Int32))]) rfl ?_
  refine own_iloadN X hx (hb hby own_d_prog_105_method_5_code_2) (pc' := 3) rfl rfl ?_
  refine own_aloadN X hx (hb hby own_d_prog_105_method_5_code_3) (pc' := 4) rfl rfl rfl ?_
  refine own_getF X hx hZ hown (host := "") (Or.inl (own_w hw 19 rfl)) Via.refl eT F_columns (hb hby own_d_prog_105_method_5_code_4) (pc' := 7) rfl ?_
  intro T X eT
  refine own_arrlen X hx hZ eT A_b (hb hby own_d_prog_105_method_5_code_7) (pc' := 8) rfl ?_
  refine own_icmpN X hx (hb hby own_d_prog_105_method_5_code_8) (pc' := 11) rfl (show (0 : Int32) < (3 : Int32) from (by decide)) ?_
  refine own_aloadN X hx (hb hby own_d_prog_105_method_5_code_11) (pc' := 12) rfl rfl rfl ?_
  refine own_getF X hx hZ hown (host := "") (Or.inl (own_w hw 19 rfl)) Via.refl eT F_columns (hb hby own_d_prog_105_method_5_code_12) (pc' := 15) rfl ?_
  intro T X eT
  refine own_iloadN X hx (hb hby own_d_prog_105_method_5_code_15) (pc' := 16) rfl rfl ?_
  refine own_iaload X hx hZ eT A_b (v := (.int x0)) (by decide) rfl (hb hby own_d_prog_105_method_5_code_16) (pc' := 17) rfl ?_
  refine own_iloadN X hx (hb hby own_d_prog_105_method_5_code_17) (pc' := 18) rfl rfl ?_
  refine own_icmp X hx (hb hby own_d_prog_105_method_5_code_18) (by decide) (pcY := 23) (pcN := 21) rfl rfl (fun (hc18 : ¬ (x0 = qv)) => ?_) (fun (hc18 : x0 = qv) => ?_)
  · refine own_iinc X hx (1 : Int32) (hb hby own_d_prog_105_method_5_code_23) (pc' := 26) rfl rfl rfl (Ls' := #[.val (.ref a1), .val (.int qv), .val (.int (1 : Int32))]) rfl ?_
    refine own_goto X hx (hb hby own_d_prog_105_method_5_code_26) (by decide) (pc' := 2) rfl ?_
    refine own_iloadN X hx (hb hby own_d_prog_105_method_5_code_2) (pc' := 3) rfl rfl ?_
    refine own_aloadN X hx (hb hby own_d_prog_105_method_5_code_3) (pc' := 4) rfl rfl rfl ?_
    refine own_getF X hx hZ hown (host := "") (Or.inl (own_w hw 19 rfl)) Via.refl eT F_columns (hb hby own_d_prog_105_method_5_code_4) (pc' := 7) rfl ?_
    intro T X eT
    refine own_arrlen X hx hZ eT A_b (hb hby own_d_prog_105_method_5_code_7) (pc' := 8) rfl ?_
    refine own_icmpN X hx (hb hby own_d_prog_105_method_5_code_8) (pc' := 11) rfl (show (1 : Int32) < (3 : Int32) from (by decide)) ?_
    refine own_aloadN X hx (hb hby own_d_prog_105_method_5_code_11) (pc' := 12) rfl rfl rfl ?_
    refine own_getF X hx hZ hown (host := "") (Or.inl (own_w hw 19 rfl)) Via.refl eT F_columns (hb hby own_d_prog_105_method_5_code_12) (pc' := 15) rfl ?_
    intro T X eT
    refine own_iloadN X hx (hb hby own_d_prog_105_method_5_code_15) (pc' := 16) rfl rfl ?_
    refine own_iaload X hx hZ eT A_b (v := (.int x1)) (by decide) rfl (hb hby own_d_prog_105_method_5_code_16) (pc' := 17) rfl ?_
    refine own_iloadN X hx (hb hby own_d_prog_105_method_5_code_17) (pc' := 18) rfl rfl ?_
    refine own_icmp X hx (hb hby own_d_prog_105_method_5_code_18) (by decide) (pcY := 23) (pcN := 21) rfl rfl (fun (hc18_2 : ¬ (x1 = qv)) => ?_) (fun (hc18_2 : x1 = qv) => ?_)
    · refine own_iinc X hx (1 : Int32) (hb hby own_d_prog_105_method_5_code_23) (pc' := 26) rfl rfl rfl (Ls' := #[.val (.ref a1), .val (.int qv), .val (.int (2 : Int32))]) rfl ?_
      refine own_goto X hx (hb hby own_d_prog_105_method_5_code_26) (by decide) (pc' := 2) rfl ?_
      refine own_iloadN X hx (hb hby own_d_prog_105_method_5_code_2) (pc' := 3) rfl rfl ?_
      refine own_aloadN X hx (hb hby own_d_prog_105_method_5_code_3) (pc' := 4) rfl rfl rfl ?_
      refine own_getF X hx hZ hown (host := "") (Or.inl (own_w hw 19 rfl)) Via.refl eT F_columns (hb hby own_d_prog_105_method_5_code_4) (pc' := 7) rfl ?_
      intro T X eT
      refine own_arrlen X hx hZ eT A_b (hb hby own_d_prog_105_method_5_code_7) (pc' := 8) rfl ?_
      refine own_icmpN X hx (hb hby own_d_prog_105_method_5_code_8) (pc' := 11) rfl (show (2 : Int32) < (3 : Int32) from (by decide)) ?_
      refine own_aloadN X hx (hb hby own_d_prog_105_method_5_code_11) (pc' := 12) rfl rfl rfl ?_
      refine own_getF X hx hZ hown (host := "") (Or.inl (own_w hw 19 rfl)) Via.refl eT F_columns (hb hby own_d_prog_105_method_5_code_12) (pc' := 15) rfl ?_
      intro T X eT
      refine own_iloadN X hx (hb hby own_d_prog_105_method_5_code_15) (pc' := 16) rfl rfl ?_
      refine own_iaload X hx hZ eT A_b (v := (.int x2)) (by decide) rfl (hb hby own_d_prog_105_method_5_code_16) (pc' := 17) rfl ?_
      refine own_iloadN X hx (hb hby own_d_prog_105_method_5_code_17) (pc' := 18) rfl rfl ?_
      refine own_icmp X hx (hb hby own_d_prog_105_method_5_code_18) (by decide) (pcY := 23) (pcN := 21) rfl rfl (fun (hc18_3 : ¬ (x2 = qv)) => ?_) (fun (hc18_3 : x2 = qv) => ?_)
      · refine own_iinc X hx (1 : Int32) (hb hby own_d_prog_105_method_5_code_23) (pc' := 26) rfl rfl rfl (Ls' := #[.val (.ref a1), .val (.int qv), .val (.int (3 : Int32))]) rfl ?_
        refine own_goto X hx (hb hby own_d_prog_105_method_5_code_26) (by decide) (pc' := 2) rfl ?_
        refine own_iloadN X hx (hb hby own_d_prog_105_method_5_code_2) (pc' := 3) rfl rfl ?_
        refine own_aloadN X hx (hb hby own_d_prog_105_method_5_code_3) (pc' := 4) rfl rfl rfl ?_
        refine own_getF X hx hZ hown (host := "") (Or.inl (own_w hw 19 rfl)) Via.refl eT F_columns (hb hby own_d_prog_105_method_5_code_4) (pc' := 7) rfl ?_
        intro T X eT
        refine own_arrlen X hx hZ eT A_b (hb hby own_d_prog_105_method_5_code_7) (pc' := 8) rfl ?_
        refine own_icmpY X hx (hb hby own_d_prog_105_method_5_code_8) (by decide) (pc' := 29) rfl (show ¬ ((3 : Int32) < (3 : Int32)) from (by decide)) ?_
        refine own_iconst X hx (-1 : Int32) (hb hby own_d_prog_105_method_5_code_29) (pc' := 30) rfl rfl ?_
        refine own_retI X hx hlk (t := .int) (w' := (.int (-1 : Int32))) Bd.returns (hb hby own_d_prog_105_method_5_code_30) rfl rfl (by simp) (by decide) (by decide) ?_
        rw [eT]
        exact ⟨by simp [own_find, hc18, hc18_2, hc18_3], N, rfl⟩
      · refine own_iloadN X hx (hb hby own_d_prog_105_method_5_code_21) (pc' := 22) rfl rfl ?_
        refine own_retI X hx hlk (t := .int) (w' := (.int (2 : Int32))) Bd.returns (hb hby own_d_prog_105_method_5_code_22) rfl rfl (by simp) (by decide) (by decide) ?_
        rw [eT]
        exact ⟨by simp [own_find, hc18, hc18_2, hc18_3], N, rfl⟩
    · refine own_iloadN X hx (hb hby own_d_prog_105_method_5_code_21) (pc' := 22) rfl rfl ?_
      refine own_retI X hx hlk (t := .int) (w' := (.int (1 : Int32))) Bd.returns (hb hby own_d_prog_105_method_5_code_22) rfl rfl (by simp) (by decide) (by decide) ?_
      rw [eT]
      exact ⟨by simp [own_find, hc18, hc18_2], N, rfl⟩
  · refine own_iloadN X hx (hb hby own_d_prog_105_method_5_code_21) (pc' := 22) rfl rfl ?_
    refine own_retI X hx hlk (t := .int) (w' := (.int (0 : Int32))) Bd.returns (hb hby own_d_prog_105_method_5_code_22) rfl rfl (by simp) (by decide) (by decide) ?_
    rw [eT]
    exact ⟨by simp [own_find, hc18], N, rfl⟩
theorem ef_idx4 (m : MethodId) (x0 : Addr) (x1 : Int32) : entryFrame m #[(.ref x0), (.int x1)] 3 = mkF m 0 #[.val (.ref x0), .val (.int x1), .unset] [] := by first | (simp [entryFrame, mkF, argsToLocals, Value.category]; done) | rfl
def Q_idx4 (Z : State) (a1 b : Addr) (k : ClassId) (qv x0 x1 x2 x3 : Int32) (h0 : Heap) (n0 : Nat) (v : Option Value) (h : Heap) (L : List Loc) : Prop := v = some (.int (own_find qv [x0, x1, x2, x3] 0)) ∧ Fr n0 L ∧ h = h0
set_option maxRecDepth 65536 in
set_option maxHeartbeats 40000000 in
theorem rm_idx4 (l : Launch) (Z : State) (a0 : Array Value) (hw : ∀ d ∈ tables_1, d.before a0 Z = true) (ws : List Jvm.Cond) (a1 b : Addr) (k : ClassId) (qv x0 x1 x2 x3 : Int32) (h0 : Heap) (n0 : Nat) (Z0 : n0 ≤ h0.size) (F_columns : Fld Z h0 a1 "com/example/latchwork/latchwork/storage/ColumnBatch" "columns" "[I" (.ref b)) (A_b : Arv Z h0 b k .int (4 : Int32) [(.int x0), (.int x1), (.int x2), (.int x3)] (.int (0 : Int32))) :
    MetFree l (⟨"com/example/latchwork/latchwork/storage/ColumnBatch", "indexOf", "(I)I"⟩ : MethodName) (head1 (Jvm.Cond.code (⟨"com/example/latchwork/latchwork/storage/ColumnBatch", "indexOf", "(I)I"⟩ : MethodName) prog_105_method_5_code 3 (some .int) :: ws) ({ frames := 0, cells := 0, slots := 0, locals := 0 } : Room)) (fun a U => a = #[(.ref a1), (.int qv)] ∧ Z.Warmed39 U.vm ∧ U.heap = h0) (fun _ _ _ _ _ => True) (fun _ U o U' => ∃ v L, o = .returned v ∧ Q_idx4 Z a1 b k qv x0 x1 x2 x3 h0 n0 v U'.heap L ∧ FrameEnd U o U' L ({ frames := 0, cells := 0, slots := 0, locals := 0 } : Room).cells ({ frames := 0, cells := 0, slots := 0, locals := 0 } : Room).slots) := by
  refine MetFree.of_bodySF (plainFor_of_name own_pn_com_example_latchwork_latchwork_storage_ColumnBatch) hisR ?_
  intro p e s m args below meth c s₁ Bd hml0 hP hK
  obtain ⟨rfl, hZ, hh⟩ := hP
  have hx := Bd.exec
  have hby := Bd.bytes
  have hml : c.maxLocals = 3 := hml0
  have hown : s.vm.findClass "com/example/latchwork/latchwork/storage/ColumnBatch" = some m.cls := findClass_of_methodNamed Bd.named
  have hnm := (name_of_methodNamed Bd.named Bd.method).1
  have hlk := Bd.notSynchronized
  obtain ⟨lc, hlc⟩ : ∃ lc : List Loc, lc = [] := ⟨_, rfl⟩
  have X : Stand p l e ({ frames := 0, cells := 0, slots := 0, locals := 0 } : Room) s m #[(.ref a1), (.int qv)] below meth c s₁ lc 0 0 := hlc ▸ Stand.of_body Bd
  have eT : s₁.heap = h0 := by rw [← hh, Bd.state]; rfl
  have N : Fr n0 lc := hlc ▸ Fr.nil n0
  refine own_enter (ef_idx4 m a1 qv) ?_
  obtain ⟨T, hT⟩ : ∃ T : State, T = s₁ := ⟨_, rfl⟩
  rw [← hT] at X eT ⊢
  show own_W p e below (own_Post s (Q_idx4 Z a1 b k qv x0 x1 x2 x3 h0 n0) 0 0) T m 0 #[.val (.ref a1), .val (.int qv), .unset] []
  refine own_iconst X hx (0 : Int32) (hb hby own_d_prog_105_method_5_code_0) (pc' := 1) rfl rfl ?_
  refine own_istoreN X hx (hb hby own_d_prog_105_method_5_code_1) (pc' := 2) rfl (Ls' := #[.val (.ref a1), .val (.int qv), .val (.int (0 : Int32))]) rfl ?_
  refine own_iloadN X hx (hb hby own_d_prog_105_method_5_code_2) (pc' := 3) rfl rfl ?_
  refine own_aloadN X hx (hb hby own_d_prog_105_method_5_code_3) (pc' := 4) rfl rfl rfl ?_
  refine own_getF X hx hZ hown (host := "") (Or.inl (own_w hw 19 rfl)) Via.refl eT F_columns (hb hby own_d_prog_105_method_5_code_4) (pc' := 7) rfl ?_
  intro T X eT
  refine own_arrlen X hx hZ eT A_b (hb hby own_d_prog_105_method_5_code_7) (pc' := 8) rfl ?_
  refine own_icmpN X hx (hb hby own_d_prog_105_method_5_code_8) (pc' := 11) rfl (show (0 : Int32) < (4 : Int32) from (by decide)) ?_
  refine own_aloadN X hx (hb hby own_d_prog_105_method_5_code_11) (pc' := 12) rfl rfl rfl ?_
  refine own_getF X hx hZ hown (host := "") (Or.inl (own_w hw 19 rfl)) Via.refl eT F_columns (hb hby own_d_prog_105_method_5_code_12) (pc' := 15) rfl ?_
  intro T X eT
  refine own_iloadN X hx (hb hby own_d_prog_105_method_5_code_15) (pc' := 16) rfl rfl ?_
  refine own_iaload X hx hZ eT A_b (v := (.int x0)) (by decide) rfl (hb hby own_d_prog_105_method_5_code_16) (pc' := 17) rfl ?_
  refine own_iloadN X hx (hb hby own_d_prog_105_method_5_code_17) (pc' := 18) rfl rfl ?_
  refine own_icmp X hx (hb hby own_d_prog_105_method_5_code_18) (by decide) (pcY := 23) (pcN := 21) rfl rfl (fun (hc18 : ¬ (x0 = qv)) => ?_) (fun (hc18 : x0 = qv) => ?_)
  · refine own_iinc X hx (1 : Int32) (hb hby own_d_prog_105_method_5_code_23) (pc' := 26) rfl rfl rfl (Ls' := #[.val (.ref a1), .val (.int qv), .val (.int (1 : Int32))]) rfl ?_
    refine own_goto X hx (hb hby own_d_prog_105_method_5_code_26) (by decide) (pc' := 2) rfl ?_
    refine own_iloadN X hx (hb hby own_d_prog_105_method_5_code_2) (pc' := 3) rfl rfl ?_
    refine own_aloadN X hx (hb hby own_d_prog_105_method_5_code_3) (pc' := 4) rfl rfl rfl ?_
    refine own_getF X hx hZ hown (host := "") (Or.inl (own_w hw 19 rfl)) Via.refl eT F_columns (hb hby own_d_prog_105_method_5_code_4) (pc' := 7) rfl ?_
    intro T X eT
    refine own_arrlen X hx hZ eT A_b (hb hby own_d_prog_105_method_5_code_7) (pc' := 8) rfl ?_
    refine own_icmpN X hx (hb hby own_d_prog_105_method_5_code_8) (pc' := 11) rfl (show (1 : Int32) < (4 : Int32) from (by decide)) ?_
    refine own_aloadN X hx (hb hby own_d_prog_105_method_5_code_11) (pc' := 12) rfl rfl rfl ?_
    refine own_getF X hx hZ hown (host := "") (Or.inl (own_w hw 19 rfl)) Via.refl eT F_columns (hb hby own_d_prog_105_method_5_code_12) (pc' := 15) rfl ?_
    intro T X eT
    refine own_iloadN X hx (hb hby own_d_prog_105_method_5_code_15) (pc' := 16) rfl rfl ?_
    refine own_iaload X hx hZ eT A_b (v := (.int x1)) (by decide) rfl (hb hby own_d_prog_105_method_5_code_16) (pc' := 17) rfl ?_
    refine own_iloadN X hx (hb hby own_d_prog_105_method_5_code_17) (pc' := 18) rfl rfl ?_
    refine own_icmp X hx (hb hby own_d_prog_105_method_5_code_18) (by decide) (pcY := 23) (pcN := 21) rfl rfl (fun (hc18_2 : ¬ (x1 = qv)) => ?_) (fun (hc18_2 : x1 = qv) => ?_)
    · refine own_iinc X hx (1 : Int32) (hb hby own_d_prog_105_method_5_code_23) (pc' := 26) rfl rfl rfl (Ls' := #[.val (.ref a1), .val (.int qv), .val (.int (2 : Int32))]) rfl ?_
      refine own_goto X hx (hb hby own_d_prog_105_method_5_code_26) (by decide) (pc' := 2) rfl ?_
      refine own_iloadN X hx (hb hby own_d_prog_105_method_5_code_2) (pc' := 3) rfl rfl ?_
      refine own_aloadN X hx (hb hby own_d_prog_105_method_5_code_3) (pc' := 4) rfl rfl rfl ?_
      refine own_getF X hx hZ hown (host := "") (Or.inl (own_w hw 19 rfl)) Via.refl eT F_columns (hb hby own_d_prog_105_method_5_code_4) (pc' := 7) rfl ?_
      intro T X eT
      refine own_arrlen X hx hZ eT A_b (hb hby own_d_prog_105_method_5_code_7) (pc' := 8) rfl ?_
      refine own_icmpN X hx (hb hby own_d_prog_105_method_5_code_8) (pc' := 11) rfl (show (2 : Int32) < (4 : Int32) from (by decide)) ?_
      refine own_aloadN X hx (hb hby own_d_prog_105_method_5_code_11) (pc' := 12) rfl rfl rfl ?_
      refine own_getF X hx hZ hown (host := "") (Or.inl (own_w hw 19 rfl)) Via.refl eT F_columns (hb hby own_d_prog_105_method_5_code_12) (pc' := 15) rfl ?_
      intro T X eT
      refine own_iloadN X hx (hb hby own_d_prog_105_method_5_code_15) (pc' := 16) rfl rfl ?_
      refine own_iaload X hx hZ eT A_b (v := (.int x2)) (by decide) rfl (hb hby own_d_prog_105_method_5_code_16) (pc' := 17) rfl ?_
      refine own_iloadN X hx (hb hby own_d_prog_105_method_5_code_17) (pc' := 18) rfl rfl ?_
      refine own_icmp X hx (hb hby own_d_prog_105_method_5_code_18) (by decide) (pcY := 23) (pcN := 21) rfl rfl (fun (hc18_3 : ¬ (x2 = qv)) => ?_) (fun (hc18_3 : x2 = qv) => ?_)
      · refine own_iinc X hx (1 : Int32) (hb hby own_d_prog_105_method_5_code_23) (pc' := 26) rfl rfl rfl (Ls' := #[.val (.ref a1), .val (.int qv), .val (.int (3 : Int32))]) rfl ?_
        refine own_goto X hx (hb hby own_d_prog_105_method_5_code_26) (by decide) (pc' := 2) rfl ?_
        refine own_iloadN X hx (hb hby own_d_prog_105_method_5_code_2) (pc' := 3) rfl rfl ?_
        refine own_aloadN X hx (hb hby own_d_prog_105_method_5_code_3) (pc' := 4) rfl rfl rfl ?_
        refine own_getF X hx hZ hown (host := "") (Or.inl (own_w hw 19 rfl)) Via.refl eT F_columns (hb hby own_d_prog_105_method_5_code_4) (pc' := 7) rfl ?_
        intro T X eT
        refine own_arrlen X hx hZ eT A_b (hb hby own_d_prog_105_method_5_code_7) (pc' := 8) rfl ?_
        refine own_icmpN X hx (hb hby own_d_prog_105_method_5_code_8) (pc' := 11) rfl (show (3 : Int32) < (4 : Int32) from (by decide)) ?_
        refine own_aloadN X hx (hb hby own_d_prog_105_method_5_code_11) (pc' := 12) rfl rfl rfl ?_
        refine own_getF X hx hZ hown (host := "") (Or.inl (own_w hw 19 rfl)) Via.refl eT F_columns (hb hby own_d_prog_105_method_5_code_12) (pc' := 15) rfl ?_
        intro T X eT
        refine own_iloadN X hx (hb hby own_d_prog_105_method_5_code_15) (pc' := 16) rfl rfl ?_
        refine own_iaload X hx hZ eT A_b (v := (.int x3)) (by decide) rfl (hb hby own_d_prog_105_method_5_code_16) (pc' := 17) rfl ?_
        refine own_iloadN X hx (hb hby own_d_prog_105_method_5_code_17) (pc' := 18) rfl rfl ?_
        refine own_icmp X hx (hb hby own_d_prog_105_method_5_code_18) (by decide) (pcY := 23) (pcN := 21) rfl rfl (fun (hc18_4 : ¬ (x3 = qv)) => ?_) (fun (hc18_4 : x3 = qv) => ?_)
        · refine own_iinc X hx (1 : Int32) (hb hby own_d_prog_105_method_5_code_23) (pc' := 26) rfl rfl rfl (Ls' := #[.val (.ref a1), .val (.int qv), .val (.int (4 : Int32))]) rfl ?_
          refine own_goto X hx (hb hby own_d_prog_105_method_5_code_26) (by decide) (pc' := 2) rfl ?_
          refine own_iloadN X hx (hb hby own_d_prog_105_method_5_code_2) (pc' := 3) rfl rfl ?_
          refine own_aloadN X hx (hb hby own_d_prog_105_method_5_code_3) (pc' := 4) rfl rfl rfl ?_
          refine own_getF X hx hZ hown (host := "") (Or.inl (own_w hw 19 rfl)) Via.refl eT F_columns (hb hby own_d_prog_105_method_5_code_4) (pc' := 7) rfl ?_
          intro T X eT
          refine own_arrlen X hx hZ eT A_b (hb hby own_d_prog_105_method_5_code_7) (pc' := 8) rfl ?_
          refine own_icmpY X hx (hb hby own_d_prog_105_method_5_code_8) (by decide) (pc' := 29) rfl (show ¬ ((4 : Int32) < (4 : Int32)) from (by decide)) ?_
          refine own_iconst X hx (-1 : Int32) (hb hby own_d_prog_105_method_5_code_29) (pc' := 30) rfl rfl ?_
          refine own_retI X hx hlk (t := .int) (w' := (.int (-1 : Int32))) Bd.returns (hb hby own_d_prog_105_method_5_code_30) rfl rfl (by simp) (by decide) (by decide) ?_
          rw [eT]
          exact ⟨by simp [own_find, hc18, hc18_2, hc18_3, hc18_4], N, rfl⟩
        · refine own_iloadN X hx (hb hby own_d_prog_105_method_5_code_21) (pc' := 22) rfl rfl ?_
          refine own_retI X hx hlk (t := .int) (w' := (.int (3 : Int32))) Bd.returns (hb hby own_d_prog_105_method_5_code_22) rfl rfl (by simp) (by decide) (by decide) ?_
          rw [eT]
          exact ⟨by simp [own_find, hc18, hc18_2, hc18_3, hc18_4], N, rfl⟩
      · refine own_iloadN X hx (hb hby own_d_prog_105_method_5_code_21) (pc' := 22) rfl rfl ?_
        refine own_retI X hx hlk (t := .int) (w' := (.int (2 : Int32))) Bd.returns (hb hby own_d_prog_105_method_5_code_22) rfl rfl (by simp) (by decide) (by decide) ?_
        rw [eT]
        exact ⟨by simp [own_find, hc18, hc18_2, hc18_3], N, rfl⟩
    · refine own_iloadN X hx (hb hby own_d_prog_105_method_5_code_21) (pc' := 22) rfl rfl ?_
      refine own_retI X hx hlk (t := .int) (w' := (.int (1 : Int32))) Bd.returns (hb hby own_d_prog_105_method_5_code_22) rfl rfl (by simp) (by decide) (by decide) ?_
      rw [eT]
      exact ⟨by simp [own_find, hc18, hc18_2], N, rfl⟩
  · refine own_iloadN X hx (hb hby own_d_prog_105_method_5_code_21) (pc' := 22) rfl rfl ?_
    refine own_retI X hx hlk (t := .int) (w' := (.int (0 : Int32))) Bd.returns (hb hby own_d_prog_105_method_5_code_22) rfl rfl (by simp) (by decide) (by decide) ?_
    rw [eT]
    exact ⟨by simp [own_find, hc18], N, rfl⟩
theorem own_pd_285bII29V : parseMethodDescriptor "([II)V" = some ⟨[(.array .int), .int], none⟩ := by decide +kernel
theorem own_pd_28I29I : parseMethodDescriptor "(I)I" = some ⟨[.int], some .int⟩ := by decide +kernel
theorem own_pn_com_example_latchwork_latchwork_storage_ColumnBatchIndexOfPinLaw : plainName "com/example/latchwork/latchwork/storage/ColumnBatchIndexOfPinLaw" = true := by first | (simp [plainName, overriddenIn]; done) | decide +kernel
theorem ef_law (m : MethodId) (x0 : Int32) (x1 : Int32) (x2 : Int32) (x3 : Int32) (x4 : Int32) (x5 : Int32) : entryFrame m #[(.int x0), (.int x1), (.int x2), (.int x3), (.int x4), (.int x5)] maxLocals = mkF m 0 #[.val (.int x0), .val (.int x1), .val (.int x2), .val (.int x3), .val (.int x4), .val (.int x5), .unset, .unset, .unset, .unset, .unset, .unset, .unset, .unset, .unset, .unset, .unset, .unset, .unset, .unset, .unset] [] := by first | (simp [entryFrame, mkF, argsToLocals, Value.category, maxLocals]; done) | rfl
def Q_law (Z : State) (p0 p1 p2 p3 p4 p5 : Int32) (h0 : Heap) (n0 : Nat) (v : Option Value) (h : Heap) (L : List Loc) : Prop := v = some (.int 1) ∧ Fr n0 L
set_option maxRecDepth 65536 in
set_option maxHeartbeats 40000000 in
theorem rm_law (l : Launch) (Z : State) (a0 : Array Value) (hw : ∀ d ∈ tables_1, d.before a0 Z = true) (ws : List Jvm.Cond) (p0 p1 p2 p3 p4 p5 : Int32) (h0 : Heap) (n0 : Nat) (Z0 : n0 ≤ h0.size)  :
    MetFree l x (head1 (Jvm.Cond.code x code maxLocals ret :: ws) room_1) (fun a U => a = #[(.int p0), (.int p1), (.int p2), (.int p3), (.int p4), (.int p5)] ∧ Z.Warmed39 U.vm ∧ U.heap = h0) (fun _ _ _ _ _ => True) (fun _ U o U' => ∃ v L, o = .returned v ∧ Q_law Z p0 p1 p2 p3 p4 p5 h0 n0 v U'.heap L ∧ FrameEnd U o U' L room_1.cells room_1.slots) := by
  refine MetFree.of_bodySF (plainFor_of_name own_pn_com_example_latchwork_latchwork_storage_ColumnBatchIndexOfPinLaw) hisR ?_
  intro p e s m args below meth c s₁ Bd hml0 hP hK
  obtain ⟨rfl, hZ, hh⟩ := hP
  have hx := Bd.exec
  have hby := Bd.bytes
  have hml : c.maxLocals = 21 := hml0
  have hown : s.vm.findClass "com/example/latchwork/latchwork/storage/ColumnBatchIndexOfPinLaw" = some m.cls := findClass_of_methodNamed Bd.named
  have hnm := (name_of_methodNamed Bd.named Bd.method).1
  have hlk := Bd.notSynchronized
  obtain ⟨lc, hlc⟩ : ∃ lc : List Loc, lc = [] := ⟨_, rfl⟩
  have X : Stand p l e room_1 s m #[(.int p0), (.int p1), (.int p2), (.int p3), (.int p4), (.int p5)] below meth c s₁ lc 0 0 := hlc ▸ Stand.of_body Bd
  have eT : s₁.heap = h0 := by rw [← hh, Bd.state]; rfl
  have N : Fr n0 lc := hlc ▸ Fr.nil n0
  refine own_enter (ef_law m p0 p1 p2 p3 p4 p5) ?_
  obtain ⟨T, hT⟩ : ∃ T : State, T = s₁ := ⟨_, rfl⟩
  rw [← hT] at X eT ⊢
  show own_W p e below (own_Post s (Q_law Z p0 p1 p2 p3 p4 p5 h0 n0) 40 128) T m 0 #[.val (.int p0), .val (.int p1), .val (.int p2), .val (.int p3), .val (.int p4), .val (.int p5), .unset, .unset, .unset, .unset, .unset, .unset, .unset, .unset, .unset, .unset, .unset, .unset, .unset, .unset, .unset] []
  refine own_iload X hx (hb hby at_0) (pc' := 2) rfl rfl ?_
  refine own_bipush X hx (7 : Int32) (hb hby at_2) (pc' := 4) rfl rfl ?_
  refine own_iand X hx (hb hby at_4) (pc' := 5) rfl ?_
  refine own_iconst X hx (5 : Int32) (hb hby at_5) (pc' := 6) rfl rfl ?_
  refine own_irem X hx (hb hby at_6) (pc' := 7) rfl (by decide) ?_
  refine own_istore X hx (hb hby at_7) (pc' := 9) rfl (Ls' := #[.val (.int p0), .val (.int p1), .val (.int p2), .val (.int p3), .val (.int p4), .val (.int p5), .val (.int ((p5 &&& (7 : Int32)) % (5 : Int32))), .unset, .unset, .unset, .unset, .unset, .unset, .unset, .unset, .unset, .unset, .unset, .unset, .unset, .unset]) rfl ?_
  obtain ⟨nn, h_nn⟩ : ∃ z, z = ((p5 &&& (7 : Int32)) % (5 : Int32)) := ⟨_, rfl⟩
  rw [← h_nn]
  have b_nn := own_n5 p5
  rw [← h_nn] at b_nn
  refine own_iloadN X hx (hb hby at_9) (pc' := 10) rfl rfl ?_
  refine own_istore X hx (hb hby at_10) (pc' := 12) rfl (Ls' := #[.val (.int p0), .val (.int p1), .val (.int p2), .val (.int p3), .val (.int p4), .val (.int p5), .val (.int nn), .val (.int p0), .unset, .unset, .unset, .unset, .unset, .unset, .unset, .unset, .unset, .unset, .unset, .unset, .unset]) rfl ?_
  refine own_iloadN X hx (hb hby at_12) (pc' := 13) rfl rfl ?_
  refine own_istore X hx (hb hby at_13) (pc' := 15) rfl (Ls' := #[.val (.int p0), .val (.int p1), .val (.int p2), .val (.int p3), .val (.int p4), .val (.int p5), .val (.int nn), .val (.int p0), .val (.int p1), .unset, .unset, .unset, .unset, .unset, .unset, .unset, .unset, .unset, .unset, .unset, .unset]) rfl ?_
  refine own_iloadN X hx (hb hby at_15) (pc' := 16) rfl rfl ?_
  refine own_istore X hx (hb hby at_16) (pc' := 18) rfl (Ls' := #[.val (.int p0), .val (.int p1), .val (.int p2), .val (.int p3), .val (.int p4), .val (.int p5), .val (.int nn), .val (.int p0), .val (.int p1), .val (.int p2), .unset, .unset, .unset, .unset, .unset, .unset, .unset, .unset, .unset, .unset, .unset]) rfl ?_
  refine own_iloadN X hx (hb hby at_18) (pc' := 19) rfl rfl ?_
  refine own_istore X hx (hb hby at_19) (pc' := 21) rfl (Ls' := #[.val (.int p0), .val (.int p1), .val (.int p2), .val (.int p3), .val (.int p4), .val (.int p5), .val (.int nn), .val (.int p0), .val (.int p1), .val (.int p2), .val (.int p3), .unset, .unset, .unset, .unset, .unset, .unset, .unset, .unset, .unset, .unset]) rfl ?_
  have J_63 : ∀ (x1 x2 x3 : Int32), own_W p e below (own_Post s (Q_law Z p0 p1 p2 p3 p4 p5 h0 n0) 40 128) T m 63 #[.val (.int p0), .val (.int p1), .val (.int p2), .val (.int p3), .val (.int p4), .val (.int p5), .val (.int nn), .val (.int p0), .val (.int x1), .val (.int x2), .val (.int x3), .unset, .unset, .unset, .unset, .unset, .unset, .unset, .unset, .unset, .unset] [] := by
    intro x1 x2 x3
    rcases b_nn with q | q | q | q | q
    · subst q
      show own_W p e below (own_Post s (Q_law Z p0 p1 p2 p3 p4 p5 h0 n0) 40 128) T m 63 #[.val (.int p0), .val (.int p1), .val (.int p2), .val (.int p3), .val (.int p4), .val (.int p5), .val (.int (0 : Int32)), .val (.int p0), .val (.int x1), .val (.int x2), .val (.int x3), .unset, .unset, .unset, .unset, .unset, .unset, .unset, .unset, .unset, .unset] []
      refine own_iload X hx (hb hby at_63) (pc' := 65) rfl rfl ?_
      refine own_newarrE X hx hZ (own_w hw 0 rfl) eT (hb hby at_65) (pc' := 67) rfl (by decide) 0 (by decide) (by decide) (cells' := 1) (slots' := 0) rfl rfl (by decide) (by decide) (ad := "[I") (by decide) ?_
      intro T h1 k_b1 b1 X eT E gb1 E_b1 A_b1
      have z_b1 : n0 ≤ b1 := Nat.le_trans Z0 (Nat.le_of_eq gb1.symm)
      have Z0 := Nat.le_trans Z0 E.1
      have A_b1 : Arv Z h1 b1 k_b1 .int (0 : Int32) [] (.int (0 : Int32)) := A_b1.pad (pad_rep [] (.int (0 : Int32)) 0)
      refine own_astore X hx (hb hby at_67) (pc' := 69) rfl rfl (Ls' := #[.val (.int p0), .val (.int p1), .val (.int p2), .val (.int p3), .val (.int p4), .val (.int p5), .val (.int (0 : Int32)), .val (.int p0), .val (.int x1), .val (.int x2), .val (.int x3), .val (.ref b1), .unset, .unset, .unset, .unset, .unset, .unset, .unset, .unset, .unset]) rfl ?_
      refine own_iload X hx (hb hby at_69) (pc' := 71) rfl rfl ?_
      refine own_ifY X hx (hb hby at_71) (by decide) (pc' := 80) rfl (show ¬ ((0 : Int32) < (0 : Int32)) from (by decide)) ?_
      refine own_iload X hx (hb hby at_80) (pc' := 82) rfl rfl ?_
      refine own_iconst X hx (1 : Int32) (hb hby at_82) (pc' := 83) rfl rfl ?_
      refine own_icmpY X hx (hb hby at_83) (by decide) (pc' := 92) rfl (show ¬ ((1 : Int32) < (0 : Int32)) from (by decide)) ?_
      refine own_iload X hx (hb hby at_92) (pc' := 94) rfl rfl ?_
      refine own_iconst X hx (2 : Int32) (hb hby at_94) (pc' := 95) rfl rfl ?_
      refine own_icmpY X hx (hb hby at_95) (by decide) (pc' := 104) rfl (show ¬ ((2 : Int32) < (0 : Int32)) from (by decide)) ?_
      refine own_iload X hx (hb hby at_104) (pc' := 106) rfl rfl ?_
      refine own_iconst X hx (3 : Int32) (hb hby at_106) (pc' := 107) rfl rfl ?_
      refine own_icmpY X hx (hb hby at_107) (by decide) (pc' := 116) rfl (show ¬ ((3 : Int32) < (0 : Int32)) from (by decide)) ?_
      refine own_iload X hx (hb hby at_116) (pc' := 118) rfl rfl ?_
      refine own_iconst X hx (3 : Int32) (hb hby at_118) (pc' := 119) rfl rfl ?_
      refine own_iushr X hx (hb hby at_119) (pc' := 120) rfl ?_
      refine own_bipush X hx (7 : Int32) (hb hby at_120) (pc' := 122) rfl rfl ?_
      refine own_iand X hx (hb hby at_122) (pc' := 123) rfl ?_
      refine own_istore X hx (hb hby at_123) (pc' := 125) rfl (Ls' := #[.val (.int p0), .val (.int p1), .val (.int p2), .val (.int p3), .val (.int p4), .val (.int p5), .val (.int (0 : Int32)), .val (.int p0), .val (.int x1), .val (.int x2), .val (.int x3), .val (.ref b1), .val (.int ((XT.ushr p5 (3 : Int32)) &&& (7 : Int32))), .unset, .unset, .unset, .unset, .unset, .unset, .unset, .unset]) rfl ?_
      obtain ⟨md, h_md⟩ : ∃ z, z = ((XT.ushr p5 (3 : Int32)) &&& (7 : Int32)) := ⟨_, rfl⟩
      rw [← h_md]
      have J_200 : ∀ (qv : Int32), own_W p e below (own_Post s (Q_law Z p0 p1 p2 p3 p4 p5 h0 n0) 40 128) T m 200 #[.val (.int p0), .val (.int p1), .val (.int p2), .val (.int p3), .val (.int p4), .val (.int p5), .val (.int (0 : Int32)), .val (.int p0), .val (.int x1), .val (.int x2), .val (.int x3), .val (.ref b1), .val (.int md), .val (.int qv), .unset, .unset, .unset, .unset, .unset, .unset, .unset] [] := by
        intro qv
        refine own_new X hx hZ hown (own_w hw 1 rfl) (own_w hw 2 rfl) (own_w hw 3 rfl) eT (hb hby at_200) (pc' := 203) rfl (cells' := 2) (slots' := 4) rfl rfl (by decide) (by decide) ?_
        intro T h2 b2 X eT E gb2 E_b2 Db2
        have lt_b1_b2 : b1 < b2 := Nat.lt_of_lt_of_le A_b1.lt (Nat.le_of_eq gb2.symm)
        have ne_b1_b2 : b1 ≠ b2 := Nat.ne_of_lt lt_b1_b2
        have z_b2 : n0 ≤ b2 := Nat.le_trans Z0 (Nat.le_of_eq gb2.symm)
        have A_b1 := A_b1.ext E
        have E_b1 := E_b1.ext E
        have Z0 := Nat.le_trans Z0 E.1
        have F_columns_b2 : Fld Z h2 b2 "com/example/latchwork/latchwork/storage/ColumnBatch" "columns" "[I" .null := Db2 (Or.inr (own_w hw 20 rfl)) (ty := (.array .int)) (by decide)
        have F_stamps_b2 : Fld Z h2 b2 "com/example/latchwork/latchwork/storage/ColumnBatch" "stamps" "[J" .null := Db2 (Or.inr (own_w hw 23 rfl)) (ty := (.array .long)) (by decide)
        have F_values_b2 : Fld Z h2 b2 "com/example/latchwork/latchwork/storage/ColumnBatch" "values" "[[J" .null := Db2 (Or.inr (own_w hw 27 rfl)) (ty := (.array (.array .long))) (by decide)
        have F_nulls_b2 : Fld Z h2 b2 "com/example/latchwork/latchwork/storage/ColumnBatch" "nulls" "[[Z" .null := Db2 (Or.inr (own_w hw 32 rfl)) (ty := (.array (.array .boolean))) (by decide)
        refine own_dup X hx (hb hby at_203) (pc' := 204) rfl rfl ?_
        refine own_aload X hx (hb hby at_204) (pc' := 206) rfl rfl rfl ?_
        refine own_iconst X hx (1 : Int32) (hb hby at_206) (pc' := 207) rfl rfl ?_
        refine own_callN X hx hZ b2 [(.ref b1), (.int (1 : Int32))] rfl hown (own_w hw 4 rfl) (own_w hw 5 rfl) (own_w hw 3 rfl) (own_w hw 6 rfl) (by decide) (rm_init l Z a0 hw [] b2 b1 _ (0 : Int32) _ h2 n0 Z0 _ _ _ _ E_b2 F_columns_b2 F_stamps_b2 F_values_b2 F_nulls_b2 E_b1 A_b1 (Ne.symm ne_b1_b2) (by decide) (by decide) z_b2) eT (W := 1) (by decide) (by decide) (cells' := 14) (slots' := 25) rfl rfl (by decide) (by decide) (by rw [hml]; rfl) (lenOf own_pd_285bII29V rfl) rfl (S := [(.ref b2)]) rfl (Nat.le_of_eq rfl) (hb hby at_207) (pc' := 210) rfl ?_
        intro v T h3 L lc X eT hq fN
        obtain ⟨rfl, Nq, Kq, bc, hbc, F_columns, A_bc⟩ := hq
        have N := fN _ N Nq
        have lt_b1_bc : b1 < bc := Nat.lt_of_lt_of_le A_b1.lt hbc
        have ne_b1_bc : b1 ≠ bc := Nat.ne_of_lt lt_b1_bc
        have lt_b2_bc : b2 < bc := Nat.lt_of_lt_of_le E_b2.lt hbc
        have ne_b2_bc : b2 ≠ bc := Nat.ne_of_lt lt_b2_bc
        have A_b1 := A_b1.keep Kq (ninS ne_b1_b2 nin0)
        have E_b1 := E_b1.keep Kq
        have E_b2 := E_b2.keep Kq
        have Z0 := Nat.le_trans Z0 Kq.1
        show own_W p e below (own_Post s (Q_law Z p0 p1 p2 p3 p4 p5 h0 n0) 40 128) T m 210 #[.val (.int p0), .val (.int p1), .val (.int p2), .val (.int p3), .val (.int p4), .val (.int p5), .val (.int (0 : Int32)), .val (.int p0), .val (.int x1), .val (.int x2), .val (.int x3), .val (.ref b1), .val (.int md), .val (.int qv), .unset, .unset, .unset, .unset, .unset, .unset, .unset] [(.ref b2)]
        refine own_astore X hx (hb hby at_210) (pc' := 212) rfl rfl (Ls' := #[.val (.int p0), .val (.int p1), .val (.int p2), .val (.int p3), .val (.int p4), .val (.int p5), .val (.int (0 : Int32)), .val (.int p0), .val (.int x1), .val (.int x2), .val (.int x3), .val (.ref b1), .val (.int md), .val (.int qv), .val (.ref b2), .unset, .unset, .unset, .unset, .unset, .unset]) rfl ?_
        refine own_aload X hx (hb hby at_212) (pc' := 214) rfl rfl rfl ?_
        refine own_iload X hx (hb hby at_214) (pc' := 216) rfl rfl ?_
        refine own_callV X hx hZ (y := (⟨"com/example/latchwork/latchwork/storage/ColumnBatch", "indexOf", "(I)I"⟩ : MethodName)) b2 [(.int qv)] hown (own_w hw 33 rfl) (own_w hw 34 rfl) (own_w hw 36 rfl) (own_w hw 35 rfl) (own_w hw 3 rfl) (own_w hw 37 rfl) (by decide) (rm_idx0 l Z a0 hw [] b2 bc _ qv  h3 n0 Z0 F_columns A_bc) E_b2 eT (W := 0) (by decide) (by decide) (cells' := 14) (slots' := 25) rfl rfl (by decide) (by decide) (by rw [hml]; rfl) (lenOf own_pd_28I29I rfl) rfl (S := []) rfl (Nat.le_of_eq rfl) (hb hby at_216) (pc' := 219) rfl ?_
        intro v T h4 L lc X eT hq fN
        obtain ⟨rfl, Nq, hqe⟩ := hq
        have N := fN _ N Nq
        rw [hqe] at eT
        show own_W p e below (own_Post s (Q_law Z p0 p1 p2 p3 p4 p5 h0 n0) 40 128) T m 219 #[.val (.int p0), .val (.int p1), .val (.int p2), .val (.int p3), .val (.int p4), .val (.int p5), .val (.int (0 : Int32)), .val (.int p0), .val (.int x1), .val (.int x2), .val (.int x3), .val (.ref b1), .val (.int md), .val (.int qv), .val (.ref b2), .unset, .unset, .unset, .unset, .unset, .unset] [(.int (own_find qv [] 0))]
        refine own_istore X hx (hb hby at_219) (pc' := 221) rfl (Ls' := #[.val (.int p0), .val (.int p1), .val (.int p2), .val (.int p3), .val (.int p4), .val (.int p5), .val (.int (0 : Int32)), .val (.int p0), .val (.int x1), .val (.int x2), .val (.int x3), .val (.ref b1), .val (.int md), .val (.int qv), .val (.ref b2), .val (.int (own_find qv [] 0)), .unset, .unset, .unset, .unset, .unset]) rfl ?_
        refine own_iload X hx (hb hby at_221) (pc' := 223) rfl rfl ?_
        refine own_ifY X hx (hb hby at_223) (by decide) (pc' := 237) rfl (show ¬ ((0 : Int32) < (0 : Int32)) from (by decide)) ?_
        refine own_iconst X hx (0 : Int32) (hb hby at_237) (pc' := 238) rfl rfl ?_
        refine own_istore X hx (hb hby at_238) (pc' := 240) rfl (Ls' := #[.val (.int p0), .val (.int p1), .val (.int p2), .val (.int p3), .val (.int p4), .val (.int p5), .val (.int (0 : Int32)), .val (.int p0), .val (.int x1), .val (.int x2), .val (.int x3), .val (.ref b1), .val (.int md), .val (.int qv), .val (.ref b2), .val (.int (own_find qv [] 0)), .val (.int (0 : Int32)), .unset, .unset, .unset, .unset]) rfl ?_
        refine own_iload X hx (hb hby at_240) (pc' := 242) rfl rfl ?_
        refine own_iconst X hx (1 : Int32) (hb hby at_242) (pc' := 243) rfl rfl ?_
        refine own_icmpY X hx (hb hby at_243) (by decide) (pc' := 257) rfl (show ¬ ((1 : Int32) < (0 : Int32)) from (by decide)) ?_
        refine own_iconst X hx (0 : Int32) (hb hby at_257) (pc' := 258) rfl rfl ?_
        refine own_istore X hx (hb hby at_258) (pc' := 260) rfl (Ls' := #[.val (.int p0), .val (.int p1), .val (.int p2), .val (.int p3), .val (.int p4), .val (.int p5), .val (.int (0 : Int32)), .val (.int p0), .val (.int x1), .val (.int x2), .val (.int x3), .val (.ref b1), .val (.int md), .val (.int qv), .val (.ref b2), .val (.int (own_find qv [] 0)), .val (.int (0 : Int32)), .val (.int (0 : Int32)), .unset, .unset, .unset]) rfl ?_
        refine own_iload X hx (hb hby at_260) (pc' := 262) rfl rfl ?_
        refine own_iconst X hx (2 : Int32) (hb hby at_262) (pc' := 263) rfl rfl ?_
        refine own_icmpY X hx (hb hby at_263) (by decide) (pc' := 277) rfl (show ¬ ((2 : Int32) < (0 : Int32)) from (by decide)) ?_
        refine own_iconst X hx (0 : Int32) (hb hby at_277) (pc' := 278) rfl rfl ?_
        refine own_istore X hx (hb hby at_278) (pc' := 280) rfl (Ls' := #[.val (.int p0), .val (.int p1), .val (.int p2), .val (.int p3), .val (.int p4), .val (.int p5), .val (.int (0 : Int32)), .val (.int p0), .val (.int x1), .val (.int x2), .val (.int x3), .val (.ref b1), .val (.int md), .val (.int qv), .val (.ref b2), .val (.int (own_find qv [] 0)), .val (.int (0 : Int32)), .val (.int (0 : Int32)), .val (.int (0 : Int32)), .unset, .unset]) rfl ?_
        refine own_iload X hx (hb hby at_280) (pc' := 282) rfl rfl ?_
        refine own_iconst X hx (3 : Int32) (hb hby at_282) (pc' := 283) rfl rfl ?_
        refine own_icmpY X hx (hb hby at_283) (by decide) (pc' := 297) rfl (show ¬ ((3 : Int32) < (0 : Int32)) from (by decide)) ?_
        refine own_iconst X hx (0 : Int32) (hb hby at_297) (pc' := 298) rfl rfl ?_
        refine own_istore X hx (hb hby at_298) (pc' := 300) rfl (Ls' := #[.val (.int p0), .val (.int p1), .val (.int p2), .val (.int p3), .val (.int p4), .val (.int p5), .val (.int (0 : Int32)), .val (.int p0), .val (.int x1), .val (.int x2), .val (.int x3), .val (.ref b1), .val (.int md), .val (.int qv), .val (.ref b2), .val (.int (own_find qv [] 0)), .val (.int (0 : Int32)), .val (.int (0 : Int32)), .val (.int (0 : Int32)), .val (.int (0 : Int32)), .unset]) rfl ?_
        refine own_iload X hx (hb hby at_300) (pc' := 302) rfl rfl ?_
        refine own_ifY X hx (hb hby at_302) (by decide) (pc' := 311) rfl (show (0 : Int32) = (0 : Int32) from (by decide)) ?_
        refine own_iload X hx (hb hby at_311) (pc' := 313) rfl rfl ?_
        refine own_ifY X hx (hb hby at_313) (by decide) (pc' := 322) rfl (show (0 : Int32) = (0 : Int32) from (by decide)) ?_
        refine own_iload X hx (hb hby at_322) (pc' := 324) rfl rfl ?_
        refine own_ifY X hx (hb hby at_324) (by decide) (pc' := 333) rfl (show (0 : Int32) = (0 : Int32) from (by decide)) ?_
        refine own_iload X hx (hb hby at_333) (pc' := 335) rfl rfl ?_
        refine own_ifY X hx (hb hby at_335) (by decide) (pc' := 344) rfl (show (0 : Int32) = (0 : Int32) from (by decide)) ?_
        refine own_iconst X hx (-1 : Int32) (hb hby at_344) (pc' := 345) rfl rfl ?_
        refine own_istore X hx (hb hby at_345) (pc' := 347) rfl (Ls' := #[.val (.int p0), .val (.int p1), .val (.int p2), .val (.int p3), .val (.int p4), .val (.int p5), .val (.int (0 : Int32)), .val (.int p0), .val (.int x1), .val (.int x2), .val (.int x3), .val (.ref b1), .val (.int md), .val (.int qv), .val (.ref b2), .val (.int (own_find qv [] 0)), .val (.int (0 : Int32)), .val (.int (0 : Int32)), .val (.int (0 : Int32)), .val (.int (0 : Int32)), .val (.int (-1 : Int32))]) rfl ?_
        refine own_iload X hx (hb hby at_347) (pc' := 349) rfl rfl ?_
        refine own_iload X hx (hb hby at_349) (pc' := 351) rfl rfl ?_
        refine own_icmpN X hx (hb hby at_351) (pc' := 354) rfl (show (own_find qv [] 0) = (-1 : Int32) from (by simp [own_find])) ?_
        refine own_iconst X hx (1 : Int32) (hb hby at_354) (pc' := 355) rfl rfl ?_
        refine own_goto X hx (hb hby at_355) (by decide) (pc' := 359) rfl ?_
        refine own_retI X hx hlk (t := .boolean) (w' := (.int (1 : Int32))) Bd.returns (hb hby at_359) rfl rfl (by simp) (by decide) (by decide) ?_
        rw [eT]
        exact ⟨rfl, N⟩
      refine own_iload X hx (hb hby at_125) (pc' := 127) rfl rfl ?_
      refine own_istore X hx (hb hby at_127) (pc' := 129) rfl (Ls' := #[.val (.int p0), .val (.int p1), .val (.int p2), .val (.int p3), .val (.int p4), .val (.int p5), .val (.int (0 : Int32)), .val (.int p0), .val (.int x1), .val (.int x2), .val (.int x3), .val (.ref b1), .val (.int md), .val (.int p4), .unset, .unset, .unset, .unset, .unset, .unset, .unset]) rfl ?_
      refine own_iload X hx (hb hby at_129) (pc' := 131) rfl rfl ?_
      refine own_if X hx (hb hby at_131) (by decide) (pcY := 146) (pcN := 134) rfl rfl (fun (hc131 : ¬ (md = (0 : Int32))) => ?_) (fun (hc131 : md = (0 : Int32)) => ?_)
      · refine own_iload X hx (hb hby at_146) (pc' := 148) rfl rfl ?_
        refine own_iconst X hx (1 : Int32) (hb hby at_148) (pc' := 149) rfl rfl ?_
        refine own_icmp X hx (hb hby at_149) (by decide) (pcY := 165) (pcN := 152) rfl rfl (fun (hc149 : ¬ (md = (1 : Int32))) => ?_) (fun (hc149 : md = (1 : Int32)) => ?_)
        · refine own_iload X hx (hb hby at_165) (pc' := 167) rfl rfl ?_
          refine own_iconst X hx (2 : Int32) (hb hby at_167) (pc' := 168) rfl rfl ?_
          refine own_icmp X hx (hb hby at_168) (by decide) (pcY := 184) (pcN := 171) rfl rfl (fun (hc168 : ¬ (md = (2 : Int32))) => ?_) (fun (hc168 : md = (2 : Int32)) => ?_)
          · refine own_iload X hx (hb hby at_184) (pc' := 186) rfl rfl ?_
            refine own_iconst X hx (3 : Int32) (hb hby at_186) (pc' := 187) rfl rfl ?_
            refine own_icmp X hx (hb hby at_187) (by decide) (pcY := 200) (pcN := 190) rfl rfl (fun (hc187 : ¬ (md = (3 : Int32))) => ?_) (fun (hc187 : md = (3 : Int32)) => ?_)
            · exact J_200 p4
            · refine own_iload X hx (hb hby at_190) (pc' := 192) rfl rfl ?_
              refine own_iconst X hx (3 : Int32) (hb hby at_192) (pc' := 193) rfl rfl ?_
              refine own_icmpY X hx (hb hby at_193) (by decide) (pc' := 200) rfl (show ¬ ((3 : Int32) < (0 : Int32)) from (by decide)) ?_
              exact J_200 p4
          · refine own_iload X hx (hb hby at_171) (pc' := 173) rfl rfl ?_
            refine own_iconst X hx (2 : Int32) (hb hby at_173) (pc' := 174) rfl rfl ?_
            refine own_icmpY X hx (hb hby at_174) (by decide) (pc' := 184) rfl (show ¬ ((2 : Int32) < (0 : Int32)) from (by decide)) ?_
            refine own_iload X hx (hb hby at_184) (pc' := 186) rfl rfl ?_
            refine own_iconst X hx (3 : Int32) (hb hby at_186) (pc' := 187) rfl rfl ?_
            refine own_icmp X hx (hb hby at_187) (by decide) (pcY := 200) (pcN := 190) rfl rfl (fun (hc187 : ¬ (md = (3 : Int32))) => ?_) (fun (hc187 : md = (3 : Int32)) => ?_)
            · exact J_200 p4
            · refine own_iload X hx (hb hby at_190) (pc' := 192) rfl rfl ?_
              refine own_iconst X hx (3 : Int32) (hb hby at_192) (pc' := 193) rfl rfl ?_
              refine own_icmpY X hx (hb hby at_193) (by decide) (pc' := 200) rfl (show ¬ ((3 : Int32) < (0 : Int32)) from (by decide)) ?_
              exact J_200 p4
        · refine own_iload X hx (hb hby at_152) (pc' := 154) rfl rfl ?_
          refine own_iconst X hx (1 : Int32) (hb hby at_154) (pc' := 155) rfl rfl ?_
          refine own_icmpY X hx (hb hby at_155) (by decide) (pc' := 165) rfl (show ¬ ((1 : Int32) < (0 : Int32)) from (by decide)) ?_
          refine own_iload X hx (hb hby at_165) (pc' := 167) rfl rfl ?_
          refine own_iconst X hx (2 : Int32) (hb hby at_167) (pc' := 168) rfl rfl ?_
          refine own_icmp X hx (hb hby at_168) (by decide) (pcY := 184) (pcN := 171) rfl rfl (fun (hc168 : ¬ (md = (2 : Int32))) => ?_) (fun (hc168 : md = (2 : Int32)) => ?_)
          · refine own_iload X hx (hb hby at_184) (pc' := 186) rfl rfl ?_
            refine own_iconst X hx (3 : Int32) (hb hby at_186) (pc' := 187) rfl rfl ?_
            refine own_icmp X hx (hb hby at_187) (by decide) (pcY := 200) (pcN := 190) rfl rfl (fun (hc187 : ¬ (md = (3 : Int32))) => ?_) (fun (hc187 : md = (3 : Int32)) => ?_)
            · exact J_200 p4
            · refine own_iload X hx (hb hby at_190) (pc' := 192) rfl rfl ?_
              refine own_iconst X hx (3 : Int32) (hb hby at_192) (pc' := 193) rfl rfl ?_
              refine own_icmpY X hx (hb hby at_193) (by decide) (pc' := 200) rfl (show ¬ ((3 : Int32) < (0 : Int32)) from (by decide)) ?_
              exact J_200 p4
          · refine own_iload X hx (hb hby at_171) (pc' := 173) rfl rfl ?_
            refine own_iconst X hx (2 : Int32) (hb hby at_173) (pc' := 174) rfl rfl ?_
            refine own_icmpY X hx (hb hby at_174) (by decide) (pc' := 184) rfl (show ¬ ((2 : Int32) < (0 : Int32)) from (by decide)) ?_
            refine own_iload X hx (hb hby at_184) (pc' := 186) rfl rfl ?_
            refine own_iconst X hx (3 : Int32) (hb hby at_186) (pc' := 187) rfl rfl ?_
            refine own_icmp X hx (hb hby at_187) (by decide) (pcY := 200) (pcN := 190) rfl rfl (fun (hc187 : ¬ (md = (3 : Int32))) => ?_) (fun (hc187 : md = (3 : Int32)) => ?_)
            · exact J_200 p4
            · refine own_iload X hx (hb hby at_190) (pc' := 192) rfl rfl ?_
              refine own_iconst X hx (3 : Int32) (hb hby at_192) (pc' := 193) rfl rfl ?_
              refine own_icmpY X hx (hb hby at_193) (by decide) (pc' := 200) rfl (show ¬ ((3 : Int32) < (0 : Int32)) from (by decide)) ?_
              exact J_200 p4
      · refine own_iload X hx (hb hby at_134) (pc' := 136) rfl rfl ?_
        refine own_ifY X hx (hb hby at_136) (by decide) (pc' := 146) rfl (show ¬ ((0 : Int32) < (0 : Int32)) from (by decide)) ?_
        refine own_iload X hx (hb hby at_146) (pc' := 148) rfl rfl ?_
        refine own_iconst X hx (1 : Int32) (hb hby at_148) (pc' := 149) rfl rfl ?_
        refine own_icmp X hx (hb hby at_149) (by decide) (pcY := 165) (pcN := 152) rfl rfl (fun (hc149 : ¬ (md = (1 : Int32))) => ?_) (fun (hc149 : md = (1 : Int32)) => ?_)
        · refine own_iload X hx (hb hby at_165) (pc' := 167) rfl rfl ?_
          refine own_iconst X hx (2 : Int32) (hb hby at_167) (pc' := 168) rfl rfl ?_
          refine own_icmp X hx (hb hby at_168) (by decide) (pcY := 184) (pcN := 171) rfl rfl (fun (hc168 : ¬ (md = (2 : Int32))) => ?_) (fun (hc168 : md = (2 : Int32)) => ?_)
          · refine own_iload X hx (hb hby at_184) (pc' := 186) rfl rfl ?_
            refine own_iconst X hx (3 : Int32) (hb hby at_186) (pc' := 187) rfl rfl ?_
            refine own_icmp X hx (hb hby at_187) (by decide) (pcY := 200) (pcN := 190) rfl rfl (fun (hc187 : ¬ (md = (3 : Int32))) => ?_) (fun (hc187 : md = (3 : Int32)) => ?_)
            · exact J_200 p4
            · refine own_iload X hx (hb hby at_190) (pc' := 192) rfl rfl ?_
              refine own_iconst X hx (3 : Int32) (hb hby at_192) (pc' := 193) rfl rfl ?_
              refine own_icmpY X hx (hb hby at_193) (by decide) (pc' := 200) rfl (show ¬ ((3 : Int32) < (0 : Int32)) from (by decide)) ?_
              exact J_200 p4
          · refine own_iload X hx (hb hby at_171) (pc' := 173) rfl rfl ?_
            refine own_iconst X hx (2 : Int32) (hb hby at_173) (pc' := 174) rfl rfl ?_
            refine own_icmpY X hx (hb hby at_174) (by decide) (pc' := 184) rfl (show ¬ ((2 : Int32) < (0 : Int32)) from (by decide)) ?_
            refine own_iload X hx (hb hby at_184) (pc' := 186) rfl rfl ?_
            refine own_iconst X hx (3 : Int32) (hb hby at_186) (pc' := 187) rfl rfl ?_
            refine own_icmp X hx (hb hby at_187) (by decide) (pcY := 200) (pcN := 190) rfl rfl (fun (hc187 : ¬ (md = (3 : Int32))) => ?_) (fun (hc187 : md = (3 : Int32)) => ?_)
            · exact J_200 p4
            · refine own_iload X hx (hb hby at_190) (pc' := 192) rfl rfl ?_
              refine own_iconst X hx (3 : Int32) (hb hby at_192) (pc' := 193) rfl rfl ?_
              refine own_icmpY X hx (hb hby at_193) (by decide) (pc' := 200) rfl (show ¬ ((3 : Int32) < (0 : Int32)) from (by decide)) ?_
              exact J_200 p4
        · refine own_iload X hx (hb hby at_152) (pc' := 154) rfl rfl ?_
          refine own_iconst X hx (1 : Int32) (hb hby at_154) (pc' := 155) rfl rfl ?_
          refine own_icmpY X hx (hb hby at_155) (by decide) (pc' := 165) rfl (show ¬ ((1 : Int32) < (0 : Int32)) from (by decide)) ?_
          refine own_iload X hx (hb hby at_165) (pc' := 167) rfl rfl ?_
          refine own_iconst X hx (2 : Int32) (hb hby at_167) (pc' := 168) rfl rfl ?_
          refine own_icmp X hx (hb hby at_168) (by decide) (pcY := 184) (pcN := 171) rfl rfl (fun (hc168 : ¬ (md = (2 : Int32))) => ?_) (fun (hc168 : md = (2 : Int32)) => ?_)
          · refine own_iload X hx (hb hby at_184) (pc' := 186) rfl rfl ?_
            refine own_iconst X hx (3 : Int32) (hb hby at_186) (pc' := 187) rfl rfl ?_
            refine own_icmp X hx (hb hby at_187) (by decide) (pcY := 200) (pcN := 190) rfl rfl (fun (hc187 : ¬ (md = (3 : Int32))) => ?_) (fun (hc187 : md = (3 : Int32)) => ?_)
            · exact J_200 p4
            · refine own_iload X hx (hb hby at_190) (pc' := 192) rfl rfl ?_
              refine own_iconst X hx (3 : Int32) (hb hby at_192) (pc' := 193) rfl rfl ?_
              refine own_icmpY X hx (hb hby at_193) (by decide) (pc' := 200) rfl (show ¬ ((3 : Int32) < (0 : Int32)) from (by decide)) ?_
              exact J_200 p4
          · refine own_iload X hx (hb hby at_171) (pc' := 173) rfl rfl ?_
            refine own_iconst X hx (2 : Int32) (hb hby at_173) (pc' := 174) rfl rfl ?_
            refine own_icmpY X hx (hb hby at_174) (by decide) (pc' := 184) rfl (show ¬ ((2 : Int32) < (0 : Int32)) from (by decide)) ?_
            refine own_iload X hx (hb hby at_184) (pc' := 186) rfl rfl ?_
            refine own_iconst X hx (3 : Int32) (hb hby at_186) (pc' := 187) rfl rfl ?_
            refine own_icmp X hx (hb hby at_187) (by decide) (pcY := 200) (pcN := 190) rfl rfl (fun (hc187 : ¬ (md = (3 : Int32))) => ?_) (fun (hc187 : md = (3 : Int32)) => ?_)
            · exact J_200 p4
            · refine own_iload X hx (hb hby at_190) (pc' := 192) rfl rfl ?_
              refine own_iconst X hx (3 : Int32) (hb hby at_192) (pc' := 193) rfl rfl ?_
              refine own_icmpY X hx (hb hby at_193) (by decide) (pc' := 200) rfl (show ¬ ((3 : Int32) < (0 : Int32)) from (by decide)) ?_
              exact J_200 p4
    · subst q
      show own_W p e below (own_Post s (Q_law Z p0 p1 p2 p3 p4 p5 h0 n0) 40 128) T m 63 #[.val (.int p0), .val (.int p1), .val (.int p2), .val (.int p3), .val (.int p4), .val (.int p5), .val (.int (1 : Int32)), .val (.int p0), .val (.int x1), .val (.int x2), .val (.int x3), .unset, .unset, .unset, .unset, .unset, .unset, .unset, .unset, .unset, .unset] []
      refine own_iload X hx (hb hby at_63) (pc' := 65) rfl rfl ?_
      refine own_newarrE X hx hZ (own_w hw 0 rfl) eT (hb hby at_65) (pc' := 67) rfl (by decide) 1 (by decide) (by decide) (cells' := 1) (slots' := 1) rfl rfl (by decide) (by decide) (ad := "[I") (by decide) ?_
      intro T h5 k_b5 b5 X eT E gb5 E_b5 A_b5
      have z_b5 : n0 ≤ b5 := Nat.le_trans Z0 (Nat.le_of_eq gb5.symm)
      have Z0 := Nat.le_trans Z0 E.1
      have A_b5 : Arv Z h5 b5 k_b5 .int (1 : Int32) [(.int (0 : Int32))] (.int (0 : Int32)) := A_b5.pad (pad_rep [] (.int (0 : Int32)) 1)
      refine own_astore X hx (hb hby at_67) (pc' := 69) rfl rfl (Ls' := #[.val (.int p0), .val (.int p1), .val (.int p2), .val (.int p3), .val (.int p4), .val (.int p5), .val (.int (1 : Int32)), .val (.int p0), .val (.int x1), .val (.int x2), .val (.int x3), .val (.ref b5), .unset, .unset, .unset, .unset, .unset, .unset, .unset, .unset, .unset]) rfl ?_
      refine own_iload X hx (hb hby at_69) (pc' := 71) rfl rfl ?_
      refine own_ifN X hx (hb hby at_71) (pc' := 74) rfl (show (0 : Int32) < (1 : Int32) from (by decide)) ?_
      refine own_aload X hx (hb hby at_74) (pc' := 76) rfl rfl rfl ?_
      refine own_iconst X hx (0 : Int32) (hb hby at_76) (pc' := 77) rfl rfl ?_
      refine own_iload X hx (hb hby at_77) (pc' := 79) rfl rfl ?_
      refine own_iastore X hx hZ eT A_b5 (by decide) 0 rfl (by show 0 < 1; decide) (hb hby at_79) (pc' := 80) rfl ?_
      intro T h6 lc X eT Kq A_b5n fN
      have E_b5 := E_b5.keep Kq
      have Z0 := Nat.le_trans Z0 Kq.1
      have A_b5 := A_b5n
      have N := fN _ z_b5 N
      have A_b5 : Arv Z h6 b5 _ .int (1 : Int32) [(.int p0)] (.int (0 : Int32)) := A_b5
      refine own_iload X hx (hb hby at_80) (pc' := 82) rfl rfl ?_
      refine own_iconst X hx (1 : Int32) (hb hby at_82) (pc' := 83) rfl rfl ?_
      refine own_icmpY X hx (hb hby at_83) (by decide) (pc' := 92) rfl (show ¬ ((1 : Int32) < (1 : Int32)) from (by decide)) ?_
      refine own_iload X hx (hb hby at_92) (pc' := 94) rfl rfl ?_
      refine own_iconst X hx (2 : Int32) (hb hby at_94) (pc' := 95) rfl rfl ?_
      refine own_icmpY X hx (hb hby at_95) (by decide) (pc' := 104) rfl (show ¬ ((2 : Int32) < (1 : Int32)) from (by decide)) ?_
      refine own_iload X hx (hb hby at_104) (pc' := 106) rfl rfl ?_
      refine own_iconst X hx (3 : Int32) (hb hby at_106) (pc' := 107) rfl rfl ?_
      refine own_icmpY X hx (hb hby at_107) (by decide) (pc' := 116) rfl (show ¬ ((3 : Int32) < (1 : Int32)) from (by decide)) ?_
      refine own_iload X hx (hb hby at_116) (pc' := 118) rfl rfl ?_
      refine own_iconst X hx (3 : Int32) (hb hby at_118) (pc' := 119) rfl rfl ?_
      refine own_iushr X hx (hb hby at_119) (pc' := 120) rfl ?_
      refine own_bipush X hx (7 : Int32) (hb hby at_120) (pc' := 122) rfl rfl ?_
      refine own_iand X hx (hb hby at_122) (pc' := 123) rfl ?_
      refine own_istore X hx (hb hby at_123) (pc' := 125) rfl (Ls' := #[.val (.int p0), .val (.int p1), .val (.int p2), .val (.int p3), .val (.int p4), .val (.int p5), .val (.int (1 : Int32)), .val (.int p0), .val (.int x1), .val (.int x2), .val (.int x3), .val (.ref b5), .val (.int ((XT.ushr p5 (3 : Int32)) &&& (7 : Int32))), .unset, .unset, .unset, .unset, .unset, .unset, .unset, .unset]) rfl ?_
      obtain ⟨md, h_md⟩ : ∃ z, z = ((XT.ushr p5 (3 : Int32)) &&& (7 : Int32)) := ⟨_, rfl⟩
      rw [← h_md]
      have J_200 : ∀ (qv : Int32), own_W p e below (own_Post s (Q_law Z p0 p1 p2 p3 p4 p5 h0 n0) 40 128) T m 200 #[.val (.int p0), .val (.int p1), .val (.int p2), .val (.int p3), .val (.int p4), .val (.int p5), .val (.int (1 : Int32)), .val (.int p0), .val (.int x1), .val (.int x2), .val (.int x3), .val (.ref b5), .val (.int md), .val (.int qv), .unset, .unset, .unset, .unset, .unset, .unset, .unset] [] := by
        intro qv
        refine own_new X hx hZ hown (own_w hw 1 rfl) (own_w hw 2 rfl) (own_w hw 3 rfl) eT (hb hby at_200) (pc' := 203) rfl (cells' := 2) (slots' := 5) rfl rfl (by decide) (by decide) ?_
        intro T h7 b7 X eT E gb7 E_b7 Db7
        have lt_b5_b7 : b5 < b7 := Nat.lt_of_lt_of_le E_b5.lt (Nat.le_of_eq gb7.symm)
        have ne_b5_b7 : b5 ≠ b7 := Nat.ne_of_lt lt_b5_b7
        have z_b7 : n0 ≤ b7 := Nat.le_trans Z0 (Nat.le_of_eq gb7.symm)
        have E_b5 := E_b5.ext E
        have A_b5 := A_b5.ext E
        have Z0 := Nat.le_trans Z0 E.1
        have F_columns_b7 : Fld Z h7 b7 "com/example/latchwork/latchwork/storage/ColumnBatch" "columns" "[I" .null := Db7 (Or.inr (own_w hw 20 rfl)) (ty := (.array .int)) (by decide)
        have F_stamps_b7 : Fld Z h7 b7 "com/example/latchwork/latchwork/storage/ColumnBatch" "stamps" "[J" .null := Db7 (Or.inr (own_w hw 23 rfl)) (ty := (.array .long)) (by decide)
        have F_values_b7 : Fld Z h7 b7 "com/example/latchwork/latchwork/storage/ColumnBatch" "values" "[[J" .null := Db7 (Or.inr (own_w hw 27 rfl)) (ty := (.array (.array .long))) (by decide)
        have F_nulls_b7 : Fld Z h7 b7 "com/example/latchwork/latchwork/storage/ColumnBatch" "nulls" "[[Z" .null := Db7 (Or.inr (own_w hw 32 rfl)) (ty := (.array (.array .boolean))) (by decide)
        refine own_dup X hx (hb hby at_203) (pc' := 204) rfl rfl ?_
        refine own_aload X hx (hb hby at_204) (pc' := 206) rfl rfl rfl ?_
        refine own_iconst X hx (1 : Int32) (hb hby at_206) (pc' := 207) rfl rfl ?_
        refine own_callN X hx hZ b7 [(.ref b5), (.int (1 : Int32))] rfl hown (own_w hw 4 rfl) (own_w hw 5 rfl) (own_w hw 3 rfl) (own_w hw 6 rfl) (by decide) (rm_init l Z a0 hw [] b7 b5 _ (1 : Int32) _ h7 n0 Z0 _ _ _ _ E_b7 F_columns_b7 F_stamps_b7 F_values_b7 F_nulls_b7 E_b5 A_b5 (Ne.symm ne_b5_b7) (by decide) (by decide) z_b7) eT (W := 1) (by decide) (by decide) (cells' := 14) (slots' := 26) rfl rfl (by decide) (by decide) (by rw [hml]; rfl) (lenOf own_pd_285bII29V rfl) rfl (S := [(.ref b7)]) rfl (Nat.le_of_eq rfl) (hb hby at_207) (pc' := 210) rfl ?_
        intro v T h8 L lc X eT hq fN
        obtain ⟨rfl, Nq, Kq, bc, hbc, F_columns, A_bc⟩ := hq
        have N := fN _ N Nq
        have lt_b5_bc : b5 < bc := Nat.lt_of_lt_of_le E_b5.lt hbc
        have ne_b5_bc : b5 ≠ bc := Nat.ne_of_lt lt_b5_bc
        have lt_b7_bc : b7 < bc := Nat.lt_of_lt_of_le E_b7.lt hbc
        have ne_b7_bc : b7 ≠ bc := Nat.ne_of_lt lt_b7_bc
        have E_b5 := E_b5.keep Kq
        have A_b5 := A_b5.keep Kq (ninS ne_b5_b7 nin0)
        have E_b7 := E_b7.keep Kq
        have Z0 := Nat.le_trans Z0 Kq.1
        show own_W p e below (own_Post s (Q_law Z p0 p1 p2 p3 p4 p5 h0 n0) 40 128) T m 210 #[.val (.int p0), .val (.int p1), .val (.int p2), .val (.int p3), .val (.int p4), .val (.int p5), .val (.int (1 : Int32)), .val (.int p0), .val (.int x1), .val (.int x2), .val (.int x3), .val (.ref b5), .val (.int md), .val (.int qv), .unset, .unset, .unset, .unset, .unset, .unset, .unset] [(.ref b7)]
        refine own_astore X hx (hb hby at_210) (pc' := 212) rfl rfl (Ls' := #[.val (.int p0), .val (.int p1), .val (.int p2), .val (.int p3), .val (.int p4), .val (.int p5), .val (.int (1 : Int32)), .val (.int p0), .val (.int x1), .val (.int x2), .val (.int x3), .val (.ref b5), .val (.int md), .val (.int qv), .val (.ref b7), .unset, .unset, .unset, .unset, .unset, .unset]) rfl ?_
        refine own_aload X hx (hb hby at_212) (pc' := 214) rfl rfl rfl ?_
        refine own_iload X hx (hb hby at_214) (pc' := 216) rfl rfl ?_
        refine own_callV X hx hZ (y := (⟨"com/example/latchwork/latchwork/storage/ColumnBatch", "indexOf", "(I)I"⟩ : MethodName)) b7 [(.int qv)] hown (own_w hw 33 rfl) (own_w hw 34 rfl) (own_w hw 36 rfl) (own_w hw 35 rfl) (own_w hw 3 rfl) (own_w hw 37 rfl) (by decide) (rm_idx1 l Z a0 hw [] b7 bc _ qv p0 h8 n0 Z0 F_columns A_bc) E_b7 eT (W := 0) (by decide) (by decide) (cells' := 14) (slots' := 26) rfl rfl (by decide) (by decide) (by rw [hml]; rfl) (lenOf own_pd_28I29I rfl) rfl (S := []) rfl (Nat.le_of_eq rfl) (hb hby at_216) (pc' := 219) rfl ?_
        intro v T h9 L lc X eT hq fN
        obtain ⟨rfl, Nq, hqe⟩ := hq
        have N := fN _ N Nq
        rw [hqe] at eT
        show own_W p e below (own_Post s (Q_law Z p0 p1 p2 p3 p4 p5 h0 n0) 40 128) T m 219 #[.val (.int p0), .val (.int p1), .val (.int p2), .val (.int p3), .val (.int p4), .val (.int p5), .val (.int (1 : Int32)), .val (.int p0), .val (.int x1), .val (.int x2), .val (.int x3), .val (.ref b5), .val (.int md), .val (.int qv), .val (.ref b7), .unset, .unset, .unset, .unset, .unset, .unset] [(.int (own_find qv [p0] 0))]
        refine own_istore X hx (hb hby at_219) (pc' := 221) rfl (Ls' := #[.val (.int p0), .val (.int p1), .val (.int p2), .val (.int p3), .val (.int p4), .val (.int p5), .val (.int (1 : Int32)), .val (.int p0), .val (.int x1), .val (.int x2), .val (.int x3), .val (.ref b5), .val (.int md), .val (.int qv), .val (.ref b7), .val (.int (own_find qv [p0] 0)), .unset, .unset, .unset, .unset, .unset]) rfl ?_
        refine own_iload X hx (hb hby at_221) (pc' := 223) rfl rfl ?_
        refine own_ifN X hx (hb hby at_223) (pc' := 226) rfl (show (0 : Int32) < (1 : Int32) from (by decide)) ?_
        refine own_iload X hx (hb hby at_226) (pc' := 228) rfl rfl ?_
        refine own_iload X hx (hb hby at_228) (pc' := 230) rfl rfl ?_
        refine own_icmp X hx (hb hby at_230) (by decide) (pcY := 237) (pcN := 233) rfl rfl (fun (hc230 : ¬ (p0 = qv)) => ?_) (fun (hc230 : p0 = qv) => ?_)
        · refine own_iconst X hx (0 : Int32) (hb hby at_237) (pc' := 238) rfl rfl ?_
          refine own_istore X hx (hb hby at_238) (pc' := 240) rfl (Ls' := #[.val (.int p0), .val (.int p1), .val (.int p2), .val (.int p3), .val (.int p4), .val (.int p5), .val (.int (1 : Int32)), .val (.int p0), .val (.int x1), .val (.int x2), .val (.int x3), .val (.ref b5), .val (.int md), .val (.int qv), .val (.ref b7), .val (.int (own_find qv [p0] 0)), .val (.int (0 : Int32)), .unset, .unset, .unset, .unset]) rfl ?_
          refine own_iload X hx (hb hby at_240) (pc' := 242) rfl rfl ?_
          refine own_iconst X hx (1 : Int32) (hb hby at_242) (pc' := 243) rfl rfl ?_
          refine own_icmpY X hx (hb hby at_243) (by decide) (pc' := 257) rfl (show ¬ ((1 : Int32) < (1 : Int32)) from (by decide)) ?_
          refine own_iconst X hx (0 : Int32) (hb hby at_257) (pc' := 258) rfl rfl ?_
          refine own_istore X hx (hb hby at_258) (pc' := 260) rfl (Ls' := #[.val (.int p0), .val (.int p1), .val (.int p2), .val (.int p3), .val (.int p4), .val (.int p5), .val (.int (1 : Int32)), .val (.int p0), .val (.int x1), .val (.int x2), .val (.int x3), .val (.ref b5), .val (.int md), .val (.int qv), .val (.ref b7), .val (.int (own_find qv [p0] 0)), .val (.int (0 : Int32)), .val (.int (0 : Int32)), .unset, .unset, .unset]) rfl ?_
          refine own_iload X hx (hb hby at_260) (pc' := 262) rfl rfl ?_
          refine own_iconst X hx (2 : Int32) (hb hby at_262) (pc' := 263) rfl rfl ?_
          refine own_icmpY X hx (hb hby at_263) (by decide) (pc' := 277) rfl (show ¬ ((2 : Int32) < (1 : Int32)) from (by decide)) ?_
          refine own_iconst X hx (0 : Int32) (hb hby at_277) (pc' := 278) rfl rfl ?_
          refine own_istore X hx (hb hby at_278) (pc' := 280) rfl (Ls' := #[.val (.int p0), .val (.int p1), .val (.int p2), .val (.int p3), .val (.int p4), .val (.int p5), .val (.int (1 : Int32)), .val (.int p0), .val (.int x1), .val (.int x2), .val (.int x3), .val (.ref b5), .val (.int md), .val (.int qv), .val (.ref b7), .val (.int (own_find qv [p0] 0)), .val (.int (0 : Int32)), .val (.int (0 : Int32)), .val (.int (0 : Int32)), .unset, .unset]) rfl ?_
          refine own_iload X hx (hb hby at_280) (pc' := 282) rfl rfl ?_
          refine own_iconst X hx (3 : Int32) (hb hby at_282) (pc' := 283) rfl rfl ?_
          refine own_icmpY X hx (hb hby at_283) (by decide) (pc' := 297) rfl (show ¬ ((3 : Int32) < (1 : Int32)) from (by decide)) ?_
          refine own_iconst X hx (0 : Int32) (hb hby at_297) (pc' := 298) rfl rfl ?_
          refine own_istore X hx (hb hby at_298) (pc' := 300) rfl (Ls' := #[.val (.int p0), .val (.int p1), .val (.int p2), .val (.int p3), .val (.int p4), .val (.int p5), .val (.int (1 : Int32)), .val (.int p0), .val (.int x1), .val (.int x2), .val (.int x3), .val (.ref b5), .val (.int md), .val (.int qv), .val (.ref b7), .val (.int (own_find qv [p0] 0)), .val (.int (0 : Int32)), .val (.int (0 : Int32)), .val (.int (0 : Int32)), .val (.int (0 : Int32)), .unset]) rfl ?_
          refine own_iload X hx (hb hby at_300) (pc' := 302) rfl rfl ?_
          refine own_ifY X hx (hb hby at_302) (by decide) (pc' := 311) rfl (show (0 : Int32) = (0 : Int32) from (by decide)) ?_
          refine own_iload X hx (hb hby at_311) (pc' := 313) rfl rfl ?_
          refine own_ifY X hx (hb hby at_313) (by decide) (pc' := 322) rfl (show (0 : Int32) = (0 : Int32) from (by decide)) ?_
          refine own_iload X hx (hb hby at_322) (pc' := 324) rfl rfl ?_
          refine own_ifY X hx (hb hby at_324) (by decide) (pc' := 333) rfl (show (0 : Int32) = (0 : Int32) from (by decide)) ?_
          refine own_iload X hx (hb hby at_333) (pc' := 335) rfl rfl ?_
          refine own_ifY X hx (hb hby at_335) (by decide) (pc' := 344) rfl (show (0 : Int32) = (0 : Int32) from (by decide)) ?_
          refine own_iconst X hx (-1 : Int32) (hb hby at_344) (pc' := 345) rfl rfl ?_
          refine own_istore X hx (hb hby at_345) (pc' := 347) rfl (Ls' := #[.val (.int p0), .val (.int p1), .val (.int p2), .val (.int p3), .val (.int p4), .val (.int p5), .val (.int (1 : Int32)), .val (.int p0), .val (.int x1), .val (.int x2), .val (.int x3), .val (.ref b5), .val (.int md), .val (.int qv), .val (.ref b7), .val (.int (own_find qv [p0] 0)), .val (.int (0 : Int32)), .val (.int (0 : Int32)), .val (.int (0 : Int32)), .val (.int (0 : Int32)), .val (.int (-1 : Int32))]) rfl ?_
          refine own_iload X hx (hb hby at_347) (pc' := 349) rfl rfl ?_
          refine own_iload X hx (hb hby at_349) (pc' := 351) rfl rfl ?_
          refine own_icmpN X hx (hb hby at_351) (pc' := 354) rfl (show (own_find qv [p0] 0) = (-1 : Int32) from (by simp [own_find, hc230])) ?_
          refine own_iconst X hx (1 : Int32) (hb hby at_354) (pc' := 355) rfl rfl ?_
          refine own_goto X hx (hb hby at_355) (by decide) (pc' := 359) rfl ?_
          refine own_retI X hx hlk (t := .boolean) (w' := (.int (1 : Int32))) Bd.returns (hb hby at_359) rfl rfl (by simp) (by decide) (by decide) ?_
          rw [eT]
          exact ⟨rfl, N⟩
        · refine own_iconst X hx (1 : Int32) (hb hby at_233) (pc' := 234) rfl rfl ?_
          refine own_goto X hx (hb hby at_234) (by decide) (pc' := 238) rfl ?_
          refine own_istore X hx (hb hby at_238) (pc' := 240) rfl (Ls' := #[.val (.int p0), .val (.int p1), .val (.int p2), .val (.int p3), .val (.int p4), .val (.int p5), .val (.int (1 : Int32)), .val (.int p0), .val (.int x1), .val (.int x2), .val (.int x3), .val (.ref b5), .val (.int md), .val (.int qv), .val (.ref b7), .val (.int (own_find qv [p0] 0)), .val (.int (1 : Int32)), .unset, .unset, .unset, .unset]) rfl ?_
          refine own_iload X hx (hb hby at_240) (pc' := 242) rfl rfl ?_
          refine own_iconst X hx (1 : Int32) (hb hby at_242) (pc' := 243) rfl rfl ?_
          refine own_icmpY X hx (hb hby at_243) (by decide) (pc' := 257) rfl (show ¬ ((1 : Int32) < (1 : Int32)) from (by decide)) ?_
          refine own_iconst X hx (0 : Int32) (hb hby at_257) (pc' := 258) rfl rfl ?_
          refine own_istore X hx (hb hby at_258) (pc' := 260) rfl (Ls' := #[.val (.int p0), .val (.int p1), .val (.int p2), .val (.int p3), .val (.int p4), .val (.int p5), .val (.int (1 : Int32)), .val (.int p0), .val (.int x1), .val (.int x2), .val (.int x3), .val (.ref b5), .val (.int md), .val (.int qv), .val (.ref b7), .val (.int (own_find qv [p0] 0)), .val (.int (1 : Int32)), .val (.int (0 : Int32)), .unset, .unset, .unset]) rfl ?_
          refine own_iload X hx (hb hby at_260) (pc' := 262) rfl rfl ?_
          refine own_iconst X hx (2 : Int32) (hb hby at_262) (pc' := 263) rfl rfl ?_
          refine own_icmpY X hx (hb hby at_263) (by decide) (pc' := 277) rfl (show ¬ ((2 : Int32) < (1 : Int32)) from (by decide)) ?_
          refine own_iconst X hx (0 : Int32) (hb hby at_277) (pc' := 278) rfl rfl ?_
          refine own_istore X hx (hb hby at_278) (pc' := 280) rfl (Ls' := #[.val (.int p0), .val (.int p1), .val (.int p2), .val (.int p3), .val (.int p4), .val (.int p5), .val (.int (1 : Int32)), .val (.int p0), .val (.int x1), .val (.int x2), .val (.int x3), .val (.ref b5), .val (.int md), .val (.int qv), .val (.ref b7), .val (.int (own_find qv [p0] 0)), .val (.int (1 : Int32)), .val (.int (0 : Int32)), .val (.int (0 : Int32)), .unset, .unset]) rfl ?_
          refine own_iload X hx (hb hby at_280) (pc' := 282) rfl rfl ?_
          refine own_iconst X hx (3 : Int32) (hb hby at_282) (pc' := 283) rfl rfl ?_
          refine own_icmpY X hx (hb hby at_283) (by decide) (pc' := 297) rfl (show ¬ ((3 : Int32) < (1 : Int32)) from (by decide)) ?_
          refine own_iconst X hx (0 : Int32) (hb hby at_297) (pc' := 298) rfl rfl ?_
          refine own_istore X hx (hb hby at_298) (pc' := 300) rfl (Ls' := #[.val (.int p0), .val (.int p1), .val (.int p2), .val (.int p3), .val (.int p4), .val (.int p5), .val (.int (1 : Int32)), .val (.int p0), .val (.int x1), .val (.int x2), .val (.int x3), .val (.ref b5), .val (.int md), .val (.int qv), .val (.ref b7), .val (.int (own_find qv [p0] 0)), .val (.int (1 : Int32)), .val (.int (0 : Int32)), .val (.int (0 : Int32)), .val (.int (0 : Int32)), .unset]) rfl ?_
          refine own_iload X hx (hb hby at_300) (pc' := 302) rfl rfl ?_
          refine own_ifN X hx (hb hby at_302) (pc' := 305) rfl (show ¬ ((1 : Int32) = (0 : Int32)) from (by decide)) ?_
          refine own_iconst X hx (0 : Int32) (hb hby at_305) (pc' := 306) rfl rfl ?_
          refine own_istore X hx (hb hby at_306) (pc' := 308) rfl (Ls' := #[.val (.int p0), .val (.int p1), .val (.int p2), .val (.int p3), .val (.int p4), .val (.int p5), .val (.int (1 : Int32)), .val (.int p0), .val (.int x1), .val (.int x2), .val (.int x3), .val (.ref b5), .val (.int md), .val (.int qv), .val (.ref b7), .val (.int (own_find qv [p0] 0)), .val (.int (1 : Int32)), .val (.int (0 : Int32)), .val (.int (0 : Int32)), .val (.int (0 : Int32)), .val (.int (0 : Int32))]) rfl ?_
          refine own_goto X hx (hb hby at_308) (by decide) (pc' := 347) rfl ?_
          refine own_iload X hx (hb hby at_347) (pc' := 349) rfl rfl ?_
          refine own_iload X hx (hb hby at_349) (pc' := 351) rfl rfl ?_
          refine own_icmpN X hx (hb hby at_351) (pc' := 354) rfl (show (own_find qv [p0] 0) = (0 : Int32) from (by simp [own_find, hc230])) ?_
          refine own_iconst X hx (1 : Int32) (hb hby at_354) (pc' := 355) rfl rfl ?_
          refine own_goto X hx (hb hby at_355) (by decide) (pc' := 359) rfl ?_
          refine own_retI X hx hlk (t := .boolean) (w' := (.int (1 : Int32))) Bd.returns (hb hby at_359) rfl rfl (by simp) (by decide) (by decide) ?_
          rw [eT]
          exact ⟨rfl, N⟩
      refine own_iload X hx (hb hby at_125) (pc' := 127) rfl rfl ?_
      refine own_istore X hx (hb hby at_127) (pc' := 129) rfl (Ls' := #[.val (.int p0), .val (.int p1), .val (.int p2), .val (.int p3), .val (.int p4), .val (.int p5), .val (.int (1 : Int32)), .val (.int p0), .val (.int x1), .val (.int x2), .val (.int x3), .val (.ref b5), .val (.int md), .val (.int p4), .unset, .unset, .unset, .unset, .unset, .unset, .unset]) rfl ?_
      refine own_iload X hx (hb hby at_129) (pc' := 131) rfl rfl ?_
      refine own_if X hx (hb hby at_131) (by decide) (pcY := 146) (pcN := 134) rfl rfl (fun (hc131 : ¬ (md = (0 : Int32))) => ?_) (fun (hc131 : md = (0 : Int32)) => ?_)
      · refine own_iload X hx (hb hby at_146) (pc' := 148) rfl rfl ?_
        refine own_iconst X hx (1 : Int32) (hb hby at_148) (pc' := 149) rfl rfl ?_
        refine own_icmp X hx (hb hby at_149) (by decide) (pcY := 165) (pcN := 152) rfl rfl (fun (hc149 : ¬ (md = (1 : Int32))) => ?_) (fun (hc149 : md = (1 : Int32)) => ?_)
        · refine own_iload X hx (hb hby at_165) (pc' := 167) rfl rfl ?_
          refine own_iconst X hx (2 : Int32) (hb hby at_167) (pc' := 168) rfl rfl ?_
          refine own_icmp X hx (hb hby at_168) (by decide) (pcY := 184) (pcN := 171) rfl rfl (fun (hc168 : ¬ (md = (2 : Int32))) => ?_) (fun (hc168 : md = (2 : Int32)) => ?_)
          · refine own_iload X hx (hb hby at_184) (pc' := 186) rfl rfl ?_
            refine own_iconst X hx (3 : Int32) (hb hby at_186) (pc' := 187) rfl rfl ?_
            refine own_icmp X hx (hb hby at_187) (by decide) (pcY := 200) (pcN := 190) rfl rfl (fun (hc187 : ¬ (md = (3 : Int32))) => ?_) (fun (hc187 : md = (3 : Int32)) => ?_)
            · exact J_200 p4
            · refine own_iload X hx (hb hby at_190) (pc' := 192) rfl rfl ?_
              refine own_iconst X hx (3 : Int32) (hb hby at_192) (pc' := 193) rfl rfl ?_
              refine own_icmpY X hx (hb hby at_193) (by decide) (pc' := 200) rfl (show ¬ ((3 : Int32) < (1 : Int32)) from (by decide)) ?_
              exact J_200 p4
          · refine own_iload X hx (hb hby at_171) (pc' := 173) rfl rfl ?_
            refine own_iconst X hx (2 : Int32) (hb hby at_173) (pc' := 174) rfl rfl ?_
            refine own_icmpY X hx (hb hby at_174) (by decide) (pc' := 184) rfl (show ¬ ((2 : Int32) < (1 : Int32)) from (by decide)) ?_
            refine own_iload X hx (hb hby at_184) (pc' := 186) rfl rfl ?_
            refine own_iconst X hx (3 : Int32) (hb hby at_186) (pc' := 187) rfl rfl ?_
            refine own_icmp X hx (hb hby at_187) (by decide) (pcY := 200) (pcN := 190) rfl rfl (fun (hc187 : ¬ (md = (3 : Int32))) => ?_) (fun (hc187 : md = (3 : Int32)) => ?_)
            · exact J_200 p4
            · refine own_iload X hx (hb hby at_190) (pc' := 192) rfl rfl ?_
              refine own_iconst X hx (3 : Int32) (hb hby at_192) (pc' := 193) rfl rfl ?_
              refine own_icmpY X hx (hb hby at_193) (by decide) (pc' := 200) rfl (show ¬ ((3 : Int32) < (1 : Int32)) from (by decide)) ?_
              exact J_200 p4
        · refine own_iload X hx (hb hby at_152) (pc' := 154) rfl rfl ?_
          refine own_iconst X hx (1 : Int32) (hb hby at_154) (pc' := 155) rfl rfl ?_
          refine own_icmpY X hx (hb hby at_155) (by decide) (pc' := 165) rfl (show ¬ ((1 : Int32) < (1 : Int32)) from (by decide)) ?_
          refine own_iload X hx (hb hby at_165) (pc' := 167) rfl rfl ?_
          refine own_iconst X hx (2 : Int32) (hb hby at_167) (pc' := 168) rfl rfl ?_
          refine own_icmp X hx (hb hby at_168) (by decide) (pcY := 184) (pcN := 171) rfl rfl (fun (hc168 : ¬ (md = (2 : Int32))) => ?_) (fun (hc168 : md = (2 : Int32)) => ?_)
          · refine own_iload X hx (hb hby at_184) (pc' := 186) rfl rfl ?_
            refine own_iconst X hx (3 : Int32) (hb hby at_186) (pc' := 187) rfl rfl ?_
            refine own_icmp X hx (hb hby at_187) (by decide) (pcY := 200) (pcN := 190) rfl rfl (fun (hc187 : ¬ (md = (3 : Int32))) => ?_) (fun (hc187 : md = (3 : Int32)) => ?_)
            · exact J_200 p4
            · refine own_iload X hx (hb hby at_190) (pc' := 192) rfl rfl ?_
              refine own_iconst X hx (3 : Int32) (hb hby at_192) (pc' := 193) rfl rfl ?_
              refine own_icmpY X hx (hb hby at_193) (by decide) (pc' := 200) rfl (show ¬ ((3 : Int32) < (1 : Int32)) from (by decide)) ?_
              exact J_200 p4
          · refine own_iload X hx (hb hby at_171) (pc' := 173) rfl rfl ?_
            refine own_iconst X hx (2 : Int32) (hb hby at_173) (pc' := 174) rfl rfl ?_
            refine own_icmpY X hx (hb hby at_174) (by decide) (pc' := 184) rfl (show ¬ ((2 : Int32) < (1 : Int32)) from (by decide)) ?_
            refine own_iload X hx (hb hby at_184) (pc' := 186) rfl rfl ?_
            refine own_iconst X hx (3 : Int32) (hb hby at_186) (pc' := 187) rfl rfl ?_
            refine own_icmp X hx (hb hby at_187) (by decide) (pcY := 200) (pcN := 190) rfl rfl (fun (hc187 : ¬ (md = (3 : Int32))) => ?_) (fun (hc187 : md = (3 : Int32)) => ?_)
            · exact J_200 p4
            · refine own_iload X hx (hb hby at_190) (pc' := 192) rfl rfl ?_
              refine own_iconst X hx (3 : Int32) (hb hby at_192) (pc' := 193) rfl rfl ?_
              refine own_icmpY X hx (hb hby at_193) (by decide) (pc' := 200) rfl (show ¬ ((3 : Int32) < (1 : Int32)) from (by decide)) ?_
              exact J_200 p4
      · refine own_iload X hx (hb hby at_134) (pc' := 136) rfl rfl ?_
        refine own_ifN X hx (hb hby at_136) (pc' := 139) rfl (show (0 : Int32) < (1 : Int32) from (by decide)) ?_
        refine own_iload X hx (hb hby at_139) (pc' := 141) rfl rfl ?_
        refine own_istore X hx (hb hby at_141) (pc' := 143) rfl (Ls' := #[.val (.int p0), .val (.int p1), .val (.int p2), .val (.int p3), .val (.int p4), .val (.int p5), .val (.int (1 : Int32)), .val (.int p0), .val (.int x1), .val (.int x2), .val (.int x3), .val (.ref b5), .val (.int md), .val (.int p0), .unset, .unset, .unset, .unset, .unset, .unset, .unset]) rfl ?_
        refine own_goto X hx (hb hby at_143) (by decide) (pc' := 200) rfl ?_
        exact J_200 p0
    · subst q
      show own_W p e below (own_Post s (Q_law Z p0 p1 p2 p3 p4 p5 h0 n0) 40 128) T m 63 #[.val (.int p0), .val (.int p1), .val (.int p2), .val (.int p3), .val (.int p4), .val (.int p5), .val (.int (2 : Int32)), .val (.int p0), .val (.int x1), .val (.int x2), .val (.int x3), .unset, .unset, .unset, .unset, .unset, .unset, .unset, .unset, .unset, .unset] []
      refine own_iload X hx (hb hby at_63) (pc' := 65) rfl rfl ?_
      refine own_newarrE X hx hZ (own_w hw 0 rfl) eT (hb hby at_65) (pc' := 67) rfl (by decide) 2 (by decide) (by decide) (cells' := 1) (slots' := 2) rfl rfl (by decide) (by decide) (ad := "[I") (by decide) ?_
      intro T h10 k_b10 b10 X eT E gb10 E_b10 A_b10
      have z_b10 : n0 ≤ b10 := Nat.le_trans Z0 (Nat.le_of_eq gb10.symm)
      have Z0 := Nat.le_trans Z0 E.1
      have A_b10 : Arv Z h10 b10 k_b10 .int (2 : Int32) [(.int (0 : Int32)), (.int (0 : Int32))] (.int (0 : Int32)) := A_b10.pad (pad_rep [] (.int (0 : Int32)) 2)
      refine own_astore X hx (hb hby at_67) (pc' := 69) rfl rfl (Ls' := #[.val (.int p0), .val (.int p1), .val (.int p2), .val (.int p3), .val (.int p4), .val (.int p5), .val (.int (2 : Int32)), .val (.int p0), .val (.int x1), .val (.int x2), .val (.int x3), .val (.ref b10), .unset, .unset, .unset, .unset, .unset, .unset, .unset, .unset, .unset]) rfl ?_
      refine own_iload X hx (hb hby at_69) (pc' := 71) rfl rfl ?_
      refine own_ifN X hx (hb hby at_71) (pc' := 74) rfl (show (0 : Int32) < (2 : Int32) from (by decide)) ?_
      refine own_aload X hx (hb hby at_74) (pc' := 76) rfl rfl rfl ?_
      refine own_iconst X hx (0 : Int32) (hb hby at_76) (pc' := 77) rfl rfl ?_
      refine own_iload X hx (hb hby at_77) (pc' := 79) rfl rfl ?_
      refine own_iastore X hx hZ eT A_b10 (by decide) 0 rfl (by show 0 < 2; decide) (hb hby at_79) (pc' := 80) rfl ?_
      intro T h11 lc X eT Kq A_b10n fN
      have E_b10 := E_b10.keep Kq
      have Z0 := Nat.le_trans Z0 Kq.1
      have A_b10 := A_b10n
      have N := fN _ z_b10 N
      have A_b10 : Arv Z h11 b10 _ .int (2 : Int32) [(.int p0), (.int (0 : Int32))] (.int (0 : Int32)) := A_b10
      refine own_iload X hx (hb hby at_80) (pc' := 82) rfl rfl ?_
      refine own_iconst X hx (1 : Int32) (hb hby at_82) (pc' := 83) rfl rfl ?_
      refine own_icmpN X hx (hb hby at_83) (pc' := 86) rfl (show (1 : Int32) < (2 : Int32) from (by decide)) ?_
      refine own_aload X hx (hb hby at_86) (pc' := 88) rfl rfl rfl ?_
      refine own_iconst X hx (1 : Int32) (hb hby at_88) (pc' := 89) rfl rfl ?_
      refine own_iload X hx (hb hby at_89) (pc' := 91) rfl rfl ?_
      refine own_iastore X hx hZ eT A_b10 (by decide) 1 rfl (by show 1 < 2; decide) (hb hby at_91) (pc' := 92) rfl ?_
      intro T h12 lc X eT Kq A_b10n fN
      have E_b10 := E_b10.keep Kq
      have Z0 := Nat.le_trans Z0 Kq.1
      have A_b10 := A_b10n
      have N := fN _ z_b10 N
      have A_b10 : Arv Z h12 b10 _ .int (2 : Int32) [(.int p0), (.int x1)] (.int (0 : Int32)) := A_b10
      refine own_iload X hx (hb hby at_92) (pc' := 94) rfl rfl ?_
      refine own_iconst X hx (2 : Int32) (hb hby at_94) (pc' := 95) rfl rfl ?_
      refine own_icmpY X hx (hb hby at_95) (by decide) (pc' := 104) rfl (show ¬ ((2 : Int32) < (2 : Int32)) from (by decide)) ?_
      refine own_iload X hx (hb hby at_104) (pc' := 106) rfl rfl ?_
      refine own_iconst X hx (3 : Int32) (hb hby at_106) (pc' := 107) rfl rfl ?_
      refine own_icmpY X hx (hb hby at_107) (by decide) (pc' := 116) rfl (show ¬ ((3 : Int32) < (2 : Int32)) from (by decide)) ?_
      refine own_iload X hx (hb hby at_116) (pc' := 118) rfl rfl ?_
      refine own_iconst X hx (3 : Int32) (hb hby at_118) (pc' := 119) rfl rfl ?_
      refine own_iushr X hx (hb hby at_119) (pc' := 120) rfl ?_
      refine own_bipush X hx (7 : Int32) (hb hby at_120) (pc' := 122) rfl rfl ?_
      refine own_iand X hx (hb hby at_122) (pc' := 123) rfl ?_
      refine own_istore X hx (hb hby at_123) (pc' := 125) rfl (Ls' := #[.val (.int p0), .val (.int p1), .val (.int p2), .val (.int p3), .val (.int p4), .val (.int p5), .val (.int (2 : Int32)), .val (.int p0), .val (.int x1), .val (.int x2), .val (.int x3), .val (.ref b10), .val (.int ((XT.ushr p5 (3 : Int32)) &&& (7 : Int32))), .unset, .unset, .unset, .unset, .unset, .unset, .unset, .unset]) rfl ?_
      obtain ⟨md, h_md⟩ : ∃ z, z = ((XT.ushr p5 (3 : Int32)) &&& (7 : Int32)) := ⟨_, rfl⟩
      rw [← h_md]
      have J_200 : ∀ (qv : Int32), own_W p e below (own_Post s (Q_law Z p0 p1 p2 p3 p4 p5 h0 n0) 40 128) T m 200 #[.val (.int p0), .val (.int p1), .val (.int p2), .val (.int p3), .val (.int p4), .val (.int p5), .val (.int (2 : Int32)), .val (.int p0), .val (.int x1), .val (.int x2), .val (.int x3), .val (.ref b10), .val (.int md), .val (.int qv), .unset, .unset, .unset, .unset, .unset, .unset, .unset] [] := by
        intro qv
        refine own_new X hx hZ hown (own_w hw 1 rfl) (own_w hw 2 rfl) (own_w hw 3 rfl) eT (hb hby at_200) (pc' := 203) rfl (cells' := 2) (slots' := 6) rfl rfl (by decide) (by decide) ?_
        intro T h13 b13 X eT E gb13 E_b13 Db13
        have lt_b10_b13 : b10 < b13 := Nat.lt_of_lt_of_le E_b10.lt (Nat.le_of_eq gb13.symm)
        have ne_b10_b13 : b10 ≠ b13 := Nat.ne_of_lt lt_b10_b13
        have z_b13 : n0 ≤ b13 := Nat.le_trans Z0 (Nat.le_of_eq gb13.symm)
        have E_b10 := E_b10.ext E
        have A_b10 := A_b10.ext E
        have Z0 := Nat.le_trans Z0 E.1
        have F_columns_b13 : Fld Z h13 b13 "com/example/latchwork/latchwork/storage/ColumnBatch" "columns" "[I" .null := Db13 (Or.inr (own_w hw 20 rfl)) (ty := (.array .int)) (by decide)
        have F_stamps_b13 : Fld Z h13 b13 "com/example/latchwork/latchwork/storage/ColumnBatch" "stamps" "[J" .null := Db13 (Or.inr (own_w hw 23 rfl)) (ty := (.array .long)) (by decide)
        have F_values_b13 : Fld Z h13 b13 "com/example/latchwork/latchwork/storage/ColumnBatch" "values" "[[J" .null := Db13 (Or.inr (own_w hw 27 rfl)) (ty := (.array (.array .long))) (by decide)
        have F_nulls_b13 : Fld Z h13 b13 "com/example/latchwork/latchwork/storage/ColumnBatch" "nulls" "[[Z" .null := Db13 (Or.inr (own_w hw 32 rfl)) (ty := (.array (.array .boolean))) (by decide)
        refine own_dup X hx (hb hby at_203) (pc' := 204) rfl rfl ?_
        refine own_aload X hx (hb hby at_204) (pc' := 206) rfl rfl rfl ?_
        refine own_iconst X hx (1 : Int32) (hb hby at_206) (pc' := 207) rfl rfl ?_
        refine own_callN X hx hZ b13 [(.ref b10), (.int (1 : Int32))] rfl hown (own_w hw 4 rfl) (own_w hw 5 rfl) (own_w hw 3 rfl) (own_w hw 6 rfl) (by decide) (rm_init l Z a0 hw [] b13 b10 _ (2 : Int32) _ h13 n0 Z0 _ _ _ _ E_b13 F_columns_b13 F_stamps_b13 F_values_b13 F_nulls_b13 E_b10 A_b10 (Ne.symm ne_b10_b13) (by decide) (by decide) z_b13) eT (W := 1) (by decide) (by decide) (cells' := 14) (slots' := 27) rfl rfl (by decide) (by decide) (by rw [hml]; rfl) (lenOf own_pd_285bII29V rfl) rfl (S := [(.ref b13)]) rfl (Nat.le_of_eq rfl) (hb hby at_207) (pc' := 210) rfl ?_
        intro v T h14 L lc X eT hq fN
        obtain ⟨rfl, Nq, Kq, bc, hbc, F_columns, A_bc⟩ := hq
        have N := fN _ N Nq
        have lt_b10_bc : b10 < bc := Nat.lt_of_lt_of_le E_b10.lt hbc
        have ne_b10_bc : b10 ≠ bc := Nat.ne_of_lt lt_b10_bc
        have lt_b13_bc : b13 < bc := Nat.lt_of_lt_of_le E_b13.lt hbc
        have ne_b13_bc : b13 ≠ bc := Nat.ne_of_lt lt_b13_bc
        have E_b10 := E_b10.keep Kq
        have A_b10 := A_b10.keep Kq (ninS ne_b10_b13 nin0)
        have E_b13 := E_b13.keep Kq
        have Z0 := Nat.le_trans Z0 Kq.1
        show own_W p e below (own_Post s (Q_law Z p0 p1 p2 p3 p4 p5 h0 n0) 40 128) T m 210 #[.val (.int p0), .val (.int p1), .val (.int p2), .val (.int p3), .val (.int p4), .val (.int p5), .val (.int (2 : Int32)), .val (.int p0), .val (.int x1), .val (.int x2), .val (.int x3), .val (.ref b10), .val (.int md), .val (.int qv), .unset, .unset, .unset, .unset, .unset, .unset, .unset] [(.ref b13)]
        refine own_astore X hx (hb hby at_210) (pc' := 212) rfl rfl (Ls' := #[.val (.int p0), .val (.int p1), .val (.int p2), .val (.int p3), .val (.int p4), .val (.int p5), .val (.int (2 : Int32)), .val (.int p0), .val (.int x1), .val (.int x2), .val (.int x3), .val (.ref b10), .val (.int md), .val (.int qv), .val (.ref b13), .unset, .unset, .unset, .unset, .unset, .unset]) rfl ?_
        refine own_aload X hx (hb hby at_212) (pc' := 214) rfl rfl rfl ?_
        refine own_iload X hx (hb hby at_214) (pc' := 216) rfl rfl ?_
        refine own_callV X hx hZ (y := (⟨"com/example/latchwork/latchwork/storage/ColumnBatch", "indexOf", "(I)I"⟩ : MethodName)) b13 [(.int qv)] hown (own_w hw 33 rfl) (own_w hw 34 rfl) (own_w hw 36 rfl) (own_w hw 35 rfl) (own_w hw 3 rfl) (own_w hw 37 rfl) (by decide) (rm_idx2 l Z a0 hw [] b13 bc _ qv p0 x1 h14 n0 Z0 F_columns A_bc) E_b13 eT (W := 0) (by decide) (by decide) (cells' := 14) (slots' := 27) rfl rfl (by decide) (by decide) (by rw [hml]; rfl) (lenOf own_pd_28I29I rfl) rfl (S := []) rfl (Nat.le_of_eq rfl) (hb hby at_216) (pc' := 219) rfl ?_
        intro v T h15 L lc X eT hq fN
        obtain ⟨rfl, Nq, hqe⟩ := hq
        have N := fN _ N Nq
        rw [hqe] at eT
        show own_W p e below (own_Post s (Q_law Z p0 p1 p2 p3 p4 p5 h0 n0) 40 128) T m 219 #[.val (.int p0), .val (.int p1), .val (.int p2), .val (.int p3), .val (.int p4), .val (.int p5), .val (.int (2 : Int32)), .val (.int p0), .val (.int x1), .val (.int x2), .val (.int x3), .val (.ref b10), .val (.int md), .val (.int qv), .val (.ref b13), .unset, .unset, .unset, .unset, .unset, .unset] [(.int (own_find qv [p0, x1] 0))]
        refine own_istore X hx (hb hby at_219) (pc' := 221) rfl (Ls' := #[.val (.int p0), .val (.int p1), .val (.int p2), .val (.int p3), .val (.int p4), .val (.int p5), .val (.int (2 : Int32)), .val (.int p0), .val (.int x1), .val (.int x2), .val (.int x3), .val (.ref b10), .val (.int md), .val (.int qv), .val (.ref b13), .val (.int (own_find qv [p0, x1] 0)), .unset, .unset, .unset, .unset, .unset]) rfl ?_
        refine own_iload X hx (hb hby at_221) (pc' := 223) rfl rfl ?_
        refine own_ifN X hx (hb hby at_223) (pc' := 226) rfl (show (0 : Int32) < (2 : Int32) from (by decide)) ?_
        refine own_iload X hx (hb hby at_226) (pc' := 228) rfl rfl ?_
        refine own_iload X hx (hb hby at_228) (pc' := 230) rfl rfl ?_
        refine own_icmp X hx (hb hby at_230) (by decide) (pcY := 237) (pcN := 233) rfl rfl (fun (hc230 : ¬ (p0 = qv)) => ?_) (fun (hc230 : p0 = qv) => ?_)
        · refine own_iconst X hx (0 : Int32) (hb hby at_237) (pc' := 238) rfl rfl ?_
          refine own_istore X hx (hb hby at_238) (pc' := 240) rfl (Ls' := #[.val (.int p0), .val (.int p1), .val (.int p2), .val (.int p3), .val (.int p4), .val (.int p5), .val (.int (2 : Int32)), .val (.int p0), .val (.int x1), .val (.int x2), .val (.int x3), .val (.ref b10), .val (.int md), .val (.int qv), .val (.ref b13), .val (.int (own_find qv [p0, x1] 0)), .val (.int (0 : Int32)), .unset, .unset, .unset, .unset]) rfl ?_
          refine own_iload X hx (hb hby at_240) (pc' := 242) rfl rfl ?_
          refine own_iconst X hx (1 : Int32) (hb hby at_242) (pc' := 243) rfl rfl ?_
          refine own_icmpN X hx (hb hby at_243) (pc' := 246) rfl (show (1 : Int32) < (2 : Int32) from (by decide)) ?_
          refine own_iload X hx (hb hby at_246) (pc' := 248) rfl rfl ?_
          refine own_iload X hx (hb hby at_248) (pc' := 250) rfl rfl ?_
          refine own_icmp X hx (hb hby at_250) (by decide) (pcY := 257) (pcN := 253) rfl rfl (fun (hc250 : ¬ (x1 = qv)) => ?_) (fun (hc250 : x1 = qv) => ?_)
          · refine own_iconst X hx (0 : Int32) (hb hby at_257) (pc' := 258) rfl rfl ?_
            refine own_istore X hx (hb hby at_258) (pc' := 260) rfl (Ls' := #[.val (.int p0), .val (.int p1), .val (.int p2), .val (.int p3), .val (.int p4), .val (.int p5), .val (.int (2 : Int32)), .val (.int p0), .val (.int x1), .val (.int x2), .val (.int x3), .val (.ref b10), .val (.int md), .val (.int qv), .val (.ref b13), .val (.int (own_find qv [p0, x1] 0)), .val (.int (0 : Int32)), .val (.int (0 : Int32)), .unset, .unset, .unset]) rfl ?_
            refine own_iload X hx (hb hby at_260) (pc' := 262) rfl rfl ?_
            refine own_iconst X hx (2 : Int32) (hb hby at_262) (pc' := 263) rfl rfl ?_
            refine own_icmpY X hx (hb hby at_263) (by decide) (pc' := 277) rfl (show ¬ ((2 : Int32) < (2 : Int32)) from (by decide)) ?_
            refine own_iconst X hx (0 : Int32) (hb hby at_277) (pc' := 278) rfl rfl ?_
            refine own_istore X hx (hb hby at_278) (pc' := 280) rfl (Ls' := #[.val (.int p0), .val (.int p1), .val (.int p2), .val (.int p3), .val (.int p4), .val (.int p5), .val (.int (2 : Int32)), .val (.int p0), .val (.int x1), .val (.int x2), .val (.int x3), .val (.ref b10), .val (.int md), .val (.int qv), .val (.ref b13), .val (.int (own_find qv [p0, x1] 0)), .val (.int (0 : Int32)), .val (.int (0 : Int32)), .val (.int (0 : Int32)), .unset, .unset]) rfl ?_
            refine own_iload X hx (hb hby at_280) (pc' := 282) rfl rfl ?_
            refine own_iconst X hx (3 : Int32) (hb hby at_282) (pc' := 283) rfl rfl ?_
            refine own_icmpY X hx (hb hby at_283) (by decide) (pc' := 297) rfl (show ¬ ((3 : Int32) < (2 : Int32)) from (by decide)) ?_
            refine own_iconst X hx (0 : Int32) (hb hby at_297) (pc' := 298) rfl rfl ?_
            refine own_istore X hx (hb hby at_298) (pc' := 300) rfl (Ls' := #[.val (.int p0), .val (.int p1), .val (.int p2), .val (.int p3), .val (.int p4), .val (.int p5), .val (.int (2 : Int32)), .val (.int p0), .val (.int x1), .val (.int x2), .val (.int x3), .val (.ref b10), .val (.int md), .val (.int qv), .val (.ref b13), .val (.int (own_find qv [p0, x1] 0)), .val (.int (0 : Int32)), .val (.int (0 : Int32)), .val (.int (0 : Int32)), .val (.int (0 : Int32)), .unset]) rfl ?_
            refine own_iload X hx (hb hby at_300) (pc' := 302) rfl rfl ?_
            refine own_ifY X hx (hb hby at_302) (by decide) (pc' := 311) rfl (show (0 : Int32) = (0 : Int32) from (by decide)) ?_
            refine own_iload X hx (hb hby at_311) (pc' := 313) rfl rfl ?_
            refine own_ifY X hx (hb hby at_313) (by decide) (pc' := 322) rfl (show (0 : Int32) = (0 : Int32) from (by decide)) ?_
            refine own_iload X hx (hb hby at_322) (pc' := 324) rfl rfl ?_
            refine own_ifY X hx (hb hby at_324) (by decide) (pc' := 333) rfl (show (0 : Int32) = (0 : Int32) from (by decide)) ?_
            refine own_iload X hx (hb hby at_333) (pc' := 335) rfl rfl ?_
            refine own_ifY X hx (hb hby at_335) (by decide) (pc' := 344) rfl (show (0 : Int32) = (0 : Int32) from (by decide)) ?_
            refine own_iconst X hx (-1 : Int32) (hb hby at_344) (pc' := 345) rfl rfl ?_
            refine own_istore X hx (hb hby at_345) (pc' := 347) rfl (Ls' := #[.val (.int p0), .val (.int p1), .val (.int p2), .val (.int p3), .val (.int p4), .val (.int p5), .val (.int (2 : Int32)), .val (.int p0), .val (.int x1), .val (.int x2), .val (.int x3), .val (.ref b10), .val (.int md), .val (.int qv), .val (.ref b13), .val (.int (own_find qv [p0, x1] 0)), .val (.int (0 : Int32)), .val (.int (0 : Int32)), .val (.int (0 : Int32)), .val (.int (0 : Int32)), .val (.int (-1 : Int32))]) rfl ?_
            refine own_iload X hx (hb hby at_347) (pc' := 349) rfl rfl ?_
            refine own_iload X hx (hb hby at_349) (pc' := 351) rfl rfl ?_
            refine own_icmpN X hx (hb hby at_351) (pc' := 354) rfl (show (own_find qv [p0, x1] 0) = (-1 : Int32) from (by simp [own_find, hc230, hc250])) ?_
            refine own_iconst X hx (1 : Int32) (hb hby at_354) (pc' := 355) rfl rfl ?_
            refine own_goto X hx (hb hby at_355) (by decide) (pc' := 359) rfl ?_
            refine own_retI X hx hlk (t := .boolean) (w' := (.int (1 : Int32))) Bd.returns (hb hby at_359) rfl rfl (by simp) (by decide) (by decide) ?_
            rw [eT]
            exact ⟨rfl, N⟩
          · refine own_iconst X hx (1 : Int32) (hb hby at_253) (pc' := 254) rfl rfl ?_
            refine own_goto X hx (hb hby at_254) (by decide) (pc' := 258) rfl ?_
            refine own_istore X hx (hb hby at_258) (pc' := 260) rfl (Ls' := #[.val (.int p0), .val (.int p1), .val (.int p2), .val (.int p3), .val (.int p4), .val (.int p5), .val (.int (2 : Int32)), .val (.int p0), .val (.int x1), .val (.int x2), .val (.int x3), .val (.ref b10), .val (.int md), .val (.int qv), .val (.ref b13), .val (.int (own_find qv [p0, x1] 0)), .val (.int (0 : Int32)), .val (.int (1 : Int32)), .unset, .unset, .unset]) rfl ?_
            refine own_iload X hx (hb hby at_260) (pc' := 262) rfl rfl ?_
            refine own_iconst X hx (2 : Int32) (hb hby at_262) (pc' := 263) rfl rfl ?_
            refine own_icmpY X hx (hb hby at_263) (by decide) (pc' := 277) rfl (show ¬ ((2 : Int32) < (2 : Int32)) from (by decide)) ?_
            refine own_iconst X hx (0 : Int32) (hb hby at_277) (pc' := 278) rfl rfl ?_
            refine own_istore X hx (hb hby at_278) (pc' := 280) rfl (Ls' := #[.val (.int p0), .val (.int p1), .val (.int p2), .val (.int p3), .val (.int p4), .val (.int p5), .val (.int (2 : Int32)), .val (.int p0), .val (.int x1), .val (.int x2), .val (.int x3), .val (.ref b10), .val (.int md), .val (.int qv), .val (.ref b13), .val (.int (own_find qv [p0, x1] 0)), .val (.int (0 : Int32)), .val (.int (1 : Int32)), .val (.int (0 : Int32)), .unset, .unset]) rfl ?_
            refine own_iload X hx (hb hby at_280) (pc' := 282) rfl rfl ?_
            refine own_iconst X hx (3 : Int32) (hb hby at_282) (pc' := 283) rfl rfl ?_
            refine own_icmpY X hx (hb hby at_283) (by decide) (pc' := 297) rfl (show ¬ ((3 : Int32) < (2 : Int32)) from (by decide)) ?_
            refine own_iconst X hx (0 : Int32) (hb hby at_297) (pc' := 298) rfl rfl ?_
            refine own_istore X hx (hb hby at_298) (pc' := 300) rfl (Ls' := #[.val (.int p0), .val (.int p1), .val (.int p2), .val (.int p3), .val (.int p4), .val (.int p5), .val (.int (2 : Int32)), .val (.int p0), .val (.int x1), .val (.int x2), .val (.int x3), .val (.ref b10), .val (.int md), .val (.int qv), .val (.ref b13), .val (.int (own_find qv [p0, x1] 0)), .val (.int (0 : Int32)), .val (.int (1 : Int32)), .val (.int (0 : Int32)), .val (.int (0 : Int32)), .unset]) rfl ?_
            refine own_iload X hx (hb hby at_300) (pc' := 302) rfl rfl ?_
            refine own_ifY X hx (hb hby at_302) (by decide) (pc' := 311) rfl (show (0 : Int32) = (0 : Int32) from (by decide)) ?_
            refine own_iload X hx (hb hby at_311) (pc' := 313) rfl rfl ?_
            refine own_ifN X hx (hb hby at_313) (pc' := 316) rfl (show ¬ ((1 : Int32) = (0 : Int32)) from (by decide)) ?_
            refine own_iconst X hx (1 : Int32) (hb hby at_316) (pc' := 317) rfl rfl ?_
            refine own_istore X hx (hb hby at_317) (pc' := 319) rfl (Ls' := #[.val (.int p0), .val (.int p1), .val (.int p2), .val (.int p3), .val (.int p4), .val (.int p5), .val (.int (2 : Int32)), .val (.int p0), .val (.int x1), .val (.int x2), .val (.int x3), .val (.ref b10), .val (.int md), .val (.int qv), .val (.ref b13), .val (.int (own_find qv [p0, x1] 0)), .val (.int (0 : Int32)), .val (.int (1 : Int32)), .val (.int (0 : Int32)), .val (.int (0 : Int32)), .val (.int (1 : Int32))]) rfl ?_
            refine own_goto X hx (hb hby at_319) (by decide) (pc' := 347) rfl ?_
            refine own_iload X hx (hb hby at_347) (pc' := 349) rfl rfl ?_
            refine own_iload X hx (hb hby at_349) (pc' := 351) rfl rfl ?_
            refine own_icmpN X hx (hb hby at_351) (pc' := 354) rfl (show (own_find qv [p0, x1] 0) = (1 : Int32) from (by simp [own_find, hc230, hc250])) ?_
            refine own_iconst X hx (1 : Int32) (hb hby at_354) (pc' := 355) rfl rfl ?_
            refine own_goto X hx (hb hby at_355) (by decide) (pc' := 359) rfl ?_
            refine own_retI X hx hlk (t := .boolean) (w' := (.int (1 : Int32))) Bd.returns (hb hby at_359) rfl rfl (by simp) (by decide) (by decide) ?_
            rw [eT]
            exact ⟨rfl, N⟩
        · refine own_iconst X hx (1 : Int32) (hb hby at_233) (pc' := 234) rfl rfl ?_
          refine own_goto X hx (hb hby at_234) (by decide) (pc' := 238) rfl ?_
          refine own_istore X hx (hb hby at_238) (pc' := 240) rfl (Ls' := #[.val (.int p0), .val (.int p1), .val (.int p2), .val (.int p3), .val (.int p4), .val (.int p5), .val (.int (2 : Int32)), .val (.int p0), .val (.int x1), .val (.int x2), .val (.int x3), .val (.ref b10), .val (.int md), .val (.int qv), .val (.ref b13), .val (.int (own_find qv [p0, x1] 0)), .val (.int (1 : Int32)), .unset, .unset, .unset, .unset]) rfl ?_
          refine own_iload X hx (hb hby at_240) (pc' := 242) rfl rfl ?_
          refine own_iconst X hx (1 : Int32) (hb hby at_242) (pc' := 243) rfl rfl ?_
          refine own_icmpN X hx (hb hby at_243) (pc' := 246) rfl (show (1 : Int32) < (2 : Int32) from (by decide)) ?_
          refine own_iload X hx (hb hby at_246) (pc' := 248) rfl rfl ?_
          refine own_iload X hx (hb hby at_248) (pc' := 250) rfl rfl ?_
          refine own_icmp X hx (hb hby at_250) (by decide) (pcY := 257) (pcN := 253) rfl rfl (fun (hc250 : ¬ (x1 = qv)) => ?_) (fun (hc250 : x1 = qv) => ?_)
          · refine own_iconst X hx (0 : Int32) (hb hby at_257) (pc' := 258) rfl rfl ?_
            refine own_istore X hx (hb hby at_258) (pc' := 260) rfl (Ls' := #[.val (.int p0), .val (.int p1), .val (.int p2), .val (.int p3), .val (.int p4), .val (.int p5), .val (.int (2 : Int32)), .val (.int p0), .val (.int x1), .val (.int x2), .val (.int x3), .val (.ref b10), .val (.int md), .val (.int qv), .val (.ref b13), .val (.int (own_find qv [p0, x1] 0)), .val (.int (1 : Int32)), .val (.int (0 : Int32)), .unset, .unset, .unset]) rfl ?_
            refine own_iload X hx (hb hby at_260) (pc' := 262) rfl rfl ?_
            refine own_iconst X hx (2 : Int32) (hb hby at_262) (pc' := 263) rfl rfl ?_
            refine own_icmpY X hx (hb hby at_263) (by decide) (pc' := 277) rfl (show ¬ ((2 : Int32) < (2 : Int32)) from (by decide)) ?_
            refine own_iconst X hx (0 : Int32) (hb hby at_277) (pc' := 278) rfl rfl ?_
            refine own_istore X hx (hb hby at_278) (pc' := 280) rfl (Ls' := #[.val (.int p0), .val (.int p1), .val (.int p2), .val (.int p3), .val (.int p4), .val (.int p5), .val (.int (2 : Int32)), .val (.int p0), .val (.int x1), .val (.int x2), .val (.int x3), .val (.ref b10), .val (.int md), .val (.int qv), .val (.ref b13), .val (.int (own_find qv [p0, x1] 0)), .val (.int (1 : Int32)), .val (.int (0 : Int32)), .val (.int (0 : Int32)), .unset, .unset]) rfl ?_
            refine own_iload X hx (hb hby at_280) (pc' := 282) rfl rfl ?_
            refine own_iconst X hx (3 : Int32) (hb hby at_282) (pc' := 283) rfl rfl ?_
            refine own_icmpY X hx (hb hby at_283) (by decide) (pc' := 297) rfl (show ¬ ((3 : Int32) < (2 : Int32)) from (by decide)) ?_
            refine own_iconst X hx (0 : Int32) (hb hby at_297) (pc' := 298) rfl rfl ?_
            refine own_istore X hx (hb hby at_298) (pc' := 300) rfl (Ls' := #[.val (.int p0), .val (.int p1), .val (.int p2), .val (.int p3), .val (.int p4), .val (.int p5), .val (.int (2 : Int32)), .val (.int p0), .val (.int x1), .val (.int x2), .val (.int x3), .val (.ref b10), .val (.int md), .val (.int qv), .val (.ref b13), .val (.int (own_find qv [p0, x1] 0)), .val (.int (1 : Int32)), .val (.int (0 : Int32)), .val (.int (0 : Int32)), .val (.int (0 : Int32)), .unset]) rfl ?_
            refine own_iload X hx (hb hby at_300) (pc' := 302) rfl rfl ?_
            refine own_ifN X hx (hb hby at_302) (pc' := 305) rfl (show ¬ ((1 : Int32) = (0 : Int32)) from (by decide)) ?_
            refine own_iconst X hx (0 : Int32) (hb hby at_305) (pc' := 306) rfl rfl ?_
            refine own_istore X hx (hb hby at_306) (pc' := 308) rfl (Ls' := #[.val (.int p0), .val (.int p1), .val (.int p2), .val (.int p3), .val (.int p4), .val (.int p5), .val (.int (2 : Int32)), .val (.int p0), .val (.int x1), .val (.int x2), .val (.int x3), .val (.ref b10), .val (.int md), .val (.int qv), .val (.ref b13), .val (.int (own_find qv [p0, x1] 0)), .val (.int (1 : Int32)), .val (.int (0 : Int32)), .val (.int (0 : Int32)), .val (.int (0 : Int32)), .val (.int (0 : Int32))]) rfl ?_
            refine own_goto X hx (hb hby at_308) (by decide) (pc' := 347) rfl ?_
            refine own_iload X hx (hb hby at_347) (pc' := 349) rfl rfl ?_
            refine own_iload X hx (hb hby at_349) (pc' := 351) rfl rfl ?_
            refine own_icmpN X hx (hb hby at_351) (pc' := 354) rfl (show (own_find qv [p0, x1] 0) = (0 : Int32) from (by simp [own_find, hc230, hc250])) ?_
            refine own_iconst X hx (1 : Int32) (hb hby at_354) (pc' := 355) rfl rfl ?_
            refine own_goto X hx (hb hby at_355) (by decide) (pc' := 359) rfl ?_
            refine own_retI X hx hlk (t := .boolean) (w' := (.int (1 : Int32))) Bd.returns (hb hby at_359) rfl rfl (by simp) (by decide) (by decide) ?_
            rw [eT]
            exact ⟨rfl, N⟩
          · refine own_iconst X hx (1 : Int32) (hb hby at_253) (pc' := 254) rfl rfl ?_
            refine own_goto X hx (hb hby at_254) (by decide) (pc' := 258) rfl ?_
            refine own_istore X hx (hb hby at_258) (pc' := 260) rfl (Ls' := #[.val (.int p0), .val (.int p1), .val (.int p2), .val (.int p3), .val (.int p4), .val (.int p5), .val (.int (2 : Int32)), .val (.int p0), .val (.int x1), .val (.int x2), .val (.int x3), .val (.ref b10), .val (.int md), .val (.int qv), .val (.ref b13), .val (.int (own_find qv [p0, x1] 0)), .val (.int (1 : Int32)), .val (.int (1 : Int32)), .unset, .unset, .unset]) rfl ?_
            refine own_iload X hx (hb hby at_260) (pc' := 262) rfl rfl ?_
            refine own_iconst X hx (2 : Int32) (hb hby at_262) (pc' := 263) rfl rfl ?_
            refine own_icmpY X hx (hb hby at_263) (by decide) (pc' := 277) rfl (show ¬ ((2 : Int32) < (2 : Int32)) from (by decide)) ?_
            refine own_iconst X hx (0 : Int32) (hb hby at_277) (pc' := 278) rfl rfl ?_
            refine own_istore X hx (hb hby at_278) (pc' := 280) rfl (Ls' := #[.val (.int p0), .val (.int p1), .val (.int p2), .val (.int p3), .val (.int p4), .val (.int p5), .val (.int (2 : Int32)), .val (.int p0), .val (.int x1), .val (.int x2), .val (.int x3), .val (.ref b10), .val (.int md), .val (.int qv), .val (.ref b13), .val (.int (own_find qv [p0, x1] 0)), .val (.int (1 : Int32)), .val (.int (1 : Int32)), .val (.int (0 : Int32)), .unset, .unset]) rfl ?_
            refine own_iload X hx (hb hby at_280) (pc' := 282) rfl rfl ?_
            refine own_iconst X hx (3 : Int32) (hb hby at_282) (pc' := 283) rfl rfl ?_
            refine own_icmpY X hx (hb hby at_283) (by decide) (pc' := 297) rfl (show ¬ ((3 : Int32) < (2 : Int32)) from (by decide)) ?_
            refine own_iconst X hx (0 : Int32) (hb hby at_297) (pc' := 298) rfl rfl ?_
            refine own_istore X hx (hb hby at_298) (pc' := 300) rfl (Ls' := #[.val (.int p0), .val (.int p1), .val (.int p2), .val (.int p3), .val (.int p4), .val (.int p5), .val (.int (2 : Int32)), .val (.int p0), .val (.int x1), .val (.int x2), .val (.int x3), .val (.ref b10), .val (.int md), .val (.int qv), .val (.ref b13), .val (.int (own_find qv [p0, x1] 0)), .val (.int (1 : Int32)), .val (.int (1 : Int32)), .val (.int (0 : Int32)), .val (.int (0 : Int32)), .unset]) rfl ?_
            refine own_iload X hx (hb hby at_300) (pc' := 302) rfl rfl ?_
            refine own_ifN X hx (hb hby at_302) (pc' := 305) rfl (show ¬ ((1 : Int32) = (0 : Int32)) from (by decide)) ?_
            refine own_iconst X hx (0 : Int32) (hb hby at_305) (pc' := 306) rfl rfl ?_
            refine own_istore X hx (hb hby at_306) (pc' := 308) rfl (Ls' := #[.val (.int p0), .val (.int p1), .val (.int p2), .val (.int p3), .val (.int p4), .val (.int p5), .val (.int (2 : Int32)), .val (.int p0), .val (.int x1), .val (.int x2), .val (.int x3), .val (.ref b10), .val (.int md), .val (.int qv), .val (.ref b13), .val (.int (own_find qv [p0, x1] 0)), .val (.int (1 : Int32)), .val (.int (1 : Int32)), .val (.int (0 : Int32)), .val (.int (0 : Int32)), .val (.int (0 : Int32))]) rfl ?_
            refine own_goto X hx (hb hby at_308) (by decide) (pc' := 347) rfl ?_
            refine own_iload X hx (hb hby at_347) (pc' := 349) rfl rfl ?_
            refine own_iload X hx (hb hby at_349) (pc' := 351) rfl rfl ?_
            refine own_icmpN X hx (hb hby at_351) (pc' := 354) rfl (show (own_find qv [p0, x1] 0) = (0 : Int32) from (by simp [own_find, hc230, hc250])) ?_
            refine own_iconst X hx (1 : Int32) (hb hby at_354) (pc' := 355) rfl rfl ?_
            refine own_goto X hx (hb hby at_355) (by decide) (pc' := 359) rfl ?_
            refine own_retI X hx hlk (t := .boolean) (w' := (.int (1 : Int32))) Bd.returns (hb hby at_359) rfl rfl (by simp) (by decide) (by decide) ?_
            rw [eT]
            exact ⟨rfl, N⟩
      refine own_iload X hx (hb hby at_125) (pc' := 127) rfl rfl ?_
      refine own_istore X hx (hb hby at_127) (pc' := 129) rfl (Ls' := #[.val (.int p0), .val (.int p1), .val (.int p2), .val (.int p3), .val (.int p4), .val (.int p5), .val (.int (2 : Int32)), .val (.int p0), .val (.int x1), .val (.int x2), .val (.int x3), .val (.ref b10), .val (.int md), .val (.int p4), .unset, .unset, .unset, .unset, .unset, .unset, .unset]) rfl ?_
      refine own_iload X hx (hb hby at_129) (pc' := 131) rfl rfl ?_
      refine own_if X hx (hb hby at_131) (by decide) (pcY := 146) (pcN := 134) rfl rfl (fun (hc131 : ¬ (md = (0 : Int32))) => ?_) (fun (hc131 : md = (0 : Int32)) => ?_)
      · refine own_iload X hx (hb hby at_146) (pc' := 148) rfl rfl ?_
        refine own_iconst X hx (1 : Int32) (hb hby at_148) (pc' := 149) rfl rfl ?_
        refine own_icmp X hx (hb hby at_149) (by decide) (pcY := 165) (pcN := 152) rfl rfl (fun (hc149 : ¬ (md = (1 : Int32))) => ?_) (fun (hc149 : md = (1 : Int32)) => ?_)
        · refine own_iload X hx (hb hby at_165) (pc' := 167) rfl rfl ?_
          refine own_iconst X hx (2 : Int32) (hb hby at_167) (pc' := 168) rfl rfl ?_
          refine own_icmp X hx (hb hby at_168) (by decide) (pcY := 184) (pcN := 171) rfl rfl (fun (hc168 : ¬ (md = (2 : Int32))) => ?_) (fun (hc168 : md = (2 : Int32)) => ?_)
          · refine own_iload X hx (hb hby at_184) (pc' := 186) rfl rfl ?_
            refine own_iconst X hx (3 : Int32) (hb hby at_186) (pc' := 187) rfl rfl ?_
            refine own_icmp X hx (hb hby at_187) (by decide) (pcY := 200) (pcN := 190) rfl rfl (fun (hc187 : ¬ (md = (3 : Int32))) => ?_) (fun (hc187 : md = (3 : Int32)) => ?_)
            · exact J_200 p4
            · refine own_iload X hx (hb hby at_190) (pc' := 192) rfl rfl ?_
              refine own_iconst X hx (3 : Int32) (hb hby at_192) (pc' := 193) rfl rfl ?_
              refine own_icmpY X hx (hb hby at_193) (by decide) (pc' := 200) rfl (show ¬ ((3 : Int32) < (2 : Int32)) from (by decide)) ?_
              exact J_200 p4
          · refine own_iload X hx (hb hby at_171) (pc' := 173) rfl rfl ?_
            refine own_iconst X hx (2 : Int32) (hb hby at_173) (pc' := 174) rfl rfl ?_
            refine own_icmpY X hx (hb hby at_174) (by decide) (pc' := 184) rfl (show ¬ ((2 : Int32) < (2 : Int32)) from (by decide)) ?_
            refine own_iload X hx (hb hby at_184) (pc' := 186) rfl rfl ?_
            refine own_iconst X hx (3 : Int32) (hb hby at_186) (pc' := 187) rfl rfl ?_
            refine own_icmp X hx (hb hby at_187) (by decide) (pcY := 200) (pcN := 190) rfl rfl (fun (hc187 : ¬ (md = (3 : Int32))) => ?_) (fun (hc187 : md = (3 : Int32)) => ?_)
            · exact J_200 p4
            · refine own_iload X hx (hb hby at_190) (pc' := 192) rfl rfl ?_
              refine own_iconst X hx (3 : Int32) (hb hby at_192) (pc' := 193) rfl rfl ?_
              refine own_icmpY X hx (hb hby at_193) (by decide) (pc' := 200) rfl (show ¬ ((3 : Int32) < (2 : Int32)) from (by decide)) ?_
              exact J_200 p4
        · refine own_iload X hx (hb hby at_152) (pc' := 154) rfl rfl ?_
          refine own_iconst X hx (1 : Int32) (hb hby at_154) (pc' := 155) rfl rfl ?_
          refine own_icmpN X hx (hb hby at_155) (pc' := 158) rfl (show (1 : Int32) < (2 : Int32) from (by decide)) ?_
          refine own_iload X hx (hb hby at_158) (pc' := 160) rfl rfl ?_
          refine own_istore X hx (hb hby at_160) (pc' := 162) rfl (Ls' := #[.val (.int p0), .val (.int p1), .val (.int p2), .val (.int p3), .val (.int p4), .val (.int p5), .val (.int (2 : Int32)), .val (.int p0), .val (.int x1), .val (.int x2), .val (.int x3), .val (.ref b10), .val (.int md), .val (.int x1), .unset, .unset, .unset, .unset, .unset, .unset, .unset]) rfl ?_
          refine own_goto X hx (hb hby at_162) (by decide) (pc' := 200) rfl ?_
          exact J_200 x1
      · refine own_iload X hx (hb hby at_134) (pc' := 136) rfl rfl ?_
        refine own_ifN X hx (hb hby at_136) (pc' := 139) rfl (show (0 : Int32) < (2 : Int32) from (by decide)) ?_
        refine own_iload X hx (hb hby at_139) (pc' := 141) rfl rfl ?_
        refine own_istore X hx (hb hby at_141) (pc' := 143) rfl (Ls' := #[.val (.int p0), .val (.int p1), .val (.int p2), .val (.int p3), .val (.int p4), .val (.int p5), .val (.int (2 : Int32)), .val (.int p0), .val (.int x1), .val (.int x2), .val (.int x3), .val (.ref b10), .val (.int md), .val (.int p0), .unset, .unset, .unset, .unset, .unset, .unset, .unset]) rfl ?_
        refine own_goto X hx (hb hby at_143) (by decide) (pc' := 200) rfl ?_
        exact J_200 p0
    · subst q
      show own_W p e below (own_Post s (Q_law Z p0 p1 p2 p3 p4 p5 h0 n0) 40 128) T m 63 #[.val (.int p0), .val (.int p1), .val (.int p2), .val (.int p3), .val (.int p4), .val (.int p5), .val (.int (3 : Int32)), .val (.int p0), .val (.int x1), .val (.int x2), .val (.int x3), .unset, .unset, .unset, .unset, .unset, .unset, .unset, .unset, .unset, .unset] []
      refine own_iload X hx (hb hby at_63) (pc' := 65) rfl rfl ?_
      refine own_newarrE X hx hZ (own_w hw 0 rfl) eT (hb hby at_65) (pc' := 67) rfl (by decide) 3 (by decide) (by decide) (cells' := 1) (slots' := 3) rfl rfl (by decide) (by decide) (ad := "[I") (by decide) ?_
      intro T h16 k_b16 b16 X eT E gb16 E_b16 A_b16
      have z_b16 : n0 ≤ b16 := Nat.le_trans Z0 (Nat.le_of_eq gb16.symm)
      have Z0 := Nat.le_trans Z0 E.1
      have A_b16 : Arv Z h16 b16 k_b16 .int (3 : Int32) [(.int (0 : Int32)), (.int (0 : Int32)), (.int (0 : Int32))] (.int (0 : Int32)) := A_b16.pad (pad_rep [] (.int (0 : Int32)) 3)
      refine own_astore X hx (hb hby at_67) (pc' := 69) rfl rfl (Ls' := #[.val (.int p0), .val (.int p1), .val (.int p2), .val (.int p3), .val (.int p4), .val (.int p5), .val (.int (3 : Int32)), .val (.int p0), .val (.int x1), .val (.int x2), .val (.int x3), .val (.ref b16), .unset, .unset, .unset, .unset, .unset, .unset, .unset, .unset, .unset]) rfl ?_
      refine own_iload X hx (hb hby at_69) (pc' := 71) rfl rfl ?_
      refine own_ifN X hx (hb hby at_71) (pc' := 74) rfl (show (0 : Int32) < (3 : Int32) from (by decide)) ?_
      refine own_aload X hx (hb hby at_74) (pc' := 76) rfl rfl rfl ?_
      refine own_iconst X hx (0 : Int32) (hb hby at_76) (pc' := 77) rfl rfl ?_
      refine own_iload X hx (hb hby at_77) (pc' := 79) rfl rfl ?_
      refine own_iastore X hx hZ eT A_b16 (by decide) 0 rfl (by show 0 < 3; decide) (hb hby at_79) (pc' := 80) rfl ?_
      intro T h17 lc X eT Kq A_b16n fN
      have E_b16 := E_b16.keep Kq
      have Z0 := Nat.le_trans Z0 Kq.1
      have A_b16 := A_b16n
      have N := fN _ z_b16 N
      have A_b16 : Arv Z h17 b16 _ .int (3 : Int32) [(.int p0), (.int (0 : Int32)), (.int (0 : Int32))] (.int (0 : Int32)) := A_b16
      refine own_iload X hx (hb hby at_80) (pc' := 82) rfl rfl ?_
      refine own_iconst X hx (1 : Int32) (hb hby at_82) (pc' := 83) rfl rfl ?_
      refine own_icmpN X hx (hb hby at_83) (pc' := 86) rfl (show (1 : Int32) < (3 : Int32) from (by decide)) ?_
      refine own_aload X hx (hb hby at_86) (pc' := 88) rfl rfl rfl ?_
      refine own_iconst X hx (1 : Int32) (hb hby at_88) (pc' := 89) rfl rfl ?_
      refine own_iload X hx (hb hby at_89) (pc' := 91) rfl rfl ?_
      refine own_iastore X hx hZ eT A_b16 (by decide) 1 rfl (by show 1 < 3; decide) (hb hby at_91) (pc' := 92) rfl ?_
      intro T h18 lc X eT Kq A_b16n fN
      have E_b16 := E_b16.keep Kq
      have Z0 := Nat.le_trans Z0 Kq.1
      have A_b16 := A_b16n
      have N := fN _ z_b16 N
      have A_b16 : Arv Z h18 b16 _ .int (3 : Int32) [(.int p0), (.int x1), (.int (0 : Int32))] (.int (0 : Int32)) := A_b16
      refine own_iload X hx (hb hby at_92) (pc' := 94) rfl rfl ?_
      refine own_iconst X hx (2 : Int32) (hb hby at_94) (pc' := 95) rfl rfl ?_
      refine own_icmpN X hx (hb hby at_95) (pc' := 98) rfl (show (2 : Int32) < (3 : Int32) from (by decide)) ?_
      refine own_aload X hx (hb hby at_98) (pc' := 100) rfl rfl rfl ?_
      refine own_iconst X hx (2 : Int32) (hb hby at_100) (pc' := 101) rfl rfl ?_
      refine own_iload X hx (hb hby at_101) (pc' := 103) rfl rfl ?_
      refine own_iastore X hx hZ eT A_b16 (by decide) 2 rfl (by show 2 < 3; decide) (hb hby at_103) (pc' := 104) rfl ?_
      intro T h19 lc X eT Kq A_b16n fN
      have E_b16 := E_b16.keep Kq
      have Z0 := Nat.le_trans Z0 Kq.1
      have A_b16 := A_b16n
      have N := fN _ z_b16 N
      have A_b16 : Arv Z h19 b16 _ .int (3 : Int32) [(.int p0), (.int x1), (.int x2)] (.int (0 : Int32)) := A_b16
      refine own_iload X hx (hb hby at_104) (pc' := 106) rfl rfl ?_
      refine own_iconst X hx (3 : Int32) (hb hby at_106) (pc' := 107) rfl rfl ?_
      refine own_icmpY X hx (hb hby at_107) (by decide) (pc' := 116) rfl (show ¬ ((3 : Int32) < (3 : Int32)) from (by decide)) ?_
      refine own_iload X hx (hb hby at_116) (pc' := 118) rfl rfl ?_
      refine own_iconst X hx (3 : Int32) (hb hby at_118) (pc' := 119) rfl rfl ?_
      refine own_iushr X hx (hb hby at_119) (pc' := 120) rfl ?_
      refine own_bipush X hx (7 : Int32) (hb hby at_120) (pc' := 122) rfl rfl ?_
      refine own_iand X hx (hb hby at_122) (pc' := 123) rfl ?_
      refine own_istore X hx (hb hby at_123) (pc' := 125) rfl (Ls' := #[.val (.int p0), .val (.int p1), .val (.int p2), .val (.int p3), .val (.int p4), .val (.int p5), .val (.int (3 : Int32)), .val (.int p0), .val (.int x1), .val (.int x2), .val (.int x3), .val (.ref b16), .val (.int ((XT.ushr p5 (3 : Int32)) &&& (7 : Int32))), .unset, .unset, .unset, .unset, .unset, .unset, .unset, .unset]) rfl ?_
      obtain ⟨md, h_md⟩ : ∃ z, z = ((XT.ushr p5 (3 : Int32)) &&& (7 : Int32)) := ⟨_, rfl⟩
      rw [← h_md]
      have J_200 : ∀ (qv : Int32), own_W p e below (own_Post s (Q_law Z p0 p1 p2 p3 p4 p5 h0 n0) 40 128) T m 200 #[.val (.int p0), .val (.int p1), .val (.int p2), .val (.int p3), .val (.int p4), .val (.int p5), .val (.int (3 : Int32)), .val (.int p0), .val (.int x1), .val (.int x2), .val (.int x3), .val (.ref b16), .val (.int md), .val (.int qv), .unset, .unset, .unset, .unset, .unset, .unset, .unset] [] := by
        intro qv
        refine own_new X hx hZ hown (own_w hw 1 rfl) (own_w hw 2 rfl) (own_w hw 3 rfl) eT (hb hby at_200) (pc' := 203) rfl (cells' := 2) (slots' := 7) rfl rfl (by decide) (by decide) ?_
        intro T h20 b20 X eT E gb20 E_b20 Db20
        have lt_b16_b20 : b16 < b20 := Nat.lt_of_lt_of_le E_b16.lt (Nat.le_of_eq gb20.symm)
        have ne_b16_b20 : b16 ≠ b20 := Nat.ne_of_lt lt_b16_b20
        have z_b20 : n0 ≤ b20 := Nat.le_trans Z0 (Nat.le_of_eq gb20.symm)
        have E_b16 := E_b16.ext E
        have A_b16 := A_b16.ext E
        have Z0 := Nat.le_trans Z0 E.1
        have F_columns_b20 : Fld Z h20 b20 "com/example/latchwork/latchwork/storage/ColumnBatch" "columns" "[I" .null := Db20 (Or.inr (own_w hw 20 rfl)) (ty := (.array .int)) (by decide)
        have F_stamps_b20 : Fld Z h20 b20 "com/example/latchwork/latchwork/storage/ColumnBatch" "stamps" "[J" .null := Db20 (Or.inr (own_w hw 23 rfl)) (ty := (.array .long)) (by decide)
        have F_values_b20 : Fld Z h20 b20 "com/example/latchwork/latchwork/storage/ColumnBatch" "values" "[[J" .null := Db20 (Or.inr (own_w hw 27 rfl)) (ty := (.array (.array .long))) (by decide)
        have F_nulls_b20 : Fld Z h20 b20 "com/example/latchwork/latchwork/storage/ColumnBatch" "nulls" "[[Z" .null := Db20 (Or.inr (own_w hw 32 rfl)) (ty := (.array (.array .boolean))) (by decide)
        refine own_dup X hx (hb hby at_203) (pc' := 204) rfl rfl ?_
        refine own_aload X hx (hb hby at_204) (pc' := 206) rfl rfl rfl ?_
        refine own_iconst X hx (1 : Int32) (hb hby at_206) (pc' := 207) rfl rfl ?_
        refine own_callN X hx hZ b20 [(.ref b16), (.int (1 : Int32))] rfl hown (own_w hw 4 rfl) (own_w hw 5 rfl) (own_w hw 3 rfl) (own_w hw 6 rfl) (by decide) (rm_init l Z a0 hw [] b20 b16 _ (3 : Int32) _ h20 n0 Z0 _ _ _ _ E_b20 F_columns_b20 F_stamps_b20 F_values_b20 F_nulls_b20 E_b16 A_b16 (Ne.symm ne_b16_b20) (by decide) (by decide) z_b20) eT (W := 1) (by decide) (by decide) (cells' := 14) (slots' := 28) rfl rfl (by decide) (by decide) (by rw [hml]; rfl) (lenOf own_pd_285bII29V rfl) rfl (S := [(.ref b20)]) rfl (Nat.le_of_eq rfl) (hb hby at_207) (pc' := 210) rfl ?_
        intro v T h21 L lc X eT hq fN
        obtain ⟨rfl, Nq, Kq, bc, hbc, F_columns, A_bc⟩ := hq
        have N := fN _ N Nq
        have lt_b16_bc : b16 < bc := Nat.lt_of_lt_of_le E_b16.lt hbc
        have ne_b16_bc : b16 ≠ bc := Nat.ne_of_lt lt_b16_bc
        have lt_b20_bc : b20 < bc := Nat.lt_of_lt_of_le E_b20.lt hbc
        have ne_b20_bc : b20 ≠ bc := Nat.ne_of_lt lt_b20_bc
        have E_b16 := E_b16.keep Kq
        have A_b16 := A_b16.keep Kq (ninS ne_b16_b20 nin0)
        have E_b20 := E_b20.keep Kq
        have Z0 := Nat.le_trans Z0 Kq.1
        show own_W p e below (own_Post s (Q_law Z p0 p1 p2 p3 p4 p5 h0 n0) 40 128) T m 210 #[.val (.int p0), .val (.int p1), .val (.int p2), .val (.int p3), .val (.int p4), .val (.int p5), .val (.int (3 : Int32)), .val (.int p0), .val (.int x1), .val (.int x2), .val (.int x3), .val (.ref b16), .val (.int md), .val (.int qv), .unset, .unset, .unset, .unset, .unset, .unset, .unset] [(.ref b20)]
        refine own_astore X hx (hb hby at_210) (pc' := 212) rfl rfl (Ls' := #[.val (.int p0), .val (.int p1), .val (.int p2), .val (.int p3), .val (.int p4), .val (.int p5), .val (.int (3 : Int32)), .val (.int p0), .val (.int x1), .val (.int x2), .val (.int x3), .val (.ref b16), .val (.int md), .val (.int qv), .val (.ref b20), .unset, .unset, .unset, .unset, .unset, .unset]) rfl ?_
        refine own_aload X hx (hb hby at_212) (pc' := 214) rfl rfl rfl ?_
        refine own_iload X hx (hb hby at_214) (pc' := 216) rfl rfl ?_
        refine own_callV X hx hZ (y := (⟨"com/example/latchwork/latchwork/storage/ColumnBatch", "indexOf", "(I)I"⟩ : MethodName)) b20 [(.int qv)] hown (own_w hw 33 rfl) (own_w hw 34 rfl) (own_w hw 36 rfl) (own_w hw 35 rfl) (own_w hw 3 rfl) (own_w hw 37 rfl) (by decide) (rm_idx3 l Z a0 hw [] b20 bc _ qv p0 x1 x2 h21 n0 Z0 F_columns A_bc) E_b20 eT (W := 0) (by decide) (by decide) (cells' := 14) (slots' := 28) rfl rfl (by decide) (by decide) (by rw [hml]; rfl) (lenOf own_pd_28I29I rfl) rfl (S := []) rfl (Nat.le_of_eq rfl) (hb hby at_216) (pc' := 219) rfl ?_
        intro v T h22 L lc X eT hq fN
        obtain ⟨rfl, Nq, hqe⟩ := hq
        have N := fN _ N Nq
        rw [hqe] at eT
        show own_W p e below (own_Post s (Q_law Z p0 p1 p2 p3 p4 p5 h0 n0) 40 128) T m 219 #[.val (.int p0), .val (.int p1), .val (.int p2), .val (.int p3), .val (.int p4), .val (.int p5), .val (.int (3 : Int32)), .val (.int p0), .val (.int x1), .val (.int x2), .val (.int x3), .val (.ref b16), .val (.int md), .val (.int qv), .val (.ref b20), .unset, .unset, .unset, .unset, .unset, .unset] [(.int (own_find qv [p0, x1, x2] 0))]
        refine own_istore X hx (hb hby at_219) (pc' := 221) rfl (Ls' := #[.val (.int p0), .val (.int p1), .val (.int p2), .val (.int p3), .val (.int p4), .val (.int p5), .val (.int (3 : Int32)), .val (.int p0), .val (.int x1), .val (.int x2), .val (.int x3), .val (.ref b16), .val (.int md), .val (.int qv), .val (.ref b20), .val (.int (own_find qv [p0, x1, x2] 0)), .unset, .unset, .unset, .unset, .unset]) rfl ?_
        refine own_iload X hx (hb hby at_221) (pc' := 223) rfl rfl ?_
        refine own_ifN X hx (hb hby at_223) (pc' := 226) rfl (show (0 : Int32) < (3 : Int32) from (by decide)) ?_
        refine own_iload X hx (hb hby at_226) (pc' := 228) rfl rfl ?_
        refine own_iload X hx (hb hby at_228) (pc' := 230) rfl rfl ?_
        refine own_icmp X hx (hb hby at_230) (by decide) (pcY := 237) (pcN := 233) rfl rfl (fun (hc230 : ¬ (p0 = qv)) => ?_) (fun (hc230 : p0 = qv) => ?_)
        · refine own_iconst X hx (0 : Int32) (hb hby at_237) (pc' := 238) rfl rfl ?_
          refine own_istore X hx (hb hby at_238) (pc' := 240) rfl (Ls' := #[.val (.int p0), .val (.int p1), .val (.int p2), .val (.int p3), .val (.int p4), .val (.int p5), .val (.int (3 : Int32)), .val (.int p0), .val (.int x1), .val (.int x2), .val (.int x3), .val (.ref b16), .val (.int md), .val (.int qv), .val (.ref b20), .val (.int (own_find qv [p0, x1, x2] 0)), .val (.int (0 : Int32)), .unset, .unset, .unset, .unset]) rfl ?_
          refine own_iload X hx (hb hby at_240) (pc' := 242) rfl rfl ?_
          refine own_iconst X hx (1 : Int32) (hb hby at_242) (pc' := 243) rfl rfl ?_
          refine own_icmpN X hx (hb hby at_243) (pc' := 246) rfl (show (1 : Int32) < (3 : Int32) from (by decide)) ?_
          refine own_iload X hx (hb hby at_246) (pc' := 248) rfl rfl ?_
          refine own_iload X hx (hb hby at_248) (pc' := 250) rfl rfl ?_
          refine own_icmp X hx (hb hby at_250) (by decide) (pcY := 257) (pcN := 253) rfl rfl (fun (hc250 : ¬ (x1 = qv)) => ?_) (fun (hc250 : x1 = qv) => ?_)
          · refine own_iconst X hx (0 : Int32) (hb hby at_257) (pc' := 258) rfl rfl ?_
            refine own_istore X hx (hb hby at_258) (pc' := 260) rfl (Ls' := #[.val (.int p0), .val (.int p1), .val (.int p2), .val (.int p3), .val (.int p4), .val (.int p5), .val (.int (3 : Int32)), .val (.int p0), .val (.int x1), .val (.int x2), .val (.int x3), .val (.ref b16), .val (.int md), .val (.int qv), .val (.ref b20), .val (.int (own_find qv [p0, x1, x2] 0)), .val (.int (0 : Int32)), .val (.int (0 : Int32)), .unset, .unset, .unset]) rfl ?_
            refine own_iload X hx (hb hby at_260) (pc' := 262) rfl rfl ?_
            refine own_iconst X hx (2 : Int32) (hb hby at_262) (pc' := 263) rfl rfl ?_
            refine own_icmpN X hx (hb hby at_263) (pc' := 266) rfl (show (2 : Int32) < (3 : Int32) from (by decide)) ?_
            refine own_iload X hx (hb hby at_266) (pc' := 268) rfl rfl ?_
            refine own_iload X hx (hb hby at_268) (pc' := 270) rfl rfl ?_
            refine own_icmp X hx (hb hby at_270) (by decide) (pcY := 277) (pcN := 273) rfl rfl (fun (hc270 : ¬ (x2 = qv)) => ?_) (fun (hc270 : x2 = qv) => ?_)
            · refine own_iconst X hx (0 : Int32) (hb hby at_277) (pc' := 278) rfl rfl ?_
              refine own_istore X hx (hb hby at_278) (pc' := 280) rfl (Ls' := #[.val (.int p0), .val (.int p1), .val (.int p2), .val (.int p3), .val (.int p4), .val (.int p5), .val (.int (3 : Int32)), .val (.int p0), .val (.int x1), .val (.int x2), .val (.int x3), .val (.ref b16), .val (.int md), .val (.int qv), .val (.ref b20), .val (.int (own_find qv [p0, x1, x2] 0)), .val (.int (0 : Int32)), .val (.int (0 : Int32)), .val (.int (0 : Int32)), .unset, .unset]) rfl ?_
              refine own_iload X hx (hb hby at_280) (pc' := 282) rfl rfl ?_
              refine own_iconst X hx (3 : Int32) (hb hby at_282) (pc' := 283) rfl rfl ?_
              refine own_icmpY X hx (hb hby at_283) (by decide) (pc' := 297) rfl (show ¬ ((3 : Int32) < (3 : Int32)) from (by decide)) ?_
              refine own_iconst X hx (0 : Int32) (hb hby at_297) (pc' := 298) rfl rfl ?_
              refine own_istore X hx (hb hby at_298) (pc' := 300) rfl (Ls' := #[.val (.int p0), .val (.int p1), .val (.int p2), .val (.int p3), .val (.int p4), .val (.int p5), .val (.int (3 : Int32)), .val (.int p0), .val (.int x1), .val (.int x2), .val (.int x3), .val (.ref b16), .val (.int md), .val (.int qv), .val (.ref b20), .val (.int (own_find qv [p0, x1, x2] 0)), .val (.int (0 : Int32)), .val (.int (0 : Int32)), .val (.int (0 : Int32)), .val (.int (0 : Int32)), .unset]) rfl ?_
              refine own_iload X hx (hb hby at_300) (pc' := 302) rfl rfl ?_
              refine own_ifY X hx (hb hby at_302) (by decide) (pc' := 311) rfl (show (0 : Int32) = (0 : Int32) from (by decide)) ?_
              refine own_iload X hx (hb hby at_311) (pc' := 313) rfl rfl ?_
              refine own_ifY X hx (hb hby at_313) (by decide) (pc' := 322) rfl (show (0 : Int32) = (0 : Int32) from (by decide)) ?_
              refine own_iload X hx (hb hby at_322) (pc' := 324) rfl rfl ?_
              refine own_ifY X hx (hb hby at_324) (by decide) (pc' := 333) rfl (show (0 : Int32) = (0 : Int32) from (by decide)) ?_
              refine own_iload X hx (hb hby at_333) (pc' := 335) rfl rfl ?_
              refine own_ifY X hx (hb hby at_335) (by decide) (pc' := 344) rfl (show (0 : Int32) = (0 : Int32) from (by decide)) ?_
              refine own_iconst X hx (-1 : Int32) (hb hby at_344) (pc' := 345) rfl rfl ?_
              refine own_istore X hx (hb hby at_345) (pc' := 347) rfl (Ls' := #[.val (.int p0), .val (.int p1), .val (.int p2), .val (.int p3), .val (.int p4), .val (.int p5), .val (.int (3 : Int32)), .val (.int p0), .val (.int x1), .val (.int x2), .val (.int x3), .val (.ref b16), .val (.int md), .val (.int qv), .val (.ref b20), .val (.int (own_find qv [p0, x1, x2] 0)), .val (.int (0 : Int32)), .val (.int (0 : Int32)), .val (.int (0 : Int32)), .val (.int (0 : Int32)), .val (.int (-1 : Int32))]) rfl ?_
              refine own_iload X hx (hb hby at_347) (pc' := 349) rfl rfl ?_
              refine own_iload X hx (hb hby at_349) (pc' := 351) rfl rfl ?_
              refine own_icmpN X hx (hb hby at_351) (pc' := 354) rfl (show (own_find qv [p0, x1, x2] 0) = (-1 : Int32) from (by simp [own_find, hc230, hc250, hc270])) ?_
              refine own_iconst X hx (1 : Int32) (hb hby at_354) (pc' := 355) rfl rfl ?_
              refine own_goto X hx (hb hby at_355) (by decide) (pc' := 359) rfl ?_
              refine own_retI X hx hlk (t := .boolean) (w' := (.int (1 : Int32))) Bd.returns (hb hby at_359) rfl rfl (by simp) (by decide) (by decide) ?_
              rw [eT]
              exact ⟨rfl, N⟩
            · refine own_iconst X hx (1 : Int32) (hb hby at_273) (pc' := 274) rfl rfl ?_
              refine own_goto X hx (hb hby at_274) (by decide) (pc' := 278) rfl ?_
              refine own_istore X hx (hb hby at_278) (pc' := 280) rfl (Ls' := #[.val (.int p0), .val (.int p1), .val (.int p2), .val (.int p3), .val (.int p4), .val (.int p5), .val (.int (3 : Int32)), .val (.int p0), .val (.int x1), .val (.int x2), .val (.int x3), .val (.ref b16), .val (.int md), .val (.int qv), .val (.ref b20), .val (.int (own_find qv [p0, x1, x2] 0)), .val (.int (0 : Int32)), .val (.int (0 : Int32)), .val (.int (1 : Int32)), .unset, .unset]) rfl ?_
              refine own_iload X hx (hb hby at_280) (pc' := 282) rfl rfl ?_
              refine own_iconst X hx (3 : Int32) (hb hby at_282) (pc' := 283) rfl rfl ?_
              refine own_icmpY X hx (hb hby at_283) (by decide) (pc' := 297) rfl (show ¬ ((3 : Int32) < (3 : Int32)) from (by decide)) ?_
              refine own_iconst X hx (0 : Int32) (hb hby at_297) (pc' := 298) rfl rfl ?_
              refine own_istore X hx (hb hby at_298) (pc' := 300) rfl (Ls' := #[.val (.int p0), .val (.int p1), .val (.int p2), .val (.int p3), .val (.int p4), .val (.int p5), .val (.int (3 : Int32)), .val (.int p0), .val (.int x1), .val (.int x2), .val (.int x3), .val (.ref b16), .val (.int md), .val (.int qv), .val (.ref b20), .val (.int (own_find qv [p0, x1, x2] 0)), .val (.int (0 : Int32)), .val (.int (0 : Int32)), .val (.int (1 : Int32)), .val (.int (0 : Int32)), .unset]) rfl ?_
              refine own_iload X hx (hb hby at_300) (pc' := 302) rfl rfl ?_
              refine own_ifY X hx (hb hby at_302) (by decide) (pc' := 311) rfl (show (0 : Int32) = (0 : Int32) from (by decide)) ?_
              refine own_iload X hx (hb hby at_311) (pc' := 313) rfl rfl ?_
              refine own_ifY X hx (hb hby at_313) (by decide) (pc' := 322) rfl (show (0 : Int32) = (0 : Int32) from (by decide)) ?_
              refine own_iload X hx (hb hby at_322) (pc' := 324) rfl rfl ?_
              refine own_ifN X hx (hb hby at_324) (pc' := 327) rfl (show ¬ ((1 : Int32) = (0 : Int32)) from (by decide)) ?_
              refine own_iconst X hx (2 : Int32) (hb hby at_327) (pc' := 328) rfl rfl ?_
              refine own_istore X hx (hb hby at_328) (pc' := 330) rfl (Ls' := #[.val (.int p0), .val (.int p1), .val (.int p2), .val (.int p3), .val (.int p4), .val (.int p5), .val (.int (3 : Int32)), .val (.int p0), .val (.int x1), .val (.int x2), .val (.int x3), .val (.ref b16), .val (.int md), .val (.int qv), .val (.ref b20), .val (.int (own_find qv [p0, x1, x2] 0)), .val (.int (0 : Int32)), .val (.int (0 : Int32)), .val (.int (1 : Int32)), .val (.int (0 : Int32)), .val (.int (2 : Int32))]) rfl ?_
              refine own_goto X hx (hb hby at_330) (by decide) (pc' := 347) rfl ?_
              refine own_iload X hx (hb hby at_347) (pc' := 349) rfl rfl ?_
              refine own_iload X hx (hb hby at_349) (pc' := 351) rfl rfl ?_
              refine own_icmpN X hx (hb hby at_351) (pc' := 354) rfl (show (own_find qv [p0, x1, x2] 0) = (2 : Int32) from (by simp [own_find, hc230, hc250, hc270])) ?_
              refine own_iconst X hx (1 : Int32) (hb hby at_354) (pc' := 355) rfl rfl ?_
              refine own_goto X hx (hb hby at_355) (by decide) (pc' := 359) rfl ?_
              refine own_retI X hx hlk (t := .boolean) (w' := (.int (1 : Int32))) Bd.returns (hb hby at_359) rfl rfl (by simp) (by decide) (by decide) ?_
              rw [eT]
              exact ⟨rfl, N⟩
          · refine own_iconst X hx (1 : Int32) (hb hby at_253) (pc' := 254) rfl rfl ?_
            refine own_goto X hx (hb hby at_254) (by decide) (pc' := 258) rfl ?_
            refine own_istore X hx (hb hby at_258) (pc' := 260) rfl (Ls' := #[.val (.int p0), .val (.int p1), .val (.int p2), .val (.int p3), .val (.int p4), .val (.int p5), .val (.int (3 : Int32)), .val (.int p0), .val (.int x1), .val (.int x2), .val (.int x3), .val (.ref b16), .val (.int md), .val (.int qv), .val (.ref b20), .val (.int (own_find qv [p0, x1, x2] 0)), .val (.int (0 : Int32)), .val (.int (1 : Int32)), .unset, .unset, .unset]) rfl ?_
            refine own_iload X hx (hb hby at_260) (pc' := 262) rfl rfl ?_
            refine own_iconst X hx (2 : Int32) (hb hby at_262) (pc' := 263) rfl rfl ?_
            refine own_icmpN X hx (hb hby at_263) (pc' := 266) rfl (show (2 : Int32) < (3 : Int32) from (by decide)) ?_
            refine own_iload X hx (hb hby at_266) (pc' := 268) rfl rfl ?_
            refine own_iload X hx (hb hby at_268) (pc' := 270) rfl rfl ?_
            refine own_icmp X hx (hb hby at_270) (by decide) (pcY := 277) (pcN := 273) rfl rfl (fun (hc270 : ¬ (x2 = qv)) => ?_) (fun (hc270 : x2 = qv) => ?_)
            · refine own_iconst X hx (0 : Int32) (hb hby at_277) (pc' := 278) rfl rfl ?_
              refine own_istore X hx (hb hby at_278) (pc' := 280) rfl (Ls' := #[.val (.int p0), .val (.int p1), .val (.int p2), .val (.int p3), .val (.int p4), .val (.int p5), .val (.int (3 : Int32)), .val (.int p0), .val (.int x1), .val (.int x2), .val (.int x3), .val (.ref b16), .val (.int md), .val (.int qv), .val (.ref b20), .val (.int (own_find qv [p0, x1, x2] 0)), .val (.int (0 : Int32)), .val (.int (1 : Int32)), .val (.int (0 : Int32)), .unset, .unset]) rfl ?_
              refine own_iload X hx (hb hby at_280) (pc' := 282) rfl rfl ?_
              refine own_iconst X hx (3 : Int32) (hb hby at_282) (pc' := 283) rfl rfl ?_
              refine own_icmpY X hx (hb hby at_283) (by decide) (pc' := 297) rfl (show ¬ ((3 : Int32) < (3 : Int32)) from (by decide)) ?_
              refine own_iconst X hx (0 : Int32) (hb hby at_297) (pc' := 298) rfl rfl ?_
              refine own_istore X hx (hb hby at_298) (pc' := 300) rfl (Ls' := #[.val (.int p0), .val (.int p1), .val (.int p2), .val (.int p3), .val (.int p4), .val (.int p5), .val (.int (3 : Int32)), .val (.int p0), .val (.int x1), .val (.int x2), .val (.int x3), .val (.ref b16), .val (.int md), .val (.int qv), .val (.ref b20), .val (.int (own_find qv [p0, x1, x2] 0)), .val (.int (0 : Int32)), .val (.int (1 : Int32)), .val (.int (0 : Int32)), .val (.int (0 : Int32)), .unset]) rfl ?_
              refine own_iload X hx (hb hby at_300) (pc' := 302) rfl rfl ?_
              refine own_ifY X hx (hb hby at_302) (by decide) (pc' := 311) rfl (show (0 : Int32) = (0 : Int32) from (by decide)) ?_
              refine own_iload X hx (hb hby at_311) (pc' := 313) rfl rfl ?_
              refine own_ifN X hx (hb hby at_313) (pc' := 316) rfl (show ¬ ((1 : Int32) = (0 : Int32)) from (by decide)) ?_
              refine own_iconst X hx (1 : Int32) (hb hby at_316) (pc' := 317) rfl rfl ?_
              refine own_istore X hx (hb hby at_317) (pc' := 319) rfl (Ls' := #[.val (.int p0), .val (.int p1), .val (.int p2), .val (.int p3), .val (.int p4), .val (.int p5), .val (.int (3 : Int32)), .val (.int p0), .val (.int x1), .val (.int x2), .val (.int x3), .val (.ref b16), .val (.int md), .val (.int qv), .val (.ref b20), .val (.int (own_find qv [p0, x1, x2] 0)), .val (.int (0 : Int32)), .val (.int (1 : Int32)), .val (.int (0 : Int32)), .val (.int (0 : Int32)), .val (.int (1 : Int32))]) rfl ?_
              refine own_goto X hx (hb hby at_319) (by decide) (pc' := 347) rfl ?_
              refine own_iload X hx (hb hby at_347) (pc' := 349) rfl rfl ?_
              refine own_iload X hx (hb hby at_349) (pc' := 351) rfl rfl ?_
              refine own_icmpN X hx (hb hby at_351) (pc' := 354) rfl (show (own_find qv [p0, x1, x2] 0) = (1 : Int32) from (by simp [own_find, hc230, hc250, hc270])) ?_
              refine own_iconst X hx (1 : Int32) (hb hby at_354) (pc' := 355) rfl rfl ?_
              refine own_goto X hx (hb hby at_355) (by decide) (pc' := 359) rfl ?_
              refine own_retI X hx hlk (t := .boolean) (w' := (.int (1 : Int32))) Bd.returns (hb hby at_359) rfl rfl (by simp) (by decide) (by decide) ?_
              rw [eT]
              exact ⟨rfl, N⟩
            · refine own_iconst X hx (1 : Int32) (hb hby at_273) (pc' := 274) rfl rfl ?_
              refine own_goto X hx (hb hby at_274) (by decide) (pc' := 278) rfl ?_
              refine own_istore X hx (hb hby at_278) (pc' := 280) rfl (Ls' := #[.val (.int p0), .val (.int p1), .val (.int p2), .val (.int p3), .val (.int p4), .val (.int p5), .val (.int (3 : Int32)), .val (.int p0), .val (.int x1), .val (.int x2), .val (.int x3), .val (.ref b16), .val (.int md), .val (.int qv), .val (.ref b20), .val (.int (own_find qv [p0, x1, x2] 0)), .val (.int (0 : Int32)), .val (.int (1 : Int32)), .val (.int (1 : Int32)), .unset, .unset]) rfl ?_
              refine own_iload X hx (hb hby at_280) (pc' := 282) rfl rfl ?_
              refine own_iconst X hx (3 : Int32) (hb hby at_282) (pc' := 283) rfl rfl ?_
              refine own_icmpY X hx (hb hby at_283) (by decide) (pc' := 297) rfl (show ¬ ((3 : Int32) < (3 : Int32)) from (by decide)) ?_
              refine own_iconst X hx (0 : Int32) (hb hby at_297) (pc' := 298) rfl rfl ?_
              refine own_istore X hx (hb hby at_298) (pc' := 300) rfl (Ls' := #[.val (.int p0), .val (.int p1), .val (.int p2), .val (.int p3), .val (.int p4), .val (.int p5), .val (.int (3 : Int32)), .val (.int p0), .val (.int x1), .val (.int x2), .val (.int x3), .val (.ref b16), .val (.int md), .val (.int qv), .val (.ref b20), .val (.int (own_find qv [p0, x1, x2] 0)), .val (.int (0 : Int32)), .val (.int (1 : Int32)), .val (.int (1 : Int32)), .val (.int (0 : Int32)), .unset]) rfl ?_
              refine own_iload X hx (hb hby at_300) (pc' := 302) rfl rfl ?_
              refine own_ifY X hx (hb hby at_302) (by decide) (pc' := 311) rfl (show (0 : Int32) = (0 : Int32) from (by decide)) ?_
              refine own_iload X hx (hb hby at_311) (pc' := 313) rfl rfl ?_
              refine own_ifN X hx (hb hby at_313) (pc' := 316) rfl (show ¬ ((1 : Int32) = (0 : Int32)) from (by decide)) ?_
              refine own_iconst X hx (1 : Int32) (hb hby at_316) (pc' := 317) rfl rfl ?_
              refine own_istore X hx (hb hby at_317) (pc' := 319) rfl (Ls' := #[.val (.int p0), .val (.int p1), .val (.int p2), .val (.int p3), .val (.int p4), .val (.int p5), .val (.int (3 : Int32)), .val (.int p0), .val (.int x1), .val (.int x2), .val (.int x3), .val (.ref b16), .val (.int md), .val (.int qv), .val (.ref b20), .val (.int (own_find qv [p0, x1, x2] 0)), .val (.int (0 : Int32)), .val (.int (1 : Int32)), .val (.int (1 : Int32)), .val (.int (0 : Int32)), .val (.int (1 : Int32))]) rfl ?_
              refine own_goto X hx (hb hby at_319) (by decide) (pc' := 347) rfl ?_
              refine own_iload X hx (hb hby at_347) (pc' := 349) rfl rfl ?_
              refine own_iload X hx (hb hby at_349) (pc' := 351) rfl rfl ?_
              refine own_icmpN X hx (hb hby at_351) (pc' := 354) rfl (show (own_find qv [p0, x1, x2] 0) = (1 : Int32) from (by simp [own_find, hc230, hc250, hc270])) ?_
              refine own_iconst X hx (1 : Int32) (hb hby at_354) (pc' := 355) rfl rfl ?_
              refine own_goto X hx (hb hby at_355) (by decide) (pc' := 359) rfl ?_
              refine own_retI X hx hlk (t := .boolean) (w' := (.int (1 : Int32))) Bd.returns (hb hby at_359) rfl rfl (by simp) (by decide) (by decide) ?_
              rw [eT]
              exact ⟨rfl, N⟩
        · refine own_iconst X hx (1 : Int32) (hb hby at_233) (pc' := 234) rfl rfl ?_
          refine own_goto X hx (hb hby at_234) (by decide) (pc' := 238) rfl ?_
          refine own_istore X hx (hb hby at_238) (pc' := 240) rfl (Ls' := #[.val (.int p0), .val (.int p1), .val (.int p2), .val (.int p3), .val (.int p4), .val (.int p5), .val (.int (3 : Int32)), .val (.int p0), .val (.int x1), .val (.int x2), .val (.int x3), .val (.ref b16), .val (.int md), .val (.int qv), .val (.ref b20), .val (.int (own_find qv [p0, x1, x2] 0)), .val (.int (1 : Int32)), .unset, .unset, .unset, .unset]) rfl ?_
          refine own_iload X hx (hb hby at_240) (pc' := 242) rfl rfl ?_
          refine own_iconst X hx (1 : Int32) (hb hby at_242) (pc' := 243) rfl rfl ?_
          refine own_icmpN X hx (hb hby at_243) (pc' := 246) rfl (show (1 : Int32) < (3 : Int32) from (by decide)) ?_
          refine own_iload X hx (hb hby at_246) (pc' := 248) rfl rfl ?_
          refine own_iload X hx (hb hby at_248) (pc' := 250) rfl rfl ?_
          refine own_icmp X hx (hb hby at_250) (by decide) (pcY := 257) (pcN := 253) rfl rfl (fun (hc250 : ¬ (x1 = qv)) => ?_) (fun (hc250 : x1 = qv) => ?_)
          · refine own_iconst X hx (0 : Int32) (hb hby at_257) (pc' := 258) rfl rfl ?_
            refine own_istore X hx (hb hby at_258) (pc' := 260) rfl (Ls' := #[.val (.int p0), .val (.int p1), .val (.int p2), .val (.int p3), .val (.int p4), .val (.int p5), .val (.int (3 : Int32)), .val (.int p0), .val (.int x1), .val (.int x2), .val (.int x3), .val (.ref b16), .val (.int md), .val (.int qv), .val (.ref b20), .val (.int (own_find qv [p0, x1, x2] 0)), .val (.int (1 : Int32)), .val (.int (0 : Int32)), .unset, .unset, .unset]) rfl ?_
            refine own_iload X hx (hb hby at_260) (pc' := 262) rfl rfl ?_
            refine own_iconst X hx (2 : Int32) (hb hby at_262) (pc' := 263) rfl rfl ?_
            refine own_icmpN X hx (hb hby at_263) (pc' := 266) rfl (show (2 : Int32) < (3 : Int32) from (by decide)) ?_
            refine own_iload X hx (hb hby at_266) (pc' := 268) rfl rfl ?_
            refine own_iload X hx (hb hby at_268) (pc' := 270) rfl rfl ?_
            refine own_icmp X hx (hb hby at_270) (by decide) (pcY := 277) (pcN := 273) rfl rfl (fun (hc270 : ¬ (x2 = qv)) => ?_) (fun (hc270 : x2 = qv) => ?_)
            · refine own_iconst X hx (0 : Int32) (hb hby at_277) (pc' := 278) rfl rfl ?_
              refine own_istore X hx (hb hby at_278) (pc' := 280) rfl (Ls' := #[.val (.int p0), .val (.int p1), .val (.int p2), .val (.int p3), .val (.int p4), .val (.int p5), .val (.int (3 : Int32)), .val (.int p0), .val (.int x1), .val (.int x2), .val (.int x3), .val (.ref b16), .val (.int md), .val (.int qv), .val (.ref b20), .val (.int (own_find qv [p0, x1, x2] 0)), .val (.int (1 : Int32)), .val (.int (0 : Int32)), .val (.int (0 : Int32)), .unset, .unset]) rfl ?_
              refine own_iload X hx (hb hby at_280) (pc' := 282) rfl rfl ?_
              refine own_iconst X hx (3 : Int32) (hb hby at_282) (pc' := 283) rfl rfl ?_
              refine own_icmpY X hx (hb hby at_283) (by decide) (pc' := 297) rfl (show ¬ ((3 : Int32) < (3 : Int32)) from (by decide)) ?_
              refine own_iconst X hx (0 : Int32) (hb hby at_297) (pc' := 298) rfl rfl ?_
              refine own_istore X hx (hb hby at_298) (pc' := 300) rfl (Ls' := #[.val (.int p0), .val (.int p1), .val (.int p2), .val (.int p3), .val (.int p4), .val (.int p5), .val (.int (3 : Int32)), .val (.int p0), .val (.int x1), .val (.int x2), .val (.int x3), .val (.ref b16), .val (.int md), .val (.int qv), .val (.ref b20), .val (.int (own_find qv [p0, x1, x2] 0)), .val (.int (1 : Int32)), .val (.int (0 : Int32)), .val (.int (0 : Int32)), .val (.int (0 : Int32)), .unset]) rfl ?_
              refine own_iload X hx (hb hby at_300) (pc' := 302) rfl rfl ?_
              refine own_ifN X hx (hb hby at_302) (pc' := 305) rfl (show ¬ ((1 : Int32) = (0 : Int32)) from (by decide)) ?_
              refine own_iconst X hx (0 : Int32) (hb hby at_305) (pc' := 306) rfl rfl ?_
              refine own_istore X hx (hb hby at_306) (pc' := 308) rfl (Ls' := #[.val (.int p0), .val (.int p1), .val (.int p2), .val (.int p3), .val (.int p4), .val (.int p5), .val (.int (3 : Int32)), .val (.int p0), .val (.int x1), .val (.int x2), .val (.int x3), .val (.ref b16), .val (.int md), .val (.int qv), .val (.ref b20), .val (.int (own_find qv [p0, x1, x2] 0)), .val (.int (1 : Int32)), .val (.int (0 : Int32)), .val (.int (0 : Int32)), .val (.int (0 : Int32)), .val (.int (0 : Int32))]) rfl ?_
              refine own_goto X hx (hb hby at_308) (by decide) (pc' := 347) rfl ?_
              refine own_iload X hx (hb hby at_347) (pc' := 349) rfl rfl ?_
              refine own_iload X hx (hb hby at_349) (pc' := 351) rfl rfl ?_
              refine own_icmpN X hx (hb hby at_351) (pc' := 354) rfl (show (own_find qv [p0, x1, x2] 0) = (0 : Int32) from (by simp [own_find, hc230, hc250, hc270])) ?_
              refine own_iconst X hx (1 : Int32) (hb hby at_354) (pc' := 355) rfl rfl ?_
              refine own_goto X hx (hb hby at_355) (by decide) (pc' := 359) rfl ?_
              refine own_retI X hx hlk (t := .boolean) (w' := (.int (1 : Int32))) Bd.returns (hb hby at_359) rfl rfl (by simp) (by decide) (by decide) ?_
              rw [eT]
              exact ⟨rfl, N⟩
            · refine own_iconst X hx (1 : Int32) (hb hby at_273) (pc' := 274) rfl rfl ?_
              refine own_goto X hx (hb hby at_274) (by decide) (pc' := 278) rfl ?_
              refine own_istore X hx (hb hby at_278) (pc' := 280) rfl (Ls' := #[.val (.int p0), .val (.int p1), .val (.int p2), .val (.int p3), .val (.int p4), .val (.int p5), .val (.int (3 : Int32)), .val (.int p0), .val (.int x1), .val (.int x2), .val (.int x3), .val (.ref b16), .val (.int md), .val (.int qv), .val (.ref b20), .val (.int (own_find qv [p0, x1, x2] 0)), .val (.int (1 : Int32)), .val (.int (0 : Int32)), .val (.int (1 : Int32)), .unset, .unset]) rfl ?_
              refine own_iload X hx (hb hby at_280) (pc' := 282) rfl rfl ?_
              refine own_iconst X hx (3 : Int32) (hb hby at_282) (pc' := 283) rfl rfl ?_
              refine own_icmpY X hx (hb hby at_283) (by decide) (pc' := 297) rfl (show ¬ ((3 : Int32) < (3 : Int32)) from (by decide)) ?_
              refine own_iconst X hx (0 : Int32) (hb hby at_297) (pc' := 298) rfl rfl ?_
              refine own_istore X hx (hb hby at_298) (pc' := 300) rfl (Ls' := #[.val (.int p0), .val (.int p1), .val (.int p2), .val (.int p3), .val (.int p4), .val (.int p5), .val (.int (3 : Int32)), .val (.int p0), .val (.int x1), .val (.int x2), .val (.int x3), .val (.ref b16), .val (.int md), .val (.int qv), .val (.ref b20), .val (.int (own_find qv [p0, x1, x2] 0)), .val (.int (1 : Int32)), .val (.int (0 : Int32)), .val (.int (1 : Int32)), .val (.int (0 : Int32)), .unset]) rfl ?_
              refine own_iload X hx (hb hby at_300) (pc' := 302) rfl rfl ?_
              refine own_ifN X hx (hb hby at_302) (pc' := 305) rfl (show ¬ ((1 : Int32) = (0 : Int32)) from (by decide)) ?_
              refine own_iconst X hx (0 : Int32) (hb hby at_305) (pc' := 306) rfl rfl ?_
              refine own_istore X hx (hb hby at_306) (pc' := 308) rfl (Ls' := #[.val (.int p0), .val (.int p1), .val (.int p2), .val (.int p3), .val (.int p4), .val (.int p5), .val (.int (3 : Int32)), .val (.int p0), .val (.int x1), .val (.int x2), .val (.int x3), .val (.ref b16), .val (.int md), .val (.int qv), .val (.ref b20), .val (.int (own_find qv [p0, x1, x2] 0)), .val (.int (1 : Int32)), .val (.int (0 : Int32)), .val (.int (1 : Int32)), .val (.int (0 : Int32)), .val (.int (0 : Int32))]) rfl ?_
              refine own_goto X hx (hb hby at_308) (by decide) (pc' := 347) rfl ?_
              refine own_iload X hx (hb hby at_347) (pc' := 349) rfl rfl ?_
              refine own_iload X hx (hb hby at_349) (pc' := 351) rfl rfl ?_
              refine own_icmpN X hx (hb hby at_351) (pc' := 354) rfl (show (own_find qv [p0, x1, x2] 0) = (0 : Int32) from (by simp [own_find, hc230, hc250, hc270])) ?_
              refine own_iconst X hx (1 : Int32) (hb hby at_354) (pc' := 355) rfl rfl ?_
              refine own_goto X hx (hb hby at_355) (by decide) (pc' := 359) rfl ?_
              refine own_retI X hx hlk (t := .boolean) (w' := (.int (1 : Int32))) Bd.returns (hb hby at_359) rfl rfl (by simp) (by decide) (by decide) ?_
              rw [eT]
              exact ⟨rfl, N⟩
          · refine own_iconst X hx (1 : Int32) (hb hby at_253) (pc' := 254) rfl rfl ?_
            refine own_goto X hx (hb hby at_254) (by decide) (pc' := 258) rfl ?_
            refine own_istore X hx (hb hby at_258) (pc' := 260) rfl (Ls' := #[.val (.int p0), .val (.int p1), .val (.int p2), .val (.int p3), .val (.int p4), .val (.int p5), .val (.int (3 : Int32)), .val (.int p0), .val (.int x1), .val (.int x2), .val (.int x3), .val (.ref b16), .val (.int md), .val (.int qv), .val (.ref b20), .val (.int (own_find qv [p0, x1, x2] 0)), .val (.int (1 : Int32)), .val (.int (1 : Int32)), .unset, .unset, .unset]) rfl ?_
            refine own_iload X hx (hb hby at_260) (pc' := 262) rfl rfl ?_
            refine own_iconst X hx (2 : Int32) (hb hby at_262) (pc' := 263) rfl rfl ?_
            refine own_icmpN X hx (hb hby at_263) (pc' := 266) rfl (show (2 : Int32) < (3 : Int32) from (by decide)) ?_
            refine own_iload X hx (hb hby at_266) (pc' := 268) rfl rfl ?_
            refine own_iload X hx (hb hby at_268) (pc' := 270) rfl rfl ?_
            refine own_icmp X hx (hb hby at_270) (by decide) (pcY := 277) (pcN := 273) rfl rfl (fun (hc270 : ¬ (x2 = qv)) => ?_) (fun (hc270 : x2 = qv) => ?_)
            · refine own_iconst X hx (0 : Int32) (hb hby at_277) (pc' := 278) rfl rfl ?_
              refine own_istore X hx (hb hby at_278) (pc' := 280) rfl (Ls' := #[.val (.int p0), .val (.int p1), .val (.int p2), .val (.int p3), .val (.int p4), .val (.int p5), .val (.int (3 : Int32)), .val (.int p0), .val (.int x1), .val (.int x2), .val (.int x3), .val (.ref b16), .val (.int md), .val (.int qv), .val (.ref b20), .val (.int (own_find qv [p0, x1, x2] 0)), .val (.int (1 : Int32)), .val (.int (1 : Int32)), .val (.int (0 : Int32)), .unset, .unset]) rfl ?_
              refine own_iload X hx (hb hby at_280) (pc' := 282) rfl rfl ?_
              refine own_iconst X hx (3 : Int32) (hb hby at_282) (pc' := 283) rfl rfl ?_
              refine own_icmpY X hx (hb hby at_283) (by decide) (pc' := 297) rfl (show ¬ ((3 : Int32) < (3 : Int32)) from (by decide)) ?_
              refine own_iconst X hx (0 : Int32) (hb hby at_297) (pc' := 298) rfl rfl ?_
              refine own_istore X hx (hb hby at_298) (pc' := 300) rfl (Ls' := #[.val (.int p0), .val (.int p1), .val (.int p2), .val (.int p3), .val (.int p4), .val (.int p5), .val (.int (3 : Int32)), .val (.int p0), .val (.int x1), .val (.int x2), .val (.int x3), .val (.ref b16), .val (.int md), .val (.int qv), .val (.ref b20), .val (.int (own_find qv [p0, x1, x2] 0)), .val (.int (1 : Int32)), .val (.int (1 : Int32)), .val (.int (0 : Int32)), .val (.int (0 : Int32)), .unset]) rfl ?_
              refine own_iload X hx (hb hby at_300) (pc' := 302) rfl rfl ?_
              refine own_ifN X hx (hb hby at_302) (pc' := 305) rfl (show ¬ ((1 : Int32) = (0 : Int32)) from (by decide)) ?_
              refine own_iconst X hx (0 : Int32) (hb hby at_305) (pc' := 306) rfl rfl ?_
              refine own_istore X hx (hb hby at_306) (pc' := 308) rfl (Ls' := #[.val (.int p0), .val (.int p1), .val (.int p2), .val (.int p3), .val (.int p4), .val (.int p5), .val (.int (3 : Int32)), .val (.int p0), .val (.int x1), .val (.int x2), .val (.int x3), .val (.ref b16), .val (.int md), .val (.int qv), .val (.ref b20), .val (.int (own_find qv [p0, x1, x2] 0)), .val (.int (1 : Int32)), .val (.int (1 : Int32)), .val (.int (0 : Int32)), .val (.int (0 : Int32)), .val (.int (0 : Int32))]) rfl ?_
              refine own_goto X hx (hb hby at_308) (by decide) (pc' := 347) rfl ?_
              refine own_iload X hx (hb hby at_347) (pc' := 349) rfl rfl ?_
              refine own_iload X hx (hb hby at_349) (pc' := 351) rfl rfl ?_
              refine own_icmpN X hx (hb hby at_351) (pc' := 354) rfl (show (own_find qv [p0, x1, x2] 0) = (0 : Int32) from (by simp [own_find, hc230, hc250, hc270])) ?_
              refine own_iconst X hx (1 : Int32) (hb hby at_354) (pc' := 355) rfl rfl ?_
              refine own_goto X hx (hb hby at_355) (by decide) (pc' := 359) rfl ?_
              refine own_retI X hx hlk (t := .boolean) (w' := (.int (1 : Int32))) Bd.returns (hb hby at_359) rfl rfl (by simp) (by decide) (by decide) ?_
              rw [eT]
              exact ⟨rfl, N⟩
            · refine own_iconst X hx (1 : Int32) (hb hby at_273) (pc' := 274) rfl rfl ?_
              refine own_goto X hx (hb hby at_274) (by decide) (pc' := 278) rfl ?_
              refine own_istore X hx (hb hby at_278) (pc' := 280) rfl (Ls' := #[.val (.int p0), .val (.int p1), .val (.int p2), .val (.int p3), .val (.int p4), .val (.int p5), .val (.int (3 : Int32)), .val (.int p0), .val (.int x1), .val (.int x2), .val (.int x3), .val (.ref b16), .val (.int md), .val (.int qv), .val (.ref b20), .val (.int (own_find qv [p0, x1, x2] 0)), .val (.int (1 : Int32)), .val (.int (1 : Int32)), .val (.int (1 : Int32)), .unset, .unset]) rfl ?_
              refine own_iload X hx (hb hby at_280) (pc' := 282) rfl rfl ?_
              refine own_iconst X hx (3 : Int32) (hb hby at_282) (pc' := 283) rfl rfl ?_
              refine own_icmpY X hx (hb hby at_283) (by decide) (pc' := 297) rfl (show ¬ ((3 : Int32) < (3 : Int32)) from (by decide)) ?_
              refine own_iconst X hx (0 : Int32) (hb hby at_297) (pc' := 298) rfl rfl ?_
              refine own_istore X hx (hb hby at_298) (pc' := 300) rfl (Ls' := #[.val (.int p0), .val (.int p1), .val (.int p2), .val (.int p3), .val (.int p4), .val (.int p5), .val (.int (3 : Int32)), .val (.int p0), .val (.int x1), .val (.int x2), .val (.int x3), .val (.ref b16), .val (.int md), .val (.int qv), .val (.ref b20), .val (.int (own_find qv [p0, x1, x2] 0)), .val (.int (1 : Int32)), .val (.int (1 : Int32)), .val (.int (1 : Int32)), .val (.int (0 : Int32)), .unset]) rfl ?_
              refine own_iload X hx (hb hby at_300) (pc' := 302) rfl rfl ?_
              refine own_ifN X hx (hb hby at_302) (pc' := 305) rfl (show ¬ ((1 : Int32) = (0 : Int32)) from (by decide)) ?_
              refine own_iconst X hx (0 : Int32) (hb hby at_305) (pc' := 306) rfl rfl ?_
              refine own_istore X hx (hb hby at_306) (pc' := 308) rfl (Ls' := #[.val (.int p0), .val (.int p1), .val (.int p2), .val (.int p3), .val (.int p4), .val (.int p5), .val (.int (3 : Int32)), .val (.int p0), .val (.int x1), .val (.int x2), .val (.int x3), .val (.ref b16), .val (.int md), .val (.int qv), .val (.ref b20), .val (.int (own_find qv [p0, x1, x2] 0)), .val (.int (1 : Int32)), .val (.int (1 : Int32)), .val (.int (1 : Int32)), .val (.int (0 : Int32)), .val (.int (0 : Int32))]) rfl ?_
              refine own_goto X hx (hb hby at_308) (by decide) (pc' := 347) rfl ?_
              refine own_iload X hx (hb hby at_347) (pc' := 349) rfl rfl ?_
              refine own_iload X hx (hb hby at_349) (pc' := 351) rfl rfl ?_
              refine own_icmpN X hx (hb hby at_351) (pc' := 354) rfl (show (own_find qv [p0, x1, x2] 0) = (0 : Int32) from (by simp [own_find, hc230, hc250, hc270])) ?_
              refine own_iconst X hx (1 : Int32) (hb hby at_354) (pc' := 355) rfl rfl ?_
              refine own_goto X hx (hb hby at_355) (by decide) (pc' := 359) rfl ?_
              refine own_retI X hx hlk (t := .boolean) (w' := (.int (1 : Int32))) Bd.returns (hb hby at_359) rfl rfl (by simp) (by decide) (by decide) ?_
              rw [eT]
              exact ⟨rfl, N⟩
      refine own_iload X hx (hb hby at_125) (pc' := 127) rfl rfl ?_
      refine own_istore X hx (hb hby at_127) (pc' := 129) rfl (Ls' := #[.val (.int p0), .val (.int p1), .val (.int p2), .val (.int p3), .val (.int p4), .val (.int p5), .val (.int (3 : Int32)), .val (.int p0), .val (.int x1), .val (.int x2), .val (.int x3), .val (.ref b16), .val (.int md), .val (.int p4), .unset, .unset, .unset, .unset, .unset, .unset, .unset]) rfl ?_
      refine own_iload X hx (hb hby at_129) (pc' := 131) rfl rfl ?_
      refine own_if X hx (hb hby at_131) (by decide) (pcY := 146) (pcN := 134) rfl rfl (fun (hc131 : ¬ (md = (0 : Int32))) => ?_) (fun (hc131 : md = (0 : Int32)) => ?_)
      · refine own_iload X hx (hb hby at_146) (pc' := 148) rfl rfl ?_
        refine own_iconst X hx (1 : Int32) (hb hby at_148) (pc' := 149) rfl rfl ?_
        refine own_icmp X hx (hb hby at_149) (by decide) (pcY := 165) (pcN := 152) rfl rfl (fun (hc149 : ¬ (md = (1 : Int32))) => ?_) (fun (hc149 : md = (1 : Int32)) => ?_)
        · refine own_iload X hx (hb hby at_165) (pc' := 167) rfl rfl ?_
          refine own_iconst X hx (2 : Int32) (hb hby at_167) (pc' := 168) rfl rfl ?_
          refine own_icmp X hx (hb hby at_168) (by decide) (pcY := 184) (pcN := 171) rfl rfl (fun (hc168 : ¬ (md = (2 : Int32))) => ?_) (fun (hc168 : md = (2 : Int32)) => ?_)
          · refine own_iload X hx (hb hby at_184) (pc' := 186) rfl rfl ?_
            refine own_iconst X hx (3 : Int32) (hb hby at_186) (pc' := 187) rfl rfl ?_
            refine own_icmp X hx (hb hby at_187) (by decide) (pcY := 200) (pcN := 190) rfl rfl (fun (hc187 : ¬ (md = (3 : Int32))) => ?_) (fun (hc187 : md = (3 : Int32)) => ?_)
            · exact J_200 p4
            · refine own_iload X hx (hb hby at_190) (pc' := 192) rfl rfl ?_
              refine own_iconst X hx (3 : Int32) (hb hby at_192) (pc' := 193) rfl rfl ?_
              refine own_icmpY X hx (hb hby at_193) (by decide) (pc' := 200) rfl (show ¬ ((3 : Int32) < (3 : Int32)) from (by decide)) ?_
              exact J_200 p4
          · refine own_iload X hx (hb hby at_171) (pc' := 173) rfl rfl ?_
            refine own_iconst X hx (2 : Int32) (hb hby at_173) (pc' := 174) rfl rfl ?_
            refine own_icmpN X hx (hb hby at_174) (pc' := 177) rfl (show (2 : Int32) < (3 : Int32) from (by decide)) ?_
            refine own_iload X hx (hb hby at_177) (pc' := 179) rfl rfl ?_
            refine own_istore X hx (hb hby at_179) (pc' := 181) rfl (Ls' := #[.val (.int p0), .val (.int p1), .val (.int p2), .val (.int p3), .val (.int p4), .val (.int p5), .val (.int (3 : Int32)), .val (.int p0), .val (.int x1), .val (.int x2), .val (.int x3), .val (.ref b16), .val (.int md), .val (.int x2), .unset, .unset, .unset, .unset, .unset, .unset, .unset]) rfl ?_
            refine own_goto X hx (hb hby at_181) (by decide) (pc' := 200) rfl ?_
            exact J_200 x2
        · refine own_iload X hx (hb hby at_152) (pc' := 154) rfl rfl ?_
          refine own_iconst X hx (1 : Int32) (hb hby at_154) (pc' := 155) rfl rfl ?_
          refine own_icmpN X hx (hb hby at_155) (pc' := 158) rfl (show (1 : Int32) < (3 : Int32) from (by decide)) ?_
          refine own_iload X hx (hb hby at_158) (pc' := 160) rfl rfl ?_
          refine own_istore X hx (hb hby at_160) (pc' := 162) rfl (Ls' := #[.val (.int p0), .val (.int p1), .val (.int p2), .val (.int p3), .val (.int p4), .val (.int p5), .val (.int (3 : Int32)), .val (.int p0), .val (.int x1), .val (.int x2), .val (.int x3), .val (.ref b16), .val (.int md), .val (.int x1), .unset, .unset, .unset, .unset, .unset, .unset, .unset]) rfl ?_
          refine own_goto X hx (hb hby at_162) (by decide) (pc' := 200) rfl ?_
          exact J_200 x1
      · refine own_iload X hx (hb hby at_134) (pc' := 136) rfl rfl ?_
        refine own_ifN X hx (hb hby at_136) (pc' := 139) rfl (show (0 : Int32) < (3 : Int32) from (by decide)) ?_
        refine own_iload X hx (hb hby at_139) (pc' := 141) rfl rfl ?_
        refine own_istore X hx (hb hby at_141) (pc' := 143) rfl (Ls' := #[.val (.int p0), .val (.int p1), .val (.int p2), .val (.int p3), .val (.int p4), .val (.int p5), .val (.int (3 : Int32)), .val (.int p0), .val (.int x1), .val (.int x2), .val (.int x3), .val (.ref b16), .val (.int md), .val (.int p0), .unset, .unset, .unset, .unset, .unset, .unset, .unset]) rfl ?_
        refine own_goto X hx (hb hby at_143) (by decide) (pc' := 200) rfl ?_
        exact J_200 p0
    · subst q
      show own_W p e below (own_Post s (Q_law Z p0 p1 p2 p3 p4 p5 h0 n0) 40 128) T m 63 #[.val (.int p0), .val (.int p1), .val (.int p2), .val (.int p3), .val (.int p4), .val (.int p5), .val (.int (4 : Int32)), .val (.int p0), .val (.int x1), .val (.int x2), .val (.int x3), .unset, .unset, .unset, .unset, .unset, .unset, .unset, .unset, .unset, .unset] []
      refine own_iload X hx (hb hby at_63) (pc' := 65) rfl rfl ?_
      refine own_newarrE X hx hZ (own_w hw 0 rfl) eT (hb hby at_65) (pc' := 67) rfl (by decide) 4 (by decide) (by decide) (cells' := 1) (slots' := 4) rfl rfl (by decide) (by decide) (ad := "[I") (by decide) ?_
      intro T h23 k_b23 b23 X eT E gb23 E_b23 A_b23
      have z_b23 : n0 ≤ b23 := Nat.le_trans Z0 (Nat.le_of_eq gb23.symm)
      have Z0 := Nat.le_trans Z0 E.1
      have A_b23 : Arv Z h23 b23 k_b23 .int (4 : Int32) [(.int (0 : Int32)), (.int (0 : Int32)), (.int (0 : Int32)), (.int (0 : Int32))] (.int (0 : Int32)) := A_b23.pad (pad_rep [] (.int (0 : Int32)) 4)
      refine own_astore X hx (hb hby at_67) (pc' := 69) rfl rfl (Ls' := #[.val (.int p0), .val (.int p1), .val (.int p2), .val (.int p3), .val (.int p4), .val (.int p5), .val (.int (4 : Int32)), .val (.int p0), .val (.int x1), .val (.int x2), .val (.int x3), .val (.ref b23), .unset, .unset, .unset, .unset, .unset, .unset, .unset, .unset, .unset]) rfl ?_
      refine own_iload X hx (hb hby at_69) (pc' := 71) rfl rfl ?_
      refine own_ifN X hx (hb hby at_71) (pc' := 74) rfl (show (0 : Int32) < (4 : Int32) from (by decide)) ?_
      refine own_aload X hx (hb hby at_74) (pc' := 76) rfl rfl rfl ?_
      refine own_iconst X hx (0 : Int32) (hb hby at_76) (pc' := 77) rfl rfl ?_
      refine own_iload X hx (hb hby at_77) (pc' := 79) rfl rfl ?_
      refine own_iastore X hx hZ eT A_b23 (by decide) 0 rfl (by show 0 < 4; decide) (hb hby at_79) (pc' := 80) rfl ?_
      intro T h24 lc X eT Kq A_b23n fN
      have E_b23 := E_b23.keep Kq
      have Z0 := Nat.le_trans Z0 Kq.1
      have A_b23 := A_b23n
      have N := fN _ z_b23 N
      have A_b23 : Arv Z h24 b23 _ .int (4 : Int32) [(.int p0), (.int (0 : Int32)), (.int (0 : Int32)), (.int (0 : Int32))] (.int (0 : Int32)) := A_b23
      refine own_iload X hx (hb hby at_80) (pc' := 82) rfl rfl ?_
      refine own_iconst X hx (1 : Int32) (hb hby at_82) (pc' := 83) rfl rfl ?_
      refine own_icmpN X hx (hb hby at_83) (pc' := 86) rfl (show (1 : Int32) < (4 : Int32) from (by decide)) ?_
      refine own_aload X hx (hb hby at_86) (pc' := 88) rfl rfl rfl ?_
      refine own_iconst X hx (1 : Int32) (hb hby at_88) (pc' := 89) rfl rfl ?_
      refine own_iload X hx (hb hby at_89) (pc' := 91) rfl rfl ?_
      refine own_iastore X hx hZ eT A_b23 (by decide) 1 rfl (by show 1 < 4; decide) (hb hby at_91) (pc' := 92) rfl ?_
      intro T h25 lc X eT Kq A_b23n fN
      have E_b23 := E_b23.keep Kq
      have Z0 := Nat.le_trans Z0 Kq.1
      have A_b23 := A_b23n
      have N := fN _ z_b23 N
      have A_b23 : Arv Z h25 b23 _ .int (4 : Int32) [(.int p0), (.int x1), (.int (0 : Int32)), (.int (0 : Int32))] (.int (0 : Int32)) := A_b23
      refine own_iload X hx (hb hby at_92) (pc' := 94) rfl rfl ?_
      refine own_iconst X hx (2 : Int32) (hb hby at_94) (pc' := 95) rfl rfl ?_
      refine own_icmpN X hx (hb hby at_95) (pc' := 98) rfl (show (2 : Int32) < (4 : Int32) from (by decide)) ?_
      refine own_aload X hx (hb hby at_98) (pc' := 100) rfl rfl rfl ?_
      refine own_iconst X hx (2 : Int32) (hb hby at_100) (pc' := 101) rfl rfl ?_
      refine own_iload X hx (hb hby at_101) (pc' := 103) rfl rfl ?_
      refine own_iastore X hx hZ eT A_b23 (by decide) 2 rfl (by show 2 < 4; decide) (hb hby at_103) (pc' := 104) rfl ?_
      intro T h26 lc X eT Kq A_b23n fN
      have E_b23 := E_b23.keep Kq
      have Z0 := Nat.le_trans Z0 Kq.1
      have A_b23 := A_b23n
      have N := fN _ z_b23 N
      have A_b23 : Arv Z h26 b23 _ .int (4 : Int32) [(.int p0), (.int x1), (.int x2), (.int (0 : Int32))] (.int (0 : Int32)) := A_b23
      refine own_iload X hx (hb hby at_104) (pc' := 106) rfl rfl ?_
      refine own_iconst X hx (3 : Int32) (hb hby at_106) (pc' := 107) rfl rfl ?_
      refine own_icmpN X hx (hb hby at_107) (pc' := 110) rfl (show (3 : Int32) < (4 : Int32) from (by decide)) ?_
      refine own_aload X hx (hb hby at_110) (pc' := 112) rfl rfl rfl ?_
      refine own_iconst X hx (3 : Int32) (hb hby at_112) (pc' := 113) rfl rfl ?_
      refine own_iload X hx (hb hby at_113) (pc' := 115) rfl rfl ?_
      refine own_iastore X hx hZ eT A_b23 (by decide) 3 rfl (by show 3 < 4; decide) (hb hby at_115) (pc' := 116) rfl ?_
      intro T h27 lc X eT Kq A_b23n fN
      have E_b23 := E_b23.keep Kq
      have Z0 := Nat.le_trans Z0 Kq.1
      have A_b23 := A_b23n
      have N := fN _ z_b23 N
      have A_b23 : Arv Z h27 b23 _ .int (4 : Int32) [(.int p0), (.int x1), (.int x2), (.int x3)] (.int (0 : Int32)) := A_b23
      refine own_iload X hx (hb hby at_116) (pc' := 118) rfl rfl ?_
      refine own_iconst X hx (3 : Int32) (hb hby at_118) (pc' := 119) rfl rfl ?_
      refine own_iushr X hx (hb hby at_119) (pc' := 120) rfl ?_
      refine own_bipush X hx (7 : Int32) (hb hby at_120) (pc' := 122) rfl rfl ?_
      refine own_iand X hx (hb hby at_122) (pc' := 123) rfl ?_
      refine own_istore X hx (hb hby at_123) (pc' := 125) rfl (Ls' := #[.val (.int p0), .val (.int p1), .val (.int p2), .val (.int p3), .val (.int p4), .val (.int p5), .val (.int (4 : Int32)), .val (.int p0), .val (.int x1), .val (.int x2), .val (.int x3), .val (.ref b23), .val (.int ((XT.ushr p5 (3 : Int32)) &&& (7 : Int32))), .unset, .unset, .unset, .unset, .unset, .unset, .unset, .unset]) rfl ?_
      obtain ⟨md, h_md⟩ : ∃ z, z = ((XT.ushr p5 (3 : Int32)) &&& (7 : Int32)) := ⟨_, rfl⟩
      rw [← h_md]
      have J_200 : ∀ (qv : Int32), own_W p e below (own_Post s (Q_law Z p0 p1 p2 p3 p4 p5 h0 n0) 40 128) T m 200 #[.val (.int p0), .val (.int p1), .val (.int p2), .val (.int p3), .val (.int p4), .val (.int p5), .val (.int (4 : Int32)), .val (.int p0), .val (.int x1), .val (.int x2), .val (.int x3), .val (.ref b23), .val (.int md), .val (.int qv), .unset, .unset, .unset, .unset, .unset, .unset, .unset] [] := by
        intro qv
        refine own_new X hx hZ hown (own_w hw 1 rfl) (own_w hw 2 rfl) (own_w hw 3 rfl) eT (hb hby at_200) (pc' := 203) rfl (cells' := 2) (slots' := 8) rfl rfl (by decide) (by decide) ?_
        intro T h28 b28 X eT E gb28 E_b28 Db28
        have lt_b23_b28 : b23 < b28 := Nat.lt_of_lt_of_le E_b23.lt (Nat.le_of_eq gb28.symm)
        have ne_b23_b28 : b23 ≠ b28 := Nat.ne_of_lt lt_b23_b28
        have z_b28 : n0 ≤ b28 := Nat.le_trans Z0 (Nat.le_of_eq gb28.symm)
        have E_b23 := E_b23.ext E
        have A_b23 := A_b23.ext E
        have Z0 := Nat.le_trans Z0 E.1
        have F_columns_b28 : Fld Z h28 b28 "com/example/latchwork/latchwork/storage/ColumnBatch" "columns" "[I" .null := Db28 (Or.inr (own_w hw 20 rfl)) (ty := (.array .int)) (by decide)
        have F_stamps_b28 : Fld Z h28 b28 "com/example/latchwork/latchwork/storage/ColumnBatch" "stamps" "[J" .null := Db28 (Or.inr (own_w hw 23 rfl)) (ty := (.array .long)) (by decide)
        have F_values_b28 : Fld Z h28 b28 "com/example/latchwork/latchwork/storage/ColumnBatch" "values" "[[J" .null := Db28 (Or.inr (own_w hw 27 rfl)) (ty := (.array (.array .long))) (by decide)
        have F_nulls_b28 : Fld Z h28 b28 "com/example/latchwork/latchwork/storage/ColumnBatch" "nulls" "[[Z" .null := Db28 (Or.inr (own_w hw 32 rfl)) (ty := (.array (.array .boolean))) (by decide)
        refine own_dup X hx (hb hby at_203) (pc' := 204) rfl rfl ?_
        refine own_aload X hx (hb hby at_204) (pc' := 206) rfl rfl rfl ?_
        refine own_iconst X hx (1 : Int32) (hb hby at_206) (pc' := 207) rfl rfl ?_
        refine own_callN X hx hZ b28 [(.ref b23), (.int (1 : Int32))] rfl hown (own_w hw 4 rfl) (own_w hw 5 rfl) (own_w hw 3 rfl) (own_w hw 6 rfl) (by decide) (rm_init l Z a0 hw [] b28 b23 _ (4 : Int32) _ h28 n0 Z0 _ _ _ _ E_b28 F_columns_b28 F_stamps_b28 F_values_b28 F_nulls_b28 E_b23 A_b23 (Ne.symm ne_b23_b28) (by decide) (by decide) z_b28) eT (W := 1) (by decide) (by decide) (cells' := 14) (slots' := 29) rfl rfl (by decide) (by decide) (by rw [hml]; rfl) (lenOf own_pd_285bII29V rfl) rfl (S := [(.ref b28)]) rfl (Nat.le_of_eq rfl) (hb hby at_207) (pc' := 210) rfl ?_
        intro v T h29 L lc X eT hq fN
        obtain ⟨rfl, Nq, Kq, bc, hbc, F_columns, A_bc⟩ := hq
        have N := fN _ N Nq
        have lt_b23_bc : b23 < bc := Nat.lt_of_lt_of_le E_b23.lt hbc
        have ne_b23_bc : b23 ≠ bc := Nat.ne_of_lt lt_b23_bc
        have lt_b28_bc : b28 < bc := Nat.lt_of_lt_of_le E_b28.lt hbc
        have ne_b28_bc : b28 ≠ bc := Nat.ne_of_lt lt_b28_bc
        have E_b23 := E_b23.keep Kq
        have A_b23 := A_b23.keep Kq (ninS ne_b23_b28 nin0)
        have E_b28 := E_b28.keep Kq
        have Z0 := Nat.le_trans Z0 Kq.1
        show own_W p e below (own_Post s (Q_law Z p0 p1 p2 p3 p4 p5 h0 n0) 40 128) T m 210 #[.val (.int p0), .val (.int p1), .val (.int p2), .val (.int p3), .val (.int p4), .val (.int p5), .val (.int (4 : Int32)), .val (.int p0), .val (.int x1), .val (.int x2), .val (.int x3), .val (.ref b23), .val (.int md), .val (.int qv), .unset, .unset, .unset, .unset, .unset, .unset, .unset] [(.ref b28)]
        refine own_astore X hx (hb hby at_210) (pc' := 212) rfl rfl (Ls' := #[.val (.int p0), .val (.int p1), .val (.int p2), .val (.int p3), .val (.int p4), .val (.int p5), .val (.int (4 : Int32)), .val (.int p0), .val (.int x1), .val (.int x2), .val (.int x3), .val (.ref b23), .val (.int md), .val (.int qv), .val (.ref b28), .unset, .unset, .unset, .unset, .unset, .unset]) rfl ?_
        refine own_aload X hx (hb hby at_212) (pc' := 214) rfl rfl rfl ?_
        refine own_iload X hx (hb hby at_214) (pc' := 216) rfl rfl ?_
        refine own_callV X hx hZ (y := (⟨"com/example/latchwork/latchwork/storage/ColumnBatch", "indexOf", "(I)I"⟩ : MethodName)) b28 [(.int qv)] hown (own_w hw 33 rfl) (own_w hw 34 rfl) (own_w hw 36 rfl) (own_w hw 35 rfl) (own_w hw 3 rfl) (own_w hw 37 rfl) (by decide) (rm_idx4 l Z a0 hw [] b28 bc _ qv p0 x1 x2 x3 h29 n0 Z0 F_columns A_bc) E_b28 eT (W := 0) (by decide) (by decide) (cells' := 14) (slots' := 29) rfl rfl (by decide) (by decide) (by rw [hml]; rfl) (lenOf own_pd_28I29I rfl) rfl (S := []) rfl (Nat.le_of_eq rfl) (hb hby at_216) (pc' := 219) rfl ?_
        intro v T h30 L lc X eT hq fN
        obtain ⟨rfl, Nq, hqe⟩ := hq
        have N := fN _ N Nq
        rw [hqe] at eT
        show own_W p e below (own_Post s (Q_law Z p0 p1 p2 p3 p4 p5 h0 n0) 40 128) T m 219 #[.val (.int p0), .val (.int p1), .val (.int p2), .val (.int p3), .val (.int p4), .val (.int p5), .val (.int (4 : Int32)), .val (.int p0), .val (.int x1), .val (.int x2), .val (.int x3), .val (.ref b23), .val (.int md), .val (.int qv), .val (.ref b28), .unset, .unset, .unset, .unset, .unset, .unset] [(.int (own_find qv [p0, x1, x2, x3] 0))]
        refine own_istore X hx (hb hby at_219) (pc' := 221) rfl (Ls' := #[.val (.int p0), .val (.int p1), .val (.int p2), .val (.int p3), .val (.int p4), .val (.int p5), .val (.int (4 : Int32)), .val (.int p0), .val (.int x1), .val (.int x2), .val (.int x3), .val (.ref b23), .val (.int md), .val (.int qv), .val (.ref b28), .val (.int (own_find qv [p0, x1, x2, x3] 0)), .unset, .unset, .unset, .unset, .unset]) rfl ?_
        refine own_iload X hx (hb hby at_221) (pc' := 223) rfl rfl ?_
        refine own_ifN X hx (hb hby at_223) (pc' := 226) rfl (show (0 : Int32) < (4 : Int32) from (by decide)) ?_
        refine own_iload X hx (hb hby at_226) (pc' := 228) rfl rfl ?_
        refine own_iload X hx (hb hby at_228) (pc' := 230) rfl rfl ?_
        refine own_icmp X hx (hb hby at_230) (by decide) (pcY := 237) (pcN := 233) rfl rfl (fun (hc230 : ¬ (p0 = qv)) => ?_) (fun (hc230 : p0 = qv) => ?_)
        · refine own_iconst X hx (0 : Int32) (hb hby at_237) (pc' := 238) rfl rfl ?_
          refine own_istore X hx (hb hby at_238) (pc' := 240) rfl (Ls' := #[.val (.int p0), .val (.int p1), .val (.int p2), .val (.int p3), .val (.int p4), .val (.int p5), .val (.int (4 : Int32)), .val (.int p0), .val (.int x1), .val (.int x2), .val (.int x3), .val (.ref b23), .val (.int md), .val (.int qv), .val (.ref b28), .val (.int (own_find qv [p0, x1, x2, x3] 0)), .val (.int (0 : Int32)), .unset, .unset, .unset, .unset]) rfl ?_
          refine own_iload X hx (hb hby at_240) (pc' := 242) rfl rfl ?_
          refine own_iconst X hx (1 : Int32) (hb hby at_242) (pc' := 243) rfl rfl ?_
          refine own_icmpN X hx (hb hby at_243) (pc' := 246) rfl (show (1 : Int32) < (4 : Int32) from (by decide)) ?_
          refine own_iload X hx (hb hby at_246) (pc' := 248) rfl rfl ?_
          refine own_iload X hx (hb hby at_248) (pc' := 250) rfl rfl ?_
          refine own_icmp X hx (hb hby at_250) (by decide) (pcY := 257) (pcN := 253) rfl rfl (fun (hc250 : ¬ (x1 = qv)) => ?_) (fun (hc250 : x1 = qv) => ?_)
          · refine own_iconst X hx (0 : Int32) (hb hby at_257) (pc' := 258) rfl rfl ?_
            refine own_istore X hx (hb hby at_258) (pc' := 260) rfl (Ls' := #[.val (.int p0), .val (.int p1), .val (.int p2), .val (.int p3), .val (.int p4), .val (.int p5), .val (.int (4 : Int32)), .val (.int p0), .val (.int x1), .val (.int x2), .val (.int x3), .val (.ref b23), .val (.int md), .val (.int qv), .val (.ref b28), .val (.int (own_find qv [p0, x1, x2, x3] 0)), .val (.int (0 : Int32)), .val (.int (0 : Int32)), .unset, .unset, .unset]) rfl ?_
            refine own_iload X hx (hb hby at_260) (pc' := 262) rfl rfl ?_
            refine own_iconst X hx (2 : Int32) (hb hby at_262) (pc' := 263) rfl rfl ?_
            refine own_icmpN X hx (hb hby at_263) (pc' := 266) rfl (show (2 : Int32) < (4 : Int32) from (by decide)) ?_
            refine own_iload X hx (hb hby at_266) (pc' := 268) rfl rfl ?_
            refine own_iload X hx (hb hby at_268) (pc' := 270) rfl rfl ?_
            refine own_icmp X hx (hb hby at_270) (by decide) (pcY := 277) (pcN := 273) rfl rfl (fun (hc270 : ¬ (x2 = qv)) => ?_) (fun (hc270 : x2 = qv) => ?_)
            · refine own_iconst X hx (0 : Int32) (hb hby at_277) (pc' := 278) rfl rfl ?_
              refine own_istore X hx (hb hby at_278) (pc' := 280) rfl (Ls' := #[.val (.int p0), .val (.int p1), .val (.int p2), .val (.int p3), .val (.int p4), .val (.int p5), .val (.int (4 : Int32)), .val (.int p0), .val (.int x1), .val (.int x2), .val (.int x3), .val (.ref b23), .val (.int md), .val (.int qv), .val (.ref b28), .val (.int (own_find qv [p0, x1, x2, x3] 0)), .val (.int (0 : Int32)), .val (.int (0 : Int32)), .val (.int (0 : Int32)), .unset, .unset]) rfl ?_
              refine own_iload X hx (hb hby at_280) (pc' := 282) rfl rfl ?_
              refine own_iconst X hx (3 : Int32) (hb hby at_282) (pc' := 283) rfl rfl ?_
              refine own_icmpN X hx (hb hby at_283) (pc' := 286) rfl (show (3 : Int32) < (4 : Int32) from (by decide)) ?_
              refine own_iload X hx (hb hby at_286) (pc' := 288) rfl rfl ?_
              refine own_iload X hx (hb hby at_288) (pc' := 290) rfl rfl ?_
              refine own_icmp X hx (hb hby at_290) (by decide) (pcY := 297) (pcN := 293) rfl rfl (fun (hc290 : ¬ (x3 = qv)) => ?_) (fun (hc290 : x3 = qv) => ?_)
              · refine own_iconst X hx (0 : Int32) (hb hby at_297) (pc' := 298) rfl rfl ?_
                refine own_istore X hx (hb hby at_298) (pc' := 300) rfl (Ls' := #[.val (.int p0), .val (.int p1), .val (.int p2), .val (.int p3), .val (.int p4), .val (.int p5), .val (.int (4 : Int32)), .val (.int p0), .val (.int x1), .val (.int x2), .val (.int x3), .val (.ref b23), .val (.int md), .val (.int qv), .val (.ref b28), .val (.int (own_find qv [p0, x1, x2, x3] 0)), .val (.int (0 : Int32)), .val (.int (0 : Int32)), .val (.int (0 : Int32)), .val (.int (0 : Int32)), .unset]) rfl ?_
                refine own_iload X hx (hb hby at_300) (pc' := 302) rfl rfl ?_
                refine own_ifY X hx (hb hby at_302) (by decide) (pc' := 311) rfl (show (0 : Int32) = (0 : Int32) from (by decide)) ?_
                refine own_iload X hx (hb hby at_311) (pc' := 313) rfl rfl ?_
                refine own_ifY X hx (hb hby at_313) (by decide) (pc' := 322) rfl (show (0 : Int32) = (0 : Int32) from (by decide)) ?_
                refine own_iload X hx (hb hby at_322) (pc' := 324) rfl rfl ?_
                refine own_ifY X hx (hb hby at_324) (by decide) (pc' := 333) rfl (show (0 : Int32) = (0 : Int32) from (by decide)) ?_
                refine own_iload X hx (hb hby at_333) (pc' := 335) rfl rfl ?_
                refine own_ifY X hx (hb hby at_335) (by decide) (pc' := 344) rfl (show (0 : Int32) = (0 : Int32) from (by decide)) ?_
                refine own_iconst X hx (-1 : Int32) (hb hby at_344) (pc' := 345) rfl rfl ?_
                refine own_istore X hx (hb hby at_345) (pc' := 347) rfl (Ls' := #[.val (.int p0), .val (.int p1), .val (.int p2), .val (.int p3), .val (.int p4), .val (.int p5), .val (.int (4 : Int32)), .val (.int p0), .val (.int x1), .val (.int x2), .val (.int x3), .val (.ref b23), .val (.int md), .val (.int qv), .val (.ref b28), .val (.int (own_find qv [p0, x1, x2, x3] 0)), .val (.int (0 : Int32)), .val (.int (0 : Int32)), .val (.int (0 : Int32)), .val (.int (0 : Int32)), .val (.int (-1 : Int32))]) rfl ?_
                refine own_iload X hx (hb hby at_347) (pc' := 349) rfl rfl ?_
                refine own_iload X hx (hb hby at_349) (pc' := 351) rfl rfl ?_
                refine own_icmpN X hx (hb hby at_351) (pc' := 354) rfl (show (own_find qv [p0, x1, x2, x3] 0) = (-1 : Int32) from (by simp [own_find, hc230, hc250, hc270, hc290])) ?_
                refine own_iconst X hx (1 : Int32) (hb hby at_354) (pc' := 355) rfl rfl ?_
                refine own_goto X hx (hb hby at_355) (by decide) (pc' := 359) rfl ?_
                refine own_retI X hx hlk (t := .boolean) (w' := (.int (1 : Int32))) Bd.returns (hb hby at_359) rfl rfl (by simp) (by decide) (by decide) ?_
                rw [eT]
                exact ⟨rfl, N⟩
              · refine own_iconst X hx (1 : Int32) (hb hby at_293) (pc' := 294) rfl rfl ?_
                refine own_goto X hx (hb hby at_294) (by decide) (pc' := 298) rfl ?_
                refine own_istore X hx (hb hby at_298) (pc' := 300) rfl (Ls' := #[.val (.int p0), .val (.int p1), .val (.int p2), .val (.int p3), .val (.int p4), .val (.int p5), .val (.int (4 : Int32)), .val (.int p0), .val (.int x1), .val (.int x2), .val (.int x3), .val (.ref b23), .val (.int md), .val (.int qv), .val (.ref b28), .val (.int (own_find qv [p0, x1, x2, x3] 0)), .val (.int (0 : Int32)), .val (.int (0 : Int32)), .val (.int (0 : Int32)), .val (.int (1 : Int32)), .unset]) rfl ?_
                refine own_iload X hx (hb hby at_300) (pc' := 302) rfl rfl ?_
                refine own_ifY X hx (hb hby at_302) (by decide) (pc' := 311) rfl (show (0 : Int32) = (0 : Int32) from (by decide)) ?_
                refine own_iload X hx (hb hby at_311) (pc' := 313) rfl rfl ?_
                refine own_ifY X hx (hb hby at_313) (by decide) (pc' := 322) rfl (show (0 : Int32) = (0 : Int32) from (by decide)) ?_
                refine own_iload X hx (hb hby at_322) (pc' := 324) rfl rfl ?_
                refine own_ifY X hx (hb hby at_324) (by decide) (pc' := 333) rfl (show (0 : Int32) = (0 : Int32) from (by decide)) ?_
                refine own_iload X hx (hb hby at_333) (pc' := 335) rfl rfl ?_
                refine own_ifN X hx (hb hby at_335) (pc' := 338) rfl (show ¬ ((1 : Int32) = (0 : Int32)) from (by decide)) ?_
                refine own_iconst X hx (3 : Int32) (hb hby at_338) (pc' := 339) rfl rfl ?_
                refine own_istore X hx (hb hby at_339) (pc' := 341) rfl (Ls' := #[.val (.int p0), .val (.int p1), .val (.int p2), .val (.int p3), .val (.int p4), .val (.int p5), .val (.int (4 : Int32)), .val (.int p0), .val (.int x1), .val (.int x2), .val (.int x3), .val (.ref b23), .val (.int md), .val (.int qv), .val (.ref b28), .val (.int (own_find qv [p0, x1, x2, x3] 0)), .val (.int (0 : Int32)), .val (.int (0 : Int32)), .val (.int (0 : Int32)), .val (.int (1 : Int32)), .val (.int (3 : Int32))]) rfl ?_
                refine own_goto X hx (hb hby at_341) (by decide) (pc' := 347) rfl ?_
                refine own_iload X hx (hb hby at_347) (pc' := 349) rfl rfl ?_
                refine own_iload X hx (hb hby at_349) (pc' := 351) rfl rfl ?_
                refine own_icmpN X hx (hb hby at_351) (pc' := 354) rfl (show (own_find qv [p0, x1, x2, x3] 0) = (3 : Int32) from (by simp [own_find, hc230, hc250, hc270, hc290])) ?_
                refine own_iconst X hx (1 : Int32) (hb hby at_354) (pc' := 355) rfl rfl ?_
                refine own_goto X hx (hb hby at_355) (by decide) (pc' := 359) rfl ?_
                refine own_retI X hx hlk (t := .boolean) (w' := (.int (1 : Int32))) Bd.returns (hb hby at_359) rfl rfl (by simp) (by decide) (by decide) ?_
                rw [eT]
                exact ⟨rfl, N⟩
            · refine own_iconst X hx (1 : Int32) (hb hby at_273) (pc' := 274) rfl rfl ?_
              refine own_goto X hx (hb hby at_274) (by decide) (pc' := 278) rfl ?_
              refine own_istore X hx (hb hby at_278) (pc' := 280) rfl (Ls' := #[.val (.int p0), .val (.int p1), .val (.int p2), .val (.int p3), .val (.int p4), .val (.int p5), .val (.int (4 : Int32)), .val (.int p0), .val (.int x1), .val (.int x2), .val (.int x3), .val (.ref b23), .val (.int md), .val (.int qv), .val (.ref b28), .val (.int (own_find qv [p0, x1, x2, x3] 0)), .val (.int (0 : Int32)), .val (.int (0 : Int32)), .val (.int (1 : Int32)), .unset, .unset]) rfl ?_
              refine own_iload X hx (hb hby at_280) (pc' := 282) rfl rfl ?_
              refine own_iconst X hx (3 : Int32) (hb hby at_282) (pc' := 283) rfl rfl ?_
              refine own_icmpN X hx (hb hby at_283) (pc' := 286) rfl (show (3 : Int32) < (4 : Int32) from (by decide)) ?_
              refine own_iload X hx (hb hby at_286) (pc' := 288) rfl rfl ?_
              refine own_iload X hx (hb hby at_288) (pc' := 290) rfl rfl ?_
              refine own_icmp X hx (hb hby at_290) (by decide) (pcY := 297) (pcN := 293) rfl rfl (fun (hc290 : ¬ (x3 = qv)) => ?_) (fun (hc290 : x3 = qv) => ?_)
              · refine own_iconst X hx (0 : Int32) (hb hby at_297) (pc' := 298) rfl rfl ?_
                refine own_istore X hx (hb hby at_298) (pc' := 300) rfl (Ls' := #[.val (.int p0), .val (.int p1), .val (.int p2), .val (.int p3), .val (.int p4), .val (.int p5), .val (.int (4 : Int32)), .val (.int p0), .val (.int x1), .val (.int x2), .val (.int x3), .val (.ref b23), .val (.int md), .val (.int qv), .val (.ref b28), .val (.int (own_find qv [p0, x1, x2, x3] 0)), .val (.int (0 : Int32)), .val (.int (0 : Int32)), .val (.int (1 : Int32)), .val (.int (0 : Int32)), .unset]) rfl ?_
                refine own_iload X hx (hb hby at_300) (pc' := 302) rfl rfl ?_
                refine own_ifY X hx (hb hby at_302) (by decide) (pc' := 311) rfl (show (0 : Int32) = (0 : Int32) from (by decide)) ?_
                refine own_iload X hx (hb hby at_311) (pc' := 313) rfl rfl ?_
                refine own_ifY X hx (hb hby at_313) (by decide) (pc' := 322) rfl (show (0 : Int32) = (0 : Int32) from (by decide)) ?_
                refine own_iload X hx (hb hby at_322) (pc' := 324) rfl rfl ?_
                refine own_ifN X hx (hb hby at_324) (pc' := 327) rfl (show ¬ ((1 : Int32) = (0 : Int32)) from (by decide)) ?_
                refine own_iconst X hx (2 : Int32) (hb hby at_327) (pc' := 328) rfl rfl ?_
                refine own_istore X hx (hb hby at_328) (pc' := 330) rfl (Ls' := #[.val (.int p0), .val (.int p1), .val (.int p2), .val (.int p3), .val (.int p4), .val (.int p5), .val (.int (4 : Int32)), .val (.int p0), .val (.int x1), .val (.int x2), .val (.int x3), .val (.ref b23), .val (.int md), .val (.int qv), .val (.ref b28), .val (.int (own_find qv [p0, x1, x2, x3] 0)), .val (.int (0 : Int32)), .val (.int (0 : Int32)), .val (.int (1 : Int32)), .val (.int (0 : Int32)), .val (.int (2 : Int32))]) rfl ?_
                refine own_goto X hx (hb hby at_330) (by decide) (pc' := 347) rfl ?_
                refine own_iload X hx (hb hby at_347) (pc' := 349) rfl rfl ?_
                refine own_iload X hx (hb hby at_349) (pc' := 351) rfl rfl ?_
                refine own_icmpN X hx (hb hby at_351) (pc' := 354) rfl (show (own_find qv [p0, x1, x2, x3] 0) = (2 : Int32) from (by simp [own_find, hc230, hc250, hc270, hc290])) ?_
                refine own_iconst X hx (1 : Int32) (hb hby at_354) (pc' := 355) rfl rfl ?_
                refine own_goto X hx (hb hby at_355) (by decide) (pc' := 359) rfl ?_
                refine own_retI X hx hlk (t := .boolean) (w' := (.int (1 : Int32))) Bd.returns (hb hby at_359) rfl rfl (by simp) (by decide) (by decide) ?_
                rw [eT]
                exact ⟨rfl, N⟩
              · refine own_iconst X hx (1 : Int32) (hb hby at_293) (pc' := 294) rfl rfl ?_
                refine own_goto X hx (hb hby at_294) (by decide) (pc' := 298) rfl ?_
                refine own_istore X hx (hb hby at_298) (pc' := 300) rfl (Ls' := #[.val (.int p0), .val (.int p1), .val (.int p2), .val (.int p3), .val (.int p4), .val (.int p5), .val (.int (4 : Int32)), .val (.int p0), .val (.int x1), .val (.int x2), .val (.int x3), .val (.ref b23), .val (.int md), .val (.int qv), .val (.ref b28), .val (.int (own_find qv [p0, x1, x2, x3] 0)), .val (.int (0 : Int32)), .val (.int (0 : Int32)), .val (.int (1 : Int32)), .val (.int (1 : Int32)), .unset]) rfl ?_
                refine own_iload X hx (hb hby at_300) (pc' := 302) rfl rfl ?_
                refine own_ifY X hx (hb hby at_302) (by decide) (pc' := 311) rfl (show (0 : Int32) = (0 : Int32) from (by decide)) ?_
                refine own_iload X hx (hb hby at_311) (pc' := 313) rfl rfl ?_
                refine own_ifY X hx (hb hby at_313) (by decide) (pc' := 322) rfl (show (0 : Int32) = (0 : Int32) from (by decide)) ?_
                refine own_iload X hx (hb hby at_322) (pc' := 324) rfl rfl ?_
                refine own_ifN X hx (hb hby at_324) (pc' := 327) rfl (show ¬ ((1 : Int32) = (0 : Int32)) from (by decide)) ?_
                refine own_iconst X hx (2 : Int32) (hb hby at_327) (pc' := 328) rfl rfl ?_
                refine own_istore X hx (hb hby at_328) (pc' := 330) rfl (Ls' := #[.val (.int p0), .val (.int p1), .val (.int p2), .val (.int p3), .val (.int p4), .val (.int p5), .val (.int (4 : Int32)), .val (.int p0), .val (.int x1), .val (.int x2), .val (.int x3), .val (.ref b23), .val (.int md), .val (.int qv), .val (.ref b28), .val (.int (own_find qv [p0, x1, x2, x3] 0)), .val (.int (0 : Int32)), .val (.int (0 : Int32)), .val (.int (1 : Int32)), .val (.int (1 : Int32)), .val (.int (2 : Int32))]) rfl ?_
                refine own_goto X hx (hb hby at_330) (by decide) (pc' := 347) rfl ?_
                refine own_iload X hx (hb hby at_347) (pc' := 349) rfl rfl ?_
                refine own_iload X hx (hb hby at_349) (pc' := 351) rfl rfl ?_
                refine own_icmpN X hx (hb hby at_351) (pc' := 354) rfl (show (own_find qv [p0, x1, x2, x3] 0) = (2 : Int32) from (by simp [own_find, hc230, hc250, hc270, hc290])) ?_
                refine own_iconst X hx (1 : Int32) (hb hby at_354) (pc' := 355) rfl rfl ?_
                refine own_goto X hx (hb hby at_355) (by decide) (pc' := 359) rfl ?_
                refine own_retI X hx hlk (t := .boolean) (w' := (.int (1 : Int32))) Bd.returns (hb hby at_359) rfl rfl (by simp) (by decide) (by decide) ?_
                rw [eT]
                exact ⟨rfl, N⟩
          · refine own_iconst X hx (1 : Int32) (hb hby at_253) (pc' := 254) rfl rfl ?_
            refine own_goto X hx (hb hby at_254) (by decide) (pc' := 258) rfl ?_
            refine own_istore X hx (hb hby at_258) (pc' := 260) rfl (Ls' := #[.val (.int p0), .val (.int p1), .val (.int p2), .val (.int p3), .val (.int p4), .val (.int p5), .val (.int (4 : Int32)), .val (.int p0), .val (.int x1), .val (.int x2), .val (.int x3), .val (.ref b23), .val (.int md), .val (.int qv), .val (.ref b28), .val (.int (own_find qv [p0, x1, x2, x3] 0)), .val (.int (0 : Int32)), .val (.int (1 : Int32)), .unset, .unset, .unset]) rfl ?_
            refine own_iload X hx (hb hby at_260) (pc' := 262) rfl rfl ?_
            refine own_iconst X hx (2 : Int32) (hb hby at_262) (pc' := 263) rfl rfl ?_
            refine own_icmpN X hx (hb hby at_263) (pc' := 266) rfl (show (2 : Int32) < (4 : Int32) from (by decide)) ?_
            refine own_iload X hx (hb hby at_266) (pc' := 268) rfl rfl ?_
            refine own_iload X hx (hb hby at_268) (pc' := 270) rfl rfl ?_
            refine own_icmp X hx (hb hby at_270) (by decide) (pcY := 277) (pcN := 273) rfl rfl (fun (hc270 : ¬ (x2 = qv)) => ?_) (fun (hc270 : x2 = qv) => ?_)
            · refine own_iconst X hx (0 : Int32) (hb hby at_277) (pc' := 278) rfl rfl ?_
              refine own_istore X hx (hb hby at_278) (pc' := 280) rfl (Ls' := #[.val (.int p0), .val (.int p1), .val (.int p2), .val (.int p3), .val (.int p4), .val (.int p5), .val (.int (4 : Int32)), .val (.int p0), .val (.int x1), .val (.int x2), .val (.int x3), .val (.ref b23), .val (.int md), .val (.int qv), .val (.ref b28), .val (.int (own_find qv [p0, x1, x2, x3] 0)), .val (.int (0 : Int32)), .val (.int (1 : Int32)), .val (.int (0 : Int32)), .unset, .unset]) rfl ?_
              refine own_iload X hx (hb hby at_280) (pc' := 282) rfl rfl ?_
              refine own_iconst X hx (3 : Int32) (hb hby at_282) (pc' := 283) rfl rfl ?_
              refine own_icmpN X hx (hb hby at_283) (pc' := 286) rfl (show (3 : Int32) < (4 : Int32) from (by decide)) ?_
              refine own_iload X hx (hb hby at_286) (pc' := 288) rfl rfl ?_
              refine own_iload X hx (hb hby at_288) (pc' := 290) rfl rfl ?_
              refine own_icmp X hx (hb hby at_290) (by decide) (pcY := 297) (pcN := 293) rfl rfl (fun (hc290 : ¬ (x3 = qv)) => ?_) (fun (hc290 : x3 = qv) => ?_)
              · refine own_iconst X hx (0 : Int32) (hb hby at_297) (pc' := 298) rfl rfl ?_
                refine own_istore X hx (hb hby at_298) (pc' := 300) rfl (Ls' := #[.val (.int p0), .val (.int p1), .val (.int p2), .val (.int p3), .val (.int p4), .val (.int p5), .val (.int (4 : Int32)), .val (.int p0), .val (.int x1), .val (.int x2), .val (.int x3), .val (.ref b23), .val (.int md), .val (.int qv), .val (.ref b28), .val (.int (own_find qv [p0, x1, x2, x3] 0)), .val (.int (0 : Int32)), .val (.int (1 : Int32)), .val (.int (0 : Int32)), .val (.int (0 : Int32)), .unset]) rfl ?_
                refine own_iload X hx (hb hby at_300) (pc' := 302) rfl rfl ?_
                refine own_ifY X hx (hb hby at_302) (by decide) (pc' := 311) rfl (show (0 : Int32) = (0 : Int32) from (by decide)) ?_
                refine own_iload X hx (hb hby at_311) (pc' := 313) rfl rfl ?_
                refine own_ifN X hx (hb hby at_313) (pc' := 316) rfl (show ¬ ((1 : Int32) = (0 : Int32)) from (by decide)) ?_
                refine own_iconst X hx (1 : Int32) (hb hby at_316) (pc' := 317) rfl rfl ?_
                refine own_istore X hx (hb hby at_317) (pc' := 319) rfl (Ls' := #[.val (.int p0), .val (.int p1), .val (.int p2), .val (.int p3), .val (.int p4), .val (.int p5), .val (.int (4 : Int32)), .val (.int p0), .val (.int x1), .val (.int x2), .val (.int x3), .val (.ref b23), .val (.int md), .val (.int qv), .val (.ref b28), .val (.int (own_find qv [p0, x1, x2, x3] 0)), .val (.int (0 : Int32)), .val (.int (1 : Int32)), .val (.int (0 : Int32)), .val (.int (0 : Int32)), .val (.int (1 : Int32))]) rfl ?_
                refine own_goto X hx (hb hby at_319) (by decide) (pc' := 347) rfl ?_
                refine own_iload X hx (hb hby at_347) (pc' := 349) rfl rfl ?_
                refine own_iload X hx (hb hby at_349) (pc' := 351) rfl rfl ?_
                refine own_icmpN X hx (hb hby at_351) (pc' := 354) rfl (show (own_find qv [p0, x1, x2, x3] 0) = (1 : Int32) from (by simp [own_find, hc230, hc250, hc270, hc290])) ?_
                refine own_iconst X hx (1 : Int32) (hb hby at_354) (pc' := 355) rfl rfl ?_
                refine own_goto X hx (hb hby at_355) (by decide) (pc' := 359) rfl ?_
                refine own_retI X hx hlk (t := .boolean) (w' := (.int (1 : Int32))) Bd.returns (hb hby at_359) rfl rfl (by simp) (by decide) (by decide) ?_
                rw [eT]
                exact ⟨rfl, N⟩
              · refine own_iconst X hx (1 : Int32) (hb hby at_293) (pc' := 294) rfl rfl ?_
                refine own_goto X hx (hb hby at_294) (by decide) (pc' := 298) rfl ?_
                refine own_istore X hx (hb hby at_298) (pc' := 300) rfl (Ls' := #[.val (.int p0), .val (.int p1), .val (.int p2), .val (.int p3), .val (.int p4), .val (.int p5), .val (.int (4 : Int32)), .val (.int p0), .val (.int x1), .val (.int x2), .val (.int x3), .val (.ref b23), .val (.int md), .val (.int qv), .val (.ref b28), .val (.int (own_find qv [p0, x1, x2, x3] 0)), .val (.int (0 : Int32)), .val (.int (1 : Int32)), .val (.int (0 : Int32)), .val (.int (1 : Int32)), .unset]) rfl ?_
                refine own_iload X hx (hb hby at_300) (pc' := 302) rfl rfl ?_
                refine own_ifY X hx (hb hby at_302) (by decide) (pc' := 311) rfl (show (0 : Int32) = (0 : Int32) from (by decide)) ?_
                refine own_iload X hx (hb hby at_311) (pc' := 313) rfl rfl ?_
                refine own_ifN X hx (hb hby at_313) (pc' := 316) rfl (show ¬ ((1 : Int32) = (0 : Int32)) from (by decide)) ?_
                refine own_iconst X hx (1 : Int32) (hb hby at_316) (pc' := 317) rfl rfl ?_
                refine own_istore X hx (hb hby at_317) (pc' := 319) rfl (Ls' := #[.val (.int p0), .val (.int p1), .val (.int p2), .val (.int p3), .val (.int p4), .val (.int p5), .val (.int (4 : Int32)), .val (.int p0), .val (.int x1), .val (.int x2), .val (.int x3), .val (.ref b23), .val (.int md), .val (.int qv), .val (.ref b28), .val (.int (own_find qv [p0, x1, x2, x3] 0)), .val (.int (0 : Int32)), .val (.int (1 : Int32)), .val (.int (0 : Int32)), .val (.int (1 : Int32)), .val (.int (1 : Int32))]) rfl ?_
                refine own_goto X hx (hb hby at_319) (by decide) (pc' := 347) rfl ?_
                refine own_iload X hx (hb hby at_347) (pc' := 349) rfl rfl ?_
                refine own_iload X hx (hb hby at_349) (pc' := 351) rfl rfl ?_
                refine own_icmpN X hx (hb hby at_351) (pc' := 354) rfl (show (own_find qv [p0, x1, x2, x3] 0) = (1 : Int32) from (by simp [own_find, hc230, hc250, hc270, hc290])) ?_
                refine own_iconst X hx (1 : Int32) (hb hby at_354) (pc' := 355) rfl rfl ?_
                refine own_goto X hx (hb hby at_355) (by decide) (pc' := 359) rfl ?_
                refine own_retI X hx hlk (t := .boolean) (w' := (.int (1 : Int32))) Bd.returns (hb hby at_359) rfl rfl (by simp) (by decide) (by decide) ?_
                rw [eT]
                exact ⟨rfl, N⟩
            · refine own_iconst X hx (1 : Int32) (hb hby at_273) (pc' := 274) rfl rfl ?_
              refine own_goto X hx (hb hby at_274) (by decide) (pc' := 278) rfl ?_
              refine own_istore X hx (hb hby at_278) (pc' := 280) rfl (Ls' := #[.val (.int p0), .val (.int p1), .val (.int p2), .val (.int p3), .val (.int p4), .val (.int p5), .val (.int (4 : Int32)), .val (.int p0), .val (.int x1), .val (.int x2), .val (.int x3), .val (.ref b23), .val (.int md), .val (.int qv), .val (.ref b28), .val (.int (own_find qv [p0, x1, x2, x3] 0)), .val (.int (0 : Int32)), .val (.int (1 : Int32)), .val (.int (1 : Int32)), .unset, .unset]) rfl ?_
              refine own_iload X hx (hb hby at_280) (pc' := 282) rfl rfl ?_
              refine own_iconst X hx (3 : Int32) (hb hby at_282) (pc' := 283) rfl rfl ?_
              refine own_icmpN X hx (hb hby at_283) (pc' := 286) rfl (show (3 : Int32) < (4 : Int32) from (by decide)) ?_
              refine own_iload X hx (hb hby at_286) (pc' := 288) rfl rfl ?_
              refine own_iload X hx (hb hby at_288) (pc' := 290) rfl rfl ?_
              refine own_icmp X hx (hb hby at_290) (by decide) (pcY := 297) (pcN := 293) rfl rfl (fun (hc290 : ¬ (x3 = qv)) => ?_) (fun (hc290 : x3 = qv) => ?_)
              · refine own_iconst X hx (0 : Int32) (hb hby at_297) (pc' := 298) rfl rfl ?_
                refine own_istore X hx (hb hby at_298) (pc' := 300) rfl (Ls' := #[.val (.int p0), .val (.int p1), .val (.int p2), .val (.int p3), .val (.int p4), .val (.int p5), .val (.int (4 : Int32)), .val (.int p0), .val (.int x1), .val (.int x2), .val (.int x3), .val (.ref b23), .val (.int md), .val (.int qv), .val (.ref b28), .val (.int (own_find qv [p0, x1, x2, x3] 0)), .val (.int (0 : Int32)), .val (.int (1 : Int32)), .val (.int (1 : Int32)), .val (.int (0 : Int32)), .unset]) rfl ?_
                refine own_iload X hx (hb hby at_300) (pc' := 302) rfl rfl ?_
                refine own_ifY X hx (hb hby at_302) (by decide) (pc' := 311) rfl (show (0 : Int32) = (0 : Int32) from (by decide)) ?_
                refine own_iload X hx (hb hby at_311) (pc' := 313) rfl rfl ?_
                refine own_ifN X hx (hb hby at_313) (pc' := 316) rfl (show ¬ ((1 : Int32) = (0 : Int32)) from (by decide)) ?_
                refine own_iconst X hx (1 : Int32) (hb hby at_316) (pc' := 317) rfl rfl ?_
                refine own_istore X hx (hb hby at_317) (pc' := 319) rfl (Ls' := #[.val (.int p0), .val (.int p1), .val (.int p2), .val (.int p3), .val (.int p4), .val (.int p5), .val (.int (4 : Int32)), .val (.int p0), .val (.int x1), .val (.int x2), .val (.int x3), .val (.ref b23), .val (.int md), .val (.int qv), .val (.ref b28), .val (.int (own_find qv [p0, x1, x2, x3] 0)), .val (.int (0 : Int32)), .val (.int (1 : Int32)), .val (.int (1 : Int32)), .val (.int (0 : Int32)), .val (.int (1 : Int32))]) rfl ?_
                refine own_goto X hx (hb hby at_319) (by decide) (pc' := 347) rfl ?_
                refine own_iload X hx (hb hby at_347) (pc' := 349) rfl rfl ?_
                refine own_iload X hx (hb hby at_349) (pc' := 351) rfl rfl ?_
                refine own_icmpN X hx (hb hby at_351) (pc' := 354) rfl (show (own_find qv [p0, x1, x2, x3] 0) = (1 : Int32) from (by simp [own_find, hc230, hc250, hc270, hc290])) ?_
                refine own_iconst X hx (1 : Int32) (hb hby at_354) (pc' := 355) rfl rfl ?_
                refine own_goto X hx (hb hby at_355) (by decide) (pc' := 359) rfl ?_
                refine own_retI X hx hlk (t := .boolean) (w' := (.int (1 : Int32))) Bd.returns (hb hby at_359) rfl rfl (by simp) (by decide) (by decide) ?_
                rw [eT]
                exact ⟨rfl, N⟩
              · refine own_iconst X hx (1 : Int32) (hb hby at_293) (pc' := 294) rfl rfl ?_
                refine own_goto X hx (hb hby at_294) (by decide) (pc' := 298) rfl ?_
                refine own_istore X hx (hb hby at_298) (pc' := 300) rfl (Ls' := #[.val (.int p0), .val (.int p1), .val (.int p2), .val (.int p3), .val (.int p4), .val (.int p5), .val (.int (4 : Int32)), .val (.int p0), .val (.int x1), .val (.int x2), .val (.int x3), .val (.ref b23), .val (.int md), .val (.int qv), .val (.ref b28), .val (.int (own_find qv [p0, x1, x2, x3] 0)), .val (.int (0 : Int32)), .val (.int (1 : Int32)), .val (.int (1 : Int32)), .val (.int (1 : Int32)), .unset]) rfl ?_
                refine own_iload X hx (hb hby at_300) (pc' := 302) rfl rfl ?_
                refine own_ifY X hx (hb hby at_302) (by decide) (pc' := 311) rfl (show (0 : Int32) = (0 : Int32) from (by decide)) ?_
                refine own_iload X hx (hb hby at_311) (pc' := 313) rfl rfl ?_
                refine own_ifN X hx (hb hby at_313) (pc' := 316) rfl (show ¬ ((1 : Int32) = (0 : Int32)) from (by decide)) ?_
                refine own_iconst X hx (1 : Int32) (hb hby at_316) (pc' := 317) rfl rfl ?_
                refine own_istore X hx (hb hby at_317) (pc' := 319) rfl (Ls' := #[.val (.int p0), .val (.int p1), .val (.int p2), .val (.int p3), .val (.int p4), .val (.int p5), .val (.int (4 : Int32)), .val (.int p0), .val (.int x1), .val (.int x2), .val (.int x3), .val (.ref b23), .val (.int md), .val (.int qv), .val (.ref b28), .val (.int (own_find qv [p0, x1, x2, x3] 0)), .val (.int (0 : Int32)), .val (.int (1 : Int32)), .val (.int (1 : Int32)), .val (.int (1 : Int32)), .val (.int (1 : Int32))]) rfl ?_
                refine own_goto X hx (hb hby at_319) (by decide) (pc' := 347) rfl ?_
                refine own_iload X hx (hb hby at_347) (pc' := 349) rfl rfl ?_
                refine own_iload X hx (hb hby at_349) (pc' := 351) rfl rfl ?_
                refine own_icmpN X hx (hb hby at_351) (pc' := 354) rfl (show (own_find qv [p0, x1, x2, x3] 0) = (1 : Int32) from (by simp [own_find, hc230, hc250, hc270, hc290])) ?_
                refine own_iconst X hx (1 : Int32) (hb hby at_354) (pc' := 355) rfl rfl ?_
                refine own_goto X hx (hb hby at_355) (by decide) (pc' := 359) rfl ?_
                refine own_retI X hx hlk (t := .boolean) (w' := (.int (1 : Int32))) Bd.returns (hb hby at_359) rfl rfl (by simp) (by decide) (by decide) ?_
                rw [eT]
                exact ⟨rfl, N⟩
        · refine own_iconst X hx (1 : Int32) (hb hby at_233) (pc' := 234) rfl rfl ?_
          refine own_goto X hx (hb hby at_234) (by decide) (pc' := 238) rfl ?_
          refine own_istore X hx (hb hby at_238) (pc' := 240) rfl (Ls' := #[.val (.int p0), .val (.int p1), .val (.int p2), .val (.int p3), .val (.int p4), .val (.int p5), .val (.int (4 : Int32)), .val (.int p0), .val (.int x1), .val (.int x2), .val (.int x3), .val (.ref b23), .val (.int md), .val (.int qv), .val (.ref b28), .val (.int (own_find qv [p0, x1, x2, x3] 0)), .val (.int (1 : Int32)), .unset, .unset, .unset, .unset]) rfl ?_
          refine own_iload X hx (hb hby at_240) (pc' := 242) rfl rfl ?_
          refine own_iconst X hx (1 : Int32) (hb hby at_242) (pc' := 243) rfl rfl ?_
          refine own_icmpN X hx (hb hby at_243) (pc' := 246) rfl (show (1 : Int32) < (4 : Int32) from (by decide)) ?_
          refine own_iload X hx (hb hby at_246) (pc' := 248) rfl rfl ?_
          refine own_iload X hx (hb hby at_248) (pc' := 250) rfl rfl ?_
          refine own_icmp X hx (hb hby at_250) (by decide) (pcY := 257) (pcN := 253) rfl rfl (fun (hc250 : ¬ (x1 = qv)) => ?_) (fun (hc250 : x1 = qv) => ?_)
          · refine own_iconst X hx (0 : Int32) (hb hby at_257) (pc' := 258) rfl rfl ?_
            refine own_istore X hx (hb hby at_258) (pc' := 260) rfl (Ls' := #[.val (.int p0), .val (.int p1), .val (.int p2), .val (.int p3), .val (.int p4), .val (.int p5), .val (.int (4 : Int32)), .val (.int p0), .val (.int x1), .val (.int x2), .val (.int x3), .val (.ref b23), .val (.int md), .val (.int qv), .val (.ref b28), .val (.int (own_find qv [p0, x1, x2, x3] 0)), .val (.int (1 : Int32)), .val (.int (0 : Int32)), .unset, .unset, .unset]) rfl ?_
            refine own_iload X hx (hb hby at_260) (pc' := 262) rfl rfl ?_
            refine own_iconst X hx (2 : Int32) (hb hby at_262) (pc' := 263) rfl rfl ?_
            refine own_icmpN X hx (hb hby at_263) (pc' := 266) rfl (show (2 : Int32) < (4 : Int32) from (by decide)) ?_
            refine own_iload X hx (hb hby at_266) (pc' := 268) rfl rfl ?_
            refine own_iload X hx (hb hby at_268) (pc' := 270) rfl rfl ?_
            refine own_icmp X hx (hb hby at_270) (by decide) (pcY := 277) (pcN := 273) rfl rfl (fun (hc270 : ¬ (x2 = qv)) => ?_) (fun (hc270 : x2 = qv) => ?_)
            · refine own_iconst X hx (0 : Int32) (hb hby at_277) (pc' := 278) rfl rfl ?_
              refine own_istore X hx (hb hby at_278) (pc' := 280) rfl (Ls' := #[.val (.int p0), .val (.int p1), .val (.int p2), .val (.int p3), .val (.int p4), .val (.int p5), .val (.int (4 : Int32)), .val (.int p0), .val (.int x1), .val (.int x2), .val (.int x3), .val (.ref b23), .val (.int md), .val (.int qv), .val (.ref b28), .val (.int (own_find qv [p0, x1, x2, x3] 0)), .val (.int (1 : Int32)), .val (.int (0 : Int32)), .val (.int (0 : Int32)), .unset, .unset]) rfl ?_
              refine own_iload X hx (hb hby at_280) (pc' := 282) rfl rfl ?_
              refine own_iconst X hx (3 : Int32) (hb hby at_282) (pc' := 283) rfl rfl ?_
              refine own_icmpN X hx (hb hby at_283) (pc' := 286) rfl (show (3 : Int32) < (4 : Int32) from (by decide)) ?_
              refine own_iload X hx (hb hby at_286) (pc' := 288) rfl rfl ?_
              refine own_iload X hx (hb hby at_288) (pc' := 290) rfl rfl ?_
              refine own_icmp X hx (hb hby at_290) (by decide) (pcY := 297) (pcN := 293) rfl rfl (fun (hc290 : ¬ (x3 = qv)) => ?_) (fun (hc290 : x3 = qv) => ?_)
              · refine own_iconst X hx (0 : Int32) (hb hby at_297) (pc' := 298) rfl rfl ?_
                refine own_istore X hx (hb hby at_298) (pc' := 300) rfl (Ls' := #[.val (.int p0), .val (.int p1), .val (.int p2), .val (.int p3), .val (.int p4), .val (.int p5), .val (.int (4 : Int32)), .val (.int p0), .val (.int x1), .val (.int x2), .val (.int x3), .val (.ref b23), .val (.int md), .val (.int qv), .val (.ref b28), .val (.int (own_find qv [p0, x1, x2, x3] 0)), .val (.int (1 : Int32)), .val (.int (0 : Int32)), .val (.int (0 : Int32)), .val (.int (0 : Int32)), .unset]) rfl ?_
                refine own_iload X hx (hb hby at_300) (pc' := 302) rfl rfl ?_
                refine own_ifN X hx (hb hby at_302) (pc' := 305) rfl (show ¬ ((1 : Int32) = (0 : Int32)) from (by decide)) ?_
                refine own_iconst X hx (0 : Int32) (hb hby at_305) (pc' := 306) rfl rfl ?_
                refine own_istore X hx (hb hby at_306) (pc' := 308) rfl (Ls' := #[.val (.int p0), .val (.int p1), .val (.int p2), .val (.int p3), .val (.int p4), .val (.int p5), .val (.int (4 : Int32)), .val (.int p0), .val (.int x1), .val (.int x2), .val (.int x3), .val (.ref b23), .val (.int md), .val (.int qv), .val (.ref b28), .val (.int (own_find qv [p0, x1, x2, x3] 0)), .val (.int (1 : Int32)), .val (.int (0 : Int32)), .val (.int (0 : Int32)), .val (.int (0 : Int32)), .val (.int (0 : Int32))]) rfl ?_
                refine own_goto X hx (hb hby at_308) (by decide) (pc' := 347) rfl ?_
                refine own_iload X hx (hb hby at_347) (pc' := 349) rfl rfl ?_
                refine own_iload X hx (hb hby at_349) (pc' := 351) rfl rfl ?_
                refine own_icmpN X hx (hb hby at_351) (pc' := 354) rfl (show (own_find qv [p0, x1, x2, x3] 0) = (0 : Int32) from (by simp [own_find, hc230, hc250, hc270, hc290])) ?_
                refine own_iconst X hx (1 : Int32) (hb hby at_354) (pc' := 355) rfl rfl ?_
                refine own_goto X hx (hb hby at_355) (by decide) (pc' := 359) rfl ?_
                refine own_retI X hx hlk (t := .boolean) (w' := (.int (1 : Int32))) Bd.returns (hb hby at_359) rfl rfl (by simp) (by decide) (by decide) ?_
                rw [eT]
                exact ⟨rfl, N⟩
              · refine own_iconst X hx (1 : Int32) (hb hby at_293) (pc' := 294) rfl rfl ?_
                refine own_goto X hx (hb hby at_294) (by decide) (pc' := 298) rfl ?_
                refine own_istore X hx (hb hby at_298) (pc' := 300) rfl (Ls' := #[.val (.int p0), .val (.int p1), .val (.int p2), .val (.int p3), .val (.int p4), .val (.int p5), .val (.int (4 : Int32)), .val (.int p0), .val (.int x1), .val (.int x2), .val (.int x3), .val (.ref b23), .val (.int md), .val (.int qv), .val (.ref b28), .val (.int (own_find qv [p0, x1, x2, x3] 0)), .val (.int (1 : Int32)), .val (.int (0 : Int32)), .val (.int (0 : Int32)), .val (.int (1 : Int32)), .unset]) rfl ?_
                refine own_iload X hx (hb hby at_300) (pc' := 302) rfl rfl ?_
                refine own_ifN X hx (hb hby at_302) (pc' := 305) rfl (show ¬ ((1 : Int32) = (0 : Int32)) from (by decide)) ?_
                refine own_iconst X hx (0 : Int32) (hb hby at_305) (pc' := 306) rfl rfl ?_
                refine own_istore X hx (hb hby at_306) (pc' := 308) rfl (Ls' := #[.val (.int p0), .val (.int p1), .val (.int p2), .val (.int p3), .val (.int p4), .val (.int p5), .val (.int (4 : Int32)), .val (.int p0), .val (.int x1), .val (.int x2), .val (.int x3), .val (.ref b23), .val (.int md), .val (.int qv), .val (.ref b28), .val (.int (own_find qv [p0, x1, x2, x3] 0)), .val (.int (1 : Int32)), .val (.int (0 : Int32)), .val (.int (0 : Int32)), .val (.int (1 : Int32)), .val (.int (0 : Int32))]) rfl ?_
                refine own_goto X hx (hb hby at_308) (by decide) (pc' := 347) rfl ?_
                refine own_iload X hx (hb hby at_347) (pc' := 349) rfl rfl ?_
                refine own_iload X hx (hb hby at_349) (pc' := 351) rfl rfl ?_
                refine own_icmpN X hx (hb hby at_351) (pc' := 354) rfl (show (own_find qv [p0, x1, x2, x3] 0) = (0 : Int32) from (by simp [own_find, hc230, hc250, hc270, hc290])) ?_
                refine own_iconst X hx (1 : Int32) (hb hby at_354) (pc' := 355) rfl rfl ?_
                refine own_goto X hx (hb hby at_355) (by decide) (pc' := 359) rfl ?_
                refine own_retI X hx hlk (t := .boolean) (w' := (.int (1 : Int32))) Bd.returns (hb hby at_359) rfl rfl (by simp) (by decide) (by decide) ?_
                rw [eT]
                exact ⟨rfl, N⟩
            · refine own_iconst X hx (1 : Int32) (hb hby at_273) (pc' := 274) rfl rfl ?_
              refine own_goto X hx (hb hby at_274) (by decide) (pc' := 278) rfl ?_
              refine own_istore X hx (hb hby at_278) (pc' := 280) rfl (Ls' := #[.val (.int p0), .val (.int p1), .val (.int p2), .val (.int p3), .val (.int p4), .val (.int p5), .val (.int (4 : Int32)), .val (.int p0), .val (.int x1), .val (.int x2), .val (.int x3), .val (.ref b23), .val (.int md), .val (.int qv), .val (.ref b28), .val (.int (own_find qv [p0, x1, x2, x3] 0)), .val (.int (1 : Int32)), .val (.int (0 : Int32)), .val (.int (1 : Int32)), .unset, .unset]) rfl ?_
              refine own_iload X hx (hb hby at_280) (pc' := 282) rfl rfl ?_
              refine own_iconst X hx (3 : Int32) (hb hby at_282) (pc' := 283) rfl rfl ?_
              refine own_icmpN X hx (hb hby at_283) (pc' := 286) rfl (show (3 : Int32) < (4 : Int32) from (by decide)) ?_
              refine own_iload X hx (hb hby at_286) (pc' := 288) rfl rfl ?_
              refine own_iload X hx (hb hby at_288) (pc' := 290) rfl rfl ?_
              refine own_icmp X hx (hb hby at_290) (by decide) (pcY := 297) (pcN := 293) rfl rfl (fun (hc290 : ¬ (x3 = qv)) => ?_) (fun (hc290 : x3 = qv) => ?_)
              · refine own_iconst X hx (0 : Int32) (hb hby at_297) (pc' := 298) rfl rfl ?_
                refine own_istore X hx (hb hby at_298) (pc' := 300) rfl (Ls' := #[.val (.int p0), .val (.int p1), .val (.int p2), .val (.int p3), .val (.int p4), .val (.int p5), .val (.int (4 : Int32)), .val (.int p0), .val (.int x1), .val (.int x2), .val (.int x3), .val (.ref b23), .val (.int md), .val (.int qv), .val (.ref b28), .val (.int (own_find qv [p0, x1, x2, x3] 0)), .val (.int (1 : Int32)), .val (.int (0 : Int32)), .val (.int (1 : Int32)), .val (.int (0 : Int32)), .unset]) rfl ?_
                refine own_iload X hx (hb hby at_300) (pc' := 302) rfl rfl ?_
                refine own_ifN X hx (hb hby at_302) (pc' := 305) rfl (show ¬ ((1 : Int32) = (0 : Int32)) from (by decide)) ?_
                refine own_iconst X hx (0 : Int32) (hb hby at_305) (pc' := 306) rfl rfl ?_
                refine own_istore X hx (hb hby at_306) (pc' := 308) rfl (Ls' := #[.val (.int p0), .val (.int p1), .val (.int p2), .val (.int p3), .val (.int p4), .val (.int p5), .val (.int (4 : Int32)), .val (.int p0), .val (.int x1), .val (.int x2), .val (.int x3), .val (.ref b23), .val (.int md), .val (.int qv), .val (.ref b28), .val (.int (own_find qv [p0, x1, x2, x3] 0)), .val (.int (1 : Int32)), .val (.int (0 : Int32)), .val (.int (1 : Int32)), .val (.int (0 : Int32)), .val (.int (0 : Int32))]) rfl ?_
                refine own_goto X hx (hb hby at_308) (by decide) (pc' := 347) rfl ?_
                refine own_iload X hx (hb hby at_347) (pc' := 349) rfl rfl ?_
                refine own_iload X hx (hb hby at_349) (pc' := 351) rfl rfl ?_
                refine own_icmpN X hx (hb hby at_351) (pc' := 354) rfl (show (own_find qv [p0, x1, x2, x3] 0) = (0 : Int32) from (by simp [own_find, hc230, hc250, hc270, hc290])) ?_
                refine own_iconst X hx (1 : Int32) (hb hby at_354) (pc' := 355) rfl rfl ?_
                refine own_goto X hx (hb hby at_355) (by decide) (pc' := 359) rfl ?_
                refine own_retI X hx hlk (t := .boolean) (w' := (.int (1 : Int32))) Bd.returns (hb hby at_359) rfl rfl (by simp) (by decide) (by decide) ?_
                rw [eT]
                exact ⟨rfl, N⟩
              · refine own_iconst X hx (1 : Int32) (hb hby at_293) (pc' := 294) rfl rfl ?_
                refine own_goto X hx (hb hby at_294) (by decide) (pc' := 298) rfl ?_
                refine own_istore X hx (hb hby at_298) (pc' := 300) rfl (Ls' := #[.val (.int p0), .val (.int p1), .val (.int p2), .val (.int p3), .val (.int p4), .val (.int p5), .val (.int (4 : Int32)), .val (.int p0), .val (.int x1), .val (.int x2), .val (.int x3), .val (.ref b23), .val (.int md), .val (.int qv), .val (.ref b28), .val (.int (own_find qv [p0, x1, x2, x3] 0)), .val (.int (1 : Int32)), .val (.int (0 : Int32)), .val (.int (1 : Int32)), .val (.int (1 : Int32)), .unset]) rfl ?_
                refine own_iload X hx (hb hby at_300) (pc' := 302) rfl rfl ?_
                refine own_ifN X hx (hb hby at_302) (pc' := 305) rfl (show ¬ ((1 : Int32) = (0 : Int32)) from (by decide)) ?_
                refine own_iconst X hx (0 : Int32) (hb hby at_305) (pc' := 306) rfl rfl ?_
                refine own_istore X hx (hb hby at_306) (pc' := 308) rfl (Ls' := #[.val (.int p0), .val (.int p1), .val (.int p2), .val (.int p3), .val (.int p4), .val (.int p5), .val (.int (4 : Int32)), .val (.int p0), .val (.int x1), .val (.int x2), .val (.int x3), .val (.ref b23), .val (.int md), .val (.int qv), .val (.ref b28), .val (.int (own_find qv [p0, x1, x2, x3] 0)), .val (.int (1 : Int32)), .val (.int (0 : Int32)), .val (.int (1 : Int32)), .val (.int (1 : Int32)), .val (.int (0 : Int32))]) rfl ?_
                refine own_goto X hx (hb hby at_308) (by decide) (pc' := 347) rfl ?_
                refine own_iload X hx (hb hby at_347) (pc' := 349) rfl rfl ?_
                refine own_iload X hx (hb hby at_349) (pc' := 351) rfl rfl ?_
                refine own_icmpN X hx (hb hby at_351) (pc' := 354) rfl (show (own_find qv [p0, x1, x2, x3] 0) = (0 : Int32) from (by simp [own_find, hc230, hc250, hc270, hc290])) ?_
                refine own_iconst X hx (1 : Int32) (hb hby at_354) (pc' := 355) rfl rfl ?_
                refine own_goto X hx (hb hby at_355) (by decide) (pc' := 359) rfl ?_
                refine own_retI X hx hlk (t := .boolean) (w' := (.int (1 : Int32))) Bd.returns (hb hby at_359) rfl rfl (by simp) (by decide) (by decide) ?_
                rw [eT]
                exact ⟨rfl, N⟩
          · refine own_iconst X hx (1 : Int32) (hb hby at_253) (pc' := 254) rfl rfl ?_
            refine own_goto X hx (hb hby at_254) (by decide) (pc' := 258) rfl ?_
            refine own_istore X hx (hb hby at_258) (pc' := 260) rfl (Ls' := #[.val (.int p0), .val (.int p1), .val (.int p2), .val (.int p3), .val (.int p4), .val (.int p5), .val (.int (4 : Int32)), .val (.int p0), .val (.int x1), .val (.int x2), .val (.int x3), .val (.ref b23), .val (.int md), .val (.int qv), .val (.ref b28), .val (.int (own_find qv [p0, x1, x2, x3] 0)), .val (.int (1 : Int32)), .val (.int (1 : Int32)), .unset, .unset, .unset]) rfl ?_
            refine own_iload X hx (hb hby at_260) (pc' := 262) rfl rfl ?_
            refine own_iconst X hx (2 : Int32) (hb hby at_262) (pc' := 263) rfl rfl ?_
            refine own_icmpN X hx (hb hby at_263) (pc' := 266) rfl (show (2 : Int32) < (4 : Int32) from (by decide)) ?_
            refine own_iload X hx (hb hby at_266) (pc' := 268) rfl rfl ?_
            refine own_iload X hx (hb hby at_268) (pc' := 270) rfl rfl ?_
            refine own_icmp X hx (hb hby at_270) (by decide) (pcY := 277) (pcN := 273) rfl rfl (fun (hc270 : ¬ (x2 = qv)) => ?_) (fun (hc270 : x2 = qv) => ?_)
            · refine own_iconst X hx (0 : Int32) (hb hby at_277) (pc' := 278) rfl rfl ?_
              refine own_istore X hx (hb hby at_278) (pc' := 280) rfl (Ls' := #[.val (.int p0), .val (.int p1), .val (.int p2), .val (.int p3), .val (.int p4), .val (.int p5), .val (.int (4 : Int32)), .val (.int p0), .val (.int x1), .val (.int x2), .val (.int x3), .val (.ref b23), .val (.int md), .val (.int qv), .val (.ref b28), .val (.int (own_find qv [p0, x1, x2, x3] 0)), .val (.int (1 : Int32)), .val (.int (1 : Int32)), .val (.int (0 : Int32)), .unset, .unset]) rfl ?_
              refine own_iload X hx (hb hby at_280) (pc' := 282) rfl rfl ?_
              refine own_iconst X hx (3 : Int32) (hb hby at_282) (pc' := 283) rfl rfl ?_
              refine own_icmpN X hx (hb hby at_283) (pc' := 286) rfl (show (3 : Int32) < (4 : Int32) from (by decide)) ?_
              refine own_iload X hx (hb hby at_286) (pc' := 288) rfl rfl ?_
              refine own_iload X hx (hb hby at_288) (pc' := 290) rfl rfl ?_
              refine own_icmp X hx (hb hby at_290) (by decide) (pcY := 297) (pcN := 293) rfl rfl (fun (hc290 : ¬ (x3 = qv)) => ?_) (fun (hc290 : x3 = qv) => ?_)
              · refine own_iconst X hx (0 : Int32) (hb hby at_297) (pc' := 298) rfl rfl ?_
                refine own_istore X hx (hb hby at_298) (pc' := 300) rfl (Ls' := #[.val (.int p0), .val (.int p1), .val (.int p2), .val (.int p3), .val (.int p4), .val (.int p5), .val (.int (4 : Int32)), .val (.int p0), .val (.int x1), .val (.int x2), .val (.int x3), .val (.ref b23), .val (.int md), .val (.int qv), .val (.ref b28), .val (.int (own_find qv [p0, x1, x2, x3] 0)), .val (.int (1 : Int32)), .val (.int (1 : Int32)), .val (.int (0 : Int32)), .val (.int (0 : Int32)), .unset]) rfl ?_
                refine own_iload X hx (hb hby at_300) (pc' := 302) rfl rfl ?_
                refine own_ifN X hx (hb hby at_302) (pc' := 305) rfl (show ¬ ((1 : Int32) = (0 : Int32)) from (by decide)) ?_
                refine own_iconst X hx (0 : Int32) (hb hby at_305) (pc' := 306) rfl rfl ?_
                refine own_istore X hx (hb hby at_306) (pc' := 308) rfl (Ls' := #[.val (.int p0), .val (.int p1), .val (.int p2), .val (.int p3), .val (.int p4), .val (.int p5), .val (.int (4 : Int32)), .val (.int p0), .val (.int x1), .val (.int x2), .val (.int x3), .val (.ref b23), .val (.int md), .val (.int qv), .val (.ref b28), .val (.int (own_find qv [p0, x1, x2, x3] 0)), .val (.int (1 : Int32)), .val (.int (1 : Int32)), .val (.int (0 : Int32)), .val (.int (0 : Int32)), .val (.int (0 : Int32))]) rfl ?_
                refine own_goto X hx (hb hby at_308) (by decide) (pc' := 347) rfl ?_
                refine own_iload X hx (hb hby at_347) (pc' := 349) rfl rfl ?_
                refine own_iload X hx (hb hby at_349) (pc' := 351) rfl rfl ?_
                refine own_icmpN X hx (hb hby at_351) (pc' := 354) rfl (show (own_find qv [p0, x1, x2, x3] 0) = (0 : Int32) from (by simp [own_find, hc230, hc250, hc270, hc290])) ?_
                refine own_iconst X hx (1 : Int32) (hb hby at_354) (pc' := 355) rfl rfl ?_
                refine own_goto X hx (hb hby at_355) (by decide) (pc' := 359) rfl ?_
                refine own_retI X hx hlk (t := .boolean) (w' := (.int (1 : Int32))) Bd.returns (hb hby at_359) rfl rfl (by simp) (by decide) (by decide) ?_
                rw [eT]
                exact ⟨rfl, N⟩
              · refine own_iconst X hx (1 : Int32) (hb hby at_293) (pc' := 294) rfl rfl ?_
                refine own_goto X hx (hb hby at_294) (by decide) (pc' := 298) rfl ?_
                refine own_istore X hx (hb hby at_298) (pc' := 300) rfl (Ls' := #[.val (.int p0), .val (.int p1), .val (.int p2), .val (.int p3), .val (.int p4), .val (.int p5), .val (.int (4 : Int32)), .val (.int p0), .val (.int x1), .val (.int x2), .val (.int x3), .val (.ref b23), .val (.int md), .val (.int qv), .val (.ref b28), .val (.int (own_find qv [p0, x1, x2, x3] 0)), .val (.int (1 : Int32)), .val (.int (1 : Int32)), .val (.int (0 : Int32)), .val (.int (1 : Int32)), .unset]) rfl ?_
                refine own_iload X hx (hb hby at_300) (pc' := 302) rfl rfl ?_
                refine own_ifN X hx (hb hby at_302) (pc' := 305) rfl (show ¬ ((1 : Int32) = (0 : Int32)) from (by decide)) ?_
                refine own_iconst X hx (0 : Int32) (hb hby at_305) (pc' := 306) rfl rfl ?_
                refine own_istore X hx (hb hby at_306) (pc' := 308) rfl (Ls' := #[.val (.int p0), .val (.int p1), .val (.int p2), .val (.int p3), .val (.int p4), .val (.int p5), .val (.int (4 : Int32)), .val (.int p0), .val (.int x1), .val (.int x2), .val (.int x3), .val (.ref b23), .val (.int md), .val (.int qv), .val (.ref b28), .val (.int (own_find qv [p0, x1, x2, x3] 0)), .val (.int (1 : Int32)), .val (.int (1 : Int32)), .val (.int (0 : Int32)), .val (.int (1 : Int32)), .val (.int (0 : Int32))]) rfl ?_
                refine own_goto X hx (hb hby at_308) (by decide) (pc' := 347) rfl ?_
                refine own_iload X hx (hb hby at_347) (pc' := 349) rfl rfl ?_
                refine own_iload X hx (hb hby at_349) (pc' := 351) rfl rfl ?_
                refine own_icmpN X hx (hb hby at_351) (pc' := 354) rfl (show (own_find qv [p0, x1, x2, x3] 0) = (0 : Int32) from (by simp [own_find, hc230, hc250, hc270, hc290])) ?_
                refine own_iconst X hx (1 : Int32) (hb hby at_354) (pc' := 355) rfl rfl ?_
                refine own_goto X hx (hb hby at_355) (by decide) (pc' := 359) rfl ?_
                refine own_retI X hx hlk (t := .boolean) (w' := (.int (1 : Int32))) Bd.returns (hb hby at_359) rfl rfl (by simp) (by decide) (by decide) ?_
                rw [eT]
                exact ⟨rfl, N⟩
            · refine own_iconst X hx (1 : Int32) (hb hby at_273) (pc' := 274) rfl rfl ?_
              refine own_goto X hx (hb hby at_274) (by decide) (pc' := 278) rfl ?_
              refine own_istore X hx (hb hby at_278) (pc' := 280) rfl (Ls' := #[.val (.int p0), .val (.int p1), .val (.int p2), .val (.int p3), .val (.int p4), .val (.int p5), .val (.int (4 : Int32)), .val (.int p0), .val (.int x1), .val (.int x2), .val (.int x3), .val (.ref b23), .val (.int md), .val (.int qv), .val (.ref b28), .val (.int (own_find qv [p0, x1, x2, x3] 0)), .val (.int (1 : Int32)), .val (.int (1 : Int32)), .val (.int (1 : Int32)), .unset, .unset]) rfl ?_
              refine own_iload X hx (hb hby at_280) (pc' := 282) rfl rfl ?_
              refine own_iconst X hx (3 : Int32) (hb hby at_282) (pc' := 283) rfl rfl ?_
              refine own_icmpN X hx (hb hby at_283) (pc' := 286) rfl (show (3 : Int32) < (4 : Int32) from (by decide)) ?_
              refine own_iload X hx (hb hby at_286) (pc' := 288) rfl rfl ?_
              refine own_iload X hx (hb hby at_288) (pc' := 290) rfl rfl ?_
              refine own_icmp X hx (hb hby at_290) (by decide) (pcY := 297) (pcN := 293) rfl rfl (fun (hc290 : ¬ (x3 = qv)) => ?_) (fun (hc290 : x3 = qv) => ?_)
              · refine own_iconst X hx (0 : Int32) (hb hby at_297) (pc' := 298) rfl rfl ?_
                refine own_istore X hx (hb hby at_298) (pc' := 300) rfl (Ls' := #[.val (.int p0), .val (.int p1), .val (.int p2), .val (.int p3), .val (.int p4), .val (.int p5), .val (.int (4 : Int32)), .val (.int p0), .val (.int x1), .val (.int x2), .val (.int x3), .val (.ref b23), .val (.int md), .val (.int qv), .val (.ref b28), .val (.int (own_find qv [p0, x1, x2, x3] 0)), .val (.int (1 : Int32)), .val (.int (1 : Int32)), .val (.int (1 : Int32)), .val (.int (0 : Int32)), .unset]) rfl ?_
                refine own_iload X hx (hb hby at_300) (pc' := 302) rfl rfl ?_
                refine own_ifN X hx (hb hby at_302) (pc' := 305) rfl (show ¬ ((1 : Int32) = (0 : Int32)) from (by decide)) ?_
                refine own_iconst X hx (0 : Int32) (hb hby at_305) (pc' := 306) rfl rfl ?_
                refine own_istore X hx (hb hby at_306) (pc' := 308) rfl (Ls' := #[.val (.int p0), .val (.int p1), .val (.int p2), .val (.int p3), .val (.int p4), .val (.int p5), .val (.int (4 : Int32)), .val (.int p0), .val (.int x1), .val (.int x2), .val (.int x3), .val (.ref b23), .val (.int md), .val (.int qv), .val (.ref b28), .val (.int (own_find qv [p0, x1, x2, x3] 0)), .val (.int (1 : Int32)), .val (.int (1 : Int32)), .val (.int (1 : Int32)), .val (.int (0 : Int32)), .val (.int (0 : Int32))]) rfl ?_
                refine own_goto X hx (hb hby at_308) (by decide) (pc' := 347) rfl ?_
                refine own_iload X hx (hb hby at_347) (pc' := 349) rfl rfl ?_
                refine own_iload X hx (hb hby at_349) (pc' := 351) rfl rfl ?_
                refine own_icmpN X hx (hb hby at_351) (pc' := 354) rfl (show (own_find qv [p0, x1, x2, x3] 0) = (0 : Int32) from (by simp [own_find, hc230, hc250, hc270, hc290])) ?_
                refine own_iconst X hx (1 : Int32) (hb hby at_354) (pc' := 355) rfl rfl ?_
                refine own_goto X hx (hb hby at_355) (by decide) (pc' := 359) rfl ?_
                refine own_retI X hx hlk (t := .boolean) (w' := (.int (1 : Int32))) Bd.returns (hb hby at_359) rfl rfl (by simp) (by decide) (by decide) ?_
                rw [eT]
                exact ⟨rfl, N⟩
              · refine own_iconst X hx (1 : Int32) (hb hby at_293) (pc' := 294) rfl rfl ?_
                refine own_goto X hx (hb hby at_294) (by decide) (pc' := 298) rfl ?_
                refine own_istore X hx (hb hby at_298) (pc' := 300) rfl (Ls' := #[.val (.int p0), .val (.int p1), .val (.int p2), .val (.int p3), .val (.int p4), .val (.int p5), .val (.int (4 : Int32)), .val (.int p0), .val (.int x1), .val (.int x2), .val (.int x3), .val (.ref b23), .val (.int md), .val (.int qv), .val (.ref b28), .val (.int (own_find qv [p0, x1, x2, x3] 0)), .val (.int (1 : Int32)), .val (.int (1 : Int32)), .val (.int (1 : Int32)), .val (.int (1 : Int32)), .unset]) rfl ?_
                refine own_iload X hx (hb hby at_300) (pc' := 302) rfl rfl ?_
                refine own_ifN X hx (hb hby at_302) (pc' := 305) rfl (show ¬ ((1 : Int32) = (0 : Int32)) from (by decide)) ?_
                refine own_iconst X hx (0 : Int32) (hb hby at_305) (pc' := 306) rfl rfl ?_
                refine own_istore X hx (hb hby at_306) (pc' := 308) rfl (Ls' := #[.val (.int p0), .val (.int p1), .val (.int p2), .val (.int p3), .val (.int p4), .val (.int p5), .val (.int (4 : Int32)), .val (.int p0), .val (.int x1), .val (.int x2), .val (.int x3), .val (.ref b23), .val (.int md), .val (.int qv), .val (.ref b28), .val (.int (own_find qv [p0, x1, x2, x3] 0)), .val (.int (1 : Int32)), .val (.int (1 : Int32)), .val (.int (1 : Int32)), .val (.int (1 : Int32)), .val (.int (0 : Int32))]) rfl ?_
                refine own_goto X hx (hb hby at_308) (by decide) (pc' := 347) rfl ?_
                refine own_iload X hx (hb hby at_347) (pc' := 349) rfl rfl ?_
                refine own_iload X hx (hb hby at_349) (pc' := 351) rfl rfl ?_
                refine own_icmpN X hx (hb hby at_351) (pc' := 354) rfl (show (own_find qv [p0, x1, x2, x3] 0) = (0 : Int32) from (by simp [own_find, hc230, hc250, hc270, hc290])) ?_
                refine own_iconst X hx (1 : Int32) (hb hby at_354) (pc' := 355) rfl rfl ?_
                refine own_goto X hx (hb hby at_355) (by decide) (pc' := 359) rfl ?_
                refine own_retI X hx hlk (t := .boolean) (w' := (.int (1 : Int32))) Bd.returns (hb hby at_359) rfl rfl (by simp) (by decide) (by decide) ?_
                rw [eT]
                exact ⟨rfl, N⟩
      refine own_iload X hx (hb hby at_125) (pc' := 127) rfl rfl ?_
      refine own_istore X hx (hb hby at_127) (pc' := 129) rfl (Ls' := #[.val (.int p0), .val (.int p1), .val (.int p2), .val (.int p3), .val (.int p4), .val (.int p5), .val (.int (4 : Int32)), .val (.int p0), .val (.int x1), .val (.int x2), .val (.int x3), .val (.ref b23), .val (.int md), .val (.int p4), .unset, .unset, .unset, .unset, .unset, .unset, .unset]) rfl ?_
      refine own_iload X hx (hb hby at_129) (pc' := 131) rfl rfl ?_
      refine own_if X hx (hb hby at_131) (by decide) (pcY := 146) (pcN := 134) rfl rfl (fun (hc131 : ¬ (md = (0 : Int32))) => ?_) (fun (hc131 : md = (0 : Int32)) => ?_)
      · refine own_iload X hx (hb hby at_146) (pc' := 148) rfl rfl ?_
        refine own_iconst X hx (1 : Int32) (hb hby at_148) (pc' := 149) rfl rfl ?_
        refine own_icmp X hx (hb hby at_149) (by decide) (pcY := 165) (pcN := 152) rfl rfl (fun (hc149 : ¬ (md = (1 : Int32))) => ?_) (fun (hc149 : md = (1 : Int32)) => ?_)
        · refine own_iload X hx (hb hby at_165) (pc' := 167) rfl rfl ?_
          refine own_iconst X hx (2 : Int32) (hb hby at_167) (pc' := 168) rfl rfl ?_
          refine own_icmp X hx (hb hby at_168) (by decide) (pcY := 184) (pcN := 171) rfl rfl (fun (hc168 : ¬ (md = (2 : Int32))) => ?_) (fun (hc168 : md = (2 : Int32)) => ?_)
          · refine own_iload X hx (hb hby at_184) (pc' := 186) rfl rfl ?_
            refine own_iconst X hx (3 : Int32) (hb hby at_186) (pc' := 187) rfl rfl ?_
            refine own_icmp X hx (hb hby at_187) (by decide) (pcY := 200) (pcN := 190) rfl rfl (fun (hc187 : ¬ (md = (3 : Int32))) => ?_) (fun (hc187 : md = (3 : Int32)) => ?_)
            · exact J_200 p4
            · refine own_iload X hx (hb hby at_190) (pc' := 192) rfl rfl ?_
              refine own_iconst X hx (3 : Int32) (hb hby at_192) (pc' := 193) rfl rfl ?_
              refine own_icmpN X hx (hb hby at_193) (pc' := 196) rfl (show (3 : Int32) < (4 : Int32) from (by decide)) ?_
              refine own_iload X hx (hb hby at_196) (pc' := 198) rfl rfl ?_
              refine own_istore X hx (hb hby at_198) (pc' := 200) rfl (Ls' := #[.val (.int p0), .val (.int p1), .val (.int p2), .val (.int p3), .val (.int p4), .val (.int p5), .val (.int (4 : Int32)), .val (.int p0), .val (.int x1), .val (.int x2), .val (.int x3), .val (.ref b23), .val (.int md), .val (.int x3), .unset, .unset, .unset, .unset, .unset, .unset, .unset]) rfl ?_
              exact J_200 x3
          · refine own_iload X hx (hb hby at_171) (pc' := 173) rfl rfl ?_
            refine own_iconst X hx (2 : Int32) (hb hby at_173) (pc' := 174) rfl rfl ?_
            refine own_icmpN X hx (hb hby at_174) (pc' := 177) rfl (show (2 : Int32) < (4 : Int32) from (by decide)) ?_
            refine own_iload X hx (hb hby at_177) (pc' := 179) rfl rfl ?_
            refine own_istore X hx (hb hby at_179) (pc' := 181) rfl (Ls' := #[.val (.int p0), .val (.int p1), .val (.int p2), .val (.int p3), .val (.int p4), .val (.int p5), .val (.int (4 : Int32)), .val (.int p0), .val (.int x1), .val (.int x2), .val (.int x3), .val (.ref b23), .val (.int md), .val (.int x2), .unset, .unset, .unset, .unset, .unset, .unset, .unset]) rfl ?_
            refine own_goto X hx (hb hby at_181) (by decide) (pc' := 200) rfl ?_
            exact J_200 x2
        · refine own_iload X hx (hb hby at_152) (pc' := 154) rfl rfl ?_
          refine own_iconst X hx (1 : Int32) (hb hby at_154) (pc' := 155) rfl rfl ?_
          refine own_icmpN X hx (hb hby at_155) (pc' := 158) rfl (show (1 : Int32) < (4 : Int32) from (by decide)) ?_
          refine own_iload X hx (hb hby at_158) (pc' := 160) rfl rfl ?_
          refine own_istore X hx (hb hby at_160) (pc' := 162) rfl (Ls' := #[.val (.int p0), .val (.int p1), .val (.int p2), .val (.int p3), .val (.int p4), .val (.int p5), .val (.int (4 : Int32)), .val (.int p0), .val (.int x1), .val (.int x2), .val (.int x3), .val (.ref b23), .val (.int md), .val (.int x1), .unset, .unset, .unset, .unset, .unset, .unset, .unset]) rfl ?_
          refine own_goto X hx (hb hby at_162) (by decide) (pc' := 200) rfl ?_
          exact J_200 x1
      · refine own_iload X hx (hb hby at_134) (pc' := 136) rfl rfl ?_
        refine own_ifN X hx (hb hby at_136) (pc' := 139) rfl (show (0 : Int32) < (4 : Int32) from (by decide)) ?_
        refine own_iload X hx (hb hby at_139) (pc' := 141) rfl rfl ?_
        refine own_istore X hx (hb hby at_141) (pc' := 143) rfl (Ls' := #[.val (.int p0), .val (.int p1), .val (.int p2), .val (.int p3), .val (.int p4), .val (.int p5), .val (.int (4 : Int32)), .val (.int p0), .val (.int x1), .val (.int x2), .val (.int x3), .val (.ref b23), .val (.int md), .val (.int p0), .unset, .unset, .unset, .unset, .unset, .unset, .unset]) rfl ?_
        refine own_goto X hx (hb hby at_143) (by decide) (pc' := 200) rfl ?_
        exact J_200 p0
  have J_49 : ∀ (x2 x3 : Int32), own_W p e below (own_Post s (Q_law Z p0 p1 p2 p3 p4 p5 h0 n0) 40 128) T m 49 #[.val (.int p0), .val (.int p1), .val (.int p2), .val (.int p3), .val (.int p4), .val (.int p5), .val (.int nn), .val (.int p0), .val (.int p1), .val (.int x2), .val (.int x3), .unset, .unset, .unset, .unset, .unset, .unset, .unset, .unset, .unset, .unset] [] := by
    intro x2 x3
    refine own_iload X hx (hb hby at_49) (pc' := 51) rfl rfl ?_
    refine own_bipush X hx (8 : Int32) (hb hby at_51) (pc' := 53) rfl rfl ?_
    refine own_iushr X hx (hb hby at_53) (pc' := 54) rfl ?_
    refine own_iconst X hx (1 : Int32) (hb hby at_54) (pc' := 55) rfl rfl ?_
    refine own_iand X hx (hb hby at_55) (pc' := 56) rfl ?_
    refine own_if X hx (hb hby at_56) (by decide) (pcY := 63) (pcN := 59) rfl rfl (fun (hc56 : ((XT.ushr p5 (8 : Int32)) &&& (1 : Int32)) = (0 : Int32)) => ?_) (fun (hc56 : ¬ (((XT.ushr p5 (8 : Int32)) &&& (1 : Int32)) = (0 : Int32))) => ?_)
    · exact J_63 p1 x2 x3
    · refine own_iload X hx (hb hby at_59) (pc' := 61) rfl rfl ?_
      refine own_istore X hx (hb hby at_61) (pc' := 63) rfl (Ls' := #[.val (.int p0), .val (.int p1), .val (.int p2), .val (.int p3), .val (.int p4), .val (.int p5), .val (.int nn), .val (.int p0), .val (.int p0), .val (.int x2), .val (.int x3), .unset, .unset, .unset, .unset, .unset, .unset, .unset, .unset, .unset, .unset]) rfl ?_
      exact J_63 p0 x2 x3
  have J_35 : ∀ (x2 : Int32), own_W p e below (own_Post s (Q_law Z p0 p1 p2 p3 p4 p5 h0 n0) 40 128) T m 35 #[.val (.int p0), .val (.int p1), .val (.int p2), .val (.int p3), .val (.int p4), .val (.int p5), .val (.int nn), .val (.int p0), .val (.int p1), .val (.int x2), .val (.int p3), .unset, .unset, .unset, .unset, .unset, .unset, .unset, .unset, .unset, .unset] [] := by
    intro x2
    refine own_iload X hx (hb hby at_35) (pc' := 37) rfl rfl ?_
    refine own_bipush X hx (7 : Int32) (hb hby at_37) (pc' := 39) rfl rfl ?_
    refine own_iushr X hx (hb hby at_39) (pc' := 40) rfl ?_
    refine own_iconst X hx (1 : Int32) (hb hby at_40) (pc' := 41) rfl rfl ?_
    refine own_iand X hx (hb hby at_41) (pc' := 42) rfl ?_
    refine own_if X hx (hb hby at_42) (by decide) (pcY := 49) (pcN := 45) rfl rfl (fun (hc42 : ((XT.ushr p5 (7 : Int32)) &&& (1 : Int32)) = (0 : Int32)) => ?_) (fun (hc42 : ¬ (((XT.ushr p5 (7 : Int32)) &&& (1 : Int32)) = (0 : Int32))) => ?_)
    · exact J_49 x2 p3
    · refine own_iload X hx (hb hby at_45) (pc' := 47) rfl rfl ?_
      refine own_istore X hx (hb hby at_47) (pc' := 49) rfl (Ls' := #[.val (.int p0), .val (.int p1), .val (.int p2), .val (.int p3), .val (.int p4), .val (.int p5), .val (.int nn), .val (.int p0), .val (.int p1), .val (.int x2), .val (.int p1), .unset, .unset, .unset, .unset, .unset, .unset, .unset, .unset, .unset, .unset]) rfl ?_
      exact J_49 x2 p1
  refine own_iload X hx (hb hby at_21) (pc' := 23) rfl rfl ?_
  refine own_bipush X hx (6 : Int32) (hb hby at_23) (pc' := 25) rfl rfl ?_
  refine own_iushr X hx (hb hby at_25) (pc' := 26) rfl ?_
  refine own_iconst X hx (1 : Int32) (hb hby at_26) (pc' := 27) rfl rfl ?_
  refine own_iand X hx (hb hby at_27) (pc' := 28) rfl ?_
  refine own_if X hx (hb hby at_28) (by decide) (pcY := 35) (pcN := 31) rfl rfl (fun (hc28 : ((XT.ushr p5 (6 : Int32)) &&& (1 : Int32)) = (0 : Int32)) => ?_) (fun (hc28 : ¬ (((XT.ushr p5 (6 : Int32)) &&& (1 : Int32)) = (0 : Int32))) => ?_)
  · exact J_35 p2
  · refine own_iload X hx (hb hby at_31) (pc' := 33) rfl rfl ?_
    refine own_istore X hx (hb hby at_33) (pc' := 35) rfl (Ls' := #[.val (.int p0), .val (.int p1), .val (.int p2), .val (.int p3), .val (.int p4), .val (.int p5), .val (.int nn), .val (.int p0), .val (.int p1), .val (.int p0), .val (.int p3), .unset, .unset, .unset, .unset, .unset, .unset, .unset, .unset, .unset, .unset]) rfl ?_
    exact J_35 p0
set_option maxRecDepth 65536 in
set_option maxHeartbeats 40000000 in
theorem comes_1 {Post : Tables → Env → Array Value → State → Outcome → State → Prop} (hpost : ∀ tb e args s v u, (limb_1_1.after args s (.returned v) u = true ∧ limb_1_2.after args s (.returned v) u = true ∧ True) → FrameEnd s (.returned v) u (Jvm.fieldLocs frame_1_writes args s ++ Jvm.arrayLocs frame_1_arrays args s ++ Jvm.staticLocs frame_1_statics s) 40 128 → Post tb e args s (.returned v) u) :
    ArmFor flags0 classFile x code maxLocals ret World_1 tables_1 room_1 Calls_1 rest_1 Pre_1 Post := by
  intro l hfl _ _ p e ha hc hk s m args below hf hA hF happ hP
  obtain ⟨hcalls, hrest, hpre⟩ := hP
  obtain ⟨-, -, -, hnamed, -, -, -, hat⟩ := (Spec.applies_iff hf).mp happ
  obtain ⟨hg, hn⟩ := and_e (Cond.before_iff.mp (show (Jvm.Cond.and given_1 narrow_1).before args s = true from hpre))
  obtain ⟨gc, gr0⟩ := and_e hg
  obtain ⟨ga0, gr1⟩ := and_e gr0
  obtain ⟨ga1, gr2⟩ := and_e gr1
  obtain ⟨ga2, gr3⟩ := and_e gr2
  obtain ⟨ga3, gr4⟩ := and_e gr3
  obtain ⟨ga4, gr5⟩ := and_e gr4
  obtain ⟨w0, w1, w2, w3, w4, w5, rfl⟩ : ∃ w0 w1 w2 w3 w4 w5 : Value, args = #[w0, w1, w2, w3, w4, w5] := by
    have hs : args.size = 6 := by simpa [Cond.value, given_1] using gc
    obtain ⟨L⟩ := args
    match L, hs with
    | [w0, w1, w2, w3, w4, w5], _ => exact ⟨w0, w1, w2, w3, w4, w5, rfl⟩
  have hw := fun d (hd : d ∈ tables_1) => atoms_spec (ws := Jvm.Cond.code x code maxLocals ret :: tables_1) hat d (List.mem_cons_of_mem _ hd)
  obtain ⟨i0, ei0⟩ := is_v ga0
  obtain rfl : w0 = (.int i0) := Option.some.inj ei0
  obtain ⟨i1, ei1⟩ := is_v ga1
  obtain rfl : w1 = (.int i1) := Option.some.inj ei1
  obtain ⟨i2, ei2⟩ := is_v ga2
  obtain rfl : w2 = (.int i2) := Option.some.inj ei2
  obtain ⟨i3, ei3⟩ := is_v ga3
  obtain rfl : w3 = (.int i3) := Option.some.inj ei3
  obtain ⟨i4, ei4⟩ := is_v ga4
  obtain rfl : w4 = (.int i4) := Option.some.inj ei4
  obtain ⟨i5, ei5⟩ := is_v gr5
  obtain rfl : w5 = (.int i5) := Option.some.inj ei5
  obtain ⟨n, o, h1, h2, h3, _, L, rfl, ⟨rfl, N⟩, hq⟩ := rm_law l s _ hw tables_1 i0 i1 i2 i3 i4 i5 s.heap s.heap.size (Nat.le_refl _)  p e ha hc hk s m _ below hf ((Spec.applies_iff_loose hf).mp happ).1 ⟨rfl, State.Warmed39.refl s, rfl⟩ trivial
  refine ⟨n, _, h1, h2, h3, hpost _ _ _ _ _ _ ⟨Cond.after_iff.mpr rfl, Cond.after_iff.mpr (eq_i res_at (Term.int_eval (1)) rfl), trivial⟩ ⟨hq.1, hq.2.1, (hq.2.2.sift fun y hy => Or.inr (N y hy)).mono (by decide) (by decide)⟩⟩
theorem main_1_1 : Claimed_1_1 := comes_1 fun _ _ _ _ _ _ h hF => ⟨h.1, hF⟩
theorem main_1_2 : Claimed_1_2 := comes_1 fun _ _ _ _ _ _ h hF => ⟨h.2.1, hF⟩
end Jvm.Pilot.@@N@@
namespace Jvm.Pilot.@@N@@
open Jvm Jvm.ClassFile Sem Op Lib Jvm.Free Jvm.Stand Jvm.Pilot.@@N@@.Jvm.D
/-! MADE BY PROGRAM (witnessworld.py) out of the Statement's table words and the real class files: 15 classes; the members and pool entries that the words name. The judged class is class 1, her method 1. -/
namespace start1
open Jvm.ClassFile
def u (s : String) : CpInfo := .utf8 (stringToUtf16 s)
/-- a pool by its gaps: so many unusable entries, then the entry; so many at the end -/
def gap : Nat → List CpInfo → List CpInfo
  | 0, r => r
  | n + 1, r => .unusable :: gap n r
def poolList (es : List (Nat × CpInfo)) (last : Nat) : List CpInfo := es.foldr (fun e r => gap e.1 (e.2 :: r)) (gap last [])
def pool (es : List (Nat × CpInfo)) (last : Nat) : Array CpInfo := ⟨poolList es last⟩
def fileOf (pool : Array CpInfo) (this : Nat) (attrs : Array Attribute := #[]) (ms : Array MethodInfo := #[]) (fl : Nat := 33) (sup : Nat := 0) (ifs : Array Nat := #[]) (fds : Array FieldInfo := #[]) : ClassFile where
  minorVersion := 0
  majorVersion := 65
  constantPool := pool
  accessFlags := fl
  thisClass := this
  superClass := sup
  interfaces := ifs
  fields := fds
  methods := ms
  attributes := attrs
def plain (name : String) (sup : Option ClassId) : Class where
  name := name
  kind := .ordinary
  loader := none
  accessFlags := 33
  super := sup
  interfaces := #[]
  cf := none
  fields := #[]
  methods := #[]
  instanceTypes := #[]
  staticTypes := #[]
  resolved := #[]
  callSites := []
  init := .initialized
  statics := none
  mirror := none

def pool0 : Array CpInfo := pool [(5, u "<init>"), (0, u "()V"), (1, .class_ 10), (1, u "java/lang/Object"), (85, u "clone"), (0, u "()Ljava/lang/Object;")] 26

def k0c0 : Code := { maxStack := 0, maxLocals := 1, code := object_method_1_code, exceptionTable := #[], attributes := #[] }
def k0m0 : Method := { name := "<init>", desc := "()V", sig := { parameters := [], returnType := none }, accessFlags := 1, code := some k0c0 }
def k0m1 : Method := { name := "clone", desc := "()Ljava/lang/Object;", sig := { parameters := [], returnType := some (.object "java/lang/Object") }, accessFlags := 260, code := none }
/-- java/lang/Object -/
def k0 : Class := { plain "java/lang/Object" none with
  accessFlags := 33
  interfaces := #[]
  cf := some (fileOf pool0 8 #[] #[{ accessFlags := 1, nameIndex := 5, descriptorIndex := 6, attributes := #[] }, { accessFlags := 260, nameIndex := 96, descriptorIndex := 97, attributes := #[] }] 33 0 #[] #[])
  fields := #[]
  methods := #[k0m0, k0m1]
  instanceTypes := #[]
  staticTypes := #[]
  resolved := Array.replicate 124 none
  statics := none }

def pool1 : Array CpInfo := pool [(2, .class_ 4), (1, u "java/lang/Object"), (0, u "<init>"), (0, u "()V"), (0, .class_ 8), (0, u "com/example/latchwork/latchwork/storage/ColumnBatch"), (0, .methodref 7 10), (0, .nameAndType 5 11), (0, u "([II)V"), (0, .methodref 7 13), (0, .nameAndType 14 15), (0, u "indexOf"), (0, u "(I)I"), (0, .class_ 17), (0, u "com/example/latchwork/latchwork/storage/ColumnBatchIndexOfPinLaw"), (2, u "law"), (0, u "(IIIIII)Z")] 5

def k1m0 : Method := { name := "<init>", desc := "()V", sig := { parameters := [], returnType := none }, accessFlags := 1, code := none }
def k1c1 : Code := { maxStack := 4, maxLocals := 21, code := code, exceptionTable := #[], attributes := #[] }
def k1m1 : Method := { name := "law", desc := "(IIIIII)Z", sig := { parameters := [.int, .int, .int, .int, .int, .int], returnType := some .boolean }, accessFlags := 9, code := some k1c1 }
/-- com/example/latchwork/latchwork/storage/ColumnBatchIndexOfPinLaw -/
def k1 : Class := { plain "com/example/latchwork/latchwork/storage/ColumnBatchIndexOfPinLaw" (some 0) with
  accessFlags := 49
  interfaces := #[]
  cf := some (fileOf pool1 16 #[] #[{ accessFlags := 1, nameIndex := 5, descriptorIndex := 6, attributes := #[] }, { accessFlags := 9, nameIndex := 20, descriptorIndex := 21, attributes := #[] }] 49 2 #[] #[])
  fields := #[]
  methods := #[k1m0, k1m1]
  instanceTypes := #[]
  staticTypes := #[]
  resolved := Array.replicate 27 none
  statics := none }

def pool2 : Array CpInfo := pool [(1, .methodref 2 3), (0, .class_ 4), (0, .nameAndType 5 6), (0, u "java/lang/Object"), (0, u "<init>"), (0, u "()V"), (9, .methodref 17 18), (0, .class_ 19), (0, .nameAndType 20 21), (0, u "[I"), (0, u "clone"), (0, u "()Ljava/lang/Object;"), (0, .fieldref 23 24), (0, .class_ 25), (0, .nameAndType 26 19), (0, u "com/example/latchwork/latchwork/storage/ColumnBatch"), (0, u "columns"), (0, .fieldref 23 28), (0, .nameAndType 29 30), (0, u "stamps"), (0, u "[J"), (0, .class_ 32), (0, u "[[J"), (0, .fieldref 23 34), (0, .nameAndType 35 32), (0, u "values"), (0, .class_ 37), (0, u "[[Z"), (0, .fieldref 23 39), (0, .nameAndType 40 37), (0, u "nulls"), (20, u "([II)V"), (6, u "(I)I"), (1, u "indexOf")] 32

def k2c0 : Code := { maxStack := 3, maxLocals := 3, code := prog_105_method_1_code, exceptionTable := #[], attributes := #[] }
def k2m0 : Method := { name := "<init>", desc := "([II)V", sig := { parameters := [(.array .int), .int], returnType := none }, accessFlags := 1, code := some k2c0 }
def k2c1 : Code := { maxStack := 2, maxLocals := 3, code := prog_105_method_5_code, exceptionTable := #[], attributes := #[] }
def k2m1 : Method := { name := "indexOf", desc := "(I)I", sig := { parameters := [.int], returnType := some .int }, accessFlags := 1, code := some k2c1 }
/-- com/example/latchwork/latchwork/storage/ColumnBatch -/
def k2 : Class := { plain "com/example/latchwork/latchwork/storage/ColumnBatch" (some 0) with
  accessFlags := 49
  interfaces := #[]
  cf := some (fileOf pool2 23 #[] #[{ accessFlags := 1, nameIndex := 5, descriptorIndex := 61, attributes := #[] }, { accessFlags := 1, nameIndex := 70, descriptorIndex := 68, attributes := #[] }] 49 2 #[] #[{ accessFlags := 18, nameIndex := 26, descriptorIndex := 19, attributes := #[] }, { accessFlags := 16, nameIndex := 29, descriptorIndex := 30, attributes := #[] }, { accessFlags := 16, nameIndex := 35, descriptorIndex := 32, attributes := #[] }, { accessFlags := 16, nameIndex := 40, descriptorIndex := 37, attributes := #[] }])
  fields := #[{ name := "columns", type := (.array .int), accessFlags := 18, slot := 0, constantValue := 0 }, { name := "stamps", type := (.array .long), accessFlags := 16, slot := 1, constantValue := 0 }, { name := "values", type := (.array (.array .long)), accessFlags := 16, slot := 2, constantValue := 0 }, { name := "nulls", type := (.array (.array .boolean)), accessFlags := 16, slot := 3, constantValue := 0 }]
  methods := #[k2m0, k2m1]
  instanceTypes := #[(.array .int), (.array .long), (.array (.array .long)), (.array (.array .boolean))]
  staticTypes := #[]
  resolved := Array.replicate 103 none
  statics := none }

def pool3 : Array CpInfo := pool [(1, .class_ 2), (0, u "java/lang/Cloneable"), (0, .class_ 4), (0, u "java/lang/Object")] 2

/-- java/lang/Cloneable -/
def k3 : Class := { plain "java/lang/Cloneable" (some 0) with
  accessFlags := 1537
  interfaces := #[]
  cf := some (fileOf pool3 1 #[] #[] 1537 3 #[] #[])
  fields := #[]
  methods := #[]
  instanceTypes := #[]
  staticTypes := #[]
  resolved := Array.replicate 7 none
  statics := none }

def pool4 : Array CpInfo := pool [(1, u "java/io/Serializable"), (0, .class_ 1), (0, u "java/lang/Object"), (0, .class_ 3)] 3

/-- java/io/Serializable -/
def k4 : Class := { plain "java/io/Serializable" (some 0) with
  accessFlags := 1537
  interfaces := #[]
  cf := some (fileOf pool4 2 #[] #[] 1537 4 #[] #[])
  fields := #[]
  methods := #[]
  instanceTypes := #[]
  staticTypes := #[]
  resolved := Array.replicate 8 none
  statics := none }

/-- the primitive boolean -/
def k5 : Class := { plain "boolean" none with kind := .primitive 'Z', accessFlags := 0x411 }
/-- [Z -/
def k6 : Class := { plain "[Z" (some 0) with kind := .array 5 .boolean, interfaces := #[3, 4], accessFlags := 1041 }

/-- the primitive byte -/
def k7 : Class := { plain "byte" none with kind := .primitive 'B', accessFlags := 0x411 }
/-- [B -/
def k8 : Class := { plain "[B" (some 0) with kind := .array 7 .byte, interfaces := #[3, 4], accessFlags := 1041 }

/-- the primitive int -/
def k9 : Class := { plain "int" none with kind := .primitive 'I', accessFlags := 0x411 }
/-- [I -/
def k10 : Class := { plain "[I" (some 0) with kind := .array 9 .int, interfaces := #[3, 4], accessFlags := 1041 }

/-- the primitive long -/
def k11 : Class := { plain "long" none with kind := .primitive 'J', accessFlags := 0x411 }
/-- [J -/
def k12 : Class := { plain "[J" (some 0) with kind := .array 11 .long, interfaces := #[3, 4], accessFlags := 1041 }

/-- [[J -/
def k13 : Class := { plain "[[J" (some 0) with kind := .array 12 (.array .long), interfaces := #[3, 4], accessFlags := 1041 }

/-- [[Z -/
def k14 : Class := { plain "[[Z" (some 0) with kind := .array 6 (.array .boolean), interfaces := #[3, 4], accessFlags := 1041 }

def heap : Heap := #[]
def classes : Array Class := #[k0, k1, k2, k3, k4, k5, k6, k7, k8, k9, k10, k11, k12, k13, k14]
def interned : List (Array UInt16 × Addr) := []
def slotsUsed : Nat := 0
def theMethod : MethodId := ⟨1, 1⟩
def args0 : Array Value := #[.int 1, .int 1, .int 1, .int 1, .int 1, .int 1]
def aboutOver (below : List Frame) : State where
  vm := { classes := classes, interned := interned.toArray }
  heap := heap
  slotsUsed := slotsUsed
  threads := #[{ frames := .invoking theMethod args0 :: below }]
def below0 : List Frame := [.native { method := ⟨0, 0⟩, args := #[] }]
def about1 : State := aboutOver below0
def p0 : Program := .bare "" "" ""
def e0 : Env := launch0.env 0 0 0
theorem w_frames : about1.frames = Frame.invoking theMethod args0 :: below0 := rfl
set_option maxRecDepth 65536 in
theorem w_args : argsFit about1.vm theMethod args0 = true := by decide +kernel
set_option maxRecDepth 65536 in
theorem w_heap : heapFits about1 = true := by decide +kernel
set_option maxRecDepth 65536 in
theorem w_runnable : about1.curStatus? = some .runnable := by decide +kernel
set_option maxRecDepth 65536 in
theorem w_alone : about1.alone = true := by decide +kernel
set_option maxRecDepth 65536 in
theorem w_named : about1.methodNamed? x = some theMethod := by decide +kernel
set_option maxRecDepth 65536 in
theorem w_hears : about1.hears theMethod below0 = true := by decide +kernel
set_option maxRecDepth 65536 in
theorem w_ripe : about1.ripe theMethod args0 below0 = true := by decide +kernel
theorem w_running : about1.status = .running := rfl
set_option maxRecDepth 65536 in
theorem w_room : about1.hasRoom e0.platform room_1 = true :=
  launch0.hasRoom_least _ room_1 (by decide +kernel) (by decide +kernel) (by decide +kernel) (by decide +kernel) (by decide +kernel) (by decide +kernel)
theorem allAtoms_all (ts : List Jvm.Cond) (a : Array Jvm.Value) (st : Jvm.State) : (allAtoms ts).before a st = ts.all (fun c => c.before a st) := by
  induction ts with
  | nil => rfl
  | cons c t ih =>
    show (Jvm.Cond.and c (allAtoms t)).before a st = _
    rw [Jvm.Cond.before_and, ih, List.all_cons]
def words1 : List Jvm.Cond := Jvm.Cond.code x code maxLocals ret :: tables_1
/-- a 'code' word, met by the world's own term for the bytes: nothing is compared byte by byte -/
theorem code_word {y : MethodName} {bytes : ByteArray} {mx : Nat} {rt : Option FieldType} {a : Array Value} {s : State} {m : MethodId} {meth : Method} {c : Code} (h1 : s.methodNamed? y = some m) (h2 : s.vm.method? m = some meth) (h3 : meth.code = some c) (h4 : c.code = bytes)
    (h5 : (c.maxLocals == mx && c.exceptionTable.isEmpty && decide (c.maxStack ≤ mostOperands) && decide (meth.sig.returnType = rt) && !meth.locks && decide (parseMethodDescriptor y.desc = some meth.sig)) = true) : (Jvm.Cond.code y bytes mx rt).before a s = true := by
  simp only [Bool.and_eq_true, beq_iff_eq, Bool.not_eq_true', decide_eq_true_eq] at h5
  obtain ⟨⟨⟨⟨⟨g1, g2⟩, g3⟩, g4⟩, g5⟩, g6⟩ := h5
  simp [Cond.before, Cond.holds, Cond.value, h1, h2, h3, h4, g1, g2, g3, g4, g5, g6]
def isCode : Jvm.Cond → Bool
  | .code _ _ _ _ => true
  | _ => false
theorem all_split {L : List Jvm.Cond} {P : Jvm.Cond → Bool} (h1 : L.all (fun c => isCode c || P c) = true) (h2 : ∀ c ∈ L.filter isCode, P c = true) : L.all P = true := by
  refine List.all_eq_true.mpr fun c hc => ?_
  have h := List.all_eq_true.mp h1 c hc
  rcases Bool.eq_false_or_eq_true (isCode c) with hi | hi
  · exact h2 c (List.mem_filter.mpr ⟨hc, hi⟩)
  · simpa [hi] using h
set_option maxRecDepth 65536 in
theorem w_c0 : (Jvm.Cond.code x code maxLocals ret).before args0 about1 = true := code_word (m := ⟨1, 1⟩) (meth := k1m1) (c := k1c1) (by decide +kernel) rfl rfl rfl (by decide +kernel)
set_option maxRecDepth 65536 in
theorem w_c1 : (Jvm.Cond.code ({ cls := "com/example/latchwork/latchwork/storage/ColumnBatch", name := "<init>", desc := "([II)V" } : Jvm.MethodName) prog_105_method_1_code (3 : Nat) (Option.none : Option Jvm.ClassFile.FieldType)).before args0 about1 = true := code_word (m := ⟨2, 0⟩) (meth := k2m0) (c := k2c0) (by decide +kernel) rfl rfl rfl (by decide +kernel)
set_option maxRecDepth 65536 in
theorem w_c2 : (Jvm.Cond.code ({ cls := "java/lang/Object", name := "<init>", desc := "()V" } : Jvm.MethodName) object_method_1_code (1 : Nat) (Option.none : Option Jvm.ClassFile.FieldType)).before args0 about1 = true := code_word (m := ⟨0, 0⟩) (meth := k0m0) (c := k0c0) (by decide +kernel) rfl rfl rfl (by decide +kernel)
set_option maxRecDepth 65536 in
theorem w_c3 : (Jvm.Cond.code ({ cls := "com/example/latchwork/latchwork/storage/ColumnBatch", name := "indexOf", desc := "(I)I" } : Jvm.MethodName) prog_105_method_5_code (3 : Nat) (Option.some Jvm.ClassFile.FieldType.int)).before args0 about1 = true := code_word (m := ⟨2, 1⟩) (meth := k2m1) (c := k2c1) (by decide +kernel) rfl rfl rfl (by decide +kernel)
def codes1 : List Jvm.Cond := [Jvm.Cond.code x code maxLocals ret, Jvm.Cond.code ({ cls := "com/example/latchwork/latchwork/storage/ColumnBatch", name := "<init>", desc := "([II)V" } : Jvm.MethodName) prog_105_method_1_code (3 : Nat) (Option.none : Option Jvm.ClassFile.FieldType), Jvm.Cond.code ({ cls := "java/lang/Object", name := "<init>", desc := "()V" } : Jvm.MethodName) object_method_1_code (1 : Nat) (Option.none : Option Jvm.ClassFile.FieldType), Jvm.Cond.code ({ cls := "com/example/latchwork/latchwork/storage/ColumnBatch", name := "indexOf", desc := "(I)I" } : Jvm.MethodName) prog_105_method_5_code (3 : Nat) (Option.some Jvm.ClassFile.FieldType.int)]
set_option maxRecDepth 65536 in
theorem codes_eq : words1.filter isCode = codes1 := rfl
theorem w_codes : ∀ c ∈ words1.filter isCode, c.before args0 about1 = true := by
  rw [codes_eq]
  intro c hc
  simp only [codes1, List.mem_cons, List.not_mem_nil, or_false] at hc
  rcases hc with rfl | rfl | rfl | rfl
  · exact w_c0
  · exact w_c1
  · exact w_c2
  · exact w_c3
set_option maxRecDepth 65536 in
theorem w_t1 : (words1.take 24).all (fun c => isCode c || c.before args0 about1) = true := by decide +kernel
set_option maxRecDepth 65536 in
theorem w_t2 : (words1.drop 24).all (fun c => isCode c || c.before args0 about1) = true := by decide +kernel
theorem w_tables : (allAtoms (Jvm.Cond.code x code maxLocals ret :: tables_1)).before args0 about1 = true := by
  rw [allAtoms_all]
  show words1.all (fun c => c.before args0 about1) = true
  refine all_split ?_ w_codes
  rw [← List.take_append_drop 24 words1, List.all_append, w_t1, w_t2]
  rfl
set_option maxRecDepth 65536 in
theorem w_case : (Jvm.Cond.and given_1 narrow_1).before args0 about1 = true := by decide +kernel
theorem w_applies : (headSpec (Jvm.Cond.code x code maxLocals ret :: tables_1) room_1).applies x e0.platform about1 = true :=
  (Spec.applies_iff w_frames).mpr ⟨w_running, w_runnable, w_alone, w_named, w_hears, w_ripe, w_room, w_tables⟩
theorem atStart : AtStart classFile x code maxLocals ret World_1 tables_1 room_1 Calls_1 rest_1 Pre_1 launch0 p0 e0 about1 theMethod args0 below0 :=
  ⟨lists_1, trivial, launch0.admits_env _ _ _, launch0.least_env, fairChoices_fair.cas, fairChoices_fair.clock, w_frames, w_args, w_heap, w_applies, trivial, trivial, w_case⟩
end start1
theorem witness_1 : WitnessClaimed_1 := ⟨start1.p0, start1.e0, start1.about1, start1.theMethod, start1.args0, start1.below0, start1.atStart⟩
end Jvm.Pilot.@@N@@
