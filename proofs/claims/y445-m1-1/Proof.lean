import JvmDerived
import JvmDerived.Pilot.@@N@@Statement
import JvmDerived.Pilot.@@N@@Code
set_option linter.unusedVariables false
set_option linter.unusedSimpArgs false
namespace Jvm.Pilot.@@N@@
open Jvm Jvm.ClassFile Sem Op Lib Jvm.Free Jvm.Stand Jvm.LawKit Jvm.RoadKit Bundle Jvm.Pilot.@@N@@.Jvm.D
def own_A (p : Program) (l : Launch) (e : Env) (R : Room) (s : State) (m : MethodId) (args : Array Value) (below : List Frame) (meth : Method) (c : Code) (Z : State) (own name : String) (bytes : ByteArray) (maxL : Nat) (ret : Option FieldType) : Prop :=
  p.tables.exec = Jvm.exec ∧ c.code = bytes ∧ c.maxLocals = maxL ∧ s.vm.findClass own = some m.cls ∧ meth.name = name ∧ meth.sig.returnType = ret ∧ meth.locks = false ∧ Z.Warmed39 s.vm
def own_S (p : Program) (l : Launch) (e : Env) (R : Room) (s : State) (m : MethodId) (args : Array Value) (below : List Frame) (meth : Method) (c : Code) (n0 : Nat) (T : State) (h : Heap) (k n : Nat) : Prop :=
  ∃ locs, Stand p l e R s m args below meth c T locs k n ∧ T.heap = h ∧ Fr n0 locs
def own_G (p : Program) (e : Env) (below : List Frame) (s : State) (n0 kc ks : Nat) (Q : Option Value → Heap → Prop) (T : State) (g : JFrame) : Prop :=
  ∃ s₂ o, Steps p.tables e below (T.setTop g) s₂ ∧ s₂.status = .running ∧ Ended s₂ below o ∧ ∃ v L, o = .returned v ∧ (Q v s₂.heap ∧ Fr n0 L) ∧ FrameEnd s o s₂ L kc ks
def own_C (l : Launch) (Z : State) (y : MethodName) (bytes : ByteArray) (maxL : Nat) (ret : Option FieldType) (rm : Room) (n0 : Nat) (ws : List Jvm.Cond) (as' : Array Value) (h0 : Heap) (Q : Option Value → Heap → Prop) : Prop :=
  MetFree l y (head1 (Jvm.Cond.code y bytes maxL ret :: ws) rm) (fun a U => a = as' ∧ Z.Warmed39 U.vm ∧ U.heap = h0) (fun _ _ _ _ _ => True) (fun _ U o U' => ∃ v L, o = .returned v ∧ (Q v U'.heap ∧ Fr n0 L) ∧ FrameEnd U o U' L rm.cells rm.slots)
section OwnLayer
variable {p : Program} {l : Launch} {e : Env} {R : Room} {s : State} {m : MethodId} {args : Array Value} {below : List Frame} {meth : Method} {c : Code} {Z : State} {own name : String} {bytes : ByteArray} {maxL : Nat} {ret : Option FieldType} {T T' : State} {h : Heap} {k n n0 kc ks pc : Nat} {Ls Ls' : Array Slot} {st : List Value} {Q : Option Value → Heap → Prop} {g g' : JFrame} {a0 : Array Value}
theorem own_st (q : ∀ t, Steps p.tables e below (T'.setTop g') t → Steps p.tables e below (T.setTop g) t) (K : own_G p e below s n0 kc ks Q T' g') : own_G p e below s n0 kc ks Q T g := by
  obtain ⟨s2, o, a, b⟩ := K; exact ⟨s2, o, q _ a, b⟩
theorem own_C.of {y : MethodName} {rm : Room} {ws : List Jvm.Cond} {as' : Array Value} {h0 : Heap} (pn : plainFor y = true) (hn : n0 ≤ h0.size)
    (body : ∀ (p : Program) (e : Env) (s : State) (m : MethodId) (below : List Frame) (meth : Method) (c : Code) (T : State), own_A p l e rm s m as' below meth c Z y.cls y.name bytes maxL ret → own_S p l e rm s m as' below meth c n0 T h0 0 0 → own_G p e below s n0 rm.cells rm.slots Q T (entryFrame m as' maxL)) :
    own_C l Z y bytes maxL ret rm n0 ws as' h0 Q := by
  refine MetFree.of_bodySF pn hisR ?_
  intro p e s m args below meth c s₁ Bd hml0 hP hK
  obtain ⟨rfl, hZ, hh⟩ := hP
  have e0 : s₁.heap = h0 := by rw [← hh, Bd.state]; rfl
  exact body p e s m below meth c s₁ ⟨Bd.exec, Bd.bytes, hml0, findClass_of_methodNamed Bd.named, (name_of_methodNamed Bd.named Bd.method).1, Bd.returns, Bd.notSynchronized, hZ⟩ ⟨[], Stand.of_body Bd, e0, Fr.nil n0⟩
def own_ushr (x y : Int32) : Int32 := (x.toUInt32 >>> (y &&& 31).toUInt32).toInt32
def own_ushrL (x : Int64) (y : Int32) : Int64 := (x.toUInt64 >>> (y &&& 0x3f).toInt64.toUInt64).toInt64
theorem own_toInt {x y : Int32} (hh : ¬ x = y) : x.toInt ≠ y.toInt := fun q => hh (Int32.toInt_inj.mp q)
theorem own_toIntL {x y : Int64} (hh : ¬ x = y) : x.toInt ≠ y.toInt := fun q => hh (Int64.toInt_inj.mp q)
theorem s_iloadN (pc' : Nat) {i : Fin 4} {v : Int32} (A : own_A p l e R s m args below meth c Z own name bytes maxL ret) (S : own_S p l e R s m args below meth c n0 T h k n) (hd : decode bytes pc = .ok (.iload_n i, 1)) (hl : Ls[i.val]? = some (.val (.int v))) (hp : pc + 1 = pc') (K : own_G p e below s n0 kc ks Q T (mkF m pc' Ls (.int v :: st))) : own_G p e below s n0 kc ks Q T (mkF m pc Ls st) := by
  obtain ⟨_, X, -, -⟩ := S
  subst hp
  exact own_st (T' := T) (g' := mkF m _ Ls (.int v :: st)) (fun t ht => XS.iloadN X.here A.1 rfl (hb A.2.1 hd) hl ht) K
theorem s_iload (pc' : Nat) {i : Nat} {v : Int32} (A : own_A p l e R s m args below meth c Z own name bytes maxL ret) (S : own_S p l e R s m args below meth c n0 T h k n) (hd : decode bytes pc = .ok (.iload i, 2)) (hl : Ls[i]? = some (.val (.int v))) (hp : pc + 2 = pc') (K : own_G p e below s n0 kc ks Q T (mkF m pc' Ls (.int v :: st))) : own_G p e below s n0 kc ks Q T (mkF m pc Ls st) := by
  obtain ⟨_, X, -, -⟩ := S
  subst hp
  exact own_st (T' := T) (g' := mkF m _ Ls (.int v :: st)) (fun t ht => XS.iload X.here A.1 rfl (hb A.2.1 hd) hl ht) K
theorem s_istoreN (pc' : Nat) {i : Fin 4} {v : Int32} (A : own_A p l e R s m args below meth c Z own name bytes maxL ret) (S : own_S p l e R s m args below meth c n0 T h k n) (hd : decode bytes pc = .ok (.istore_n i, 1)) (hl : storeLocals Ls i.val (.int v) = some Ls') (hp : pc + 1 = pc') (K : own_G p e below s n0 kc ks Q T (mkF m pc' Ls' st)) : own_G p e below s n0 kc ks Q T (mkF m pc Ls (.int v :: st)) := by
  obtain ⟨_, X, -, -⟩ := S
  subst hp
  exact own_st (T' := T) (g' := mkF m _ Ls' st) (fun t ht => XS.istoreN X.here A.1 rfl (hb A.2.1 hd) rfl hl ht) K
theorem s_istore (pc' : Nat) {i : Nat} {v : Int32} (A : own_A p l e R s m args below meth c Z own name bytes maxL ret) (S : own_S p l e R s m args below meth c n0 T h k n) (hd : decode bytes pc = .ok (.istore i, 2)) (hl : storeLocals Ls i (.int v) = some Ls') (hp : pc + 2 = pc') (K : own_G p e below s n0 kc ks Q T (mkF m pc' Ls' st)) : own_G p e below s n0 kc ks Q T (mkF m pc Ls (.int v :: st)) := by
  obtain ⟨_, X, -, -⟩ := S
  subst hp
  exact own_st (T' := T) (g' := mkF m _ Ls' st) (fun t ht => XS.istore X.here A.1 rfl (hb A.2.1 hd) rfl hl ht) K
theorem s_lloadN (pc' : Nat) {i : Fin 4} {v : Int64} (A : own_A p l e R s m args below meth c Z own name bytes maxL ret) (S : own_S p l e R s m args below meth c n0 T h k n) (hd : decode bytes pc = .ok (.lload_n i, 1)) (hl : Ls[i.val]? = some (.val (.long v))) (hp : pc + 1 = pc') (K : own_G p e below s n0 kc ks Q T (mkF m pc' Ls (.long v :: st))) : own_G p e below s n0 kc ks Q T (mkF m pc Ls st) := by
  obtain ⟨_, X, -, -⟩ := S
  subst hp
  exact own_st (T' := T) (g' := mkF m _ Ls (.long v :: st)) (fun t ht => XS.lloadN X.here A.1 rfl (hb A.2.1 hd) hl ht) K
theorem s_lload (pc' : Nat) {i : Nat} {v : Int64} (A : own_A p l e R s m args below meth c Z own name bytes maxL ret) (S : own_S p l e R s m args below meth c n0 T h k n) (hd : decode bytes pc = .ok (.lload i, 2)) (hl : Ls[i]? = some (.val (.long v))) (hp : pc + 2 = pc') (K : own_G p e below s n0 kc ks Q T (mkF m pc' Ls (.long v :: st))) : own_G p e below s n0 kc ks Q T (mkF m pc Ls st) := by
  obtain ⟨_, X, -, -⟩ := S
  subst hp
  exact own_st (T' := T) (g' := mkF m _ Ls (.long v :: st)) (fun t ht => XS.lload X.here A.1 rfl (hb A.2.1 hd) hl ht) K
theorem s_lstoreN (pc' : Nat) {i : Fin 4} {v : Int64} (A : own_A p l e R s m args below meth c Z own name bytes maxL ret) (S : own_S p l e R s m args below meth c n0 T h k n) (hd : decode bytes pc = .ok (.lstore_n i, 1)) (hl : storeLocals Ls i.val (.long v) = some Ls') (hp : pc + 1 = pc') (K : own_G p e below s n0 kc ks Q T (mkF m pc' Ls' st)) : own_G p e below s n0 kc ks Q T (mkF m pc Ls (.long v :: st)) := by
  obtain ⟨_, X, -, -⟩ := S
  subst hp
  exact own_st (T' := T) (g' := mkF m _ Ls' st) (fun t ht => XS.lstoreN X.here A.1 rfl (hb A.2.1 hd) rfl hl ht) K
theorem s_lstore (pc' : Nat) {i : Nat} {v : Int64} (A : own_A p l e R s m args below meth c Z own name bytes maxL ret) (S : own_S p l e R s m args below meth c n0 T h k n) (hd : decode bytes pc = .ok (.lstore i, 2)) (hl : storeLocals Ls i (.long v) = some Ls') (hp : pc + 2 = pc') (K : own_G p e below s n0 kc ks Q T (mkF m pc' Ls' st)) : own_G p e below s n0 kc ks Q T (mkF m pc Ls (.long v :: st)) := by
  obtain ⟨_, X, -, -⟩ := S
  subst hp
  exact own_st (T' := T) (g' := mkF m _ Ls' st) (fun t ht => XS.lstore X.here A.1 rfl (hb A.2.1 hd) rfl hl ht) K
theorem s_aloadN (pc' : Nat) {i : Fin 4} {v : Value} (A : own_A p l e R s m args below meth c Z own name bytes maxL ret) (S : own_S p l e R s m args below meth c n0 T h k n) (hd : decode bytes pc = .ok (.aload_n i, 1)) (hl : Ls[i.val]? = some (.val v)) (hv : v.isRef = true) (hp : pc + 1 = pc') (K : own_G p e below s n0 kc ks Q T (mkF m pc' Ls (v :: st))) : own_G p e below s n0 kc ks Q T (mkF m pc Ls st) := by
  obtain ⟨_, X, -, -⟩ := S
  subst hp
  exact own_st (T' := T) (g' := mkF m _ Ls (v :: st)) (fun t ht => XS.aloadN X.here A.1 rfl (hb A.2.1 hd) hl hv ht) K
theorem s_aload (pc' : Nat) {i : Nat} {v : Value} (A : own_A p l e R s m args below meth c Z own name bytes maxL ret) (S : own_S p l e R s m args below meth c n0 T h k n) (hd : decode bytes pc = .ok (.aload i, 2)) (hl : Ls[i]? = some (.val v)) (hv : v.isRef = true) (hp : pc + 2 = pc') (K : own_G p e below s n0 kc ks Q T (mkF m pc' Ls (v :: st))) : own_G p e below s n0 kc ks Q T (mkF m pc Ls st) := by
  obtain ⟨_, X, -, -⟩ := S
  subst hp
  exact own_st (T' := T) (g' := mkF m _ Ls (v :: st)) (fun t ht => XS.aload X.here A.1 rfl (hb A.2.1 hd) hl hv ht) K
theorem s_astoreN (pc' : Nat) {i : Fin 4} {v : Value} (A : own_A p l e R s m args below meth c Z own name bytes maxL ret) (S : own_S p l e R s m args below meth c n0 T h k n) (hd : decode bytes pc = .ok (.astore_n i, 1)) (hv : v.isRef = true) (hl : storeLocals Ls i.val v = some Ls') (hp : pc + 1 = pc') (K : own_G p e below s n0 kc ks Q T (mkF m pc' Ls' st)) : own_G p e below s n0 kc ks Q T (mkF m pc Ls (v :: st)) := by
  obtain ⟨_, X, -, -⟩ := S
  subst hp
  exact own_st (T' := T) (g' := mkF m _ Ls' st) (fun t ht => XS.astoreN X.here A.1 rfl (hb A.2.1 hd) rfl hv hl ht) K
theorem s_astore (pc' : Nat) {i : Nat} {v : Value} (A : own_A p l e R s m args below meth c Z own name bytes maxL ret) (S : own_S p l e R s m args below meth c n0 T h k n) (hd : decode bytes pc = .ok (.astore i, 2)) (hv : v.isRef = true) (hl : storeLocals Ls i v = some Ls') (hp : pc + 2 = pc') (K : own_G p e below s n0 kc ks Q T (mkF m pc' Ls' st)) : own_G p e below s n0 kc ks Q T (mkF m pc Ls (v :: st)) := by
  obtain ⟨_, X, -, -⟩ := S
  subst hp
  exact own_st (T' := T) (g' := mkF m _ Ls' st) (fun t ht => XS.astore X.here A.1 rfl (hb A.2.1 hd) rfl hv hl ht) K
theorem s_iconst (pc' : Nat) {i : Int} {z : Int32} (A : own_A p l e R s m args below meth c Z own name bytes maxL ret) (S : own_S p l e R s m args below meth c n0 T h k n) (hd : decode bytes pc = .ok (.iconst i, 1)) (hz : Int32.ofInt i = z) (hp : pc + 1 = pc') (K : own_G p e below s n0 kc ks Q T (mkF m pc' Ls (.int z :: st))) : own_G p e below s n0 kc ks Q T (mkF m pc Ls st) := by
  obtain ⟨_, X, -, -⟩ := S
  subst hp hz
  exact own_st (T' := T) (g' := mkF m _ Ls (.int _ :: st)) (fun t ht => XS.iconst X.here A.1 rfl (hb A.2.1 hd) ht) K
theorem s_bipush (pc' : Nat) {i : Int} {z : Int32} (A : own_A p l e R s m args below meth c Z own name bytes maxL ret) (S : own_S p l e R s m args below meth c n0 T h k n) (hd : decode bytes pc = .ok (.bipush i, 2)) (hz : (Int8.ofInt i).toInt32 = z) (hp : pc + 2 = pc') (K : own_G p e below s n0 kc ks Q T (mkF m pc' Ls (.int z :: st))) : own_G p e below s n0 kc ks Q T (mkF m pc Ls st) := by
  obtain ⟨_, X, -, -⟩ := S
  subst hp hz
  exact own_st (T' := T) (g' := mkF m _ Ls (.int _ :: st)) (fun t ht => XS.bipush X.here A.1 rfl (hb A.2.1 hd) ht) K
theorem s_sipush (pc' : Nat) {i : Int} {z : Int32} (A : own_A p l e R s m args below meth c Z own name bytes maxL ret) (S : own_S p l e R s m args below meth c n0 T h k n) (hd : decode bytes pc = .ok (.sipush i, 3)) (hz : (Int16.ofInt i).toInt32 = z) (hp : pc + 3 = pc') (K : own_G p e below s n0 kc ks Q T (mkF m pc' Ls (.int z :: st))) : own_G p e below s n0 kc ks Q T (mkF m pc Ls st) := by
  obtain ⟨_, X, -, -⟩ := S
  subst hp hz
  exact own_st (T' := T) (g' := mkF m _ Ls (.int _ :: st)) (fun t ht => XS.sipush X.here A.1 rfl (hb A.2.1 hd) ht) K
theorem s_lconst (pc' : Nat) {i : Fin 2} {z : Int64} (A : own_A p l e R s m args below meth c Z own name bytes maxL ret) (S : own_S p l e R s m args below meth c n0 T h k n) (hd : decode bytes pc = .ok (.lconst i, 1)) (hz : Int64.ofNat i = z) (hp : pc + 1 = pc') (K : own_G p e below s n0 kc ks Q T (mkF m pc' Ls (.long z :: st))) : own_G p e below s n0 kc ks Q T (mkF m pc Ls st) := by
  obtain ⟨_, X, -, -⟩ := S
  subst hp hz
  exact own_st (T' := T) (g' := mkF m _ Ls (.long _ :: st)) (fun t ht => XS.lconst X.here A.1 rfl (hb A.2.1 hd) ht) K
theorem s_aconstNull (pc' : Nat)  (A : own_A p l e R s m args below meth c Z own name bytes maxL ret) (S : own_S p l e R s m args below meth c n0 T h k n) (hd : decode bytes pc = .ok (.aconst_null, 1)) (hp : pc + 1 = pc') (K : own_G p e below s n0 kc ks Q T (mkF m pc' Ls (.null :: st))) : own_G p e below s n0 kc ks Q T (mkF m pc Ls st) := by
  obtain ⟨_, X, -, -⟩ := S
  subst hp
  exact own_st (T' := T) (g' := mkF m _ Ls (.null :: st)) (fun t ht => XS.aconstNull X.here A.1 rfl (hb A.2.1 hd)  ht) K
theorem s_ldc (pc' : Nat) {i : Nat} {v : Int32} (A : own_A p l e R s m args below meth c Z own name bytes maxL ret) (S : own_S p l e R s m args below meth c n0 T h k n) (w : (Jvm.Cond.constant own i v).before a0 Z = true) (hd : decode bytes pc = .ok (.ldc i, 2)) (hp : pc + 2 = pc') (K : own_G p e below s n0 kc ks Q T (mkF m pc' Ls (.int v :: st))) : own_G p e below s n0 kc ks Q T (mkF m pc Ls st) := by
  obtain ⟨_, X, -, -⟩ := S
  obtain ⟨hx, hby, -, hown, -, -, -, hZ⟩ := A
  subst hp
  exact own_st (T' := T) (g' := mkF m _ Ls (.int v :: st)) (X.ldcInt hx hown (mvT hZ w) (g := mkF m pc Ls st) rfl (hb hby hd)) K
theorem s_ldc2 (pc' : Nat) {i : Nat} {v : Int64} (A : own_A p l e R s m args below meth c Z own name bytes maxL ret) (S : own_S p l e R s m args below meth c n0 T h k n) (w : (Jvm.Cond.constantLong own i v).before a0 Z = true) (hd : decode bytes pc = .ok (.ldc2_w i, 3)) (hp : pc + 3 = pc') (K : own_G p e below s n0 kc ks Q T (mkF m pc' Ls (.long v :: st))) : own_G p e below s n0 kc ks Q T (mkF m pc Ls st) := by
  obtain ⟨_, X, -, -⟩ := S
  obtain ⟨hx, hby, -, hown, -, -, -, hZ⟩ := A
  subst hp
  exact own_st (T' := T) (g' := mkF m _ Ls (.long v :: st)) (X.ldc2Long hx hown (mvT hZ w) (g := mkF m pc Ls st) rfl (hb hby hd)) K
theorem s_iadd (pc' : Nat) {x y : Int32} {z : Int32} (A : own_A p l e R s m args below meth c Z own name bytes maxL ret) (S : own_S p l e R s m args below meth c n0 T h k n) (hd : decode bytes pc = .ok (.iadd, 1)) (hz : x + y = z) (hp : pc + 1 = pc') (K : own_G p e below s n0 kc ks Q T (mkF m pc' Ls (.int z :: st))) : own_G p e below s n0 kc ks Q T (mkF m pc Ls (.int y :: .int x :: st)) := by
  obtain ⟨_, X, -, -⟩ := S
  subst hp hz
  exact own_st (T' := T) (g' := mkF m _ Ls (.int _ :: st)) (fun t ht => XS.iadd X.here A.1 rfl (hb A.2.1 hd) rfl  ht) K
theorem s_isub (pc' : Nat) {x y : Int32} {z : Int32} (A : own_A p l e R s m args below meth c Z own name bytes maxL ret) (S : own_S p l e R s m args below meth c n0 T h k n) (hd : decode bytes pc = .ok (.isub, 1)) (hz : x - y = z) (hp : pc + 1 = pc') (K : own_G p e below s n0 kc ks Q T (mkF m pc' Ls (.int z :: st))) : own_G p e below s n0 kc ks Q T (mkF m pc Ls (.int y :: .int x :: st)) := by
  obtain ⟨_, X, -, -⟩ := S
  subst hp hz
  exact own_st (T' := T) (g' := mkF m _ Ls (.int _ :: st)) (fun t ht => XS.isub X.here A.1 rfl (hb A.2.1 hd) rfl  ht) K
theorem s_imul (pc' : Nat) {x y : Int32} {z : Int32} (A : own_A p l e R s m args below meth c Z own name bytes maxL ret) (S : own_S p l e R s m args below meth c n0 T h k n) (hd : decode bytes pc = .ok (.imul, 1)) (hz : x * y = z) (hp : pc + 1 = pc') (K : own_G p e below s n0 kc ks Q T (mkF m pc' Ls (.int z :: st))) : own_G p e below s n0 kc ks Q T (mkF m pc Ls (.int y :: .int x :: st)) := by
  obtain ⟨_, X, -, -⟩ := S
  subst hp hz
  exact own_st (T' := T) (g' := mkF m _ Ls (.int _ :: st)) (fun t ht => XS.imul X.here A.1 rfl (hb A.2.1 hd) rfl  ht) K
theorem s_iand (pc' : Nat) {x y : Int32} {z : Int32} (A : own_A p l e R s m args below meth c Z own name bytes maxL ret) (S : own_S p l e R s m args below meth c n0 T h k n) (hd : decode bytes pc = .ok (.iand, 1)) (hz : x &&& y = z) (hp : pc + 1 = pc') (K : own_G p e below s n0 kc ks Q T (mkF m pc' Ls (.int z :: st))) : own_G p e below s n0 kc ks Q T (mkF m pc Ls (.int y :: .int x :: st)) := by
  obtain ⟨_, X, -, -⟩ := S
  subst hp hz
  exact own_st (T' := T) (g' := mkF m _ Ls (.int _ :: st)) (fun t ht => XS.iand X.here A.1 rfl (hb A.2.1 hd) rfl  ht) K
theorem s_ior (pc' : Nat) {x y : Int32} {z : Int32} (A : own_A p l e R s m args below meth c Z own name bytes maxL ret) (S : own_S p l e R s m args below meth c n0 T h k n) (hd : decode bytes pc = .ok (.ior, 1)) (hz : x ||| y = z) (hp : pc + 1 = pc') (K : own_G p e below s n0 kc ks Q T (mkF m pc' Ls (.int z :: st))) : own_G p e below s n0 kc ks Q T (mkF m pc Ls (.int y :: .int x :: st)) := by
  obtain ⟨_, X, -, -⟩ := S
  subst hp hz
  exact own_st (T' := T) (g' := mkF m _ Ls (.int _ :: st)) (fun t ht => XS.ior X.here A.1 rfl (hb A.2.1 hd) rfl  ht) K
theorem s_ixor (pc' : Nat) {x y : Int32} {z : Int32} (A : own_A p l e R s m args below meth c Z own name bytes maxL ret) (S : own_S p l e R s m args below meth c n0 T h k n) (hd : decode bytes pc = .ok (.ixor, 1)) (hz : x ^^^ y = z) (hp : pc + 1 = pc') (K : own_G p e below s n0 kc ks Q T (mkF m pc' Ls (.int z :: st))) : own_G p e below s n0 kc ks Q T (mkF m pc Ls (.int y :: .int x :: st)) := by
  obtain ⟨_, X, -, -⟩ := S
  subst hp hz
  exact own_st (T' := T) (g' := mkF m _ Ls (.int _ :: st)) (fun t ht => XS.ixor X.here A.1 rfl (hb A.2.1 hd) rfl  ht) K
theorem s_ishl (pc' : Nat) {x y : Int32} {z : Int32} (A : own_A p l e R s m args below meth c Z own name bytes maxL ret) (S : own_S p l e R s m args below meth c n0 T h k n) (hd : decode bytes pc = .ok (.ishl, 1)) (hz : x <<< (y &&& 31) = z) (hp : pc + 1 = pc') (K : own_G p e below s n0 kc ks Q T (mkF m pc' Ls (.int z :: st))) : own_G p e below s n0 kc ks Q T (mkF m pc Ls (.int y :: .int x :: st)) := by
  obtain ⟨_, X, -, -⟩ := S
  subst hp hz
  exact own_st (T' := T) (g' := mkF m _ Ls (.int _ :: st)) (fun t ht => XS.ishl X.here A.1 rfl (hb A.2.1 hd) rfl  ht) K
theorem s_ishr (pc' : Nat) {x y : Int32} {z : Int32} (A : own_A p l e R s m args below meth c Z own name bytes maxL ret) (S : own_S p l e R s m args below meth c n0 T h k n) (hd : decode bytes pc = .ok (.ishr, 1)) (hz : x >>> (y &&& 31) = z) (hp : pc + 1 = pc') (K : own_G p e below s n0 kc ks Q T (mkF m pc' Ls (.int z :: st))) : own_G p e below s n0 kc ks Q T (mkF m pc Ls (.int y :: .int x :: st)) := by
  obtain ⟨_, X, -, -⟩ := S
  subst hp hz
  exact own_st (T' := T) (g' := mkF m _ Ls (.int _ :: st)) (fun t ht => XS.ishr X.here A.1 rfl (hb A.2.1 hd) rfl  ht) K
theorem s_iushr (pc' : Nat) {x y : Int32} {z : Int32} (A : own_A p l e R s m args below meth c Z own name bytes maxL ret) (S : own_S p l e R s m args below meth c n0 T h k n) (hd : decode bytes pc = .ok (.iushr, 1)) (hz : own_ushr x y = z) (hp : pc + 1 = pc') (K : own_G p e below s n0 kc ks Q T (mkF m pc' Ls (.int z :: st))) : own_G p e below s n0 kc ks Q T (mkF m pc Ls (.int y :: .int x :: st)) := by
  obtain ⟨_, X, -, -⟩ := S
  subst hp hz
  exact own_st (T' := T) (g' := mkF m _ Ls (.int _ :: st)) (fun t ht => XS.iushr X.here A.1 rfl (hb A.2.1 hd) rfl  ht) K
theorem s_idiv (pc' : Nat) {x y : Int32} {z : Int32} (A : own_A p l e R s m args below meth c Z own name bytes maxL ret) (S : own_S p l e R s m args below meth c n0 T h k n) (hd : decode bytes pc = .ok (.idiv, 1)) (hy : y ≠ 0) (hz : x / y = z) (hp : pc + 1 = pc') (K : own_G p e below s n0 kc ks Q T (mkF m pc' Ls (.int z :: st))) : own_G p e below s n0 kc ks Q T (mkF m pc Ls (.int y :: .int x :: st)) := by
  obtain ⟨_, X, -, -⟩ := S
  subst hp hz
  exact own_st (T' := T) (g' := mkF m _ Ls (.int _ :: st)) (fun t ht => XS.idiv X.here A.1 rfl (hb A.2.1 hd) rfl hy ht) K
theorem s_irem (pc' : Nat) {x y : Int32} {z : Int32} (A : own_A p l e R s m args below meth c Z own name bytes maxL ret) (S : own_S p l e R s m args below meth c n0 T h k n) (hd : decode bytes pc = .ok (.irem, 1)) (hy : y ≠ 0) (hz : x % y = z) (hp : pc + 1 = pc') (K : own_G p e below s n0 kc ks Q T (mkF m pc' Ls (.int z :: st))) : own_G p e below s n0 kc ks Q T (mkF m pc Ls (.int y :: .int x :: st)) := by
  obtain ⟨_, X, -, -⟩ := S
  subst hp hz
  exact own_st (T' := T) (g' := mkF m _ Ls (.int _ :: st)) (fun t ht => iremM X A.1 rfl (hb A.2.1 hd) rfl hy ht) K
theorem s_ladd (pc' : Nat) {x y : Int64} {z : Int64} (A : own_A p l e R s m args below meth c Z own name bytes maxL ret) (S : own_S p l e R s m args below meth c n0 T h k n) (hd : decode bytes pc = .ok (.ladd, 1)) (hz : x + y = z) (hp : pc + 1 = pc') (K : own_G p e below s n0 kc ks Q T (mkF m pc' Ls (.long z :: st))) : own_G p e below s n0 kc ks Q T (mkF m pc Ls (.long y :: .long x :: st)) := by
  obtain ⟨_, X, -, -⟩ := S
  subst hp hz
  exact own_st (T' := T) (g' := mkF m _ Ls (.long _ :: st)) (fun t ht => XS.ladd X.here A.1 rfl (hb A.2.1 hd) rfl  ht) K
theorem s_lsub (pc' : Nat) {x y : Int64} {z : Int64} (A : own_A p l e R s m args below meth c Z own name bytes maxL ret) (S : own_S p l e R s m args below meth c n0 T h k n) (hd : decode bytes pc = .ok (.lsub, 1)) (hz : x - y = z) (hp : pc + 1 = pc') (K : own_G p e below s n0 kc ks Q T (mkF m pc' Ls (.long z :: st))) : own_G p e below s n0 kc ks Q T (mkF m pc Ls (.long y :: .long x :: st)) := by
  obtain ⟨_, X, -, -⟩ := S
  subst hp hz
  exact own_st (T' := T) (g' := mkF m _ Ls (.long _ :: st)) (fun t ht => XS.lsub X.here A.1 rfl (hb A.2.1 hd) rfl  ht) K
theorem s_lmul (pc' : Nat) {x y : Int64} {z : Int64} (A : own_A p l e R s m args below meth c Z own name bytes maxL ret) (S : own_S p l e R s m args below meth c n0 T h k n) (hd : decode bytes pc = .ok (.lmul, 1)) (hz : x * y = z) (hp : pc + 1 = pc') (K : own_G p e below s n0 kc ks Q T (mkF m pc' Ls (.long z :: st))) : own_G p e below s n0 kc ks Q T (mkF m pc Ls (.long y :: .long x :: st)) := by
  obtain ⟨_, X, -, -⟩ := S
  subst hp hz
  exact own_st (T' := T) (g' := mkF m _ Ls (.long _ :: st)) (fun t ht => XS.lmul X.here A.1 rfl (hb A.2.1 hd) rfl  ht) K
theorem s_land (pc' : Nat) {x y : Int64} {z : Int64} (A : own_A p l e R s m args below meth c Z own name bytes maxL ret) (S : own_S p l e R s m args below meth c n0 T h k n) (hd : decode bytes pc = .ok (.land, 1)) (hz : x &&& y = z) (hp : pc + 1 = pc') (K : own_G p e below s n0 kc ks Q T (mkF m pc' Ls (.long z :: st))) : own_G p e below s n0 kc ks Q T (mkF m pc Ls (.long y :: .long x :: st)) := by
  obtain ⟨_, X, -, -⟩ := S
  subst hp hz
  exact own_st (T' := T) (g' := mkF m _ Ls (.long _ :: st)) (fun t ht => XS.land X.here A.1 rfl (hb A.2.1 hd) rfl  ht) K
theorem s_lor (pc' : Nat) {x y : Int64} {z : Int64} (A : own_A p l e R s m args below meth c Z own name bytes maxL ret) (S : own_S p l e R s m args below meth c n0 T h k n) (hd : decode bytes pc = .ok (.lor, 1)) (hz : x ||| y = z) (hp : pc + 1 = pc') (K : own_G p e below s n0 kc ks Q T (mkF m pc' Ls (.long z :: st))) : own_G p e below s n0 kc ks Q T (mkF m pc Ls (.long y :: .long x :: st)) := by
  obtain ⟨_, X, -, -⟩ := S
  subst hp hz
  exact own_st (T' := T) (g' := mkF m _ Ls (.long _ :: st)) (fun t ht => XS.lor X.here A.1 rfl (hb A.2.1 hd) rfl  ht) K
theorem s_lxor (pc' : Nat) {x y : Int64} {z : Int64} (A : own_A p l e R s m args below meth c Z own name bytes maxL ret) (S : own_S p l e R s m args below meth c n0 T h k n) (hd : decode bytes pc = .ok (.lxor, 1)) (hz : x ^^^ y = z) (hp : pc + 1 = pc') (K : own_G p e below s n0 kc ks Q T (mkF m pc' Ls (.long z :: st))) : own_G p e below s n0 kc ks Q T (mkF m pc Ls (.long y :: .long x :: st)) := by
  obtain ⟨_, X, -, -⟩ := S
  subst hp hz
  exact own_st (T' := T) (g' := mkF m _ Ls (.long _ :: st)) (fun t ht => XS.lxor X.here A.1 rfl (hb A.2.1 hd) rfl  ht) K
theorem s_ldiv (pc' : Nat) {x y : Int64} {z : Int64} (A : own_A p l e R s m args below meth c Z own name bytes maxL ret) (S : own_S p l e R s m args below meth c n0 T h k n) (hd : decode bytes pc = .ok (.ldiv, 1)) (hy : y ≠ 0) (hz : x / y = z) (hp : pc + 1 = pc') (K : own_G p e below s n0 kc ks Q T (mkF m pc' Ls (.long z :: st))) : own_G p e below s n0 kc ks Q T (mkF m pc Ls (.long y :: .long x :: st)) := by
  obtain ⟨_, X, -, -⟩ := S
  subst hp hz
  exact own_st (T' := T) (g' := mkF m _ Ls (.long _ :: st)) (fun t ht => XS.ldiv X.here A.1 rfl (hb A.2.1 hd) rfl hy ht) K
theorem s_lrem (pc' : Nat) {x y : Int64} {z : Int64} (A : own_A p l e R s m args below meth c Z own name bytes maxL ret) (S : own_S p l e R s m args below meth c n0 T h k n) (hd : decode bytes pc = .ok (.lrem, 1)) (hy : y ≠ 0) (hz : x - (x / y) * y = z) (hp : pc + 1 = pc') (K : own_G p e below s n0 kc ks Q T (mkF m pc' Ls (.long z :: st))) : own_G p e below s n0 kc ks Q T (mkF m pc Ls (.long y :: .long x :: st)) := by
  obtain ⟨_, X, -, -⟩ := S
  subst hp hz
  exact own_st (T' := T) (g' := mkF m _ Ls (.long _ :: st)) (fun t ht => XS.lrem X.here A.1 rfl (hb A.2.1 hd) rfl hy ht) K
theorem s_lshl (pc' : Nat) {x : Int64} {y : Int32} {z : Int64} (A : own_A p l e R s m args below meth c Z own name bytes maxL ret) (S : own_S p l e R s m args below meth c n0 T h k n) (hd : decode bytes pc = .ok (.lshl, 1)) (hz : x <<< (y &&& 63).toInt64 = z) (hp : pc + 1 = pc') (K : own_G p e below s n0 kc ks Q T (mkF m pc' Ls (.long z :: st))) : own_G p e below s n0 kc ks Q T (mkF m pc Ls (.int y :: .long x :: st)) := by
  obtain ⟨_, X, -, -⟩ := S
  subst hp hz
  exact own_st (T' := T) (g' := mkF m _ Ls (.long _ :: st)) (fun t ht => XS.lshl X.here A.1 rfl (hb A.2.1 hd) rfl  ht) K
theorem s_lshr (pc' : Nat) {x : Int64} {y : Int32} {z : Int64} (A : own_A p l e R s m args below meth c Z own name bytes maxL ret) (S : own_S p l e R s m args below meth c n0 T h k n) (hd : decode bytes pc = .ok (.lshr, 1)) (hz : x >>> (y &&& 63).toInt64 = z) (hp : pc + 1 = pc') (K : own_G p e below s n0 kc ks Q T (mkF m pc' Ls (.long z :: st))) : own_G p e below s n0 kc ks Q T (mkF m pc Ls (.int y :: .long x :: st)) := by
  obtain ⟨_, X, -, -⟩ := S
  subst hp hz
  exact own_st (T' := T) (g' := mkF m _ Ls (.long _ :: st)) (fun t ht => XS.lshr X.here A.1 rfl (hb A.2.1 hd) rfl  ht) K
theorem s_lushr (pc' : Nat) {x : Int64} {y : Int32} {z : Int64} (A : own_A p l e R s m args below meth c Z own name bytes maxL ret) (S : own_S p l e R s m args below meth c n0 T h k n) (hd : decode bytes pc = .ok (.lushr, 1)) (hz : own_ushrL x y = z) (hp : pc + 1 = pc') (K : own_G p e below s n0 kc ks Q T (mkF m pc' Ls (.long z :: st))) : own_G p e below s n0 kc ks Q T (mkF m pc Ls (.int y :: .long x :: st)) := by
  obtain ⟨_, X, -, -⟩ := S
  subst hp hz
  exact own_st (T' := T) (g' := mkF m _ Ls (.long _ :: st)) (fun t ht => XS.lushr X.here A.1 rfl (hb A.2.1 hd) rfl  ht) K
theorem s_ineg (pc' : Nat) {x : Int32} {z : Int32} (A : own_A p l e R s m args below meth c Z own name bytes maxL ret) (S : own_S p l e R s m args below meth c n0 T h k n) (hd : decode bytes pc = .ok (.ineg, 1)) (hz : -x = z) (hp : pc + 1 = pc') (K : own_G p e below s n0 kc ks Q T (mkF m pc' Ls (.int z :: st))) : own_G p e below s n0 kc ks Q T (mkF m pc Ls (.int x :: st)) := by
  obtain ⟨_, X, -, -⟩ := S
  subst hp hz
  exact own_st (T' := T) (g' := mkF m _ Ls (.int _ :: st)) (fun t ht => XS.ineg X.here A.1 rfl (hb A.2.1 hd) rfl  ht) K
theorem s_lneg (pc' : Nat) {x : Int64} {z : Int64} (A : own_A p l e R s m args below meth c Z own name bytes maxL ret) (S : own_S p l e R s m args below meth c n0 T h k n) (hd : decode bytes pc = .ok (.lneg, 1)) (hz : -x = z) (hp : pc + 1 = pc') (K : own_G p e below s n0 kc ks Q T (mkF m pc' Ls (.long z :: st))) : own_G p e below s n0 kc ks Q T (mkF m pc Ls (.long x :: st)) := by
  obtain ⟨_, X, -, -⟩ := S
  subst hp hz
  exact own_st (T' := T) (g' := mkF m _ Ls (.long _ :: st)) (fun t ht => XS.lneg X.here A.1 rfl (hb A.2.1 hd) rfl  ht) K
theorem s_i2l (pc' : Nat) {x : Int32} {z : Int64} (A : own_A p l e R s m args below meth c Z own name bytes maxL ret) (S : own_S p l e R s m args below meth c n0 T h k n) (hd : decode bytes pc = .ok (.i2l, 1)) (hz : x.toInt64 = z) (hp : pc + 1 = pc') (K : own_G p e below s n0 kc ks Q T (mkF m pc' Ls (.long z :: st))) : own_G p e below s n0 kc ks Q T (mkF m pc Ls (.int x :: st)) := by
  obtain ⟨_, X, -, -⟩ := S
  subst hp hz
  exact own_st (T' := T) (g' := mkF m _ Ls (.long _ :: st)) (fun t ht => XS.i2l X.here A.1 rfl (hb A.2.1 hd) rfl  ht) K
theorem s_l2i (pc' : Nat) {x : Int64} {z : Int32} (A : own_A p l e R s m args below meth c Z own name bytes maxL ret) (S : own_S p l e R s m args below meth c n0 T h k n) (hd : decode bytes pc = .ok (.l2i, 1)) (hz : x.toInt32 = z) (hp : pc + 1 = pc') (K : own_G p e below s n0 kc ks Q T (mkF m pc' Ls (.int z :: st))) : own_G p e below s n0 kc ks Q T (mkF m pc Ls (.long x :: st)) := by
  obtain ⟨_, X, -, -⟩ := S
  subst hp hz
  exact own_st (T' := T) (g' := mkF m _ Ls (.int _ :: st)) (fun t ht => XS.l2i X.here A.1 rfl (hb A.2.1 hd) rfl  ht) K
theorem s_i2b (pc' : Nat) {x : Int32} {z : Int32} (A : own_A p l e R s m args below meth c Z own name bytes maxL ret) (S : own_S p l e R s m args below meth c n0 T h k n) (hd : decode bytes pc = .ok (.i2b, 1)) (hz : x.toInt8.toInt32 = z) (hp : pc + 1 = pc') (K : own_G p e below s n0 kc ks Q T (mkF m pc' Ls (.int z :: st))) : own_G p e below s n0 kc ks Q T (mkF m pc Ls (.int x :: st)) := by
  obtain ⟨_, X, -, -⟩ := S
  subst hp hz
  exact own_st (T' := T) (g' := mkF m _ Ls (.int _ :: st)) (fun t ht => XS.i2b X.here A.1 rfl (hb A.2.1 hd) rfl  ht) K
theorem s_i2c (pc' : Nat) {x : Int32} {z : Int32} (A : own_A p l e R s m args below meth c Z own name bytes maxL ret) (S : own_S p l e R s m args below meth c n0 T h k n) (hd : decode bytes pc = .ok (.i2c, 1)) (hz : x.toUInt32.toUInt16.toUInt32.toInt32 = z) (hp : pc + 1 = pc') (K : own_G p e below s n0 kc ks Q T (mkF m pc' Ls (.int z :: st))) : own_G p e below s n0 kc ks Q T (mkF m pc Ls (.int x :: st)) := by
  obtain ⟨_, X, -, -⟩ := S
  subst hp hz
  exact own_st (T' := T) (g' := mkF m _ Ls (.int _ :: st)) (fun t ht => XS.i2c X.here A.1 rfl (hb A.2.1 hd) rfl  ht) K
theorem s_i2s (pc' : Nat) {x : Int32} {z : Int32} (A : own_A p l e R s m args below meth c Z own name bytes maxL ret) (S : own_S p l e R s m args below meth c n0 T h k n) (hd : decode bytes pc = .ok (.i2s, 1)) (hz : x.toInt16.toInt32 = z) (hp : pc + 1 = pc') (K : own_G p e below s n0 kc ks Q T (mkF m pc' Ls (.int z :: st))) : own_G p e below s n0 kc ks Q T (mkF m pc Ls (.int x :: st)) := by
  obtain ⟨_, X, -, -⟩ := S
  subst hp hz
  exact own_st (T' := T) (g' := mkF m _ Ls (.int _ :: st)) (fun t ht => XS.i2s X.here A.1 rfl (hb A.2.1 hd) rfl  ht) K
theorem s_lcmp (pc' : Nat) {x y : Int64} {z : Int32} (A : own_A p l e R s m args below meth c Z own name bytes maxL ret) (S : own_S p l e R s m args below meth c n0 T h k n) (hd : decode bytes pc = .ok (.lcmp, 1)) (hz : lcmpW x y = z) (hp : pc + 1 = pc') (K : own_G p e below s n0 kc ks Q T (mkF m pc' Ls (.int z :: st))) : own_G p e below s n0 kc ks Q T (mkF m pc Ls (.long y :: .long x :: st)) := by
  obtain ⟨_, X, -, -⟩ := S
  subst hp hz
  exact own_st (T' := T) (g' := mkF m _ Ls (.int _ :: st)) (fun t ht => XS.lcmp X.here A.1 rfl (hb A.2.1 hd) rfl  ht) K
theorem s_dup (pc' : Nat) {v : Value} (A : own_A p l e R s m args below meth c Z own name bytes maxL ret) (S : own_S p l e R s m args below meth c n0 T h k n) (hd : decode bytes pc = .ok (.dup, 1)) (hv : v.category = 1) (hp : pc + 1 = pc') (K : own_G p e below s n0 kc ks Q T (mkF m pc' Ls (v :: v :: st))) : own_G p e below s n0 kc ks Q T (mkF m pc Ls (v :: st)) := by
  obtain ⟨_, X, -, -⟩ := S
  subst hp
  exact own_st (T' := T) (g' := mkF m _ Ls (v :: v :: st)) (fun t ht => XS.dup X.here A.1 rfl (hb A.2.1 hd) rfl hv ht) K
theorem s_dup2 (pc' : Nat) {v w : Value} (A : own_A p l e R s m args below meth c Z own name bytes maxL ret) (S : own_S p l e R s m args below meth c n0 T h k n) (hd : decode bytes pc = .ok (.dup2, 1)) (hv : v.category = 1) (hv' : w.category = 1) (hp : pc + 1 = pc') (K : own_G p e below s n0 kc ks Q T (mkF m pc' Ls (v :: w :: v :: w :: st))) : own_G p e below s n0 kc ks Q T (mkF m pc Ls (v :: w :: st)) := by
  obtain ⟨_, X, -, -⟩ := S
  subst hp
  exact own_st (T' := T) (g' := mkF m _ Ls (v :: w :: v :: w :: st)) (fun t ht => Jvm.Free.XT.dup2 X.here A.1 rfl (hb A.2.1 hd) rfl hv hv' ht) K
theorem s_dup2L (pc' : Nat) {v : Int64} (A : own_A p l e R s m args below meth c Z own name bytes maxL ret) (S : own_S p l e R s m args below meth c n0 T h k n) (hd : decode bytes pc = .ok (.dup2, 1)) (hp : pc + 1 = pc') (K : own_G p e below s n0 kc ks Q T (mkF m pc' Ls (.long v :: .long v :: st))) : own_G p e below s n0 kc ks Q T (mkF m pc Ls (.long v :: st)) := by
  obtain ⟨_, X, -, -⟩ := S
  subst hp
  exact own_st (T' := T) (g' := mkF m _ Ls (.long v :: .long v :: st)) (fun t ht => Jvm.Free.XT.dup2L X.here A.1 rfl (hb A.2.1 hd) rfl ht) K
theorem s_dupX1 (pc' : Nat) {v w : Value} (A : own_A p l e R s m args below meth c Z own name bytes maxL ret) (S : own_S p l e R s m args below meth c n0 T h k n) (hd : decode bytes pc = .ok (.dup_x1, 1)) (hv : v.category = 1) (hv' : w.category = 1) (hp : pc + 1 = pc') (K : own_G p e below s n0 kc ks Q T (mkF m pc' Ls (v :: w :: v :: st))) : own_G p e below s n0 kc ks Q T (mkF m pc Ls (v :: w :: st)) := by
  obtain ⟨_, X, -, -⟩ := S
  subst hp
  exact own_st (T' := T) (g' := mkF m _ Ls (v :: w :: v :: st)) (fun t ht => XS.dupX1 X.here A.1 rfl (hb A.2.1 hd) rfl hv hv' ht) K
theorem s_pop (pc' : Nat) {v : Value} (A : own_A p l e R s m args below meth c Z own name bytes maxL ret) (S : own_S p l e R s m args below meth c n0 T h k n) (hd : decode bytes pc = .ok (.pop, 1)) (hv : v.category = 1) (hp : pc + 1 = pc') (K : own_G p e below s n0 kc ks Q T (mkF m pc' Ls st)) : own_G p e below s n0 kc ks Q T (mkF m pc Ls (v :: st)) := by
  obtain ⟨_, X, -, -⟩ := S
  subst hp
  exact own_st (T' := T) (g' := mkF m _ Ls st) (fun t ht => XS.pop X.here A.1 rfl (hb A.2.1 hd) rfl hv ht) K
theorem s_iinc (pc' : Nat) {i : Nat} {cst : Int} {x z : Int32} (A : own_A p l e R s m args below meth c Z own name bytes maxL ret) (S : own_S p l e R s m args below meth c n0 T h k n) (hd : decode bytes pc = .ok (.iinc i cst, 3)) (hl : Ls[i]? = some (.val (.int x))) (hz : x + Int32.ofInt cst = z) (hl' : storeLocals Ls i (.int z) = some Ls') (hp : pc + 3 = pc') (K : own_G p e below s n0 kc ks Q T (mkF m pc' Ls' st)) : own_G p e below s n0 kc ks Q T (mkF m pc Ls st) := by
  obtain ⟨_, X, -, -⟩ := S
  subst hp hz
  exact own_st (T' := T) (g' := mkF m _ Ls' st) (fun t ht => XS.iinc X.here A.1 rfl (hb A.2.1 hd) hl hl' ht) K
theorem s_goto (pc' : Nat) {o : Int} (A : own_A p l e R s m args below meth c Z own name bytes maxL ret) (S : own_S p l e R s m args below meth c n0 T h k n) (hd : decode bytes pc = .ok (.goto o, 3)) (ho : 0 ≤ (pc : Int) + o) (hp : ((pc : Int) + o).toNat = pc') (K : own_G p e below s n0 kc ks Q T (mkF m pc' Ls st)) : own_G p e below s n0 kc ks Q T (mkF m pc Ls st) := by
  obtain ⟨_, X, -, -⟩ := S
  exact own_st (T' := T) (g' := mkF m pc' Ls st) (fun t ht => XS.goto X.here A.1 rfl (pc0 := pc) (pc' := pc') rfl (hb A.2.1 hd) ho hp ht) K
theorem s_icmp (pcY pcN : Nat) {cd : ClassFile.Cond} {o : Int} {x y : Int32} (A : own_A p l e R s m args below meth c Z own name bytes maxL ret) (S : own_S p l e R s m args below meth c n0 T h k n) (hd : decode bytes pc = .ok (.if_icmp cd o, 3)) (ho : 0 ≤ (pc : Int) + o) (hp : ((pc : Int) + o).toNat = pcY) (hn : pc + 3 = pcN) (KY : if_icmp.holds cd x y = true → own_G p e below s n0 kc ks Q T (mkF m pcY Ls st)) (KN : if_icmp.holds cd x y = false → own_G p e below s n0 kc ks Q T (mkF m pcN Ls st)) : own_G p e below s n0 kc ks Q T (mkF m pc Ls (.int y :: .int x :: st)) := by
  obtain ⟨_, X, -, -⟩ := S
  subst hn
  rcases Bool.eq_false_or_eq_true (if_icmp.holds cd x y) with hc | hc
  · exact own_st (T' := T) (g' := mkF m pcY Ls st) (fun t ht => XS.icmpYes X.here A.1 rfl (pc0 := pc) (pc' := pcY) rfl (hb A.2.1 hd) rfl hc ho hp ht) (KY hc)
  · exact own_st (T' := T) (g' := mkF m _ Ls st) (fun t ht => XS.icmpNo X.here A.1 rfl (hb A.2.1 hd) rfl hc ht) (KN hc)
theorem s_ifc (pcY pcN : Nat) {cd : ClassFile.Cond} {o : Int} {x : Int32} (A : own_A p l e R s m args below meth c Z own name bytes maxL ret) (S : own_S p l e R s m args below meth c n0 T h k n) (hd : decode bytes pc = .ok (.ifCond cd o, 3)) (ho : 0 ≤ (pc : Int) + o) (hp : ((pc : Int) + o).toNat = pcY) (hn : pc + 3 = pcN) (KY : ifCond.holds cd x = true → own_G p e below s n0 kc ks Q T (mkF m pcY Ls st)) (KN : ifCond.holds cd x = false → own_G p e below s n0 kc ks Q T (mkF m pcN Ls st)) : own_G p e below s n0 kc ks Q T (mkF m pc Ls (.int x :: st)) := by
  obtain ⟨_, X, -, -⟩ := S
  subst hn
  rcases Bool.eq_false_or_eq_true (ifCond.holds cd x) with hc | hc
  · exact own_st (T' := T) (g' := mkF m pcY Ls st) (fun t ht => XS.ifYes X.here A.1 rfl (pc0 := pc) (pc' := pcY) rfl (hb A.2.1 hd) rfl hc ho hp ht) (KY hc)
  · exact own_st (T' := T) (g' := mkF m _ Ls st) (fun t ht => XS.ifNo X.here A.1 rfl (hb A.2.1 hd) rfl hc ht) (KN hc)
theorem own_eqY {x y : Int32} : if_icmp.holds .eq x y = true → x = y := by simp [if_icmp.holds]
theorem own_eqN {x y : Int32} : if_icmp.holds .eq x y = false → ¬ x = y := by simp [if_icmp.holds]
theorem own_neY {x y : Int32} : if_icmp.holds .ne x y = true → ¬ x = y := by simp [if_icmp.holds]
theorem own_neN {x y : Int32} : if_icmp.holds .ne x y = false → x = y := by simp [if_icmp.holds]
theorem own_ltY {x y : Int32} : if_icmp.holds .lt x y = true → x.toInt < y.toInt := by simp [if_icmp.holds, Int32.lt_iff_toInt_lt]
theorem own_ltN {x y : Int32} : if_icmp.holds .lt x y = false → y.toInt ≤ x.toInt := by simp [if_icmp.holds, Int32.le_iff_toInt_le]
theorem own_geY {x y : Int32} : if_icmp.holds .ge x y = true → y.toInt ≤ x.toInt := by simp [if_icmp.holds, Int32.le_iff_toInt_le]
theorem own_geN {x y : Int32} : if_icmp.holds .ge x y = false → x.toInt < y.toInt := by simp [if_icmp.holds, Int32.lt_iff_toInt_lt]
theorem own_gtY {x y : Int32} : if_icmp.holds .gt x y = true → y.toInt < x.toInt := by simp [if_icmp.holds, Int32.lt_iff_toInt_lt]
theorem own_gtN {x y : Int32} : if_icmp.holds .gt x y = false → x.toInt ≤ y.toInt := by simp [if_icmp.holds, Int32.le_iff_toInt_le]
theorem own_leY {x y : Int32} : if_icmp.holds .le x y = true → x.toInt ≤ y.toInt := by simp [if_icmp.holds, Int32.le_iff_toInt_le]
theorem own_leN {x y : Int32} : if_icmp.holds .le x y = false → y.toInt < x.toInt := by simp [if_icmp.holds, Int32.lt_iff_toInt_lt]
theorem own_lcmp_lt (x y : Int64) : lcmpW x y < 0 ↔ x.toInt < y.toInt := by rw [lw_lt, Int64.lt_iff_toInt_lt]
theorem own_lcmp_gt (x y : Int64) : 0 < lcmpW x y ↔ y.toInt < x.toInt := by rw [lw_gt, Int64.lt_iff_toInt_lt]
theorem own_lcmp_eq (x y : Int64) : lcmpW x y = 0 ↔ x = y := by rw [lw_eq]
theorem s_ieq (pcY pcN : Nat) {o : Int} {x y : Int32} {xi yi : Int} (A : own_A p l e R s m args below meth c Z own name bytes maxL ret) (S : own_S p l e R s m args below meth c n0 T h k n) (hxi : x.toInt = xi) (hyi : y.toInt = yi) (hd : decode bytes pc = .ok (.if_icmp .eq o, 3)) (ho : 0 ≤ (pc : Int) + o) (hp : ((pc : Int) + o).toNat = pcY) (hn : pc + 3 = pcN) (KY : x = y → xi = yi → own_G p e below s n0 kc ks Q T (mkF m pcY Ls st)) (KN : ¬ x = y → xi ≠ yi → own_G p e below s n0 kc ks Q T (mkF m pcN Ls st)) : own_G p e below s n0 kc ks Q T (mkF m pc Ls (.int y :: .int x :: st)) :=
  s_icmp pcY pcN A S hd ho hp hn (fun q => by have q := own_eqY q; exact KY q (by subst hxi hyi; rw [q])) (fun q => by have q := own_eqN q; exact KN q (by subst hxi hyi; exact own_toInt q))
theorem s_ifeq (pcY pcN : Nat) {o : Int} {x : Int32} {xi : Int} (A : own_A p l e R s m args below meth c Z own name bytes maxL ret) (S : own_S p l e R s m args below meth c n0 T h k n) (hxi : x.toInt = xi) (hd : decode bytes pc = .ok (.ifCond .eq o, 3)) (ho : 0 ≤ (pc : Int) + o) (hp : ((pc : Int) + o).toNat = pcY) (hn : pc + 3 = pcN) (KY : x = 0 → xi = 0 → own_G p e below s n0 kc ks Q T (mkF m pcY Ls st)) (KN : ¬ x = 0 → xi ≠ 0 → own_G p e below s n0 kc ks Q T (mkF m pcN Ls st)) : own_G p e below s n0 kc ks Q T (mkF m pc Ls (.int x :: st)) :=
  s_ifc pcY pcN A S hd ho hp hn (fun q => by have q := own_eqY (y := 0) ((if0 _ _).symm.trans q); exact KY q (by subst hxi; rw [q]; rfl)) (fun q => by have q := own_eqN (y := 0) ((if0 _ _).symm.trans q); exact KN q (by subst hxi; exact own_toInt q))
theorem s_lifeq (pcY pcN pcM : Nat) {o : Int} {x y : Int64} {xi yi : Int} (A : own_A p l e R s m args below meth c Z own name bytes maxL ret) (S : own_S p l e R s m args below meth c n0 T h k n) (hxi : x.toInt = xi) (hyi : y.toInt = yi) (hd0 : decode bytes pc = .ok (.lcmp, 1)) (hm : pc + 1 = pcM) (hd : decode bytes pcM = .ok (.ifCond .eq o, 3)) (ho : 0 ≤ (pcM : Int) + o) (hp : ((pcM : Int) + o).toNat = pcY) (hn : pcM + 3 = pcN) (KY : x = y → xi = yi → own_G p e below s n0 kc ks Q T (mkF m pcY Ls st)) (KN : ¬ x = y → xi ≠ yi → own_G p e below s n0 kc ks Q T (mkF m pcN Ls st)) : own_G p e below s n0 kc ks Q T (mkF m pc Ls (.long y :: .long x :: st)) :=
  s_lcmp pcM A S hd0 rfl hm (s_ifeq pcY pcN A S rfl hd ho hp hn (fun q _ => by have q : x = y := (own_lcmp_eq x y).mp q; exact KY q (by subst hxi hyi; rw [q])) (fun q _ => by have q : ¬ x = y := fun w => q ((own_lcmp_eq x y).mpr w); exact KN q (by subst hxi hyi; exact own_toIntL q)))
theorem s_ine (pcY pcN : Nat) {o : Int} {x y : Int32} {xi yi : Int} (A : own_A p l e R s m args below meth c Z own name bytes maxL ret) (S : own_S p l e R s m args below meth c n0 T h k n) (hxi : x.toInt = xi) (hyi : y.toInt = yi) (hd : decode bytes pc = .ok (.if_icmp .ne o, 3)) (ho : 0 ≤ (pc : Int) + o) (hp : ((pc : Int) + o).toNat = pcY) (hn : pc + 3 = pcN) (KY : ¬ x = y → xi ≠ yi → own_G p e below s n0 kc ks Q T (mkF m pcY Ls st)) (KN : x = y → xi = yi → own_G p e below s n0 kc ks Q T (mkF m pcN Ls st)) : own_G p e below s n0 kc ks Q T (mkF m pc Ls (.int y :: .int x :: st)) :=
  s_icmp pcY pcN A S hd ho hp hn (fun q => by have q := own_neY q; exact KY q (by subst hxi hyi; exact own_toInt q)) (fun q => by have q := own_neN q; exact KN q (by subst hxi hyi; rw [q]))
theorem s_ifne (pcY pcN : Nat) {o : Int} {x : Int32} {xi : Int} (A : own_A p l e R s m args below meth c Z own name bytes maxL ret) (S : own_S p l e R s m args below meth c n0 T h k n) (hxi : x.toInt = xi) (hd : decode bytes pc = .ok (.ifCond .ne o, 3)) (ho : 0 ≤ (pc : Int) + o) (hp : ((pc : Int) + o).toNat = pcY) (hn : pc + 3 = pcN) (KY : ¬ x = 0 → xi ≠ 0 → own_G p e below s n0 kc ks Q T (mkF m pcY Ls st)) (KN : x = 0 → xi = 0 → own_G p e below s n0 kc ks Q T (mkF m pcN Ls st)) : own_G p e below s n0 kc ks Q T (mkF m pc Ls (.int x :: st)) :=
  s_ifc pcY pcN A S hd ho hp hn (fun q => by have q := own_neY (y := 0) ((if0 _ _).symm.trans q); exact KY q (by subst hxi; exact own_toInt q)) (fun q => by have q := own_neN (y := 0) ((if0 _ _).symm.trans q); exact KN q (by subst hxi; rw [q]; rfl))
theorem s_lifne (pcY pcN pcM : Nat) {o : Int} {x y : Int64} {xi yi : Int} (A : own_A p l e R s m args below meth c Z own name bytes maxL ret) (S : own_S p l e R s m args below meth c n0 T h k n) (hxi : x.toInt = xi) (hyi : y.toInt = yi) (hd0 : decode bytes pc = .ok (.lcmp, 1)) (hm : pc + 1 = pcM) (hd : decode bytes pcM = .ok (.ifCond .ne o, 3)) (ho : 0 ≤ (pcM : Int) + o) (hp : ((pcM : Int) + o).toNat = pcY) (hn : pcM + 3 = pcN) (KY : ¬ x = y → xi ≠ yi → own_G p e below s n0 kc ks Q T (mkF m pcY Ls st)) (KN : x = y → xi = yi → own_G p e below s n0 kc ks Q T (mkF m pcN Ls st)) : own_G p e below s n0 kc ks Q T (mkF m pc Ls (.long y :: .long x :: st)) :=
  s_lcmp pcM A S hd0 rfl hm (s_ifne pcY pcN A S rfl hd ho hp hn (fun q _ => by have q : ¬ x = y := fun w => q ((own_lcmp_eq x y).mpr w); exact KY q (by subst hxi hyi; exact own_toIntL q)) (fun q _ => by have q : x = y := (own_lcmp_eq x y).mp q; exact KN q (by subst hxi hyi; rw [q])))
theorem s_ilt (pcY pcN : Nat) {o : Int} {x y : Int32} {xi yi : Int} (A : own_A p l e R s m args below meth c Z own name bytes maxL ret) (S : own_S p l e R s m args below meth c n0 T h k n) (hxi : x.toInt = xi) (hyi : y.toInt = yi) (hd : decode bytes pc = .ok (.if_icmp .lt o, 3)) (ho : 0 ≤ (pc : Int) + o) (hp : ((pc : Int) + o).toNat = pcY) (hn : pc + 3 = pcN) (KY : xi < yi → own_G p e below s n0 kc ks Q T (mkF m pcY Ls st)) (KN : yi ≤ xi → own_G p e below s n0 kc ks Q T (mkF m pcN Ls st)) : own_G p e below s n0 kc ks Q T (mkF m pc Ls (.int y :: .int x :: st)) :=
  s_icmp pcY pcN A S hd ho hp hn (fun q => by have q := own_ltY q; exact KY (by subst hxi hyi; exact q)) (fun q => by have q := own_ltN q; exact KN (by subst hxi hyi; exact q))
theorem s_iflt (pcY pcN : Nat) {o : Int} {x : Int32} {xi : Int} (A : own_A p l e R s m args below meth c Z own name bytes maxL ret) (S : own_S p l e R s m args below meth c n0 T h k n) (hxi : x.toInt = xi) (hd : decode bytes pc = .ok (.ifCond .lt o, 3)) (ho : 0 ≤ (pc : Int) + o) (hp : ((pc : Int) + o).toNat = pcY) (hn : pc + 3 = pcN) (KY : xi < 0 → own_G p e below s n0 kc ks Q T (mkF m pcY Ls st)) (KN : 0 ≤ xi → own_G p e below s n0 kc ks Q T (mkF m pcN Ls st)) : own_G p e below s n0 kc ks Q T (mkF m pc Ls (.int x :: st)) :=
  s_ifc pcY pcN A S hd ho hp hn (fun q => by have q := own_ltY (y := 0) ((if0 _ _).symm.trans q); exact KY (by subst hxi; exact q)) (fun q => by have q := own_ltN (y := 0) ((if0 _ _).symm.trans q); exact KN (by subst hxi; exact q))
theorem s_liflt (pcY pcN pcM : Nat) {o : Int} {x y : Int64} {xi yi : Int} (A : own_A p l e R s m args below meth c Z own name bytes maxL ret) (S : own_S p l e R s m args below meth c n0 T h k n) (hxi : x.toInt = xi) (hyi : y.toInt = yi) (hd0 : decode bytes pc = .ok (.lcmp, 1)) (hm : pc + 1 = pcM) (hd : decode bytes pcM = .ok (.ifCond .lt o, 3)) (ho : 0 ≤ (pcM : Int) + o) (hp : ((pcM : Int) + o).toNat = pcY) (hn : pcM + 3 = pcN) (KY : xi < yi → own_G p e below s n0 kc ks Q T (mkF m pcY Ls st)) (KN : yi ≤ xi → own_G p e below s n0 kc ks Q T (mkF m pcN Ls st)) : own_G p e below s n0 kc ks Q T (mkF m pc Ls (.long y :: .long x :: st)) :=
  s_lcmp pcM A S hd0 rfl hm (s_iflt pcY pcN A S rfl hd ho hp hn (fun q => by have q : x.toInt < y.toInt := (own_lcmp_lt x y).mp (Int32.lt_iff_toInt_lt.mpr q); exact KY (by subst hxi hyi; exact q)) (fun q => by have q : y.toInt ≤ x.toInt := Int.not_lt.mp fun w => Int.not_lt.mpr q (Int32.lt_iff_toInt_lt.mp ((own_lcmp_lt x y).mpr w)); exact KN (by subst hxi hyi; exact q)))
theorem s_ige (pcY pcN : Nat) {o : Int} {x y : Int32} {xi yi : Int} (A : own_A p l e R s m args below meth c Z own name bytes maxL ret) (S : own_S p l e R s m args below meth c n0 T h k n) (hxi : x.toInt = xi) (hyi : y.toInt = yi) (hd : decode bytes pc = .ok (.if_icmp .ge o, 3)) (ho : 0 ≤ (pc : Int) + o) (hp : ((pc : Int) + o).toNat = pcY) (hn : pc + 3 = pcN) (KY : yi ≤ xi → own_G p e below s n0 kc ks Q T (mkF m pcY Ls st)) (KN : xi < yi → own_G p e below s n0 kc ks Q T (mkF m pcN Ls st)) : own_G p e below s n0 kc ks Q T (mkF m pc Ls (.int y :: .int x :: st)) :=
  s_icmp pcY pcN A S hd ho hp hn (fun q => by have q := own_geY q; exact KY (by subst hxi hyi; exact q)) (fun q => by have q := own_geN q; exact KN (by subst hxi hyi; exact q))
theorem s_ifge (pcY pcN : Nat) {o : Int} {x : Int32} {xi : Int} (A : own_A p l e R s m args below meth c Z own name bytes maxL ret) (S : own_S p l e R s m args below meth c n0 T h k n) (hxi : x.toInt = xi) (hd : decode bytes pc = .ok (.ifCond .ge o, 3)) (ho : 0 ≤ (pc : Int) + o) (hp : ((pc : Int) + o).toNat = pcY) (hn : pc + 3 = pcN) (KY : 0 ≤ xi → own_G p e below s n0 kc ks Q T (mkF m pcY Ls st)) (KN : xi < 0 → own_G p e below s n0 kc ks Q T (mkF m pcN Ls st)) : own_G p e below s n0 kc ks Q T (mkF m pc Ls (.int x :: st)) :=
  s_ifc pcY pcN A S hd ho hp hn (fun q => by have q := own_geY (y := 0) ((if0 _ _).symm.trans q); exact KY (by subst hxi; exact q)) (fun q => by have q := own_geN (y := 0) ((if0 _ _).symm.trans q); exact KN (by subst hxi; exact q))
theorem s_lifge (pcY pcN pcM : Nat) {o : Int} {x y : Int64} {xi yi : Int} (A : own_A p l e R s m args below meth c Z own name bytes maxL ret) (S : own_S p l e R s m args below meth c n0 T h k n) (hxi : x.toInt = xi) (hyi : y.toInt = yi) (hd0 : decode bytes pc = .ok (.lcmp, 1)) (hm : pc + 1 = pcM) (hd : decode bytes pcM = .ok (.ifCond .ge o, 3)) (ho : 0 ≤ (pcM : Int) + o) (hp : ((pcM : Int) + o).toNat = pcY) (hn : pcM + 3 = pcN) (KY : yi ≤ xi → own_G p e below s n0 kc ks Q T (mkF m pcY Ls st)) (KN : xi < yi → own_G p e below s n0 kc ks Q T (mkF m pcN Ls st)) : own_G p e below s n0 kc ks Q T (mkF m pc Ls (.long y :: .long x :: st)) :=
  s_lcmp pcM A S hd0 rfl hm (s_ifge pcY pcN A S rfl hd ho hp hn (fun q => by have q : y.toInt ≤ x.toInt := Int.not_lt.mp fun w => Int.not_lt.mpr q (Int32.lt_iff_toInt_lt.mp ((own_lcmp_lt x y).mpr w)); exact KY (by subst hxi hyi; exact q)) (fun q => by have q : x.toInt < y.toInt := (own_lcmp_lt x y).mp (Int32.lt_iff_toInt_lt.mpr q); exact KN (by subst hxi hyi; exact q)))
theorem s_igt (pcY pcN : Nat) {o : Int} {x y : Int32} {xi yi : Int} (A : own_A p l e R s m args below meth c Z own name bytes maxL ret) (S : own_S p l e R s m args below meth c n0 T h k n) (hxi : x.toInt = xi) (hyi : y.toInt = yi) (hd : decode bytes pc = .ok (.if_icmp .gt o, 3)) (ho : 0 ≤ (pc : Int) + o) (hp : ((pc : Int) + o).toNat = pcY) (hn : pc + 3 = pcN) (KY : yi < xi → own_G p e below s n0 kc ks Q T (mkF m pcY Ls st)) (KN : xi ≤ yi → own_G p e below s n0 kc ks Q T (mkF m pcN Ls st)) : own_G p e below s n0 kc ks Q T (mkF m pc Ls (.int y :: .int x :: st)) :=
  s_icmp pcY pcN A S hd ho hp hn (fun q => by have q := own_gtY q; exact KY (by subst hxi hyi; exact q)) (fun q => by have q := own_gtN q; exact KN (by subst hxi hyi; exact q))
theorem s_ifgt (pcY pcN : Nat) {o : Int} {x : Int32} {xi : Int} (A : own_A p l e R s m args below meth c Z own name bytes maxL ret) (S : own_S p l e R s m args below meth c n0 T h k n) (hxi : x.toInt = xi) (hd : decode bytes pc = .ok (.ifCond .gt o, 3)) (ho : 0 ≤ (pc : Int) + o) (hp : ((pc : Int) + o).toNat = pcY) (hn : pc + 3 = pcN) (KY : 0 < xi → own_G p e below s n0 kc ks Q T (mkF m pcY Ls st)) (KN : xi ≤ 0 → own_G p e below s n0 kc ks Q T (mkF m pcN Ls st)) : own_G p e below s n0 kc ks Q T (mkF m pc Ls (.int x :: st)) :=
  s_ifc pcY pcN A S hd ho hp hn (fun q => by have q := own_gtY (y := 0) ((if0 _ _).symm.trans q); exact KY (by subst hxi; exact q)) (fun q => by have q := own_gtN (y := 0) ((if0 _ _).symm.trans q); exact KN (by subst hxi; exact q))
theorem s_lifgt (pcY pcN pcM : Nat) {o : Int} {x y : Int64} {xi yi : Int} (A : own_A p l e R s m args below meth c Z own name bytes maxL ret) (S : own_S p l e R s m args below meth c n0 T h k n) (hxi : x.toInt = xi) (hyi : y.toInt = yi) (hd0 : decode bytes pc = .ok (.lcmp, 1)) (hm : pc + 1 = pcM) (hd : decode bytes pcM = .ok (.ifCond .gt o, 3)) (ho : 0 ≤ (pcM : Int) + o) (hp : ((pcM : Int) + o).toNat = pcY) (hn : pcM + 3 = pcN) (KY : yi < xi → own_G p e below s n0 kc ks Q T (mkF m pcY Ls st)) (KN : xi ≤ yi → own_G p e below s n0 kc ks Q T (mkF m pcN Ls st)) : own_G p e below s n0 kc ks Q T (mkF m pc Ls (.long y :: .long x :: st)) :=
  s_lcmp pcM A S hd0 rfl hm (s_ifgt pcY pcN A S rfl hd ho hp hn (fun q => by have q : y.toInt < x.toInt := (own_lcmp_gt x y).mp (Int32.lt_iff_toInt_lt.mpr q); exact KY (by subst hxi hyi; exact q)) (fun q => by have q : x.toInt ≤ y.toInt := Int.not_lt.mp fun w => Int.not_lt.mpr q (Int32.lt_iff_toInt_lt.mp ((own_lcmp_gt x y).mpr w)); exact KN (by subst hxi hyi; exact q)))
theorem s_ile (pcY pcN : Nat) {o : Int} {x y : Int32} {xi yi : Int} (A : own_A p l e R s m args below meth c Z own name bytes maxL ret) (S : own_S p l e R s m args below meth c n0 T h k n) (hxi : x.toInt = xi) (hyi : y.toInt = yi) (hd : decode bytes pc = .ok (.if_icmp .le o, 3)) (ho : 0 ≤ (pc : Int) + o) (hp : ((pc : Int) + o).toNat = pcY) (hn : pc + 3 = pcN) (KY : xi ≤ yi → own_G p e below s n0 kc ks Q T (mkF m pcY Ls st)) (KN : yi < xi → own_G p e below s n0 kc ks Q T (mkF m pcN Ls st)) : own_G p e below s n0 kc ks Q T (mkF m pc Ls (.int y :: .int x :: st)) :=
  s_icmp pcY pcN A S hd ho hp hn (fun q => by have q := own_leY q; exact KY (by subst hxi hyi; exact q)) (fun q => by have q := own_leN q; exact KN (by subst hxi hyi; exact q))
theorem s_ifle (pcY pcN : Nat) {o : Int} {x : Int32} {xi : Int} (A : own_A p l e R s m args below meth c Z own name bytes maxL ret) (S : own_S p l e R s m args below meth c n0 T h k n) (hxi : x.toInt = xi) (hd : decode bytes pc = .ok (.ifCond .le o, 3)) (ho : 0 ≤ (pc : Int) + o) (hp : ((pc : Int) + o).toNat = pcY) (hn : pc + 3 = pcN) (KY : xi ≤ 0 → own_G p e below s n0 kc ks Q T (mkF m pcY Ls st)) (KN : 0 < xi → own_G p e below s n0 kc ks Q T (mkF m pcN Ls st)) : own_G p e below s n0 kc ks Q T (mkF m pc Ls (.int x :: st)) :=
  s_ifc pcY pcN A S hd ho hp hn (fun q => by have q := own_leY (y := 0) ((if0 _ _).symm.trans q); exact KY (by subst hxi; exact q)) (fun q => by have q := own_leN (y := 0) ((if0 _ _).symm.trans q); exact KN (by subst hxi; exact q))
theorem s_lifle (pcY pcN pcM : Nat) {o : Int} {x y : Int64} {xi yi : Int} (A : own_A p l e R s m args below meth c Z own name bytes maxL ret) (S : own_S p l e R s m args below meth c n0 T h k n) (hxi : x.toInt = xi) (hyi : y.toInt = yi) (hd0 : decode bytes pc = .ok (.lcmp, 1)) (hm : pc + 1 = pcM) (hd : decode bytes pcM = .ok (.ifCond .le o, 3)) (ho : 0 ≤ (pcM : Int) + o) (hp : ((pcM : Int) + o).toNat = pcY) (hn : pcM + 3 = pcN) (KY : xi ≤ yi → own_G p e below s n0 kc ks Q T (mkF m pcY Ls st)) (KN : yi < xi → own_G p e below s n0 kc ks Q T (mkF m pcN Ls st)) : own_G p e below s n0 kc ks Q T (mkF m pc Ls (.long y :: .long x :: st)) :=
  s_lcmp pcM A S hd0 rfl hm (s_ifle pcY pcN A S rfl hd ho hp hn (fun q => by have q : x.toInt ≤ y.toInt := Int.not_lt.mp fun w => Int.not_lt.mpr q (Int32.lt_iff_toInt_lt.mp ((own_lcmp_gt x y).mpr w)); exact KY (by subst hxi hyi; exact q)) (fun q => by have q : y.toInt < x.toInt := (own_lcmp_gt x y).mp (Int32.lt_iff_toInt_lt.mpr q); exact KN (by subst hxi hyi; exact q)))
theorem s_aeq (pcY pcN : Nat) {o : Int} {v w : Value} (A : own_A p l e R s m args below meth c Z own name bytes maxL ret) (S : own_S p l e R s m args below meth c n0 T h k n) (hv : v.isRef = true) (hw' : w.isRef = true) (hd : decode bytes pc = .ok (.if_acmp .eq o, 3)) (ho : 0 ≤ (pc : Int) + o) (hp : ((pc : Int) + o).toNat = pcY) (hn : pc + 3 = pcN) (KY : v = w → own_G p e below s n0 kc ks Q T (mkF m pcY Ls st)) (KN : ¬ v = w → own_G p e below s n0 kc ks Q T (mkF m pcN Ls st)) : own_G p e below s n0 kc ks Q T (mkF m pc Ls (w :: v :: st)) := by
  obtain ⟨_, X, -, -⟩ := S
  subst hn
  by_cases q : v = w
  · exact own_st (T' := T) (g' := mkF m pcY Ls st) (fun t ht => RoadKit.acmp X A.1 rfl hv hw' (pc0 := pc) (same := true) rfl (hb A.2.1 hd) rfl (decide_eq_true q) ho hp.symm ht) (KY q)
  · exact own_st (T' := T) (g' := mkF m _ Ls st) (fun t ht => RoadKit.acmp X A.1 rfl hv hw' (pc0 := pc) (same := false) rfl (hb A.2.1 hd) rfl (decide_eq_false q) ho rfl ht) (KN q)
theorem s_ane (pcY pcN : Nat) {o : Int} {v w : Value} (A : own_A p l e R s m args below meth c Z own name bytes maxL ret) (S : own_S p l e R s m args below meth c n0 T h k n) (hv : v.isRef = true) (hw' : w.isRef = true) (hd : decode bytes pc = .ok (.if_acmp .ne o, 3)) (ho : 0 ≤ (pc : Int) + o) (hp : ((pc : Int) + o).toNat = pcY) (hn : pc + 3 = pcN) (KY : ¬ v = w → own_G p e below s n0 kc ks Q T (mkF m pcY Ls st)) (KN : v = w → own_G p e below s n0 kc ks Q T (mkF m pcN Ls st)) : own_G p e below s n0 kc ks Q T (mkF m pc Ls (w :: v :: st)) := by
  obtain ⟨_, X, -, -⟩ := S
  subst hn
  by_cases q : v = w
  · exact own_st (T' := T) (g' := mkF m _ Ls st) (fun t ht => RoadKit.acmp X A.1 rfl hv hw' (pc0 := pc) (same := true) rfl (hb A.2.1 hd) rfl (decide_eq_true q) ho rfl ht) (KN q)
  · exact own_st (T' := T) (g' := mkF m pcY Ls st) (fun t ht => RoadKit.acmp X A.1 rfl hv hw' (pc0 := pc) (same := false) rfl (hb A.2.1 hd) rfl (decide_eq_false q) ho hp.symm ht) (KY q)
theorem own_leave {v : Option Value} (A : own_A p l e R s m args below meth c Z own name bytes maxL ret) (S : own_S p l e R s m args below meth c n0 T h k n) (hv : meth.sig.returnType = none → v = none) (hk : k ≤ kc) (hn : n ≤ ks) (hq : Q v h)
    (go : ∀ (locs : List Loc) (X : Stand p l e R s m args below meth c T locs k n) (fs : List Frame), (∀ (f : JFrame) (acts : List Action), f.method = m → f.locked = none → f.entered = [] → (doReturn e (T.setTop f) acts v).1 = T.setFrames fs) → Steps p.tables e below (T.setTop g) (T.setFrames fs)) : own_G p e below s n0 kc ks Q T g := by
  obtain ⟨locs, X, hh, N⟩ := S
  obtain ⟨-, -, -, -, -, -, hlk, -⟩ := A
  obtain ⟨fs, hr, hrun, hended, hW, hsame⟩ := X.leave (v := v) hv hlk
  exact ⟨_, _, go locs X fs hr, hrun, hended, v, locs, rfl, ⟨by show Q v T.heap; rw [hh]; exact hq, N⟩, ⟨v, rfl⟩, hW, hsame.mono hk hn⟩
theorem s_ret (A : own_A p l e R s m args below meth c Z own name bytes maxL none) (S : own_S p l e R s m args below meth c n0 T h k n) (hd : decode bytes pc = .ok (.return_, 1)) (hk : k ≤ kc) (hn : n ≤ ks) (hq : Q none h) : own_G p e below s n0 kc ks Q T (mkF m pc Ls []) :=
  own_leave A S (fun _ => rfl) hk hn hq fun locs X fs hr => X.returnOut A.1 A.2.2.2.2.2.1 (hb A.2.1 hd) hr
theorem s_retV {w : Value} {t : FieldType} {i : Instr} (A : own_A p l e R s m args below meth c Z own name bytes maxL (some t)) (S : own_S p l e R s m args below meth c n0 T h k n) (hd : decode bytes pc = .ok (i, 1)) (hn' : narrow t w = w) (hi : (i = .ireturn ∧ (t = .int ∨ t = .boolean ∨ t = .byte ∨ t = .char ∨ t = .short) ∧ ∃ z, w = .int z) ∨ (i = .lreturn ∧ t = .long ∧ ∃ z, w = .long z) ∨ (i = .dreturn ∧ t = .double ∧ ∃ z, w = .double z) ∨ (i = .freturn ∧ t = .float ∧ ∃ z, w = .float z) ∨ (i = .areturn ∧ t.isReference = true ∧ w.isRef = true)) (hk : k ≤ kc) (hn : n ≤ ks) (hq : Q (some w) h) : own_G p e below s n0 kc ks Q T (mkF m pc Ls (w :: st)) :=
  own_leave A S (fun q => by rw [A.2.2.2.2.2.1] at q; cases q) hk hn hq fun locs X fs hr => retOut X A.1 A.2.2.2.2.2.1 hn' hi (hb A.2.1 hd) hr
theorem s_retI {z : Int32} (A : own_A p l e R s m args below meth c Z own name bytes maxL (some .int)) (S : own_S p l e R s m args below meth c n0 T h k n) (hd : decode bytes pc = .ok (.ireturn, 1)) (hk : k ≤ kc) (hn : n ≤ ks) (hq : Q (some (.int z)) h) : own_G p e below s n0 kc ks Q T (mkF m pc Ls (.int z :: st)) :=
  s_retV A S hd rfl (Or.inl ⟨rfl, Or.inl rfl, z, rfl⟩) hk hn hq
theorem s_retZ {z : Int32} (A : own_A p l e R s m args below meth c Z own name bytes maxL (some .boolean)) (S : own_S p l e R s m args below meth c n0 T h k n) (hd : decode bytes pc = .ok (.ireturn, 1)) (hz : narrow .boolean (.int z) = .int z) (hk : k ≤ kc) (hn : n ≤ ks) (hq : Q (some (.int z)) h) : own_G p e below s n0 kc ks Q T (mkF m pc Ls (.int z :: st)) :=
  s_retV A S hd hz (Or.inl ⟨rfl, Or.inr (Or.inl rfl), z, rfl⟩) hk hn hq
theorem s_retJ {z : Int64} (A : own_A p l e R s m args below meth c Z own name bytes maxL (some .long)) (S : own_S p l e R s m args below meth c n0 T h k n) (hd : decode bytes pc = .ok (.lreturn, 1)) (hk : k ≤ kc) (hn : n ≤ ks) (hq : Q (some (.long z)) h) : own_G p e below s n0 kc ks Q T (mkF m pc Ls (.long z :: st)) :=
  s_retV A S hd rfl (Or.inr (Or.inl ⟨rfl, rfl, z, rfl⟩)) hk hn hq
theorem s_retA {w : Value} {t : FieldType} (A : own_A p l e R s m args below meth c Z own name bytes maxL (some t)) (S : own_S p l e R s m args below meth c n0 T h k n) (hd : decode bytes pc = .ok (.areturn, 1)) (ht : t.isReference = true) (hn' : narrow t w = w) (hw' : w.isRef = true) (hk : k ≤ kc) (hn : n ≤ ks) (hq : Q (some w) h) : own_G p e below s n0 kc ks Q T (mkF m pc Ls (w :: st)) :=
  s_retV A S hd hn' (Or.inr (Or.inr (Or.inr (Or.inr ⟨rfl, ht, hw'⟩)))) hk hn hq
theorem s_callS (pc' : Nat) {y : MethodName} {index : Nat} {bytes' : ByteArray} {maxL' : Nat} {ret' : Option FieldType} {rm : Room} {argsL rest stk : List Value} {Q' : Option Value → Heap → Prop}
    (A : own_A p l e R s m args below meth c Z own name bytes maxL ret) (S : own_S p l e R s m args below meth c n0 T h k n)
    (w1 : (Jvm.Cond.methodLink own index y).before a0 Z = true) (w2 : (Jvm.Cond.static y).before a0 Z = true) (w3 : (Jvm.Cond.initialized y.cls).before a0 Z = true) (w4 : (Jvm.Cond.code y bytes' maxL' ret').before a0 Z = true)
    (C : own_C l Z y bytes' maxL' ret' rm n0 [] argsL.toArray h Q') (hlen : ∀ sig, parseMethodDescriptor y.desc = some sig → argsL.length = sig.parameters.length)
    (hd : decode bytes pc = .ok (.invokestatic index, 3)) (hst : stk = argsL.reverse ++ rest) (hp : pc + 3 = pc') (hsize : Ls.size = maxL) (hy : y.cls ≠ "java/lang/invoke/MethodHandle" ∧ y.cls ≠ "java/lang/invoke/VarHandle")
    (hf : rm.frames + 1 ≤ R.frames) (hl : (rest.map fun v => v.category).sum + (maxL' + 11) + rm.locals ≤ R.locals) (hc : k + rm.cells ≤ R.cells) (hs : n + rm.slots ≤ R.slots)
    (K : ∀ (T' : State) (h' : Heap) (v : Option Value), Q' v h' → own_S p l e R s m args below meth c n0 T' h' (k + rm.cells) (n + rm.slots) → own_G p e below s n0 kc ks Q T' (mkF m pc' Ls (v.toList ++ rest))) : own_G p e below s n0 kc ks Q T (mkF m pc Ls stk) := by
  obtain ⟨locs, X, eT, N⟩ := S
  obtain ⟨hx, hby, hml, hown, -, -, -, hZ⟩ := A
  subst hp
  obtain ⟨v, _, ⟨T1, L1, k1, n1⟩, -, X1, ⟨Lc, hQ1, l1, y1, z1⟩, st1⟩ := Jvm.LawKit.callS X hx (y := y) hown (mvT hZ w1) (mvT hZ w2) (mvT hZ w3) (mvT hZ w4) hy (backOf (W := (rest.map fun v => v.category).sum) (Q := fun v h L => Q' v h ∧ Fr n0 L) C hZ w4 w3 hf hl) (g := mkF m pc Ls stk) rfl (by rw [hml]; exact hsize) (argsL := argsL) (rest := rest) hlen hst (by show 2 * 0 + _ ≤ _; omega) (hb hby hd) (fun _ _ => ⟨rfl, eT, hc, hs⟩)
  dsimp only [Pt.U, Pt.locs, Pt.cells, Pt.slots] at X1 l1 y1 z1 st1 hQ1
  subst l1 y1 z1
  exact own_st (T' := T1) (g' := mkF m _ Ls (v.toList ++ rest)) st1 (K T1 T1.heap v hQ1.1 ⟨_, X1, rfl, Fr.app N hQ1.2⟩)
theorem s_callV (pc' : Nat) {y : MethodName} {index : Nat} {bytes' : ByteArray} {maxL' : Nat} {ret' : Option FieldType} {rm : Room} {argsL rest stk : List Value} {w : Value}
    (A : own_A p l e R s m args below meth c Z own name bytes maxL ret) (S : own_S p l e R s m args below meth c n0 T h k n)
    (w1 : (Jvm.Cond.methodLink own index y).before a0 Z = true) (w2 : (Jvm.Cond.static y).before a0 Z = true) (w3 : (Jvm.Cond.initialized y.cls).before a0 Z = true) (w4 : (Jvm.Cond.code y bytes' maxL' ret').before a0 Z = true)
    (C : own_C l Z y bytes' maxL' ret' rm n0 [] argsL.toArray h (fun v h' => v = some w ∧ h' = h)) (hlen : ∀ sig, parseMethodDescriptor y.desc = some sig → argsL.length = sig.parameters.length)
    (hd : decode bytes pc = .ok (.invokestatic index, 3)) (hst : stk = argsL.reverse ++ rest) (hp : pc + 3 = pc') (hsize : Ls.size = maxL) (hy : y.cls ≠ "java/lang/invoke/MethodHandle" ∧ y.cls ≠ "java/lang/invoke/VarHandle")
    (hf : rm.frames + 1 ≤ R.frames) (hl : (rest.map fun v => v.category).sum + (maxL' + 11) + rm.locals ≤ R.locals) (hc : k + rm.cells ≤ R.cells) (hs : n + rm.slots ≤ R.slots)
    (K : ∀ (T' : State), own_S p l e R s m args below meth c n0 T' h (k + rm.cells) (n + rm.slots) → own_G p e below s n0 kc ks Q T' (mkF m pc' Ls (w :: rest))) : own_G p e below s n0 kc ks Q T (mkF m pc Ls stk) :=
  s_callS pc' A S w1 w2 w3 w4 C hlen hd hst hp hsize hy hf hl hc hs (fun T' h' v q S' => by obtain ⟨rfl, rfl⟩ := q; exact K T' S')
theorem s_callN (pc' : Nat) {y : MethodName} {index : Nat} {bytes' : ByteArray} {maxL' : Nat} {ret' : Option FieldType} {rm : Room} {argsL rest stk : List Value}
    (A : own_A p l e R s m args below meth c Z own name bytes maxL ret) (S : own_S p l e R s m args below meth c n0 T h k n)
    (w1 : (Jvm.Cond.methodLink own index y).before a0 Z = true) (w2 : (Jvm.Cond.static y).before a0 Z = true) (w3 : (Jvm.Cond.initialized y.cls).before a0 Z = true) (w4 : (Jvm.Cond.code y bytes' maxL' ret').before a0 Z = true)
    (C : own_C l Z y bytes' maxL' ret' rm n0 [] argsL.toArray h (fun v h' => v = none ∧ h' = h)) (hlen : ∀ sig, parseMethodDescriptor y.desc = some sig → argsL.length = sig.parameters.length)
    (hd : decode bytes pc = .ok (.invokestatic index, 3)) (hst : stk = argsL.reverse ++ rest) (hp : pc + 3 = pc') (hsize : Ls.size = maxL) (hy : y.cls ≠ "java/lang/invoke/MethodHandle" ∧ y.cls ≠ "java/lang/invoke/VarHandle")
    (hf : rm.frames + 1 ≤ R.frames) (hl : (rest.map fun v => v.category).sum + (maxL' + 11) + rm.locals ≤ R.locals) (hc : k + rm.cells ≤ R.cells) (hs : n + rm.slots ≤ R.slots)
    (K : ∀ (T' : State), own_S p l e R s m args below meth c n0 T' h (k + rm.cells) (n + rm.slots) → own_G p e below s n0 kc ks Q T' (mkF m pc' Ls rest)) : own_G p e below s n0 kc ks Q T (mkF m pc Ls stk) :=
  s_callS pc' A S w1 w2 w3 w4 C hlen hd hst hp hsize hy hf hl hc hs (fun T' h' v q S' => by obtain ⟨rfl, rfl⟩ := q; exact K T' S')
theorem s_virt (pc' : Nat) {y z : MethodName} {CC : String} {index : Nat} {bytes' : ByteArray} {maxL' : Nat} {ret' : Option FieldType} {rm : Room} {argsL rest stk : List Value} {b : Addr} {Q' : Option Value → Heap → Prop}
    (A : own_A p l e R s m args below meth c Z own name bytes maxL ret) (S : own_S p l e R s m args below meth c n0 T h k n) (E : Exa Z h b CC)
    (w1 : (Jvm.Cond.methodLink own index y).before a0 Z = true) (w2 : (Jvm.Cond.declares y).before a0 Z = true) (nf : NotFace s y) (w5 : (Jvm.Cond.selects CC y z).before a0 Z = true) (w6 : (Jvm.Cond.instanceMethod z).before a0 Z = true) (w3 : (Jvm.Cond.initialized z.cls).before a0 Z = true) (w4 : (Jvm.Cond.code z bytes' maxL' ret').before a0 Z = true)
    (C : own_C l Z z bytes' maxL' ret' rm n0 [] (Value.ref b :: argsL).toArray h Q') (hlen : ∀ sig, parseMethodDescriptor y.desc = some sig → argsL.length = sig.parameters.length)
    (hd : decode bytes pc = .ok (.invokevirtual index, 3)) (hst : stk = argsL.reverse ++ Value.ref b :: rest) (hp : pc + 3 = pc') (hsize : Ls.size = maxL) (hy : y.cls ≠ "java/lang/invoke/MethodHandle" ∧ y.cls ≠ "java/lang/invoke/VarHandle")
    (hf : rm.frames + 1 ≤ R.frames) (hl : (rest.map fun v => v.category).sum + (maxL' + 11) + rm.locals ≤ R.locals) (hc : k + rm.cells ≤ R.cells) (hs : n + rm.slots ≤ R.slots)
    (K : ∀ (T' : State) (h' : Heap) (v : Option Value), Q' v h' → own_S p l e R s m args below meth c n0 T' h' (k + rm.cells) (n + rm.slots) → own_G p e below s n0 kc ks Q T' (mkF m pc' Ls (v.toList ++ rest))) : own_G p e below s n0 kc ks Q T (mkF m pc Ls stk) := by
  obtain ⟨locs, X, eT, N⟩ := S
  obtain ⟨hx, hby, hml, hown, -, -, -, hZ⟩ := A
  subst hp
  obtain ⟨cq, kq, qa, qb, qc⟩ := isOf hZ eT E
  obtain ⟨v, _, ⟨T1, L1, k1, n1⟩, -, X1, ⟨Lc, hQ1, l1, y1, z1⟩, st1⟩ := X.virtualBack hx (y := y) (z := z) hown (mvT hZ w1) (mvT hZ w2) nf (mvT hZ w5) (mvT hZ w6) hy (backOf (W := (rest.map fun v => v.category).sum) (Q := fun v h L => Q' v h ∧ Fr n0 L) C hZ w4 w3 hf hl) qa qc (g := mkF m pc Ls stk) rfl (by rw [hml]; exact hsize) (Steps.refl _) (argsL := argsL) (rest := rest) hlen hst (by show 2 * 0 + _ ≤ _; omega) (hb hby hd) (fun _ _ => ⟨rfl, eT, hc, hs⟩)
  dsimp only [Pt.U, Pt.locs, Pt.cells, Pt.slots] at X1 l1 y1 z1 st1 hQ1
  subst l1 y1 z1
  exact own_st (T' := T1) (g' := mkF m _ Ls (v.toList ++ rest)) (fun t => st1.trans) (K T1 T1.heap v hQ1.1 ⟨_, X1, rfl, Fr.app N hQ1.2⟩)
theorem s_virtV (pc' : Nat) {y z : MethodName} {CC : String} {index : Nat} {bytes' : ByteArray} {maxL' : Nat} {ret' : Option FieldType} {rm : Room} {argsL rest stk : List Value} {b : Addr} {w : Value}
    (A : own_A p l e R s m args below meth c Z own name bytes maxL ret) (S : own_S p l e R s m args below meth c n0 T h k n) (E : Exa Z h b CC)
    (w1 : (Jvm.Cond.methodLink own index y).before a0 Z = true) (w2 : (Jvm.Cond.declares y).before a0 Z = true) (nf : NotFace s y) (w5 : (Jvm.Cond.selects CC y z).before a0 Z = true) (w6 : (Jvm.Cond.instanceMethod z).before a0 Z = true) (w3 : (Jvm.Cond.initialized z.cls).before a0 Z = true) (w4 : (Jvm.Cond.code z bytes' maxL' ret').before a0 Z = true)
    (C : own_C l Z z bytes' maxL' ret' rm n0 [] (Value.ref b :: argsL).toArray h (fun v h' => v = some w ∧ h' = h)) (hlen : ∀ sig, parseMethodDescriptor y.desc = some sig → argsL.length = sig.parameters.length)
    (hd : decode bytes pc = .ok (.invokevirtual index, 3)) (hst : stk = argsL.reverse ++ Value.ref b :: rest) (hp : pc + 3 = pc') (hsize : Ls.size = maxL) (hy : y.cls ≠ "java/lang/invoke/MethodHandle" ∧ y.cls ≠ "java/lang/invoke/VarHandle")
    (hf : rm.frames + 1 ≤ R.frames) (hl : (rest.map fun v => v.category).sum + (maxL' + 11) + rm.locals ≤ R.locals) (hc : k + rm.cells ≤ R.cells) (hs : n + rm.slots ≤ R.slots)
    (K : ∀ (T' : State), own_S p l e R s m args below meth c n0 T' h (k + rm.cells) (n + rm.slots) → own_G p e below s n0 kc ks Q T' (mkF m pc' Ls (w :: rest))) : own_G p e below s n0 kc ks Q T (mkF m pc Ls stk) :=
  s_virt pc' A S E w1 w2 nf w5 w6 w3 w4 C hlen hd hst hp hsize hy hf hl hc hs (fun T' h' v q S' => by obtain ⟨rfl, rfl⟩ := q; exact K T' S')
theorem s_virtN (pc' : Nat) {y z : MethodName} {CC : String} {index : Nat} {bytes' : ByteArray} {maxL' : Nat} {ret' : Option FieldType} {rm : Room} {argsL rest stk : List Value} {b : Addr}
    (A : own_A p l e R s m args below meth c Z own name bytes maxL ret) (S : own_S p l e R s m args below meth c n0 T h k n) (E : Exa Z h b CC)
    (w1 : (Jvm.Cond.methodLink own index y).before a0 Z = true) (w2 : (Jvm.Cond.declares y).before a0 Z = true) (nf : NotFace s y) (w5 : (Jvm.Cond.selects CC y z).before a0 Z = true) (w6 : (Jvm.Cond.instanceMethod z).before a0 Z = true) (w3 : (Jvm.Cond.initialized z.cls).before a0 Z = true) (w4 : (Jvm.Cond.code z bytes' maxL' ret').before a0 Z = true)
    (C : own_C l Z z bytes' maxL' ret' rm n0 [] (Value.ref b :: argsL).toArray h (fun v h' => v = none ∧ h' = h)) (hlen : ∀ sig, parseMethodDescriptor y.desc = some sig → argsL.length = sig.parameters.length)
    (hd : decode bytes pc = .ok (.invokevirtual index, 3)) (hst : stk = argsL.reverse ++ Value.ref b :: rest) (hp : pc + 3 = pc') (hsize : Ls.size = maxL) (hy : y.cls ≠ "java/lang/invoke/MethodHandle" ∧ y.cls ≠ "java/lang/invoke/VarHandle")
    (hf : rm.frames + 1 ≤ R.frames) (hl : (rest.map fun v => v.category).sum + (maxL' + 11) + rm.locals ≤ R.locals) (hc : k + rm.cells ≤ R.cells) (hs : n + rm.slots ≤ R.slots)
    (K : ∀ (T' : State), own_S p l e R s m args below meth c n0 T' h (k + rm.cells) (n + rm.slots) → own_G p e below s n0 kc ks Q T' (mkF m pc' Ls rest)) : own_G p e below s n0 kc ks Q T (mkF m pc Ls stk) :=
  s_virt pc' A S E w1 w2 nf w5 w6 w3 w4 C hlen hd hst hp hsize hy hf hl hc hs (fun T' h' v q S' => by obtain ⟨rfl, rfl⟩ := q; exact K T' S')
theorem s_spec (pc' : Nat) {y : MethodName} {index : Nat} {bytes' : ByteArray} {maxL' : Nat} {rm : Room} {argsL rest stk : List Value} {b : Addr} {Q' : Option Value → Heap → Prop}
    (A : own_A p l e R s m args below meth c Z own name bytes maxL ret) (S : own_S p l e R s m args below meth c n0 T h k n)
    (w1 : (Jvm.Cond.methodLink own index y).before a0 Z = true) (w2 : (Jvm.Cond.instanceMethod y).before a0 Z = true) (w3 : (Jvm.Cond.initialized y.cls).before a0 Z = true) (w4 : (Jvm.Cond.code y bytes' maxL' none).before a0 Z = true)
    (C : own_C l Z y bytes' maxL' none rm n0 [] (Value.ref b :: argsL).toArray h Q') (hlen : ∀ sig, parseMethodDescriptor y.desc = some sig → argsL.length = sig.parameters.length)
    (hd : decode bytes pc = .ok (.invokespecial index, 3)) (hst : stk = argsL.reverse ++ Value.ref b :: rest) (hp : pc + 3 = pc') (hsize : Ls.size = maxL) (hy1 : y.name = "<init>") (hy : y.cls ≠ "java/lang/invoke/MethodHandle" ∧ y.cls ≠ "java/lang/invoke/VarHandle")
    (hf : rm.frames + 1 ≤ R.frames) (hl : (rest.map fun v => v.category).sum + (maxL' + 11) + rm.locals ≤ R.locals) (hc : k + rm.cells ≤ R.cells) (hs : n + rm.slots ≤ R.slots)
    (K : ∀ (T' : State) (h' : Heap) (v : Option Value), Q' v h' → own_S p l e R s m args below meth c n0 T' h' (k + rm.cells) (n + rm.slots) → own_G p e below s n0 kc ks Q T' (mkF m pc' Ls (v.toList ++ rest))) : own_G p e below s n0 kc ks Q T (mkF m pc Ls stk) := by
  obtain ⟨locs, X, eT, N⟩ := S
  obtain ⟨hx, hby, hml, hown, -, -, -, hZ⟩ := A
  subst hp
  obtain ⟨v, _, ⟨T1, L1, k1, n1⟩, -, X1, ⟨Lc, hQ1, l1, y1, z1⟩, st1⟩ := X.specialBack hx (y := y) hy1 hown (mvT hZ w1) (mvT hZ w2) (mvT hZ w4) hy (backOf (W := (rest.map fun v => v.category).sum) (Q := fun v h L => Q' v h ∧ Fr n0 L) C hZ w4 w3 hf hl) (g := mkF m pc Ls stk) rfl (by rw [hml]; exact hsize) (Steps.refl _) (a := b) (argsL := argsL) (rest := rest) hlen hst (by show 2 * 0 + _ ≤ _; omega) (hb hby hd) (fun _ _ => ⟨rfl, eT, hc, hs⟩)
  dsimp only [Pt.U, Pt.locs, Pt.cells, Pt.slots] at X1 l1 y1 z1 st1 hQ1
  subst l1 y1 z1
  exact own_st (T' := T1) (g' := mkF m _ Ls (v.toList ++ rest)) (fun t => st1.trans) (K T1 T1.heap v hQ1.1 ⟨_, X1, rfl, Fr.app N hQ1.2⟩)
theorem s_specN (pc' : Nat) {y : MethodName} {index : Nat} {bytes' : ByteArray} {maxL' : Nat} {rm : Room} {argsL rest stk : List Value} {b : Addr}
    (A : own_A p l e R s m args below meth c Z own name bytes maxL ret) (S : own_S p l e R s m args below meth c n0 T h k n)
    (w1 : (Jvm.Cond.methodLink own index y).before a0 Z = true) (w2 : (Jvm.Cond.instanceMethod y).before a0 Z = true) (w3 : (Jvm.Cond.initialized y.cls).before a0 Z = true) (w4 : (Jvm.Cond.code y bytes' maxL' none).before a0 Z = true)
    (C : own_C l Z y bytes' maxL' none rm n0 [] (Value.ref b :: argsL).toArray h (fun v h' => v = none ∧ h' = h)) (hlen : ∀ sig, parseMethodDescriptor y.desc = some sig → argsL.length = sig.parameters.length)
    (hd : decode bytes pc = .ok (.invokespecial index, 3)) (hst : stk = argsL.reverse ++ Value.ref b :: rest) (hp : pc + 3 = pc') (hsize : Ls.size = maxL) (hy1 : y.name = "<init>") (hy : y.cls ≠ "java/lang/invoke/MethodHandle" ∧ y.cls ≠ "java/lang/invoke/VarHandle")
    (hf : rm.frames + 1 ≤ R.frames) (hl : (rest.map fun v => v.category).sum + (maxL' + 11) + rm.locals ≤ R.locals) (hc : k + rm.cells ≤ R.cells) (hs : n + rm.slots ≤ R.slots)
    (K : ∀ (T' : State), own_S p l e R s m args below meth c n0 T' h (k + rm.cells) (n + rm.slots) → own_G p e below s n0 kc ks Q T' (mkF m pc' Ls rest)) : own_G p e below s n0 kc ks Q T (mkF m pc Ls stk) :=
  s_spec pc' A S w1 w2 w3 w4 C hlen hd hst hp hsize hy1 hy hf hl hc hs (fun T' h' v q S' => by obtain ⟨rfl, rfl⟩ := q; exact K T' S')
theorem s_getS (pc' : Nat) {O nm dd : String} {index : Nat} {v : Value} (A : own_A p l e R s m args below meth c Z own name bytes maxL ret) (S : own_S p l e R s m args below meth c n0 T h k n)
    (w : (Jvm.Cond.fieldLink own index O nm dd).before a0 Z = true) (F : Sta Z h O nm dd v) (hd : decode bytes pc = .ok (.getstatic index, 3)) (hp : pc + 3 = pc')
    (K : ∀ T', own_S p l e R s m args below meth c n0 T' h k n → own_G p e below s n0 kc ks Q T' (mkF m pc' Ls (v :: st))) : own_G p e below s n0 kc ks Q T (mkF m pc Ls st) := by
  obtain ⟨locs, X, eT, N⟩ := S
  obtain ⟨hx, hby, hml, hown, -, -, -, hZ⟩ := A
  subst hp
  obtain ⟨T1, X1, e1, st1⟩ := getS (host := "") X hx hZ hown w Via.refl eT F (g := mkF m pc Ls st) rfl (hb hby hd)
  exact own_st (T' := T1) (g' := mkF m _ Ls (v :: st)) st1 (K T1 ⟨_, X1, e1, N⟩)
theorem s_getF (pc' : Nat) {O nm dd : String} {index : Nat} {v : Value} {a : Addr} (A : own_A p l e R s m args below meth c Z own name bytes maxL ret) (S : own_S p l e R s m args below meth c n0 T h k n)
    (w : (Jvm.Cond.fieldLink own index O nm dd).before a0 Z = true) (F : Fld Z h a O nm dd v) (hd : decode bytes pc = .ok (.getfield index, 3)) (hp : pc + 3 = pc')
    (K : ∀ T', own_S p l e R s m args below meth c n0 T' h k n → own_G p e below s n0 kc ks Q T' (mkF m pc' Ls (v :: st))) : own_G p e below s n0 kc ks Q T (mkF m pc Ls (.ref a :: st)) := by
  obtain ⟨locs, X, eT, N⟩ := S
  obtain ⟨hx, hby, hml, hown, -, -, -, hZ⟩ := A
  subst hp
  obtain ⟨T1, X1, e1, st1⟩ := getF X hx hZ hown (host := "") (Or.inl w) Via.refl eT F (g := mkF m pc Ls (.ref a :: st)) rfl rfl (hb hby hd)
  exact own_st (T' := T1) (g' := mkF m _ Ls (v :: st)) st1 (K T1 ⟨_, X1, e1, N⟩)
theorem s_putF (pc' : Nat) {O nm dd CC : String} {index kk : Nat} {v old : Value} {a : Addr} {ty : FieldType} (A : own_A p l e R s m args below meth c Z own name bytes maxL ret) (S : own_S p l e R s m args below meth c n0 T h k n)
    (w : (Jvm.Cond.fieldLink own index O nm dd).before a0 Z = true) (F : Fld Z h a O nm dd old) (E : Exa Z h a CC) (L : (Jvm.Cond.lays CC O nm dd).before a0 Z = true ∨ ((Jvm.Cond.laysFinal CC O nm dd).before a0 Z = true ∧ own = O ∧ name = "<init>")) (wi : (Jvm.Cond.instantiable CC kk).before a0 Z = true) (hge : n0 ≤ a)
    (hd : decode bytes pc = .ok (.putfield index, 3)) (hty : parseFieldDescriptor dd = some ty) (hn : narrow ty v = v) (hf : fits ty v = true) (hp : pc + 3 = pc')
    (K : ∀ T' h', Wr h h' a (RoadKit.slotOf Z O nm dd) v → own_S p l e R s m args below meth c n0 T' h' k n → own_G p e below s n0 kc ks Q T' (mkF m pc' Ls st)) : own_G p e below s n0 kc ks Q T (mkF m pc Ls (v :: .ref a :: st)) := by
  obtain ⟨locs, X, eT, N⟩ := S
  obtain ⟨hx, hby, hml, hown, hnm, -, -, hZ⟩ := A
  subst hp
  obtain ⟨T1, h1, X1, e1, W1, st1⟩ := putF X hx hZ hown (host := "") (Or.inl w) Via.refl eT F E (L.imp id fun q => ⟨q.1, q.2.1, hnm.trans q.2.2⟩) wi hty hn hf (g := mkF m pc Ls (v :: .ref a :: st)) rfl rfl (hb hby hd)
  exact own_st (T' := T1) (g' := mkF m _ Ls st) st1 (K T1 h1 W1 ⟨_, X1, e1, Fr.snoc X1 N hge⟩)
theorem s_new (pc' : Nat) {CC : String} {index nn : Nat} (A : own_A p l e R s m args below meth c Z own name bytes maxL ret) (S : own_S p l e R s m args below meth c n0 T h k n)
    (w : (Jvm.Cond.classLink own index CC).before a0 Z = true) (wi : (Jvm.Cond.instantiable CC nn).before a0 Z = true) (wz : (Jvm.Cond.initialized CC).before a0 Z = true) (hd : decode bytes pc = .ok (.new index, 3)) (hp : pc + 3 = pc') (hc : k + 1 ≤ R.cells) (hl : n + nn ≤ R.slots)
    (K : ∀ T' h' (a : Addr), a = h.size → Ext h h' → Exa Z h' a CC → (∀ {O nm dd : String} {ty : FieldType}, Laid Z a0 CC O nm dd → parseFieldDescriptor dd = some ty → Fld Z h' a O nm dd (defaultValue ty)) → own_S p l e R s m args below meth c n0 T' h' (k + 1) (n + nn) → own_G p e below s n0 kc ks Q T' (mkF m pc' Ls (.ref a :: st))) : own_G p e below s n0 kc ks Q T (mkF m pc Ls st) := by
  obtain ⟨locs, X, eT, N⟩ := S
  obtain ⟨hx, hby, hml, hown, -, -, -, hZ⟩ := A
  subst hp
  obtain ⟨T1, h1, X1, e1, E1, A1, D1, -, st1⟩ := newO X hx hZ hown w wi wz eT (g := mkF m pc Ls st) rfl (hb hby hd) hc hl
  exact own_st (T' := T1) (g' := mkF m _ Ls (.ref h.size :: st)) st1 (K T1 h1 h.size rfl E1 A1 D1 ⟨_, X1, e1, N⟩)
theorem s_initO (pc' : Nat) {idx : Nat} {a : Addr} (A : own_A p l e R s m args below meth c Z own name bytes maxL ret) (S : own_S p l e R s m args below meth c n0 T h k n)
    (w1 : (Jvm.Cond.methodLink own idx Lib.objectInit).before a0 Z = true) (w2 : (Jvm.Cond.instanceMethod Lib.objectInit).before a0 Z = true) (w3 : (Jvm.Cond.code Lib.objectInit ⟨#[0xb1]⟩ 1 none).before a0 Z = true) (hd : decode bytes pc = .ok (.invokespecial idx, 3)) (hp : pc + 3 = pc') (hsize : Ls.size = maxL) (hf : 1 ≤ R.frames) (hl : (st.map fun v => v.category).sum + 12 ≤ R.locals)
    (K : ∀ T', own_S p l e R s m args below meth c n0 T' h k n → own_G p e below s n0 kc ks Q T' (mkF m pc' Ls st)) : own_G p e below s n0 kc ks Q T (mkF m pc Ls (.ref a :: st)) := by
  obtain ⟨locs, X, eT, N⟩ := S
  obtain ⟨hx, hby, hml, hown, -, -, -, hZ⟩ := A
  subst hp
  obtain ⟨T1, X1, e1, st1⟩ := initO X hx hZ hown w1 w2 w3 eT (g := mkF m pc Ls (.ref a :: st)) rfl (by rw [hml]; exact hsize) rfl (hb hby hd) hf (W := (st.map fun v => v.category).sum) (by show 2 * 0 + _ ≤ _; omega) hl
  exact own_st (T' := T1) (g' := mkF m _ Ls st) st1 (K T1 ⟨_, X1, e1, N⟩)
theorem s_newP (pc' : Nat) {aty : ArrayType} {z : Int32} {cap : Nat} (A : own_A p l e R s m args below meth c Z own name bytes maxL ret) (S : own_S p l e R s m args below meth c n0 T h k n)
    (w : (Jvm.Cond.arrayClass (newarray.typeOf aty)).before a0 Z = true) (hd : decode bytes pc = .ok (.newarray aty, 2)) (hn : ¬ z < 0) (hcap : z.toNatClampNeg ≤ cap) (hbb : cap * 8 ≤ 536870912) (hp : pc + 2 = pc') (hc : k + 1 ≤ R.cells) (hl : n + cap ≤ R.slots)
    (K : ∀ T' h' (cA : ClassId) (a : Addr), a = h.size → Ext h h' → Arv Z h' a cA (newarray.typeOf aty) z [] (defaultValue (newarray.typeOf aty)) → own_S p l e R s m args below meth c n0 T' h' (k + 1) (n + cap) → own_G p e below s n0 kc ks Q T' (mkF m pc' Ls (.ref a :: st))) : own_G p e below s n0 kc ks Q T (mkF m pc Ls (.int z :: st)) := by
  obtain ⟨locs, X, eT, N⟩ := S
  obtain ⟨hx, hby, hml, hown, -, -, -, hZ⟩ := A
  subst hp
  obtain ⟨T1, h1, cA, X1, e1, E1, A1, st1⟩ := newP X hx hZ w eT (g := mkF m pc Ls (.int z :: st)) rfl (hb hby hd) rfl hn (cap := cap) hcap hbb hc hl
  exact own_st (T' := T1) (g' := mkF m _ Ls (.ref h.size :: st)) st1 (K T1 h1 cA h.size rfl E1 (Arv.new A1 hn) ⟨_, X1, e1, N⟩)
theorem s_alen (pc' : Nat) {a : Addr} {cA : ClassId} {ty : FieldType} {z : Int32} {vs : List Value} {dv : Value} (A : own_A p l e R s m args below meth c Z own name bytes maxL ret) (S : own_S p l e R s m args below meth c n0 T h k n)
    (V : Arv Z h a cA ty z vs dv) (hd : decode bytes pc = .ok (.arraylength, 1)) (hp : pc + 1 = pc') (K : own_G p e below s n0 kc ks Q T (mkF m pc' Ls (.int z :: st))) : own_G p e below s n0 kc ks Q T (mkF m pc Ls (.ref a :: st)) := by
  obtain ⟨locs, X, eT, N⟩ := S
  obtain ⟨hx, hby, hml, hown, -, -, -, hZ⟩ := A
  obtain ⟨cl, Ar, -, S1, N1, -, -⟩ := V
  subst hp
  rw [← len_of S1 N1] at K
  exact own_st (T' := T) (g' := mkF m _ Ls (.int cl.slots.size.toInt32 :: st)) (X.arraylength hx (by rw [eT]; exact Ar.1) (State.isArrayOf_alike hZ.alike Ar.2.1) (g := mkF m pc Ls (.ref a :: st)) rfl rfl (hb hby hd)) K
theorem s_instY (pc' : Nat) {KK : String} {index : Nat} {a : Addr} (A : own_A p l e R s m args below meth c Z own name bytes maxL ret) (S : own_S p l e R s m args below meth c n0 T h k n)
    (w : (Jvm.Cond.classLink own index KK).before a0 Z = true) (F : Ins Z h a KK true) (hd : decode bytes pc = .ok (.instanceof index, 3)) (hp : pc + 3 = pc')
    (K : ∀ T', own_S p l e R s m args below meth c n0 T' h k n → own_G p e below s n0 kc ks Q T' (mkF m pc' Ls (.int 1 :: st))) : own_G p e below s n0 kc ks Q T (mkF m pc Ls (.ref a :: st)) := by
  obtain ⟨locs, X, eT, N⟩ := S
  obtain ⟨hx, hby, hml, hown, -, -, -, hZ⟩ := A
  subst hp
  obtain ⟨T1, X1, e1, st1⟩ := instY X hx hZ hown w eT F (g := mkF m pc Ls (.ref a :: st)) rfl rfl (hb hby hd)
  exact own_st (T' := T1) (g' := mkF m _ Ls (.int 1 :: st)) st1 (K T1 ⟨_, X1, e1, N⟩)
theorem s_instNo (pc' : Nat) {KK CC : String} {index : Nat} {a : Addr} (A : own_A p l e R s m args below meth c Z own name bytes maxL ret) (S : own_S p l e R s m args below meth c n0 T h k n)
    (w : (Jvm.Cond.classLink own index KK).before a0 Z = true) (E : Exa Z h a CC) (F : ∃ c t, Z.vm.findClass CC = some c ∧ Z.vm.findClass KK = some t ∧ Z.vm.assignable c t = false) (hd : decode bytes pc = .ok (.instanceof index, 3)) (hp : pc + 3 = pc')
    (K : ∀ T', own_S p l e R s m args below meth c n0 T' h k n → own_G p e below s n0 kc ks Q T' (mkF m pc' Ls (.int 0 :: st))) : own_G p e below s n0 kc ks Q T (mkF m pc Ls (.ref a :: st)) := by
  obtain ⟨locs, X, eT, N⟩ := S
  obtain ⟨hx, hby, hml, hown, -, -, -, hZ⟩ := A
  subst hp
  obtain ⟨T1, X1, e1, st1⟩ := instNo X hx hZ hown w eT E F (g := mkF m pc Ls (.ref a :: st)) rfl rfl (hb hby hd)
  exact own_st (T' := T1) (g' := mkF m _ Ls (.int 0 :: st)) st1 (K T1 ⟨_, X1, e1, N⟩)
theorem s_instNull (pc' : Nat) {index : Nat} (A : own_A p l e R s m args below meth c Z own name bytes maxL ret) (S : own_S p l e R s m args below meth c n0 T h k n)
    (hd : decode bytes pc = .ok (.instanceof index, 3)) (hp : pc + 3 = pc') (K : own_G p e below s n0 kc ks Q T (mkF m pc' Ls (.int 0 :: st))) : own_G p e below s n0 kc ks Q T (mkF m pc Ls (.null :: st)) := by
  obtain ⟨locs, X, eT, N⟩ := S
  obtain ⟨hx, hby, hml, hown, -, -, -, hZ⟩ := A
  subst hp
  exact own_st (T' := T) (g' := mkF m _ Ls (.int 0 :: st)) (X.instanceofNull hx (g := mkF m pc Ls (.null :: st)) rfl rfl (hb hby hd)) K
theorem s_castY (pc' : Nat) {KK : String} {index : Nat} {a : Addr} (A : own_A p l e R s m args below meth c Z own name bytes maxL ret) (S : own_S p l e R s m args below meth c n0 T h k n)
    (w : (Jvm.Cond.classLink own index KK).before a0 Z = true) (F : Ins Z h a KK true) (hd : decode bytes pc = .ok (.checkcast index, 3)) (hp : pc + 3 = pc')
    (K : ∀ T', own_S p l e R s m args below meth c n0 T' h k n → own_G p e below s n0 kc ks Q T' (mkF m pc' Ls (.ref a :: st))) : own_G p e below s n0 kc ks Q T (mkF m pc Ls (.ref a :: st)) := by
  obtain ⟨locs, X, eT, N⟩ := S
  obtain ⟨hx, hby, hml, hown, -, -, -, hZ⟩ := A
  subst hp
  obtain ⟨T1, X1, e1, st1⟩ := castY X hx hZ hown w eT F (g := mkF m pc Ls (.ref a :: st)) rfl rfl (hb hby hd)
  exact own_st (T' := T1) (g' := mkF m _ Ls (.ref a :: st)) st1 (K T1 ⟨_, X1, e1, N⟩)
theorem s_aald (pc' : Nat) {a : Addr} {cl : Cell} {ty : FieldType} {j : Int32} {v : Value} (A : own_A p l e R s m args below meth c Z own name bytes maxL ret) (S : own_S p l e R s m args below meth c n0 T h k n)
    (Ar : Arr Z h a cl ty) (hty : ty.isReference = true) (hin : ¬ (j < 0 ∨ cl.slots.size ≤ j.toNatClampNeg)) (hv : cl.slots[j.toNatClampNeg]? = some v) (hd : decode bytes pc = .ok (.aaload, 1)) (hp : pc + 1 = pc') (K : own_G p e below s n0 kc ks Q T (mkF m pc' Ls (v :: st))) : own_G p e below s n0 kc ks Q T (mkF m pc Ls (.int j :: .ref a :: st)) := by
  obtain ⟨locs, X, eT, N⟩ := S
  obtain ⟨hx, hby, hml, hown, -, -, -, hZ⟩ := A
  subst hp
  exact own_st (T' := T) (g' := mkF m _ Ls (v :: st)) (X.aaload hx (by rw [eT]; exact Ar.1) (State.isArrayOf_alike hZ.alike Ar.2.1) hty Ar.2.2 hin hv (g := mkF m pc Ls (.int j :: .ref a :: st)) rfl rfl (hb hby hd)) K
theorem s_iald (pc' : Nat) {a : Addr} {cA : ClassId} {z j : Int32} {vs : List Value} {v dv : Value} (A : own_A p l e R s m args below meth c Z own name bytes maxL ret) (S : own_S p l e R s m args below meth c n0 T h k n)
    (V : Arv Z h a cA .int z vs dv) (hj : ¬ j < 0 ∧ j < z) (hv : vs.getD j.toNatClampNeg dv = v) (hd : decode bytes pc = .ok (.iaload, 1)) (hp : pc + 1 = pc') (K : own_G p e below s n0 kc ks Q T (mkF m pc' Ls (v :: st))) : own_G p e below s n0 kc ks Q T (mkF m pc Ls (.int j :: .ref a :: st)) := by
  obtain ⟨locs, X, eT, N⟩ := S
  obtain ⟨hx, hby, hml, hown, -, -, -, hZ⟩ := A
  obtain ⟨cl, Ar, -, S1, N1, H1, G1⟩ := V
  subst hp
  exact own_st (T' := T) (g' := mkF m _ Ls (v :: st)) (X.iaload hx (by rw [eT]; exact Ar.1) (State.isArrayOf_alike hZ.alike Ar.2.1) Ar.2.2 (inb_of S1 hj) (H1.at (inb_of S1 hj) hv) (g := mkF m pc Ls (.int j :: .ref a :: st)) rfl rfl (hb hby hd)) K
theorem s_lald (pc' : Nat) {a : Addr} {cA : ClassId} {z j : Int32} {vs : List Value} {v dv : Value} (A : own_A p l e R s m args below meth c Z own name bytes maxL ret) (S : own_S p l e R s m args below meth c n0 T h k n)
    (V : Arv Z h a cA .long z vs dv) (hj : ¬ j < 0 ∧ j < z) (hv : vs.getD j.toNatClampNeg dv = v) (hd : decode bytes pc = .ok (.laload, 1)) (hp : pc + 1 = pc') (K : own_G p e below s n0 kc ks Q T (mkF m pc' Ls (v :: st))) : own_G p e below s n0 kc ks Q T (mkF m pc Ls (.int j :: .ref a :: st)) := by
  obtain ⟨locs, X, eT, N⟩ := S
  obtain ⟨hx, hby, hml, hown, -, -, -, hZ⟩ := A
  obtain ⟨cl, Ar, -, S1, N1, H1, G1⟩ := V
  subst hp
  exact own_st (T' := T) (g' := mkF m _ Ls (v :: st)) (X.laload hx (by rw [eT]; exact Ar.1) (State.isArrayOf_alike hZ.alike Ar.2.1) Ar.2.2 (inb_of S1 hj) (H1.at (inb_of S1 hj) hv) (g := mkF m pc Ls (.int j :: .ref a :: st)) rfl rfl (hb hby hd)) K
theorem s_bald (pc' : Nat) {a : Addr} {cA : ClassId} {z j : Int32} {vs : List Value} {v dv : Value} (A : own_A p l e R s m args below meth c Z own name bytes maxL ret) (S : own_S p l e R s m args below meth c n0 T h k n)
    (V : Arv Z h a cA .byte z vs dv) (hj : ¬ j < 0 ∧ j < z) (hv : vs.getD j.toNatClampNeg dv = v) (hd : decode bytes pc = .ok (.baload, 1)) (hp : pc + 1 = pc') (K : own_G p e below s n0 kc ks Q T (mkF m pc' Ls (v :: st))) : own_G p e below s n0 kc ks Q T (mkF m pc Ls (.int j :: .ref a :: st)) := by
  obtain ⟨locs, X, eT, N⟩ := S
  obtain ⟨hx, hby, hml, hown, -, -, -, hZ⟩ := A
  obtain ⟨cl, Ar, -, S1, N1, H1, G1⟩ := V
  subst hp
  exact own_st (T' := T) (g' := mkF m _ Ls (v :: st)) (X.baloadBytes hx (by rw [eT]; exact Ar.1) (State.isArrayOf_alike hZ.alike Ar.2.1) Ar.2.2 (inb_of S1 hj) (H1.at (inb_of S1 hj) hv) (g := mkF m pc Ls (.int j :: .ref a :: st)) rfl rfl (hb hby hd)) K
theorem s_cald (pc' : Nat) {a : Addr} {cA : ClassId} {z j : Int32} {vs : List Value} {v dv : Value} (A : own_A p l e R s m args below meth c Z own name bytes maxL ret) (S : own_S p l e R s m args below meth c n0 T h k n)
    (V : Arv Z h a cA .char z vs dv) (hj : ¬ j < 0 ∧ j < z) (hv : vs.getD j.toNatClampNeg dv = v) (hd : decode bytes pc = .ok (.caload, 1)) (hp : pc + 1 = pc') (K : own_G p e below s n0 kc ks Q T (mkF m pc' Ls (v :: st))) : own_G p e below s n0 kc ks Q T (mkF m pc Ls (.int j :: .ref a :: st)) := by
  obtain ⟨locs, X, eT, N⟩ := S
  obtain ⟨hx, hby, hml, hown, -, -, -, hZ⟩ := A
  obtain ⟨cl, Ar, -, S1, N1, H1, G1⟩ := V
  subst hp
  exact own_st (T' := T) (g' := mkF m _ Ls (v :: st)) (X.caload hx (by rw [eT]; exact Ar.1) (State.isArrayOf_alike hZ.alike Ar.2.1) Ar.2.2 (inb_of S1 hj) (H1.at (inb_of S1 hj) hv) (g := mkF m pc Ls (.int j :: .ref a :: st)) rfl rfl (hb hby hd)) K
theorem s_iast (pc' : Nat) {a : Addr} {cA : ClassId} {z j : Int32} {x : Int32} {vs : List Value} {dv : Value} (A : own_A p l e R s m args below meth c Z own name bytes maxL ret) (S : own_S p l e R s m args below meth c n0 T h k n)
    (V : Arv Z h a cA .int z vs dv) (hj : ¬ j < 0 ∧ j < z) (i : Nat) (hi : j.toNatClampNeg = i) (hi' : i < vs.length) (hge : n0 ≤ a) (hd : decode bytes pc = .ok (.iastore, 1)) (hp : pc + 1 = pc')
    (K : ∀ T' h', Wr h h' a i (.int x) → Arv Z h' a cA .int z (vs.set i (.int x)) dv → own_S p l e R s m args below meth c n0 T' h' k n → own_G p e below s n0 kc ks Q T' (mkF m pc' Ls st)) : own_G p e below s n0 kc ks Q T (mkF m pc Ls (.int x :: .int j :: .ref a :: st)) := by
  obtain ⟨locs, X, eT, N⟩ := S
  obtain ⟨hx, hby, hml, hown, -, -, -, hZ⟩ := A
  obtain ⟨cl, Ar, q1, S1, N1, H1, G1⟩ := V
  subst hp
  obtain ⟨T1, h1, X1, e1, W1, st1⟩ := stI X hx hZ eT Ar (j := j) (inb_of S1 hj) (g := mkF m pc Ls (.int x :: .int j :: .ref a :: st)) rfl rfl (hb hby hd)
  have V1 := Arv.set Ar q1 S1 N1 H1 G1 rfl W1 i hi hi'
  rw [hi] at W1
  exact own_st (T' := T1) (g' := mkF m _ Ls st) st1 (K T1 h1 W1 V1 ⟨_, X1, e1, Fr.snoc X1 N hge⟩)
theorem s_last (pc' : Nat) {a : Addr} {cA : ClassId} {z j : Int32} {x : Int64} {vs : List Value} {dv : Value} (A : own_A p l e R s m args below meth c Z own name bytes maxL ret) (S : own_S p l e R s m args below meth c n0 T h k n)
    (V : Arv Z h a cA .long z vs dv) (hj : ¬ j < 0 ∧ j < z) (i : Nat) (hi : j.toNatClampNeg = i) (hi' : i < vs.length) (hge : n0 ≤ a) (hd : decode bytes pc = .ok (.lastore, 1)) (hp : pc + 1 = pc')
    (K : ∀ T' h', Wr h h' a i (.long x) → Arv Z h' a cA .long z (vs.set i (.long x)) dv → own_S p l e R s m args below meth c n0 T' h' k n → own_G p e below s n0 kc ks Q T' (mkF m pc' Ls st)) : own_G p e below s n0 kc ks Q T (mkF m pc Ls (.long x :: .int j :: .ref a :: st)) := by
  obtain ⟨locs, X, eT, N⟩ := S
  obtain ⟨hx, hby, hml, hown, -, -, -, hZ⟩ := A
  obtain ⟨cl, Ar, q1, S1, N1, H1, G1⟩ := V
  subst hp
  obtain ⟨T1, h1, X1, e1, W1, st1⟩ := stJ X hx hZ eT Ar (j := j) (inb_of S1 hj) (g := mkF m pc Ls (.long x :: .int j :: .ref a :: st)) rfl rfl (hb hby hd)
  have V1 := Arv.set Ar q1 S1 N1 H1 G1 rfl W1 i hi hi'
  rw [hi] at W1
  exact own_st (T' := T1) (g' := mkF m _ Ls st) st1 (K T1 h1 W1 V1 ⟨_, X1, e1, Fr.snoc X1 N hge⟩)
theorem s_bast (pc' : Nat) {a : Addr} {cA : ClassId} {z j : Int32} {x : Int32} {vs : List Value} {dv : Value} (A : own_A p l e R s m args below meth c Z own name bytes maxL ret) (S : own_S p l e R s m args below meth c n0 T h k n)
    (V : Arv Z h a cA .byte z vs dv) (hj : ¬ j < 0 ∧ j < z) (i : Nat) (hi : j.toNatClampNeg = i) (hi' : i < vs.length) (hge : n0 ≤ a) (hd : decode bytes pc = .ok (.bastore, 1)) (hp : pc + 1 = pc')
    (K : ∀ T' h', Wr h h' a i (.int (nar .byte x)) → Arv Z h' a cA .byte z (vs.set i (.int (nar .byte x))) dv → own_S p l e R s m args below meth c n0 T' h' k n → own_G p e below s n0 kc ks Q T' (mkF m pc' Ls st)) : own_G p e below s n0 kc ks Q T (mkF m pc Ls (.int x :: .int j :: .ref a :: st)) := by
  obtain ⟨locs, X, eT, N⟩ := S
  obtain ⟨hx, hby, hml, hown, -, -, -, hZ⟩ := A
  obtain ⟨cl, Ar, q1, S1, N1, H1, G1⟩ := V
  subst hp
  obtain ⟨T1, h1, X1, e1, W1, st1⟩ := stB X hx hZ eT Ar (j := j) (inb_of S1 hj) (g := mkF m pc Ls (.int x :: .int j :: .ref a :: st)) rfl rfl (hb hby hd)
  have V1 := Arv.set Ar q1 S1 N1 H1 G1 (fits_nar_byte _) W1 i hi hi'
  rw [hi] at W1
  exact own_st (T' := T1) (g' := mkF m _ Ls st) st1 (K T1 h1 W1 V1 ⟨_, X1, e1, Fr.snoc X1 N hge⟩)
theorem s_cast (pc' : Nat) {a : Addr} {cA : ClassId} {z j : Int32} {x : Int32} {vs : List Value} {dv : Value} (A : own_A p l e R s m args below meth c Z own name bytes maxL ret) (S : own_S p l e R s m args below meth c n0 T h k n)
    (V : Arv Z h a cA .char z vs dv) (hj : ¬ j < 0 ∧ j < z) (i : Nat) (hi : j.toNatClampNeg = i) (hi' : i < vs.length) (hge : n0 ≤ a) (hd : decode bytes pc = .ok (.castore, 1)) (hp : pc + 1 = pc')
    (K : ∀ T' h', Wr h h' a i (.int (nar .char x)) → Arv Z h' a cA .char z (vs.set i (.int (nar .char x))) dv → own_S p l e R s m args below meth c n0 T' h' k n → own_G p e below s n0 kc ks Q T' (mkF m pc' Ls st)) : own_G p e below s n0 kc ks Q T (mkF m pc Ls (.int x :: .int j :: .ref a :: st)) := by
  obtain ⟨locs, X, eT, N⟩ := S
  obtain ⟨hx, hby, hml, hown, -, -, -, hZ⟩ := A
  obtain ⟨cl, Ar, q1, S1, N1, H1, G1⟩ := V
  subst hp
  obtain ⟨T1, h1, X1, e1, W1, st1⟩ := stC X hx hZ eT Ar (j := j) (inb_of S1 hj) (g := mkF m pc Ls (.int x :: .int j :: .ref a :: st)) rfl rfl (hb hby hd)
  have V1 := Arv.set Ar q1 S1 N1 H1 G1 (fits_nar_char _) W1 i hi hi'
  rw [hi] at W1
  exact own_st (T' := T1) (g' := mkF m _ Ls st) st1 (K T1 h1 W1 V1 ⟨_, X1, e1, Fr.snoc X1 N hge⟩)
end OwnLayer
theorem own_iadd {x y : Int32} (h1 : -2147483648 ≤ x.toInt + y.toInt) (h2 : x.toInt + y.toInt < 2147483648) : (x + y).toInt = x.toInt + y.toInt := by
  have := c_iadd x y; have := (x + y).toInt_lt; have := (x + y).le_toInt; omega
theorem own_isub {x y : Int32} (h1 : -2147483648 ≤ x.toInt - y.toInt) (h2 : x.toInt - y.toInt < 2147483648) : (x - y).toInt = x.toInt - y.toInt := by
  have := c_isub x y; have := (x - y).toInt_lt; have := (x - y).le_toInt; omega
theorem own_iaddK {x y : Int32} {b : Int} (hb : y.toInt = b) (h1 : -2147483648 ≤ x.toInt + b) (h2 : x.toInt + b < 2147483648) : (x + y).toInt = x.toInt + b := by
  subst hb; exact own_iadd h1 h2
theorem own_isubK {x y : Int32} {b : Int} (hb : y.toInt = b) (h1 : -2147483648 ≤ x.toInt - b) (h2 : x.toInt - b < 2147483648) : (x - y).toInt = x.toInt - b := by
  subst hb; exact own_isub h1 h2
theorem own_isubL {x y : Int32} {a : Int} (ha : x.toInt = a) (h1 : -2147483648 ≤ a - y.toInt) (h2 : a - y.toInt < 2147483648) : (x - y).toInt = a - y.toInt := by
  subst ha; exact own_isub h1 h2
theorem own_imulK {x y : Int32} {b : Int} (hb : y.toInt = b) (h1 : -2147483648 ≤ x.toInt * b) (h2 : x.toInt * b < 2147483648) : (x * y).toInt = x.toInt * b := by
  subst hb; have := c_imul x y; have := (x * y).toInt_lt; have := (x * y).le_toInt; omega
theorem own_imulL {x y : Int32} {a : Int} (ha : x.toInt = a) (h1 : -2147483648 ≤ a * y.toInt) (h2 : a * y.toInt < 2147483648) : (x * y).toInt = a * y.toInt := by
  subst ha; have := c_imul x y; have := (x * y).toInt_lt; have := (x * y).le_toInt; omega
theorem own_ladd {x y : Int64} (h1 : -9223372036854775808 ≤ x.toInt + y.toInt) (h2 : x.toInt + y.toInt < 9223372036854775808) : (x + y).toInt = x.toInt + y.toInt := by
  have := c_ladd x y; have := (x + y).toInt_lt; have := (x + y).le_toInt; omega
theorem own_lsub {x y : Int64} (h1 : -9223372036854775808 ≤ x.toInt - y.toInt) (h2 : x.toInt - y.toInt < 9223372036854775808) : (x - y).toInt = x.toInt - y.toInt := by
  have := c_lsub x y; have := (x - y).toInt_lt; have := (x - y).le_toInt; omega
theorem own_lmulK {x y : Int64} {b : Int} (hb : y.toInt = b) (h1 : -9223372036854775808 ≤ x.toInt * b) (h2 : x.toInt * b < 9223372036854775808) : (x * y).toInt = x.toInt * b := by
  subst hb; have := c_lmul x y; have := (x * y).toInt_lt; have := (x * y).le_toInt; omega
theorem own_l2i {x : Int64} (h1 : -2147483648 ≤ x.toInt) (h2 : x.toInt < 2147483648) : x.toInt32.toInt = x.toInt := by
  have := c_l2i x; have := x.toInt32.toInt_lt; have := x.toInt32.le_toInt; omega

def own_x1 (q : Int64) : Int64 := q - ((own_ushrL q 1) &&& 6148914691236517205)
def own_x2 (q : Int64) : Int64 := (q &&& 3689348814741910323) + ((own_ushrL q 2) &&& 3689348814741910323)
def own_x3 (q : Int64) : Int64 := (q + (own_ushrL q 4)) &&& 1085102592571150095
def own_sh (q : Int64) (k : Int32) : Int64 := q + (own_ushrL q k)
def own_t (q : Int64) : Int64 := own_x3 (own_x2 (own_x1 q))
def own_pop (q : Int64) : Int32 := (own_ushrL (own_t q * 72340172838076673) 56).toInt32
def own_bc (q : Int64) : Int32 := (own_sh (own_sh (own_sh (own_t q) 8) 16) 32).toInt32 &&& 127
theorem own_bb (q : Int64) : 0 ≤ (own_bc q).toInt ∧ (own_bc q).toInt ≤ 127 := c_and _ 127 (by decide)
theorem own_and256 (a b : Nat) : a &&& b = 256 * ((a / 256) &&& (b / 256)) + ((a % 256) &&& (b % 256)) := by
  have h1 : (a &&& b) / 256 = (a / 256) &&& (b / 256) := by
    have := @Nat.and_div_two_pow a b 8
    simpa using this
  have h2 : (a &&& b) % 256 = (a % 256) &&& (b % 256) := by
    have := @Nat.and_mod_two_pow a b 8
    simpa using this
  omega
theorem own_nibN (y : Nat) : ∃ n0 n1 n2 n3 n4 n5 n6 n7 : Nat, y &&& 1085102592571150095 = n0 + 256 * (n1 + 256 * (n2 + 256 * (n3 + 256 * (n4 + 256 * (n5 + 256 * (n6 + 256 * n7)))))) ∧ n0 ≤ 15 ∧ n1 ≤ 15 ∧ n2 ≤ 15 ∧ n3 ≤ 15 ∧ n4 ≤ 15 ∧ n5 ≤ 15 ∧ n6 ≤ 15 ∧ n7 ≤ 15 := by
  have s0 : y &&& 1085102592571150095 = 256 * ((y / 256) &&& 4238682002231055) + ((y % 256) &&& 15) := own_and256 y 1085102592571150095
  have s1 : (y / 256) &&& 4238682002231055 = 256 * (((y / 256) / 256) &&& 16557351571215) + (((y / 256) % 256) &&& 15) := own_and256 (y / 256) 4238682002231055
  have s2 : ((y / 256) / 256) &&& 16557351571215 = 256 * ((((y / 256) / 256) / 256) &&& 64677154575) + ((((y / 256) / 256) % 256) &&& 15) := own_and256 ((y / 256) / 256) 16557351571215
  have s3 : (((y / 256) / 256) / 256) &&& 64677154575 = 256 * (((((y / 256) / 256) / 256) / 256) &&& 252645135) + (((((y / 256) / 256) / 256) % 256) &&& 15) := own_and256 (((y / 256) / 256) / 256) 64677154575
  have s4 : ((((y / 256) / 256) / 256) / 256) &&& 252645135 = 256 * ((((((y / 256) / 256) / 256) / 256) / 256) &&& 986895) + ((((((y / 256) / 256) / 256) / 256) % 256) &&& 15) := own_and256 ((((y / 256) / 256) / 256) / 256) 252645135
  have s5 : (((((y / 256) / 256) / 256) / 256) / 256) &&& 986895 = 256 * (((((((y / 256) / 256) / 256) / 256) / 256) / 256) &&& 3855) + (((((((y / 256) / 256) / 256) / 256) / 256) % 256) &&& 15) := own_and256 (((((y / 256) / 256) / 256) / 256) / 256) 986895
  have s6 : ((((((y / 256) / 256) / 256) / 256) / 256) / 256) &&& 3855 = 256 * ((((((((y / 256) / 256) / 256) / 256) / 256) / 256) / 256) &&& 15) + ((((((((y / 256) / 256) / 256) / 256) / 256) / 256) % 256) &&& 15) := own_and256 ((((((y / 256) / 256) / 256) / 256) / 256) / 256) 3855
  have s7 : (((((((y / 256) / 256) / 256) / 256) / 256) / 256) / 256) &&& 15 ≤ 15 := Nat.and_le_right
  refine ⟨(y % 256) &&& 15, ((y / 256) % 256) &&& 15, (((y / 256) / 256) % 256) &&& 15, ((((y / 256) / 256) / 256) % 256) &&& 15, (((((y / 256) / 256) / 256) / 256) % 256) &&& 15, ((((((y / 256) / 256) / 256) / 256) / 256) % 256) &&& 15, (((((((y / 256) / 256) / 256) / 256) / 256) / 256) % 256) &&& 15, (((((((y / 256) / 256) / 256) / 256) / 256) / 256) / 256) &&& 15, ?_, Nat.and_le_right, Nat.and_le_right, Nat.and_le_right, Nat.and_le_right, Nat.and_le_right, Nat.and_le_right, Nat.and_le_right, Nat.and_le_right⟩
  rw [s0, s1, s2, s3, s4, s5, s6]; omega
theorem own_nib (x : Int64) : ∃ n0 n1 n2 n3 n4 n5 n6 n7 : Int, (x &&& 1085102592571150095).toInt = n0 + 256 * n1 + 65536 * n2 + 16777216 * n3 + 4294967296 * n4 + 1099511627776 * n5 + 281474976710656 * n6 + 72057594037927936 * n7 ∧ (0 ≤ n0 ∧ n0 ≤ 15) ∧ (0 ≤ n1 ∧ n1 ≤ 15) ∧ (0 ≤ n2 ∧ n2 ≤ 15) ∧ (0 ≤ n3 ∧ n3 ≤ 15) ∧ (0 ≤ n4 ∧ n4 ≤ 15) ∧ (0 ≤ n5 ∧ n5 ≤ 15) ∧ (0 ≤ n6 ∧ n6 ≤ 15) ∧ (0 ≤ n7 ∧ n7 ≤ 15) := by
  obtain ⟨n0, n1, n2, n3, n4, n5, n6, n7, e, b0, b1, b2, b3, b4, b5, b6, b7⟩ := own_nibN x.toBitVec.toNat
  refine ⟨n0, n1, n2, n3, n4, n5, n6, n7, ?_, by omega, by omega, by omega, by omega, by omega, by omega, by omega, by omega⟩
  have q : (x &&& 1085102592571150095).toBitVec.toNat = x.toBitVec.toNat &&& 1085102592571150095 := by
    show (x.toBitVec &&& (1085102592571150095 : Int64).toBitVec).toNat = _
    rw [BitVec.toNat_and]; rfl
  show (x &&& 1085102592571150095).toBitVec.toInt = _
  rw [BitVec.toInt_eq_toNat_cond, q, e]
  split <;> omega
theorem own_u (x : Int64) (k : Int32) (j : Nat) (hk : k.toBitVec.toNat % 64 = j) (h0 : 0 < j) : (own_ushrL x k).toInt = (x.toInt % 18446744073709551616) / (2 ^ j : Nat) := c_lushr x k j hk h0
theorem own_shN {x : Int64} {k : Int32} {j : Nat} (hk : k.toBitVec.toNat % 64 = j) (h0 : 0 < j) (h1 : 0 ≤ x.toInt) (h2 : x.toInt < 4611686018427387904) : (own_sh x k).toInt = x.toInt + x.toInt / (2 ^ j : Nat) := by
  have q := own_u x k j hk h0
  have q1 : (x.toInt % 18446744073709551616) = x.toInt := Int.emod_eq_of_lt h1 (by omega)
  rw [q1] at q
  have q2 : x.toInt / ((2 ^ j : Nat) : Int) ≤ x.toInt := Int.ediv_le_self _ h1
  have q3 : 0 ≤ x.toInt / ((2 ^ j : Nat) : Int) := Int.ediv_nonneg h1 (Int.natCast_nonneg _)
  generalize x.toInt / ((2 ^ j : Nat) : Int) = D at *
  unfold own_sh
  rw [own_ladd (by rw [q]; omega) (by rw [q]; omega), q]
theorem own_dv {x k q r : Int} (h : x = k * q + r) (h1 : 0 ≤ r) (h2 : r < k) : x / k = q := by
  rw [h, Int.add_comm, Int.add_mul_ediv_left _ _ (by omega), Int.ediv_eq_zero_of_lt h1 h2, Int.zero_add]
theorem own_md {x k q r : Int} (h : x = k * q + r) (h1 : 0 ≤ r) (h2 : r < k) : x % k = r := by
  rw [h, Int.add_comm, Int.add_mul_emod_self_left, Int.emod_eq_of_lt h1 h2]
theorem own_bcsum (t : Int64) (n0 n1 n2 n3 n4 n5 n6 n7 : Int) (e : t.toInt = n0 + 256 * n1 + 65536 * n2 + 16777216 * n3 + 4294967296 * n4 + 1099511627776 * n5 + 281474976710656 * n6 + 72057594037927936 * n7) (b0 : 0 ≤ n0 ∧ n0 ≤ 15) (b1 : 0 ≤ n1 ∧ n1 ≤ 15) (b2 : 0 ≤ n2 ∧ n2 ≤ 15) (b3 : 0 ≤ n3 ∧ n3 ≤ 15) (b4 : 0 ≤ n4 ∧ n4 ≤ 15) (b5 : 0 ≤ n5 ∧ n5 ≤ 15) (b6 : 0 ≤ n6 ∧ n6 ≤ 15) (b7 : 0 ≤ n7 ∧ n7 ≤ 15) :
    ((own_sh (own_sh (own_sh t 8) 16) 32).toInt32 &&& 127).toInt = n0 + n1 + n2 + n3 + n4 + n5 + n6 + n7 := by
  have a1 : (own_sh t 8).toInt = t.toInt + t.toInt / 256 := own_shN (j := 8) (by decide) (by decide) (by omega) (by omega)
  have f1 : t.toInt / 256 = n1 + 256 * n2 + 65536 * n3 + 16777216 * n4 + 4294967296 * n5 + 1099511627776 * n6 + 281474976710656 * n7 := own_dv (r := n0) (by omega) (by omega) (by omega)
  rw [f1, e] at a1
  generalize own_sh t 8 = y1 at a1 ⊢
  have a2 : (own_sh y1 16).toInt = y1.toInt + y1.toInt / 65536 := own_shN (j := 16) (by decide) (by decide) (by omega) (by omega)
  have f2 : y1.toInt / 65536 = (n2 + n3) + 256 * (n3 + n4) + 65536 * (n4 + n5) + 16777216 * (n5 + n6) + 4294967296 * (n6 + n7) + 1099511627776 * n7 := own_dv (r := (n0 + n1) + 256 * (n1 + n2)) (by omega) (by omega) (by omega)
  rw [f2] at a2
  generalize own_sh y1 16 = y2 at a2 ⊢
  have a3 : (own_sh y2 32).toInt = y2.toInt + y2.toInt / 4294967296 := own_shN (j := 32) (by decide) (by decide) (by omega) (by omega)
  have f3 : y2.toInt / 4294967296 = (n4 + n5 + n6 + n7) + 256 * (n5 + n6 + n7) + 65536 * (n6 + n7) + 16777216 * n7 := own_dv (r := (n0 + n1 + n2 + n3) + 256 * (n1 + n2 + n3 + n4) + 65536 * (n2 + n3 + n4 + n5) + 16777216 * (n3 + n4 + n5 + n6)) (by omega) (by omega) (by omega)
  rw [f3] at a3
  generalize own_sh y2 32 = y3 at a3 ⊢
  have f4 : y3.toInt % 128 = n0 + n1 + n2 + n3 + n4 + n5 + n6 + n7 := own_md (q := 2 * (n1 + n2 + n3 + n4 + (n5 + n6 + n7)) + 512 * (n2 + n3 + n4 + n5 + (n6 + n7)) + 131072 * (n3 + n4 + n5 + n6 + n7) + 33554432 * (n4 + n5 + n6 + n7) + 8589934592 * (n5 + n6 + n7) + 2199023255552 * (n6 + n7) + 562949953421312 * n7) (by omega) (by omega) (by omega)
  have g1 := c_mask y3.toInt32 127 7 (by decide) (by decide)
  have g2 := c_l2i y3
  clear a1 a2 a3 f1 f2 f3
  rw [g1]
  show y3.toInt32.toInt % 128 = _
  omega
theorem own_mulI (x n0 n1 n2 n3 n4 n5 n6 n7 : Int) (e : x = n0 + 256 * n1 + 65536 * n2 + 16777216 * n3 + 4294967296 * n4 + 1099511627776 * n5 + 281474976710656 * n6 + 72057594037927936 * n7) (b0 : 0 ≤ n0 ∧ n0 ≤ 15) (b1 : 0 ≤ n1 ∧ n1 ≤ 15) (b2 : 0 ≤ n2 ∧ n2 ≤ 15) (b3 : 0 ≤ n3 ∧ n3 ≤ 15) (b4 : 0 ≤ n4 ∧ n4 ≤ 15) (b5 : 0 ≤ n5 ∧ n5 ≤ 15) (b6 : 0 ≤ n6 ∧ n6 ≤ 15) (b7 : 0 ≤ n7 ∧ n7 ≤ 15) :
    (x * 72340172838076673) % 18446744073709551616 / 72057594037927936 = n0 + n1 + n2 + n3 + n4 + n5 + n6 + n7 := by
  have m5 : (x * 72340172838076673) % 18446744073709551616 = 72057594037927936 * (n0 + n1 + n2 + n3 + n4 + n5 + n6 + n7) + (281474976710656 * (n0 + n1 + n2 + n3 + n4 + n5 + n6) + 1099511627776 * (n0 + n1 + n2 + n3 + n4 + n5) + 4294967296 * (n0 + n1 + n2 + n3 + n4) + 16777216 * (n0 + n1 + n2 + n3) + 65536 * (n0 + n1 + n2) + 256 * (n0 + n1) + n0) :=
    own_md (q := (n1 + n2 + n3 + n4 + n5 + n6 + n7) + 256 * (n2 + n3 + n4 + n5 + n6 + n7) + 65536 * (n3 + n4 + n5 + n6 + n7) + 16777216 * (n4 + n5 + n6 + n7) + 4294967296 * (n5 + n6 + n7) + 1099511627776 * (n6 + n7) + 281474976710656 * n7) (by subst e; omega) (by clear e; omega) (by clear e; omega)
  exact own_dv m5 (by clear e m5; omega) (by clear e m5; omega)
theorem own_pm (t : Int64) (S : Int) (hS : (t.toInt * 72340172838076673) % 18446744073709551616 / 72057594037927936 = S) (h0 : 0 ≤ S) (h1 : S ≤ 120) : (own_ushrL (t * 72340172838076673) 56).toInt32.toInt = S := by
  have m1 := c_lmul t 72340172838076673
  have m0 : (72340172838076673 : Int64).toInt = 72340172838076673 := by decide +kernel
  rw [m0] at m1
  have m2 := own_u (t * 72340172838076673) 56 56 (by decide) (by decide)
  rw [show ((2 ^ 56 : Nat) : Int) = 72057594037927936 by decide] at m2
  generalize t * 72340172838076673 = w at m1 m2 ⊢
  have m3 : w.toInt % 18446744073709551616 = (t.toInt * 72340172838076673) % 18446744073709551616 := by clear hS m2; omega
  rw [m3, hS] at m2
  rw [own_l2i (by rw [m2]; omega) (by rw [m2]; omega), m2]
theorem own_pe (q : Int64) : own_pop q = own_bc q := by
  obtain ⟨n0, n1, n2, n3, n4, n5, n6, n7, e, b0, b1, b2, b3, b4, b5, b6, b7⟩ := own_nib (own_x2 (own_x1 q) + (own_ushrL (own_x2 (own_x1 q)) 4))
  have e : (own_t q).toInt = _ := e
  apply Int32.toInt_inj.mp
  have g3 : (own_bc q).toInt = _ := own_bcsum (own_t q) n0 n1 n2 n3 n4 n5 n6 n7 e b0 b1 b2 b3 b4 b5 b6 b7
  have g4 : (own_pop q).toInt = _ := own_pm (own_t q) _ (own_mulI _ n0 n1 n2 n3 n4 n5 n6 n7 e b0 b1 b2 b3 b4 b5 b6 b7) (by omega) (by omega)
  rw [g3, g4]

def own_f1 (v : Nat) : Nat := v - ((v / 2) &&& 85)
def own_f2 (v : Nat) : Nat := (v &&& 51) + ((v / 4) &&& 51)
def own_g (v : Nat) : Nat := (own_f2 (own_f1 v) + own_f2 (own_f1 v) / 16) % 16
def own_pc : Nat → Nat → Nat
  | 0, _ => 0
  | k + 1, x => x % 2 + own_pc k (x / 2)
theorem own_pc0 (x : Nat) : own_pc 0 x = 0 := rfl
theorem own_gpc : ∀ v : Fin 256, own_g v.val = own_pc 8 v.val ∧ own_f1 v.val < 256 ∧ own_f2 (own_f1 v.val) ≤ 102 ∧ own_f2 (own_f1 v.val) % 16 ≤ 6 := by decide +kernel
theorem own_s1 : ∀ (v : Fin 256) (b : Fin 2), (v.val / 2 + 128 * b.val) &&& 85 = (v.val / 2) &&& 85 := by decide +kernel
theorem own_s2 : ∀ (v : Fin 256) (b : Fin 4), (v.val / 4 + 64 * b.val) &&& 51 = (v.val / 4) &&& 51 := by decide +kernel
theorem own_st1 (X M M' : Nat) (hM : M / 256 = M') (hm : M % 256 = 85) : X - ((X / 2) &&& M) = 256 * (X / 256 - ((X / 256 / 2) &&& M')) + own_f1 (X % 256) := by
  have e := own_and256 (X / 2) M
  rw [hM, hm] at e
  have e1 : X / 2 / 256 = X / 256 / 2 := by omega
  have e2 : X / 2 % 256 = X % 256 / 2 + 128 * (X / 256 % 2) := by omega
  have e3 := own_s1 ⟨X % 256, Nat.mod_lt _ (by decide)⟩ ⟨X / 256 % 2, Nat.mod_lt _ (by decide)⟩
  simp only at e3
  rw [e1, e2, e3] at e
  have l1 : (X / 256 / 2) &&& M' ≤ X / 256 / 2 := Nat.and_le_left
  have l2 : (X % 256 / 2) &&& 85 ≤ X % 256 / 2 := Nat.and_le_left
  unfold own_f1
  omega
theorem own_st2 (q v M M' : Nat) (hv : v < 256) (hM : M / 256 = M') (hm : M % 256 = 51) : ((256 * q + v) &&& M) + (((256 * q + v) / 4) &&& M) = 256 * ((q &&& M') + ((q / 4) &&& M')) + own_f2 v := by
  have e := own_and256 (256 * q + v) M
  have f := own_and256 ((256 * q + v) / 4) M
  rw [hM, hm] at e f
  have e1 : (256 * q + v) / 256 = q := by omega
  have e2 : (256 * q + v) % 256 = v := by omega
  have f1 : (256 * q + v) / 4 / 256 = q / 4 := by omega
  have f2 : (256 * q + v) / 4 % 256 = v / 4 + 64 * (q % 4) := by omega
  have f3 := own_s2 ⟨v, hv⟩ ⟨q % 4, Nat.mod_lt _ (by decide)⟩
  simp only at f3
  rw [e1, e2] at e
  rw [f1, f2, f3] at f
  unfold own_f2
  omega
theorem own_and15 (a : Nat) : a &&& 15 = a % 16 := by have := Nat.and_two_pow_sub_one_eq_mod a 4; simpa using this
theorem own_st3 (q v M M' : Nat) (hv : v ≤ 102) (hq : q % 16 ≤ 6) (hM : M / 256 = M') (hm : M % 256 = 15) : ((256 * q + v) + (256 * q + v) / 16) &&& M = 256 * ((q + q / 16) &&& M') + (v + v / 16) % 16 := by
  have e := own_and256 ((256 * q + v) + (256 * q + v) / 16) M
  rw [hM, hm] at e
  have e1 : ((256 * q + v) + (256 * q + v) / 16) / 256 = q + q / 16 := by omega
  have e2 : ((256 * q + v) + (256 * q + v) / 16) % 256 % 16 = (v + v / 16) % 16 := by omega
  rw [e1, own_and15, e2] at e
  exact e
def own_F1_0 (x : Nat) : Nat := x - ((x / 2) &&& 0)
def own_F2_0 (x : Nat) : Nat := (x &&& 0) + ((x / 4) &&& 0)
def own_F3_0 (x : Nat) : Nat := (x + x / 16) &&& 0
def own_F1_1 (x : Nat) : Nat := x - ((x / 2) &&& 85)
def own_F2_1 (x : Nat) : Nat := (x &&& 51) + ((x / 4) &&& 51)
def own_F3_1 (x : Nat) : Nat := (x + x / 16) &&& 15
def own_F1_2 (x : Nat) : Nat := x - ((x / 2) &&& 21845)
def own_F2_2 (x : Nat) : Nat := (x &&& 13107) + ((x / 4) &&& 13107)
def own_F3_2 (x : Nat) : Nat := (x + x / 16) &&& 3855
def own_F1_3 (x : Nat) : Nat := x - ((x / 2) &&& 5592405)
def own_F2_3 (x : Nat) : Nat := (x &&& 3355443) + ((x / 4) &&& 3355443)
def own_F3_3 (x : Nat) : Nat := (x + x / 16) &&& 986895
def own_F1_4 (x : Nat) : Nat := x - ((x / 2) &&& 1431655765)
def own_F2_4 (x : Nat) : Nat := (x &&& 858993459) + ((x / 4) &&& 858993459)
def own_F3_4 (x : Nat) : Nat := (x + x / 16) &&& 252645135
def own_F1_5 (x : Nat) : Nat := x - ((x / 2) &&& 366503875925)
def own_F2_5 (x : Nat) : Nat := (x &&& 219902325555) + ((x / 4) &&& 219902325555)
def own_F3_5 (x : Nat) : Nat := (x + x / 16) &&& 64677154575
def own_F1_6 (x : Nat) : Nat := x - ((x / 2) &&& 93824992236885)
def own_F2_6 (x : Nat) : Nat := (x &&& 56294995342131) + ((x / 4) &&& 56294995342131)
def own_F3_6 (x : Nat) : Nat := (x + x / 16) &&& 16557351571215
def own_F1_7 (x : Nat) : Nat := x - ((x / 2) &&& 24019198012642645)
def own_F2_7 (x : Nat) : Nat := (x &&& 14411518807585587) + ((x / 4) &&& 14411518807585587)
def own_F3_7 (x : Nat) : Nat := (x + x / 16) &&& 4238682002231055
def own_F1_8 (x : Nat) : Nat := x - ((x / 2) &&& 6148914691236517205)
def own_F2_8 (x : Nat) : Nat := (x &&& 3689348814741910323) + ((x / 4) &&& 3689348814741910323)
def own_F3_8 (x : Nat) : Nat := (x + x / 16) &&& 1085102592571150095
theorem own_z0 (x : Nat) : own_F2_0 x % 16 ≤ 6 := by unfold own_F2_0; simp
theorem own_lo (q v : Nat) (h : v % 16 ≤ 6) : (256 * q + v) % 16 ≤ 6 := by omega
theorem own_e1_1 (x : Nat) : own_F1_1 x = 256 * own_F1_0 (x / 256) + own_f1 (x % 256) := own_st1 x 85 0 (by decide) (by decide)
theorem own_e2_1 (x : Nat) : own_F2_1 (own_F1_1 x) = 256 * own_F2_0 (own_F1_0 (x / 256)) + own_f2 (own_f1 (x % 256)) := by
  rw [own_e1_1]; exact own_st2 _ _ 51 0 (own_gpc ⟨x % 256, Nat.mod_lt _ (by decide)⟩).2.1 (by decide) (by decide)
theorem own_e3_1 (x : Nat) : own_F3_1 (own_F2_1 (own_F1_1 x)) = 256 * own_F3_0 (own_F2_0 (own_F1_0 (x / 256))) + own_g (x % 256) := by
  rw [own_e2_1]; exact own_st3 _ _ 15 0 (own_gpc ⟨x % 256, Nat.mod_lt _ (by decide)⟩).2.2.1 (own_z0 _) (by decide) (by decide)
theorem own_e1_2 (x : Nat) : own_F1_2 x = 256 * own_F1_1 (x / 256) + own_f1 (x % 256) := own_st1 x 21845 85 (by decide) (by decide)
theorem own_e2_2 (x : Nat) : own_F2_2 (own_F1_2 x) = 256 * own_F2_1 (own_F1_1 (x / 256)) + own_f2 (own_f1 (x % 256)) := by
  rw [own_e1_2]; exact own_st2 _ _ 13107 51 (own_gpc ⟨x % 256, Nat.mod_lt _ (by decide)⟩).2.1 (by decide) (by decide)
theorem own_e3_2 (x : Nat) : own_F3_2 (own_F2_2 (own_F1_2 x)) = 256 * own_F3_1 (own_F2_1 (own_F1_1 (x / 256))) + own_g (x % 256) := by
  rw [own_e2_2]; exact own_st3 _ _ 3855 15 (own_gpc ⟨x % 256, Nat.mod_lt _ (by decide)⟩).2.2.1 ((by rw [own_e2_1]; exact own_lo _ _ (own_gpc ⟨x / 256 % 256, Nat.mod_lt _ (by decide)⟩).2.2.2)) (by decide) (by decide)
theorem own_e1_3 (x : Nat) : own_F1_3 x = 256 * own_F1_2 (x / 256) + own_f1 (x % 256) := own_st1 x 5592405 21845 (by decide) (by decide)
theorem own_e2_3 (x : Nat) : own_F2_3 (own_F1_3 x) = 256 * own_F2_2 (own_F1_2 (x / 256)) + own_f2 (own_f1 (x % 256)) := by
  rw [own_e1_3]; exact own_st2 _ _ 3355443 13107 (own_gpc ⟨x % 256, Nat.mod_lt _ (by decide)⟩).2.1 (by decide) (by decide)
theorem own_e3_3 (x : Nat) : own_F3_3 (own_F2_3 (own_F1_3 x)) = 256 * own_F3_2 (own_F2_2 (own_F1_2 (x / 256))) + own_g (x % 256) := by
  rw [own_e2_3]; exact own_st3 _ _ 986895 3855 (own_gpc ⟨x % 256, Nat.mod_lt _ (by decide)⟩).2.2.1 ((by rw [own_e2_2]; exact own_lo _ _ (own_gpc ⟨x / 256 % 256, Nat.mod_lt _ (by decide)⟩).2.2.2)) (by decide) (by decide)
theorem own_e1_4 (x : Nat) : own_F1_4 x = 256 * own_F1_3 (x / 256) + own_f1 (x % 256) := own_st1 x 1431655765 5592405 (by decide) (by decide)
theorem own_e2_4 (x : Nat) : own_F2_4 (own_F1_4 x) = 256 * own_F2_3 (own_F1_3 (x / 256)) + own_f2 (own_f1 (x % 256)) := by
  rw [own_e1_4]; exact own_st2 _ _ 858993459 3355443 (own_gpc ⟨x % 256, Nat.mod_lt _ (by decide)⟩).2.1 (by decide) (by decide)
theorem own_e3_4 (x : Nat) : own_F3_4 (own_F2_4 (own_F1_4 x)) = 256 * own_F3_3 (own_F2_3 (own_F1_3 (x / 256))) + own_g (x % 256) := by
  rw [own_e2_4]; exact own_st3 _ _ 252645135 986895 (own_gpc ⟨x % 256, Nat.mod_lt _ (by decide)⟩).2.2.1 ((by rw [own_e2_3]; exact own_lo _ _ (own_gpc ⟨x / 256 % 256, Nat.mod_lt _ (by decide)⟩).2.2.2)) (by decide) (by decide)
theorem own_e1_5 (x : Nat) : own_F1_5 x = 256 * own_F1_4 (x / 256) + own_f1 (x % 256) := own_st1 x 366503875925 1431655765 (by decide) (by decide)
theorem own_e2_5 (x : Nat) : own_F2_5 (own_F1_5 x) = 256 * own_F2_4 (own_F1_4 (x / 256)) + own_f2 (own_f1 (x % 256)) := by
  rw [own_e1_5]; exact own_st2 _ _ 219902325555 858993459 (own_gpc ⟨x % 256, Nat.mod_lt _ (by decide)⟩).2.1 (by decide) (by decide)
theorem own_e3_5 (x : Nat) : own_F3_5 (own_F2_5 (own_F1_5 x)) = 256 * own_F3_4 (own_F2_4 (own_F1_4 (x / 256))) + own_g (x % 256) := by
  rw [own_e2_5]; exact own_st3 _ _ 64677154575 252645135 (own_gpc ⟨x % 256, Nat.mod_lt _ (by decide)⟩).2.2.1 ((by rw [own_e2_4]; exact own_lo _ _ (own_gpc ⟨x / 256 % 256, Nat.mod_lt _ (by decide)⟩).2.2.2)) (by decide) (by decide)
theorem own_e1_6 (x : Nat) : own_F1_6 x = 256 * own_F1_5 (x / 256) + own_f1 (x % 256) := own_st1 x 93824992236885 366503875925 (by decide) (by decide)
theorem own_e2_6 (x : Nat) : own_F2_6 (own_F1_6 x) = 256 * own_F2_5 (own_F1_5 (x / 256)) + own_f2 (own_f1 (x % 256)) := by
  rw [own_e1_6]; exact own_st2 _ _ 56294995342131 219902325555 (own_gpc ⟨x % 256, Nat.mod_lt _ (by decide)⟩).2.1 (by decide) (by decide)
theorem own_e3_6 (x : Nat) : own_F3_6 (own_F2_6 (own_F1_6 x)) = 256 * own_F3_5 (own_F2_5 (own_F1_5 (x / 256))) + own_g (x % 256) := by
  rw [own_e2_6]; exact own_st3 _ _ 16557351571215 64677154575 (own_gpc ⟨x % 256, Nat.mod_lt _ (by decide)⟩).2.2.1 ((by rw [own_e2_5]; exact own_lo _ _ (own_gpc ⟨x / 256 % 256, Nat.mod_lt _ (by decide)⟩).2.2.2)) (by decide) (by decide)
theorem own_e1_7 (x : Nat) : own_F1_7 x = 256 * own_F1_6 (x / 256) + own_f1 (x % 256) := own_st1 x 24019198012642645 93824992236885 (by decide) (by decide)
theorem own_e2_7 (x : Nat) : own_F2_7 (own_F1_7 x) = 256 * own_F2_6 (own_F1_6 (x / 256)) + own_f2 (own_f1 (x % 256)) := by
  rw [own_e1_7]; exact own_st2 _ _ 14411518807585587 56294995342131 (own_gpc ⟨x % 256, Nat.mod_lt _ (by decide)⟩).2.1 (by decide) (by decide)
theorem own_e3_7 (x : Nat) : own_F3_7 (own_F2_7 (own_F1_7 x)) = 256 * own_F3_6 (own_F2_6 (own_F1_6 (x / 256))) + own_g (x % 256) := by
  rw [own_e2_7]; exact own_st3 _ _ 4238682002231055 16557351571215 (own_gpc ⟨x % 256, Nat.mod_lt _ (by decide)⟩).2.2.1 ((by rw [own_e2_6]; exact own_lo _ _ (own_gpc ⟨x / 256 % 256, Nat.mod_lt _ (by decide)⟩).2.2.2)) (by decide) (by decide)
theorem own_e1_8 (x : Nat) : own_F1_8 x = 256 * own_F1_7 (x / 256) + own_f1 (x % 256) := own_st1 x 6148914691236517205 24019198012642645 (by decide) (by decide)
theorem own_e2_8 (x : Nat) : own_F2_8 (own_F1_8 x) = 256 * own_F2_7 (own_F1_7 (x / 256)) + own_f2 (own_f1 (x % 256)) := by
  rw [own_e1_8]; exact own_st2 _ _ 3689348814741910323 14411518807585587 (own_gpc ⟨x % 256, Nat.mod_lt _ (by decide)⟩).2.1 (by decide) (by decide)
theorem own_e3_8 (x : Nat) : own_F3_8 (own_F2_8 (own_F1_8 x)) = 256 * own_F3_7 (own_F2_7 (own_F1_7 (x / 256))) + own_g (x % 256) := by
  rw [own_e2_8]; exact own_st3 _ _ 1085102592571150095 4238682002231055 (own_gpc ⟨x % 256, Nat.mod_lt _ (by decide)⟩).2.2.1 ((by rw [own_e2_7]; exact own_lo _ _ (own_gpc ⟨x / 256 % 256, Nat.mod_lt _ (by decide)⟩).2.2.2)) (by decide) (by decide)
theorem own_e3_0 (x : Nat) : own_F3_0 x = 0 := by unfold own_F3_0; simp
theorem own_pc8 (k x : Nat) : own_pc (k + 8) x = own_pc 8 (x % 256) + own_pc k (x / 256) := by
  have e : x / 2 / 2 / 2 / 2 / 2 / 2 / 2 / 2 = x / 256 := by omega
  simp only [own_pc]
  rw [e]
  omega
def own_U (x : Int64) : Nat := x.toBitVec.toNat
theorem own_Ui (x : Int64) : (own_U x : Int) = x.toInt % 18446744073709551616 := by
  have l := x.toBitVec.isLt
  show (x.toBitVec.toNat : Int) = x.toBitVec.toInt % _
  rw [BitVec.toInt_eq_toNat_cond]; split <;> omega
theorem own_Ult (x : Int64) : own_U x < 18446744073709551616 := x.toBitVec.isLt
theorem own_Uand (x y : Int64) : own_U (x &&& y) = own_U x &&& own_U y := by
  show (x.toBitVec &&& y.toBitVec).toNat = _
  rw [BitVec.toNat_and]; rfl
theorem own_Uadd (x y : Int64) : own_U (x + y) = (own_U x + own_U y) % 18446744073709551616 := by
  have a := own_Ui x; have b := own_Ui y; have d := own_Ui (x + y); have q := c_ladd x y
  omega
theorem own_Usub (x y : Int64) (hh : own_U y ≤ own_U x) : own_U (x - y) = own_U x - own_U y := by
  have a := own_Ui x; have b := own_Ui y; have d := own_Ui (x - y); have q := c_lsub x y
  have := own_Ult x; have := own_Ult y
  omega
theorem own_Ushr (x : Int64) (k : Int32) (j : Nat) (P : Nat) (hP : 2 ^ j = P) (hk : k.toBitVec.toNat % 64 = j) (h0 : 0 < j) (hj : j < 64) : own_U (own_ushrL x k) = own_U x / P := by
  have q := own_u x k j hk h0
  rw [← own_Ui x, hP] at q
  have d := own_Ui (own_ushrL x k)
  have l := own_Ult x
  have hP1 : 1 ≤ P := by rw [← hP]; exact Nat.one_le_two_pow
  have q1 : ((own_U x : Int) / (P : Int)) = ((own_U x / P : Nat) : Int) := (Int.natCast_ediv _ _).symm
  have q2 : own_U x / P ≤ own_U x := Nat.div_le_self _ _
  rw [q, q1] at d
  generalize own_U x / P = D at d q2 ⊢
  omega
theorem own_Ut (x : Int64) : own_U (own_t x) = own_F3_8 (own_F2_8 (own_F1_8 (own_U x))) := by
  have a1 : own_U (own_x1 x) = own_F1_8 (own_U x) := by
    have l : own_U x / 2 &&& 6148914691236517205 ≤ own_U x / 2 := Nat.and_le_left
    have e : own_U ((own_ushrL x 1) &&& 6148914691236517205) = own_U x / 2 &&& 6148914691236517205 := by
      rw [own_Uand, own_Ushr x 1 1 2 (by decide) (by decide) (by decide) (by decide)]; rfl
    unfold own_x1 own_F1_8
    rw [own_Usub _ _ (by rw [e]; omega), e]
  have a2 : own_U (own_x2 (own_x1 x)) = own_F2_8 (own_F1_8 (own_U x)) := by
    rw [← a1]
    generalize own_x1 x = y
    unfold own_x2 own_F2_8
    rw [own_Uadd, own_Uand, own_Uand, own_Ushr y 2 2 4 (by decide) (by decide) (by decide) (by decide)]
    have l1 : own_U y &&& 3689348814741910323 ≤ 3689348814741910323 := Nat.and_le_right
    have l2 : own_U y / 4 &&& 3689348814741910323 ≤ 3689348814741910323 := Nat.and_le_right
    have e : own_U (3689348814741910323 : Int64) = 3689348814741910323 := rfl
    rw [e]; omega
  have l : own_U (own_x2 (own_x1 x)) ≤ 2 * 3689348814741910323 := by
    rw [a2]; generalize own_F1_8 (own_U x) = y
    unfold own_F2_8
    have l1 : y &&& 3689348814741910323 ≤ 3689348814741910323 := Nat.and_le_right
    have l2 : y / 4 &&& 3689348814741910323 ≤ 3689348814741910323 := Nat.and_le_right
    omega
  rw [← a2]
  show own_U (own_x3 (own_x2 (own_x1 x))) = _
  generalize own_x2 (own_x1 x) = y at l ⊢
  unfold own_x3 own_F3_8
  rw [own_Uand, own_Uadd, own_Ushr y 4 4 16 (by decide) (by decide) (by decide) (by decide)]
  have e : own_U (1085102592571150095 : Int64) = 1085102592571150095 := rfl
  rw [e, Nat.mod_eq_of_lt (by omega)]
theorem own_g15 (v : Nat) : own_g v ≤ 15 := by unfold own_g; omega
theorem own_bcpc (x : Int64) : (own_bc x).toInt = (own_pc 64 (own_U x) : Nat) := by
  have h := own_Ut x
  have hi := own_Ui (own_t x)
  rw [h] at hi
  generalize own_U x = X at h hi ⊢
  rw [own_e3_8, own_e3_7, own_e3_6, own_e3_5, own_e3_4, own_e3_3, own_e3_2, own_e3_1, own_e3_0] at hi
  have l0 := own_g15 (X % 256)
  have l1 := own_g15 (X / 256 % 256)
  have l2 := own_g15 (X / 256 / 256 % 256)
  have l3 := own_g15 (X / 256 / 256 / 256 % 256)
  have l4 := own_g15 (X / 256 / 256 / 256 / 256 % 256)
  have l5 := own_g15 (X / 256 / 256 / 256 / 256 / 256 % 256)
  have l6 := own_g15 (X / 256 / 256 / 256 / 256 / 256 / 256 % 256)
  have l7 := own_g15 (X / 256 / 256 / 256 / 256 / 256 / 256 / 256 % 256)
  have r := own_bcsum (own_t x) (own_g (X % 256) : Nat) (own_g (X / 256 % 256) : Nat) (own_g (X / 256 / 256 % 256) : Nat) (own_g (X / 256 / 256 / 256 % 256) : Nat) (own_g (X / 256 / 256 / 256 / 256 % 256) : Nat) (own_g (X / 256 / 256 / 256 / 256 / 256 % 256) : Nat) (own_g (X / 256 / 256 / 256 / 256 / 256 / 256 % 256) : Nat) (own_g (X / 256 / 256 / 256 / 256 / 256 / 256 / 256 % 256) : Nat) (by have := (own_t x).toInt_lt; have := (own_t x).le_toInt; omega) (by omega) (by omega) (by omega) (by omega) (by omega) (by omega) (by omega) (by omega)
  have e : own_pc 64 X = own_g (X % 256) + own_g (X / 256 % 256) + own_g (X / 256 / 256 % 256) + own_g (X / 256 / 256 / 256 % 256) + own_g (X / 256 / 256 / 256 / 256 % 256) + own_g (X / 256 / 256 / 256 / 256 / 256 % 256) + own_g (X / 256 / 256 / 256 / 256 / 256 / 256 % 256) + own_g (X / 256 / 256 / 256 / 256 / 256 / 256 / 256 % 256) := by
    rw [own_pc8 56 (X), own_pc8 48 (X / 256), own_pc8 40 (X / 256 / 256), own_pc8 32 (X / 256 / 256 / 256), own_pc8 24 (X / 256 / 256 / 256 / 256), own_pc8 16 (X / 256 / 256 / 256 / 256 / 256), own_pc8 8 (X / 256 / 256 / 256 / 256 / 256 / 256), own_pc8 0 (X / 256 / 256 / 256 / 256 / 256 / 256 / 256)]
    have k0 := (own_gpc ⟨X % 256, Nat.mod_lt _ (by decide)⟩).1
    have k1 := (own_gpc ⟨X / 256 % 256, Nat.mod_lt _ (by decide)⟩).1
    have k2 := (own_gpc ⟨X / 256 / 256 % 256, Nat.mod_lt _ (by decide)⟩).1
    have k3 := (own_gpc ⟨X / 256 / 256 / 256 % 256, Nat.mod_lt _ (by decide)⟩).1
    have k4 := (own_gpc ⟨X / 256 / 256 / 256 / 256 % 256, Nat.mod_lt _ (by decide)⟩).1
    have k5 := (own_gpc ⟨X / 256 / 256 / 256 / 256 / 256 % 256, Nat.mod_lt _ (by decide)⟩).1
    have k6 := (own_gpc ⟨X / 256 / 256 / 256 / 256 / 256 / 256 % 256, Nat.mod_lt _ (by decide)⟩).1
    have k7 := (own_gpc ⟨X / 256 / 256 / 256 / 256 / 256 / 256 / 256 % 256, Nat.mod_lt _ (by decide)⟩).1
    simp only at k0 k1 k2 k3 k4 k5 k6 k7
    rw [k0, k1, k2, k3, k4, k5, k6, k7]
    rw [own_pc0]; omega
  show ((own_sh (own_sh (own_sh (own_t x) 8) 16) 32).toInt32 &&& 127).toInt = _
  rw [r, e]; omega
theorem own_bit2 : ∀ a b : Fin 2, (a.val &&& b.val) + ((1 - a.val) &&& b.val) = b.val := by decide
theorem own_and2 (a b : Nat) : (a &&& b) % 2 = (a % 2) &&& (b % 2) ∧ (a &&& b) / 2 = (a / 2) &&& (b / 2) := by
  constructor
  · have := @Nat.and_mod_two_pow a b 1; simpa using this
  · have := @Nat.and_div_two_pow a b 1; simpa using this
theorem own_comp : ∀ (k : Nat) (P x m : Nat), 2 ^ k = P → x < P → own_pc k (x &&& m) + own_pc k ((P - 1 - x) &&& m) = own_pc k m
  | 0, _, _, _, _, _ => rfl
  | k + 1, P, x, m, hP, hx => by
    obtain ⟨R, hR⟩ : ∃ R, 2 ^ k = R := ⟨_, rfl⟩
    have hPR : P = 2 * R := by rw [← hP, Nat.pow_succ, hR]; omega
    have ih := own_comp k R (x / 2) (m / 2) hR (by omega)
    have a := own_and2 x m
    have b := own_and2 (P - 1 - x) m
    have c1 : (P - 1 - x) % 2 = 1 - x % 2 := by omega
    have c2 : (P - 1 - x) / 2 = R - 1 - x / 2 := by omega
    have d := own_bit2 ⟨x % 2, Nat.mod_lt _ (by decide)⟩ ⟨m % 2, Nat.mod_lt _ (by decide)⟩
    simp only at d
    simp only [own_pc]
    rw [a.1, a.2, b.1, b.2, c1, c2]
    omega
theorem own_Unot (x : Int64) : own_U (x ^^^ -1) = 18446744073709551616 - 1 - own_U x := by
  show (x.toBitVec ^^^ (-1 : Int64).toBitVec).toNat = _
  have e : (-1 : Int64).toBitVec = BitVec.allOnes 64 := by decide
  rw [e, BitVec.xor_allOnes, BitVec.toNat_not]; rfl
theorem own_bcadd (x m : Int64) : (own_bc (x &&& m)).toInt + (own_bc ((x ^^^ -1) &&& m)).toInt = (own_bc m).toInt := by
  rw [own_bcpc, own_bcpc, own_bcpc, own_Uand, own_Uand, own_Unot]
  have := own_comp 64 18446744073709551616 (own_U x) (own_U m) (by decide) (own_Ult x)
  omega
theorem own_bcadd1 (x : Int64) : (own_bc x).toInt + (own_bc (x ^^^ -1)).toInt = 64 := by
  have := own_bcadd x (-1)
  have e : own_bc (-1) = 64 := by decide +kernel
  rw [e, show (64 : Int32).toInt = 64 from rfl] at this
  rwa [Int64.and_neg_one, Int64.and_neg_one] at this

def own_low (k : Int32) : Int64 := own_ushrL (-1) (64 - k)
def own_fm (sz : Int32) (w : Int64) : Int64 := if sz % 64 = 0 then w else w &&& (((1 : Int64) <<< (sz &&& 63).toInt64) - 1)
def own_fc (sz cnt : Int32) : Int32 := if cnt.toInt < 0 then -1 else sz - cnt
theorem own_fcm (sz : Int32) : own_fc sz (-1) = -1 := if_pos (by decide)
theorem own_fcp {sz cnt : Int32} (hh : 0 ≤ cnt.toInt) : own_fc sz cnt = sz - cnt := if_neg (by omega)
def own_kk (n : Int32) : Int32 := if n.toInt ≤ 64 then n else n - 64
theorem own_mkT : ∀ j : Fin 128, ((Int32.ofNat (j.val + 1)) % 64 = 0 → own_low (own_kk (Int32.ofNat (j.val + 1))) = -1) ∧ (¬ (Int32.ofNat (j.val + 1)) % 64 = 0 → ((1 : Int64) <<< ((Int32.ofNat (j.val + 1)) &&& 63).toInt64) - 1 = own_low (own_kk (Int32.ofNat (j.val + 1)))) ∧ own_bc (own_low (own_kk (Int32.ofNat (j.val + 1)))) = own_kk (Int32.ofNat (j.val + 1)) := by decide +kernel
theorem own_mk (n : Int32) (h1 : 1 ≤ n.toInt) (h2 : n.toInt ≤ 128) : (n % 64 = 0 → own_low (own_kk n) = -1) ∧ (¬ n % 64 = 0 → ((1 : Int64) <<< (n &&& 63).toInt64) - 1 = own_low (own_kk n)) ∧ own_bc (own_low (own_kk n)) = own_kk n := by
  have e : n = Int32.ofNat ((n.toInt - 1).toNat + 1) := by
    apply Int32.toInt_inj.mp
    rw [Int32.toInt_ofNat_of_lt (by omega)]; omega
  have := own_mkT ⟨(n.toInt - 1).toNat, by omega⟩
  simp only at this
  rw [← e] at this
  exact this
theorem own_bits (b m : Int64) : ((b &&& m) ^^^ -1) &&& m = (b ^^^ -1) &&& m := by
  apply Int64.toBitVec_inj.mp
  simp only [Int64.toBitVec_and, Int64.toBitVec_xor]
  apply BitVec.eq_of_getLsbD_eq
  intro i hi
  simp only [BitVec.getLsbD_and, BitVec.getLsbD_xor]
  cases b.toBitVec.getLsbD i <;> cases m.toBitVec.getLsbD i <;> simp
theorem own_fme (b : Int64) (n : Int32) (h1 : 1 ≤ n.toInt) (h2 : n.toInt ≤ 128) : own_fm n ((b &&& own_low (own_kk n)) ^^^ -1) = (b ^^^ -1) &&& own_low (own_kk n) := by
  obtain ⟨q1, q2, -⟩ := own_mk n h1 h2
  unfold own_fm
  by_cases z : n % 64 = 0
  · rw [if_pos z, q1 z, Int64.and_neg_one, Int64.and_neg_one]
  · rw [if_neg z, q2 z]; exact own_bits b _
theorem own_kkS (n : Int32) (h : n.toInt ≤ 64) : own_kk n = n := if_pos h
theorem own_kkL (n : Int32) (h : 64 < n.toInt) : own_kk n = n - 64 := if_neg (by omega)
theorem own_z1 (x : Int64) : 0 ≤ ((0 : Int32) + own_bc x).toInt := by rw [Int32.zero_add]; exact (own_bb x).1
theorem own_z2v (x y : Int64) : (((0 : Int32) + own_bc x) + own_bc y).toInt = (own_bc x).toInt + (own_bc y).toInt := by
  have := own_bb x; have := own_bb y
  rw [Int32.zero_add, own_iadd (by omega) (by omega)]
theorem own_z2 (x y : Int64) : 0 ≤ (((0 : Int32) + own_bc x) + own_bc y).toInt := by
  have := own_bb x; have := own_bb y
  rw [own_z2v]; omega
theorem own_one (a : Int64) (n : Int32) (h1 : 1 ≤ n.toInt) (h2 : n.toInt ≤ 64) : n - ((0 : Int32) + own_bc (a &&& own_low n)) = (0 : Int32) + own_bc ((a ^^^ -1) &&& own_low n) := by
  have q := (own_mk n h1 (by omega)).2.2
  rw [own_kkS n h2] at q
  have s := own_bcadd a (own_low n)
  rw [q] at s
  have := own_bb (a &&& own_low n); have := own_bb ((a ^^^ -1) &&& own_low n)
  apply Int32.toInt_inj.mp
  rw [Int32.zero_add, Int32.zero_add, own_isub (by omega) (by omega)]; omega
theorem own_two (a b : Int64) (n : Int32) (h1 : 64 < n.toInt) (h2 : n.toInt ≤ 128) : n - (((0 : Int32) + own_bc a) + own_bc (b &&& own_low (n - 64))) = ((0 : Int32) + own_bc (a ^^^ -1)) + own_bc ((b ^^^ -1) &&& own_low (n - 64)) := by
  have q := (own_mk n (by omega) h2).2.2
  rw [own_kkL n h1] at q
  have s := own_bcadd b (own_low (n - 64))
  rw [q, own_isubK (b := 64) rfl (by omega) (by omega)] at s
  have s1 := own_bcadd1 a
  have := own_bb a; have := own_bb (a ^^^ -1); have := own_bb (b &&& own_low (n - 64)); have := own_bb ((b ^^^ -1) &&& own_low (n - 64))
  apply Int32.toInt_inj.mp
  rw [own_isub (by rw [own_z2v]; omega) (by rw [own_z2v]; omega), own_z2v, own_z2v]; omega
theorem pd__I_J : parseMethodDescriptor "(I)J" = some ⟨[.int], some .long⟩ := by decide +kernel
theorem pd__J_I : parseMethodDescriptor "(J)I" = some ⟨[.long], some .int⟩ := by decide +kernel
theorem pd___I : parseMethodDescriptor "()I" = some ⟨[], some .int⟩ := by decide +kernel
theorem pd___JII_V : parseMethodDescriptor "([JII)V" = some ⟨[(.array .long), .int, .int], none⟩ := by decide +kernel
theorem pd___V : parseMethodDescriptor "()V" = some ⟨[], none⟩ := by decide +kernel
theorem pd____J : parseMethodDescriptor "()[J" = some ⟨[], some (.array .long)⟩ := by decide +kernel
theorem d5_0 : decode jdk_35_method_50_code 0 = .ok (.lload_n 0, 1) := by decide +kernel
theorem d5_1 : decode jdk_35_method_50_code 1 = .ok (.lload_n 0, 1) := by decide +kernel
theorem d5_2 : decode jdk_35_method_50_code 2 = .ok (.iconst 1, 1) := by decide +kernel
theorem d5_3 : decode jdk_35_method_50_code 3 = .ok (.lushr, 1) := by decide +kernel
theorem d5_4 : decode jdk_35_method_50_code 4 = .ok (.ldc2_w 314, 3) := by decide +kernel
theorem d5_7 : decode jdk_35_method_50_code 7 = .ok (.land, 1) := by decide +kernel
theorem d5_8 : decode jdk_35_method_50_code 8 = .ok (.lsub, 1) := by decide +kernel
theorem d5_9 : decode jdk_35_method_50_code 9 = .ok (.lstore_n 0, 1) := by decide +kernel
theorem d5_10 : decode jdk_35_method_50_code 10 = .ok (.lload_n 0, 1) := by decide +kernel
theorem d5_11 : decode jdk_35_method_50_code 11 = .ok (.ldc2_w 316, 3) := by decide +kernel
theorem d5_14 : decode jdk_35_method_50_code 14 = .ok (.land, 1) := by decide +kernel
theorem d5_15 : decode jdk_35_method_50_code 15 = .ok (.lload_n 0, 1) := by decide +kernel
theorem d5_16 : decode jdk_35_method_50_code 16 = .ok (.iconst 2, 1) := by decide +kernel
theorem d5_17 : decode jdk_35_method_50_code 17 = .ok (.lushr, 1) := by decide +kernel
theorem d5_18 : decode jdk_35_method_50_code 18 = .ok (.ldc2_w 316, 3) := by decide +kernel
theorem d5_21 : decode jdk_35_method_50_code 21 = .ok (.land, 1) := by decide +kernel
theorem d5_22 : decode jdk_35_method_50_code 22 = .ok (.ladd, 1) := by decide +kernel
theorem d5_23 : decode jdk_35_method_50_code 23 = .ok (.lstore_n 0, 1) := by decide +kernel
theorem d5_24 : decode jdk_35_method_50_code 24 = .ok (.lload_n 0, 1) := by decide +kernel
theorem d5_25 : decode jdk_35_method_50_code 25 = .ok (.lload_n 0, 1) := by decide +kernel
theorem d5_26 : decode jdk_35_method_50_code 26 = .ok (.iconst 4, 1) := by decide +kernel
theorem d5_27 : decode jdk_35_method_50_code 27 = .ok (.lushr, 1) := by decide +kernel
theorem d5_28 : decode jdk_35_method_50_code 28 = .ok (.ladd, 1) := by decide +kernel
theorem d5_29 : decode jdk_35_method_50_code 29 = .ok (.ldc2_w 318, 3) := by decide +kernel
theorem d5_32 : decode jdk_35_method_50_code 32 = .ok (.land, 1) := by decide +kernel
theorem d5_33 : decode jdk_35_method_50_code 33 = .ok (.lstore_n 0, 1) := by decide +kernel
theorem d5_34 : decode jdk_35_method_50_code 34 = .ok (.lload_n 0, 1) := by decide +kernel
theorem d5_35 : decode jdk_35_method_50_code 35 = .ok (.lload_n 0, 1) := by decide +kernel
theorem d5_36 : decode jdk_35_method_50_code 36 = .ok (.bipush 8, 2) := by decide +kernel
theorem d5_38 : decode jdk_35_method_50_code 38 = .ok (.lushr, 1) := by decide +kernel
theorem d5_39 : decode jdk_35_method_50_code 39 = .ok (.ladd, 1) := by decide +kernel
theorem d5_40 : decode jdk_35_method_50_code 40 = .ok (.lstore_n 0, 1) := by decide +kernel
theorem d5_41 : decode jdk_35_method_50_code 41 = .ok (.lload_n 0, 1) := by decide +kernel
theorem d5_42 : decode jdk_35_method_50_code 42 = .ok (.lload_n 0, 1) := by decide +kernel
theorem d5_43 : decode jdk_35_method_50_code 43 = .ok (.bipush 16, 2) := by decide +kernel
theorem d5_45 : decode jdk_35_method_50_code 45 = .ok (.lushr, 1) := by decide +kernel
theorem d5_46 : decode jdk_35_method_50_code 46 = .ok (.ladd, 1) := by decide +kernel
theorem d5_47 : decode jdk_35_method_50_code 47 = .ok (.lstore_n 0, 1) := by decide +kernel
theorem d5_48 : decode jdk_35_method_50_code 48 = .ok (.lload_n 0, 1) := by decide +kernel
theorem d5_49 : decode jdk_35_method_50_code 49 = .ok (.lload_n 0, 1) := by decide +kernel
theorem d5_50 : decode jdk_35_method_50_code 50 = .ok (.bipush 32, 2) := by decide +kernel
theorem d5_52 : decode jdk_35_method_50_code 52 = .ok (.lushr, 1) := by decide +kernel
theorem d5_53 : decode jdk_35_method_50_code 53 = .ok (.ladd, 1) := by decide +kernel
theorem d5_54 : decode jdk_35_method_50_code 54 = .ok (.lstore_n 0, 1) := by decide +kernel
theorem d5_55 : decode jdk_35_method_50_code 55 = .ok (.lload_n 0, 1) := by decide +kernel
theorem d5_56 : decode jdk_35_method_50_code 56 = .ok (.l2i, 1) := by decide +kernel
theorem d5_57 : decode jdk_35_method_50_code 57 = .ok (.bipush 127, 2) := by decide +kernel
theorem d5_59 : decode jdk_35_method_50_code 59 = .ok (.iand, 1) := by decide +kernel
theorem d5_60 : decode jdk_35_method_50_code 60 = .ok (.ireturn, 1) := by decide +kernel
theorem pn_5 : plainFor (⟨"java/lang/Long", "bitCount", "(J)I"⟩ : MethodName) = true := plainFor_of_name (by first | (simp [plainName, overriddenIn]; done) | decide +kernel)
theorem ef_5 (m : MethodId) (x0 : Int64) : entryFrame m #[(.long x0)] 2 = mkF m 0 #[.val (.long x0), .second] [] := by first | (simp [entryFrame, mkF, argsToLocals, Value.category]; done) | rfl
set_option maxRecDepth 65536 in
set_option maxHeartbeats 40000000 in
theorem rm5 (l : Launch) (Z : State) (a0 : Array Value) (hw : ∀ d ∈ tables_1, d.before a0 Z = true) (ws : List Jvm.Cond) (q : Int64) (h0 : Heap) (n0 : Nat) (Z0 : n0 ≤ h0.size)  :
    own_C l Z (⟨"java/lang/Long", "bitCount", "(J)I"⟩ : MethodName) jdk_35_method_50_code 2 (some .int) ({ frames := 0, cells := 0, slots := 0, locals := 0 } : Room) n0 ws #[(.long q)] h0 (fun v h' => v = some (.int (own_bc q)) ∧ h' = h0) := by
  refine own_C.of pn_5 Z0 ?_
  intro p e s m below meth c T A S
  rw [ef_5]
  refine s_lloadN 1 A S d5_0 rfl rfl ?_
  refine s_lloadN 2 A S d5_1 rfl rfl ?_
  refine s_iconst (z := (1 : Int32)) 3 A S d5_2 rfl rfl ?_
  refine s_lushr (z := (own_ushrL q (1 : Int32))) 4 A S d5_3 rfl rfl ?_
  refine s_ldc2 7 A S (hw _ (List.mem_of_getElem? (i := 30) rfl)) d5_4 rfl ?_
  refine s_land (z := ((own_ushrL q (1 : Int32)) &&& (6148914691236517205 : Int64))) 8 A S d5_7 rfl rfl ?_
  obtain ⟨t1, h_t1⟩ : ∃ z_, (q - ((own_ushrL q (1 : Int32)) &&& (6148914691236517205 : Int64))) = z_ := ⟨_, rfl⟩
  refine s_lsub (z := t1) 9 A S d5_8 h_t1 rfl ?_
  refine s_lstoreN (Ls' := #[.val (.long t1), .second]) 10 A S d5_9 rfl rfl ?_
  refine s_lloadN 11 A S d5_10 rfl rfl ?_
  refine s_ldc2 14 A S (hw _ (List.mem_of_getElem? (i := 31) rfl)) d5_11 rfl ?_
  refine s_land (z := (t1 &&& (3689348814741910323 : Int64))) 15 A S d5_14 rfl rfl ?_
  refine s_lloadN 16 A S d5_15 rfl rfl ?_
  refine s_iconst (z := (2 : Int32)) 17 A S d5_16 rfl rfl ?_
  refine s_lushr (z := (own_ushrL t1 (2 : Int32))) 18 A S d5_17 rfl rfl ?_
  refine s_ldc2 21 A S (hw _ (List.mem_of_getElem? (i := 31) rfl)) d5_18 rfl ?_
  refine s_land (z := ((own_ushrL t1 (2 : Int32)) &&& (3689348814741910323 : Int64))) 22 A S d5_21 rfl rfl ?_
  obtain ⟨t2, h_t2⟩ : ∃ z_, ((t1 &&& (3689348814741910323 : Int64)) + ((own_ushrL t1 (2 : Int32)) &&& (3689348814741910323 : Int64))) = z_ := ⟨_, rfl⟩
  refine s_ladd (z := t2) 23 A S d5_22 h_t2 rfl ?_
  refine s_lstoreN (Ls' := #[.val (.long t2), .second]) 24 A S d5_23 rfl rfl ?_
  refine s_lloadN 25 A S d5_24 rfl rfl ?_
  refine s_lloadN 26 A S d5_25 rfl rfl ?_
  refine s_iconst (z := (4 : Int32)) 27 A S d5_26 rfl rfl ?_
  refine s_lushr (z := (own_ushrL t2 (4 : Int32))) 28 A S d5_27 rfl rfl ?_
  refine s_ladd (z := (t2 + (own_ushrL t2 (4 : Int32)))) 29 A S d5_28 rfl rfl ?_
  refine s_ldc2 32 A S (hw _ (List.mem_of_getElem? (i := 32) rfl)) d5_29 rfl ?_
  obtain ⟨t3, h_t3⟩ : ∃ z_, ((t2 + (own_ushrL t2 (4 : Int32))) &&& (1085102592571150095 : Int64)) = z_ := ⟨_, rfl⟩
  refine s_land (z := t3) 33 A S d5_32 h_t3 rfl ?_
  refine s_lstoreN (Ls' := #[.val (.long t3), .second]) 34 A S d5_33 rfl rfl ?_
  refine s_lloadN 35 A S d5_34 rfl rfl ?_
  refine s_lloadN 36 A S d5_35 rfl rfl ?_
  refine s_bipush (z := (8 : Int32)) 38 A S d5_36 rfl rfl ?_
  refine s_lushr (z := (own_ushrL t3 (8 : Int32))) 39 A S d5_38 rfl rfl ?_
  obtain ⟨t4, h_t4⟩ : ∃ z_, (t3 + (own_ushrL t3 (8 : Int32))) = z_ := ⟨_, rfl⟩
  refine s_ladd (z := t4) 40 A S d5_39 h_t4 rfl ?_
  refine s_lstoreN (Ls' := #[.val (.long t4), .second]) 41 A S d5_40 rfl rfl ?_
  refine s_lloadN 42 A S d5_41 rfl rfl ?_
  refine s_lloadN 43 A S d5_42 rfl rfl ?_
  refine s_bipush (z := (16 : Int32)) 45 A S d5_43 rfl rfl ?_
  refine s_lushr (z := (own_ushrL t4 (16 : Int32))) 46 A S d5_45 rfl rfl ?_
  obtain ⟨t5, h_t5⟩ : ∃ z_, (t4 + (own_ushrL t4 (16 : Int32))) = z_ := ⟨_, rfl⟩
  refine s_ladd (z := t5) 47 A S d5_46 h_t5 rfl ?_
  refine s_lstoreN (Ls' := #[.val (.long t5), .second]) 48 A S d5_47 rfl rfl ?_
  refine s_lloadN 49 A S d5_48 rfl rfl ?_
  refine s_lloadN 50 A S d5_49 rfl rfl ?_
  refine s_bipush (z := (32 : Int32)) 52 A S d5_50 rfl rfl ?_
  refine s_lushr (z := (own_ushrL t5 (32 : Int32))) 53 A S d5_52 rfl rfl ?_
  obtain ⟨t6, h_t6⟩ : ∃ z_, (t5 + (own_ushrL t5 (32 : Int32))) = z_ := ⟨_, rfl⟩
  refine s_ladd (z := t6) 54 A S d5_53 h_t6 rfl ?_
  refine s_lstoreN (Ls' := #[.val (.long t6), .second]) 55 A S d5_54 rfl rfl ?_
  refine s_lloadN 56 A S d5_55 rfl rfl ?_
  refine s_l2i (z := ((t6).toInt32)) 57 A S d5_56 rfl rfl ?_
  refine s_bipush (z := (127 : Int32)) 59 A S d5_57 rfl rfl ?_
  refine s_iand (z := (((t6).toInt32) &&& (127 : Int32))) 60 A S d5_59 rfl rfl ?_
  exact s_retI A S d5_60 (by decide) (by decide) ⟨by subst h_t6 h_t5 h_t4 h_t3 h_t2 h_t1; rfl, rfl⟩
theorem d2_0 : decode prog_20_method_1_code 0 = .ok (.aload_n 0, 1) := by decide +kernel
theorem d2_1 : decode prog_20_method_1_code 1 = .ok (.invokespecial 1, 3) := by decide +kernel
theorem d2_4 : decode prog_20_method_1_code 4 = .ok (.aload_n 0, 1) := by decide +kernel
theorem d2_5 : decode prog_20_method_1_code 5 = .ok (.aload_n 1, 1) := by decide +kernel
theorem d2_6 : decode prog_20_method_1_code 6 = .ok (.putfield 7, 3) := by decide +kernel
theorem d2_9 : decode prog_20_method_1_code 9 = .ok (.aload_n 0, 1) := by decide +kernel
theorem d2_10 : decode prog_20_method_1_code 10 = .ok (.iload_n 2, 1) := by decide +kernel
theorem d2_11 : decode prog_20_method_1_code 11 = .ok (.putfield 13, 3) := by decide +kernel
theorem d2_14 : decode prog_20_method_1_code 14 = .ok (.aload_n 0, 1) := by decide +kernel
theorem d2_15 : decode prog_20_method_1_code 15 = .ok (.iload_n 3, 1) := by decide +kernel
theorem d2_16 : decode prog_20_method_1_code 16 = .ok (.putfield 17, 3) := by decide +kernel
theorem d2_19 : decode prog_20_method_1_code 19 = .ok (.return_, 1) := by decide +kernel
theorem pn_2 : plainFor (⟨"com/example/orderly_sieve/orderlysieve/query/RowSet", "<init>", "([JII)V"⟩ : MethodName) = true := plainFor_of_name (by first | (simp [plainName, overriddenIn]; done) | decide +kernel)
theorem ef_2 (m : MethodId) (x0 : Addr) (x1 : Addr) (x2 : Int32) (x3 : Int32) : entryFrame m #[(.ref x0), (.ref x1), (.int x2), (.int x3)] 4 = mkF m 0 #[.val (.ref x0), .val (.ref x1), .val (.int x2), .val (.int x3)] [] := by first | (simp [entryFrame, mkF, argsToLocals, Value.category]; done) | rfl
set_option maxRecDepth 65536 in
set_option maxHeartbeats 40000000 in
theorem rm2 (l : Launch) (Z : State) (a0 : Array Value) (hw : ∀ d ∈ tables_1, d.before a0 Z = true) (ws : List Jvm.Cond) (b ar : Addr) (q r : Int32) (h0 : Heap) (n0 : Nat) (Z0 : n0 ≤ h0.size) (E0 : Exa Z h0 b "com/example/orderly_sieve/orderlysieve/query/RowSet") (F0 : Fld Z h0 b "com/example/orderly_sieve/orderlysieve/query/RowSet" "words" "[J" .null) (F1 : Fld Z h0 b "com/example/orderly_sieve/orderlysieve/query/RowSet" "size" "I" (.int (0 : Int32))) (F2 : Fld Z h0 b "com/example/orderly_sieve/orderlysieve/query/RowSet" "count" "I" (.int (0 : Int32))) (g0 : n0 ≤ b) :
    own_C l Z (⟨"com/example/orderly_sieve/orderlysieve/query/RowSet", "<init>", "([JII)V"⟩ : MethodName) prog_20_method_1_code 4 none ({ frames := 1, cells := 0, slots := 0, locals := 12 } : Room) n0 ws #[(.ref b), (.ref ar), (.int q), (.int r)] h0 (fun v h' => v = none ∧ Keep h0 h' [b] ∧ Exa Z h' b "com/example/orderly_sieve/orderlysieve/query/RowSet" ∧ Fld Z h' b "com/example/orderly_sieve/orderlysieve/query/RowSet" "words" "[J" (.ref ar) ∧ Fld Z h' b "com/example/orderly_sieve/orderlysieve/query/RowSet" "size" "I" (.int q) ∧ Fld Z h' b "com/example/orderly_sieve/orderlysieve/query/RowSet" "count" "I" (.int r)) := by
  refine own_C.of pn_2 Z0 ?_
  intro p e s m below meth c T A S
  rw [ef_2]
  refine s_aloadN 1 A S d2_0 rfl (by first | rfl | assumption) rfl ?_
  refine s_initO 4 A S (hw _ (List.mem_of_getElem? (i := 12) rfl)) (hw _ (List.mem_of_getElem? (i := 13) rfl)) (hw _ (List.mem_of_getElem? (i := 14) rfl)) d2_1 rfl rfl (by decide) (Nat.le_of_ble_eq_true rfl) fun T1 S2 => ?_
  refine s_aloadN 5 A S2 d2_4 rfl (by first | rfl | assumption) rfl ?_
  refine s_aloadN 6 A S2 d2_5 rfl (by first | rfl | assumption) rfl ?_
  refine s_putF (ty := (.array .long)) 9 A S2 (hw _ (List.mem_of_getElem? (i := 15) rfl)) F0 E0 (Or.inr ⟨(hw _ (List.mem_of_getElem? (i := 16) rfl)), rfl, rfl⟩) (hw _ (List.mem_of_getElem? (i := 7) rfl)) g0 d2_6 (by decide) rfl rfl rfl fun T3 h4 W6 S5 => ?_
  have F7 := Fld.same W6 F0
  have F9 := Fld.other W6 F1 (Or.inr (slot_ne (Or.inr (hw _ (List.mem_of_getElem? (i := 18) rfl))) (Or.inr (hw _ (List.mem_of_getElem? (i := 16) rfl))) (by decide) (t := .int) (t' := (.array .long)) (by decide) (by decide)))
  have F10 := Fld.other W6 F2 (Or.inr (slot_ne (Or.inl (hw _ (List.mem_of_getElem? (i := 20) rfl))) (Or.inr (hw _ (List.mem_of_getElem? (i := 16) rfl))) (by decide) (t := .int) (t' := (.array .long)) (by decide) (by decide)))
  have E11 := Exa.wr W6 E0
  have Z12 : n0 ≤ h4.size := by rw [W6.size]; exact Z0
  have K13 : Keep h0 h4 [b] := (Keep.refl h0 [b]).wr W6 (Or.inl (List.mem_of_getElem? (i := 0) rfl))
  refine s_aloadN 10 A S5 d2_9 rfl (by first | rfl | assumption) rfl ?_
  refine s_iloadN 11 A S5 d2_10 rfl rfl ?_
  refine s_putF (ty := .int) 14 A S5 (hw _ (List.mem_of_getElem? (i := 17) rfl)) F9 E11 (Or.inr ⟨(hw _ (List.mem_of_getElem? (i := 18) rfl)), rfl, rfl⟩) (hw _ (List.mem_of_getElem? (i := 7) rfl)) g0 d2_11 (by decide) rfl rfl rfl fun T14 h15 W17 S16 => ?_
  have F18 := Fld.same W17 F9
  have F19 := Fld.other W17 F7 (Or.inr (slot_ne (Or.inr (hw _ (List.mem_of_getElem? (i := 16) rfl))) (Or.inr (hw _ (List.mem_of_getElem? (i := 18) rfl))) (by decide) (t := (.array .long)) (t' := .int) (by decide) (by decide)))
  have F21 := Fld.other W17 F10 (Or.inr (slot_ne (Or.inl (hw _ (List.mem_of_getElem? (i := 20) rfl))) (Or.inr (hw _ (List.mem_of_getElem? (i := 18) rfl))) (by decide) (t := .int) (t' := .int) (by decide) (by decide)))
  have E22 := Exa.wr W17 E11
  have Z23 : n0 ≤ h15.size := by rw [W17.size]; exact Z12
  have K24 : Keep h0 h15 [b] := K13.wr W17 (Or.inl (List.mem_of_getElem? (i := 0) rfl))
  refine s_aloadN 15 A S16 d2_14 rfl (by first | rfl | assumption) rfl ?_
  refine s_iloadN 16 A S16 d2_15 rfl rfl ?_
  refine s_putF (ty := .int) 19 A S16 (hw _ (List.mem_of_getElem? (i := 19) rfl)) F21 E22 (Or.inl (hw _ (List.mem_of_getElem? (i := 20) rfl))) (hw _ (List.mem_of_getElem? (i := 7) rfl)) g0 d2_16 (by decide) rfl rfl rfl fun T25 h26 W28 S27 => ?_
  have F29 := Fld.same W28 F21
  have F30 := Fld.other W28 F19 (Or.inr (slot_ne (Or.inr (hw _ (List.mem_of_getElem? (i := 16) rfl))) (Or.inl (hw _ (List.mem_of_getElem? (i := 20) rfl))) (by decide) (t := (.array .long)) (t' := .int) (by decide) (by decide)))
  have F31 := Fld.other W28 F18 (Or.inr (slot_ne (Or.inr (hw _ (List.mem_of_getElem? (i := 18) rfl))) (Or.inl (hw _ (List.mem_of_getElem? (i := 20) rfl))) (by decide) (t := .int) (t' := .int) (by decide) (by decide)))
  have E33 := Exa.wr W28 E22
  have Z34 : n0 ≤ h26.size := by rw [W28.size]; exact Z23
  have K35 : Keep h0 h26 [b] := K24.wr W28 (Or.inl (List.mem_of_getElem? (i := 0) rfl))
  exact s_ret A S27 d2_19 (by decide) (by decide) ⟨rfl, K35, E33, F30, F31, F29⟩
theorem d4_0 : decode prog_20_method_8_code 0 = .ok (.aload_n 0, 1) := by decide +kernel
theorem d4_1 : decode prog_20_method_8_code 1 = .ok (.getfield 17, 3) := by decide +kernel
theorem d4_4 : decode prog_20_method_8_code 4 = .ok (.ifCond .ge 48, 3) := by decide +kernel
theorem d4_7 : decode prog_20_method_8_code 7 = .ok (.aload_n 0, 1) := by decide +kernel
theorem d4_8 : decode prog_20_method_8_code 8 = .ok (.iconst 0, 1) := by decide +kernel
theorem d4_9 : decode prog_20_method_8_code 9 = .ok (.putfield 17, 3) := by decide +kernel
theorem d4_12 : decode prog_20_method_8_code 12 = .ok (.aload_n 0, 1) := by decide +kernel
theorem d4_13 : decode prog_20_method_8_code 13 = .ok (.getfield 7, 3) := by decide +kernel
theorem d4_16 : decode prog_20_method_8_code 16 = .ok (.astore_n 1, 1) := by decide +kernel
theorem d4_17 : decode prog_20_method_8_code 17 = .ok (.aload_n 1, 1) := by decide +kernel
theorem d4_18 : decode prog_20_method_8_code 18 = .ok (.arraylength, 1) := by decide +kernel
theorem d4_19 : decode prog_20_method_8_code 19 = .ok (.istore_n 2, 1) := by decide +kernel
theorem d4_20 : decode prog_20_method_8_code 20 = .ok (.iconst 0, 1) := by decide +kernel
theorem d4_21 : decode prog_20_method_8_code 21 = .ok (.istore_n 3, 1) := by decide +kernel
theorem d4_22 : decode prog_20_method_8_code 22 = .ok (.iload_n 3, 1) := by decide +kernel
theorem d4_23 : decode prog_20_method_8_code 23 = .ok (.iload_n 2, 1) := by decide +kernel
theorem d4_24 : decode prog_20_method_8_code 24 = .ok (.if_icmp .ge 28, 3) := by decide +kernel
theorem d4_27 : decode prog_20_method_8_code 27 = .ok (.aload_n 1, 1) := by decide +kernel
theorem d4_28 : decode prog_20_method_8_code 28 = .ok (.iload_n 3, 1) := by decide +kernel
theorem d4_29 : decode prog_20_method_8_code 29 = .ok (.laload, 1) := by decide +kernel
theorem d4_30 : decode prog_20_method_8_code 30 = .ok (.lstore 4, 2) := by decide +kernel
theorem d4_32 : decode prog_20_method_8_code 32 = .ok (.aload_n 0, 1) := by decide +kernel
theorem d4_33 : decode prog_20_method_8_code 33 = .ok (.dup, 1) := by decide +kernel
theorem d4_34 : decode prog_20_method_8_code 34 = .ok (.getfield 17, 3) := by decide +kernel
theorem d4_37 : decode prog_20_method_8_code 37 = .ok (.lload 4, 2) := by decide +kernel
theorem d4_39 : decode prog_20_method_8_code 39 = .ok (.invokestatic 45, 3) := by decide +kernel
theorem d4_42 : decode prog_20_method_8_code 42 = .ok (.iadd, 1) := by decide +kernel
theorem d4_43 : decode prog_20_method_8_code 43 = .ok (.putfield 17, 3) := by decide +kernel
theorem d4_46 : decode prog_20_method_8_code 46 = .ok (.iinc 3 1, 3) := by decide +kernel
theorem d4_49 : decode prog_20_method_8_code 49 = .ok (.goto (-27), 3) := by decide +kernel
theorem d4_52 : decode prog_20_method_8_code 52 = .ok (.aload_n 0, 1) := by decide +kernel
theorem d4_53 : decode prog_20_method_8_code 53 = .ok (.getfield 17, 3) := by decide +kernel
theorem d4_56 : decode prog_20_method_8_code 56 = .ok (.ireturn, 1) := by decide +kernel
theorem pn_4 : plainFor (⟨"com/example/orderly_sieve/orderlysieve/query/RowSet", "count", "()I"⟩ : MethodName) = true := plainFor_of_name (by first | (simp [plainName, overriddenIn]; done) | decide +kernel)
theorem ef_4 (m : MethodId) (x0 : Addr) : entryFrame m #[(.ref x0)] 6 = mkF m 0 #[.val (.ref x0), .unset, .unset, .unset, .unset, .unset] [] := by first | (simp [entryFrame, mkF, argsToLocals, Value.category]; done) | rfl
set_option maxRecDepth 65536 in
set_option maxHeartbeats 40000000 in
theorem rmC2 (l : Launch) (Z : State) (a0 : Array Value) (hw : ∀ d ∈ tables_1, d.before a0 Z = true) (ws : List Jvm.Cond) (b ar : Addr) (k : ClassId) (r q : Int32) (x0 x1 : Int64) (h0 : Heap) (n0 : Nat) (Z0 : n0 ≤ h0.size) (E0 : Exa Z h0 b "com/example/orderly_sieve/orderlysieve/query/RowSet") (F0 : Fld Z h0 b "com/example/orderly_sieve/orderlysieve/query/RowSet" "words" "[J" (.ref ar)) (F1 : Fld Z h0 b "com/example/orderly_sieve/orderlysieve/query/RowSet" "size" "I" (.int r)) (F2 : Fld Z h0 b "com/example/orderly_sieve/orderlysieve/query/RowSet" "count" "I" (.int q)) (V0 : Arv Z h0 ar k .long (2 : Int32) [(.long x0), (.long x1)] (.long 0)) (g0 : n0 ≤ b) (na : ar ≠ b) (hq : q.toInt < 0) :
    own_C l Z (⟨"com/example/orderly_sieve/orderlysieve/query/RowSet", "count", "()I"⟩ : MethodName) prog_20_method_8_code 6 (some .int) ({ frames := 1, cells := 0, slots := 0, locals := 15 } : Room) n0 ws #[(.ref b)] h0 (fun v h' => v = some (.int (((0 : Int32) + (own_bc x0)) + (own_bc x1))) ∧ Keep h0 h' [b] ∧ Fld Z h' b "com/example/orderly_sieve/orderlysieve/query/RowSet" "words" "[J" (.ref ar) ∧ Fld Z h' b "com/example/orderly_sieve/orderlysieve/query/RowSet" "size" "I" (.int r) ∧ Fld Z h' b "com/example/orderly_sieve/orderlysieve/query/RowSet" "count" "I" (.int (((0 : Int32) + (own_bc x0)) + (own_bc x1)))) := by
  refine own_C.of pn_4 Z0 ?_
  intro p e s m below meth c T A S
  rw [ef_4]
  refine s_aloadN 1 A S d4_0 rfl (by first | rfl | assumption) rfl ?_
  refine s_getF 4 A S (hw _ (List.mem_of_getElem? (i := 19) rfl)) F2 d4_1 rfl fun T1 S2 => ?_
  refine s_ifge 52 7 A S2 rfl d4_4 (by decide) (by decide) rfl (fun c3 => (by omega : False).elim) (fun c3 => ?_)
  refine s_aloadN 8 A S2 d4_7 rfl (by first | rfl | assumption) rfl ?_
  refine s_iconst (z := (0 : Int32)) 9 A S2 d4_8 rfl rfl ?_
  refine s_putF (ty := .int) 12 A S2 (hw _ (List.mem_of_getElem? (i := 19) rfl)) F2 E0 (Or.inl (hw _ (List.mem_of_getElem? (i := 20) rfl))) (hw _ (List.mem_of_getElem? (i := 7) rfl)) g0 d4_9 (by decide) rfl rfl rfl fun T4 h5 W7 S6 => ?_
  have F8 := Fld.same W7 F2
  have F9 := Fld.other W7 F0 (Or.inr (slot_ne (Or.inr (hw _ (List.mem_of_getElem? (i := 16) rfl))) (Or.inl (hw _ (List.mem_of_getElem? (i := 20) rfl))) (by decide) (t := (.array .long)) (t' := .int) (by decide) (by decide)))
  have F10 := Fld.other W7 F1 (Or.inr (slot_ne (Or.inr (hw _ (List.mem_of_getElem? (i := 18) rfl))) (Or.inl (hw _ (List.mem_of_getElem? (i := 20) rfl))) (by decide) (t := .int) (t' := .int) (by decide) (by decide)))
  have E12 := Exa.wr W7 E0
  have V13 := Arv.other V0 W7 na
  have Z14 : n0 ≤ h5.size := by rw [W7.size]; exact Z0
  have K15 : Keep h0 h5 [b] := (Keep.refl h0 [b]).wr W7 (Or.inl (List.mem_of_getElem? (i := 0) rfl))
  refine s_aloadN 13 A S6 d4_12 rfl (by first | rfl | assumption) rfl ?_
  refine s_getF 16 A S6 (hw _ (List.mem_of_getElem? (i := 15) rfl)) F9 d4_13 rfl fun T16 S17 => ?_
  refine s_astoreN (Ls' := #[.val (.ref b), .val (.ref ar), .unset, .unset, .unset, .unset]) 17 A S17 d4_16 (by first | rfl | assumption) rfl rfl ?_
  refine s_aloadN 18 A S17 d4_17 rfl (by first | rfl | assumption) rfl ?_
  refine s_alen 19 A S17 V13 d4_18 rfl ?_
  refine s_istoreN (Ls' := #[.val (.ref b), .val (.ref ar), .val (.int (2 : Int32)), .unset, .unset, .unset]) 20 A S17 d4_19 rfl rfl ?_
  refine s_iconst (z := (0 : Int32)) 21 A S17 d4_20 rfl rfl ?_
  refine s_istoreN (Ls' := #[.val (.ref b), .val (.ref ar), .val (.int (2 : Int32)), .val (.int (0 : Int32)), .unset, .unset]) 22 A S17 d4_21 rfl rfl ?_
  refine s_iloadN 23 A S17 d4_22 rfl rfl ?_
  refine s_iloadN 24 A S17 d4_23 rfl rfl ?_
  refine s_ige (xi := 0) (yi := 2) 52 27 A S17 rfl rfl d4_24 (by decide) (by decide) rfl (fun c18 => (by exact absurd c18 (by decide) : False).elim) (fun c18 => ?_)
  refine s_aloadN 28 A S17 d4_27 rfl (by first | rfl | assumption) rfl ?_
  refine s_iloadN 29 A S17 d4_28 rfl rfl ?_
  refine s_lald (v := (.long x0)) 30 A S17 V13 ⟨by decide, by decide⟩ rfl d4_29 rfl ?_
  refine s_lstore (Ls' := #[.val (.ref b), .val (.ref ar), .val (.int (2 : Int32)), .val (.int (0 : Int32)), .val (.long x0), .second]) 32 A S17 d4_30 rfl rfl ?_
  refine s_aloadN 33 A S17 d4_32 rfl (by first | rfl | assumption) rfl ?_
  refine s_dup 34 A S17 d4_33 rfl rfl ?_
  refine s_getF 37 A S17 (hw _ (List.mem_of_getElem? (i := 19) rfl)) F8 d4_34 rfl fun T19 S20 => ?_
  refine s_lload 39 A S20 d4_37 rfl rfl ?_
  refine s_callV (y := (⟨"java/lang/Long", "bitCount", "(J)I"⟩ : MethodName)) (argsL := [(.long x0)]) (rest := [(.int (0 : Int32)), (.ref b)]) 42 A S20 (hw _ (List.mem_of_getElem? (i := 26) rfl)) (hw _ (List.mem_of_getElem? (i := 27) rfl)) (hw _ (List.mem_of_getElem? (i := 28) rfl)) (hw _ (List.mem_of_getElem? (i := 29) rfl)) (rm5 l Z a0 hw [] x0 h5 n0 Z14) (lenOf pd__J_I rfl) d4_39 rfl rfl rfl (by decide) (by decide) (Nat.le_of_ble_eq_true rfl) (by decide) (by decide) fun T21 S22 => ?_
  refine s_iadd (z := ((0 : Int32) + (own_bc x0))) 43 A S22 d4_42 rfl rfl ?_
  refine s_putF (ty := .int) 46 A S22 (hw _ (List.mem_of_getElem? (i := 19) rfl)) F8 E12 (Or.inl (hw _ (List.mem_of_getElem? (i := 20) rfl))) (hw _ (List.mem_of_getElem? (i := 7) rfl)) g0 d4_43 (by decide) rfl rfl rfl fun T23 h24 W26 S25 => ?_
  have F27 := Fld.same W26 F8
  have F28 := Fld.other W26 F9 (Or.inr (slot_ne (Or.inr (hw _ (List.mem_of_getElem? (i := 16) rfl))) (Or.inl (hw _ (List.mem_of_getElem? (i := 20) rfl))) (by decide) (t := (.array .long)) (t' := .int) (by decide) (by decide)))
  have F29 := Fld.other W26 F10 (Or.inr (slot_ne (Or.inr (hw _ (List.mem_of_getElem? (i := 18) rfl))) (Or.inl (hw _ (List.mem_of_getElem? (i := 20) rfl))) (by decide) (t := .int) (t' := .int) (by decide) (by decide)))
  have E31 := Exa.wr W26 E12
  have V32 := Arv.other V13 W26 na
  have Z33 : n0 ≤ h24.size := by rw [W26.size]; exact Z14
  have K34 : Keep h0 h24 [b] := K15.wr W26 (Or.inl (List.mem_of_getElem? (i := 0) rfl))
  refine s_iinc (z := (1 : Int32)) (Ls' := #[.val (.ref b), .val (.ref ar), .val (.int (2 : Int32)), .val (.int (1 : Int32)), .val (.long x0), .second]) 49 A S25 d4_46 rfl (by decide) rfl rfl ?_
  refine s_goto 22 A S25 d4_49 (by decide) (by decide) ?_
  refine s_iloadN 23 A S25 d4_22 rfl rfl ?_
  refine s_iloadN 24 A S25 d4_23 rfl rfl ?_
  refine s_ige (xi := 1) (yi := 2) 52 27 A S25 rfl rfl d4_24 (by decide) (by decide) rfl (fun c35 => (by exact absurd c35 (by decide) : False).elim) (fun c35 => ?_)
  refine s_aloadN 28 A S25 d4_27 rfl (by first | rfl | assumption) rfl ?_
  refine s_iloadN 29 A S25 d4_28 rfl rfl ?_
  refine s_lald (v := (.long x1)) 30 A S25 V32 ⟨by decide, by decide⟩ rfl d4_29 rfl ?_
  refine s_lstore (Ls' := #[.val (.ref b), .val (.ref ar), .val (.int (2 : Int32)), .val (.int (1 : Int32)), .val (.long x1), .second]) 32 A S25 d4_30 rfl rfl ?_
  refine s_aloadN 33 A S25 d4_32 rfl (by first | rfl | assumption) rfl ?_
  refine s_dup 34 A S25 d4_33 rfl rfl ?_
  refine s_getF 37 A S25 (hw _ (List.mem_of_getElem? (i := 19) rfl)) F27 d4_34 rfl fun T36 S37 => ?_
  refine s_lload 39 A S37 d4_37 rfl rfl ?_
  refine s_callV (y := (⟨"java/lang/Long", "bitCount", "(J)I"⟩ : MethodName)) (argsL := [(.long x1)]) (rest := [(.int ((0 : Int32) + (own_bc x0))), (.ref b)]) 42 A S37 (hw _ (List.mem_of_getElem? (i := 26) rfl)) (hw _ (List.mem_of_getElem? (i := 27) rfl)) (hw _ (List.mem_of_getElem? (i := 28) rfl)) (hw _ (List.mem_of_getElem? (i := 29) rfl)) (rm5 l Z a0 hw [] x1 h24 n0 Z33) (lenOf pd__J_I rfl) d4_39 rfl rfl rfl (by decide) (by decide) (Nat.le_of_ble_eq_true rfl) (by decide) (by decide) fun T38 S39 => ?_
  refine s_iadd (z := (((0 : Int32) + (own_bc x0)) + (own_bc x1))) 43 A S39 d4_42 rfl rfl ?_
  refine s_putF (ty := .int) 46 A S39 (hw _ (List.mem_of_getElem? (i := 19) rfl)) F27 E31 (Or.inl (hw _ (List.mem_of_getElem? (i := 20) rfl))) (hw _ (List.mem_of_getElem? (i := 7) rfl)) g0 d4_43 (by decide) rfl rfl rfl fun T40 h41 W43 S42 => ?_
  have F44 := Fld.same W43 F27
  have F45 := Fld.other W43 F28 (Or.inr (slot_ne (Or.inr (hw _ (List.mem_of_getElem? (i := 16) rfl))) (Or.inl (hw _ (List.mem_of_getElem? (i := 20) rfl))) (by decide) (t := (.array .long)) (t' := .int) (by decide) (by decide)))
  have F46 := Fld.other W43 F29 (Or.inr (slot_ne (Or.inr (hw _ (List.mem_of_getElem? (i := 18) rfl))) (Or.inl (hw _ (List.mem_of_getElem? (i := 20) rfl))) (by decide) (t := .int) (t' := .int) (by decide) (by decide)))
  have E48 := Exa.wr W43 E31
  have V49 := Arv.other V32 W43 na
  have Z50 : n0 ≤ h41.size := by rw [W43.size]; exact Z33
  have K51 : Keep h0 h41 [b] := K34.wr W43 (Or.inl (List.mem_of_getElem? (i := 0) rfl))
  refine s_iinc (z := (2 : Int32)) (Ls' := #[.val (.ref b), .val (.ref ar), .val (.int (2 : Int32)), .val (.int (2 : Int32)), .val (.long x1), .second]) 49 A S42 d4_46 rfl (by decide) rfl rfl ?_
  refine s_goto 22 A S42 d4_49 (by decide) (by decide) ?_
  refine s_iloadN 23 A S42 d4_22 rfl rfl ?_
  refine s_iloadN 24 A S42 d4_23 rfl rfl ?_
  refine s_ige (xi := 2) (yi := 2) 52 27 A S42 rfl rfl d4_24 (by decide) (by decide) rfl (fun c52 => ?_) (fun c52 => (by exact absurd c52 (by decide) : False).elim)
  refine s_aloadN 53 A S42 d4_52 rfl (by first | rfl | assumption) rfl ?_
  refine s_getF 56 A S42 (hw _ (List.mem_of_getElem? (i := 19) rfl)) F44 d4_53 rfl fun T53 S54 => ?_
  exact s_retI A S54 d4_56 (by decide) (by decide) ⟨rfl, K51, F45, F46, F44⟩
set_option maxRecDepth 65536 in
set_option maxHeartbeats 40000000 in
theorem rmC1 (l : Launch) (Z : State) (a0 : Array Value) (hw : ∀ d ∈ tables_1, d.before a0 Z = true) (ws : List Jvm.Cond) (b ar : Addr) (k : ClassId) (r q : Int32) (x0 : Int64) (h0 : Heap) (n0 : Nat) (Z0 : n0 ≤ h0.size) (E0 : Exa Z h0 b "com/example/orderly_sieve/orderlysieve/query/RowSet") (F0 : Fld Z h0 b "com/example/orderly_sieve/orderlysieve/query/RowSet" "words" "[J" (.ref ar)) (F1 : Fld Z h0 b "com/example/orderly_sieve/orderlysieve/query/RowSet" "size" "I" (.int r)) (F2 : Fld Z h0 b "com/example/orderly_sieve/orderlysieve/query/RowSet" "count" "I" (.int q)) (V0 : Arv Z h0 ar k .long (1 : Int32) [(.long x0)] (.long 0)) (g0 : n0 ≤ b) (na : ar ≠ b) (hq : q.toInt < 0) :
    own_C l Z (⟨"com/example/orderly_sieve/orderlysieve/query/RowSet", "count", "()I"⟩ : MethodName) prog_20_method_8_code 6 (some .int) ({ frames := 1, cells := 0, slots := 0, locals := 15 } : Room) n0 ws #[(.ref b)] h0 (fun v h' => v = some (.int ((0 : Int32) + (own_bc x0))) ∧ Keep h0 h' [b] ∧ Fld Z h' b "com/example/orderly_sieve/orderlysieve/query/RowSet" "words" "[J" (.ref ar) ∧ Fld Z h' b "com/example/orderly_sieve/orderlysieve/query/RowSet" "size" "I" (.int r) ∧ Fld Z h' b "com/example/orderly_sieve/orderlysieve/query/RowSet" "count" "I" (.int ((0 : Int32) + (own_bc x0)))) := by
  refine own_C.of pn_4 Z0 ?_
  intro p e s m below meth c T A S
  rw [ef_4]
  refine s_aloadN 1 A S d4_0 rfl (by first | rfl | assumption) rfl ?_
  refine s_getF 4 A S (hw _ (List.mem_of_getElem? (i := 19) rfl)) F2 d4_1 rfl fun T1 S2 => ?_
  refine s_ifge 52 7 A S2 rfl d4_4 (by decide) (by decide) rfl (fun c3 => (by omega : False).elim) (fun c3 => ?_)
  refine s_aloadN 8 A S2 d4_7 rfl (by first | rfl | assumption) rfl ?_
  refine s_iconst (z := (0 : Int32)) 9 A S2 d4_8 rfl rfl ?_
  refine s_putF (ty := .int) 12 A S2 (hw _ (List.mem_of_getElem? (i := 19) rfl)) F2 E0 (Or.inl (hw _ (List.mem_of_getElem? (i := 20) rfl))) (hw _ (List.mem_of_getElem? (i := 7) rfl)) g0 d4_9 (by decide) rfl rfl rfl fun T4 h5 W7 S6 => ?_
  have F8 := Fld.same W7 F2
  have F9 := Fld.other W7 F0 (Or.inr (slot_ne (Or.inr (hw _ (List.mem_of_getElem? (i := 16) rfl))) (Or.inl (hw _ (List.mem_of_getElem? (i := 20) rfl))) (by decide) (t := (.array .long)) (t' := .int) (by decide) (by decide)))
  have F10 := Fld.other W7 F1 (Or.inr (slot_ne (Or.inr (hw _ (List.mem_of_getElem? (i := 18) rfl))) (Or.inl (hw _ (List.mem_of_getElem? (i := 20) rfl))) (by decide) (t := .int) (t' := .int) (by decide) (by decide)))
  have E12 := Exa.wr W7 E0
  have V13 := Arv.other V0 W7 na
  have Z14 : n0 ≤ h5.size := by rw [W7.size]; exact Z0
  have K15 : Keep h0 h5 [b] := (Keep.refl h0 [b]).wr W7 (Or.inl (List.mem_of_getElem? (i := 0) rfl))
  refine s_aloadN 13 A S6 d4_12 rfl (by first | rfl | assumption) rfl ?_
  refine s_getF 16 A S6 (hw _ (List.mem_of_getElem? (i := 15) rfl)) F9 d4_13 rfl fun T16 S17 => ?_
  refine s_astoreN (Ls' := #[.val (.ref b), .val (.ref ar), .unset, .unset, .unset, .unset]) 17 A S17 d4_16 (by first | rfl | assumption) rfl rfl ?_
  refine s_aloadN 18 A S17 d4_17 rfl (by first | rfl | assumption) rfl ?_
  refine s_alen 19 A S17 V13 d4_18 rfl ?_
  refine s_istoreN (Ls' := #[.val (.ref b), .val (.ref ar), .val (.int (1 : Int32)), .unset, .unset, .unset]) 20 A S17 d4_19 rfl rfl ?_
  refine s_iconst (z := (0 : Int32)) 21 A S17 d4_20 rfl rfl ?_
  refine s_istoreN (Ls' := #[.val (.ref b), .val (.ref ar), .val (.int (1 : Int32)), .val (.int (0 : Int32)), .unset, .unset]) 22 A S17 d4_21 rfl rfl ?_
  refine s_iloadN 23 A S17 d4_22 rfl rfl ?_
  refine s_iloadN 24 A S17 d4_23 rfl rfl ?_
  refine s_ige (xi := 0) (yi := 1) 52 27 A S17 rfl rfl d4_24 (by decide) (by decide) rfl (fun c18 => (by exact absurd c18 (by decide) : False).elim) (fun c18 => ?_)
  refine s_aloadN 28 A S17 d4_27 rfl (by first | rfl | assumption) rfl ?_
  refine s_iloadN 29 A S17 d4_28 rfl rfl ?_
  refine s_lald (v := (.long x0)) 30 A S17 V13 ⟨by decide, by decide⟩ rfl d4_29 rfl ?_
  refine s_lstore (Ls' := #[.val (.ref b), .val (.ref ar), .val (.int (1 : Int32)), .val (.int (0 : Int32)), .val (.long x0), .second]) 32 A S17 d4_30 rfl rfl ?_
  refine s_aloadN 33 A S17 d4_32 rfl (by first | rfl | assumption) rfl ?_
  refine s_dup 34 A S17 d4_33 rfl rfl ?_
  refine s_getF 37 A S17 (hw _ (List.mem_of_getElem? (i := 19) rfl)) F8 d4_34 rfl fun T19 S20 => ?_
  refine s_lload 39 A S20 d4_37 rfl rfl ?_
  refine s_callV (y := (⟨"java/lang/Long", "bitCount", "(J)I"⟩ : MethodName)) (argsL := [(.long x0)]) (rest := [(.int (0 : Int32)), (.ref b)]) 42 A S20 (hw _ (List.mem_of_getElem? (i := 26) rfl)) (hw _ (List.mem_of_getElem? (i := 27) rfl)) (hw _ (List.mem_of_getElem? (i := 28) rfl)) (hw _ (List.mem_of_getElem? (i := 29) rfl)) (rm5 l Z a0 hw [] x0 h5 n0 Z14) (lenOf pd__J_I rfl) d4_39 rfl rfl rfl (by decide) (by decide) (Nat.le_of_ble_eq_true rfl) (by decide) (by decide) fun T21 S22 => ?_
  refine s_iadd (z := ((0 : Int32) + (own_bc x0))) 43 A S22 d4_42 rfl rfl ?_
  refine s_putF (ty := .int) 46 A S22 (hw _ (List.mem_of_getElem? (i := 19) rfl)) F8 E12 (Or.inl (hw _ (List.mem_of_getElem? (i := 20) rfl))) (hw _ (List.mem_of_getElem? (i := 7) rfl)) g0 d4_43 (by decide) rfl rfl rfl fun T23 h24 W26 S25 => ?_
  have F27 := Fld.same W26 F8
  have F28 := Fld.other W26 F9 (Or.inr (slot_ne (Or.inr (hw _ (List.mem_of_getElem? (i := 16) rfl))) (Or.inl (hw _ (List.mem_of_getElem? (i := 20) rfl))) (by decide) (t := (.array .long)) (t' := .int) (by decide) (by decide)))
  have F29 := Fld.other W26 F10 (Or.inr (slot_ne (Or.inr (hw _ (List.mem_of_getElem? (i := 18) rfl))) (Or.inl (hw _ (List.mem_of_getElem? (i := 20) rfl))) (by decide) (t := .int) (t' := .int) (by decide) (by decide)))
  have E31 := Exa.wr W26 E12
  have V32 := Arv.other V13 W26 na
  have Z33 : n0 ≤ h24.size := by rw [W26.size]; exact Z14
  have K34 : Keep h0 h24 [b] := K15.wr W26 (Or.inl (List.mem_of_getElem? (i := 0) rfl))
  refine s_iinc (z := (1 : Int32)) (Ls' := #[.val (.ref b), .val (.ref ar), .val (.int (1 : Int32)), .val (.int (1 : Int32)), .val (.long x0), .second]) 49 A S25 d4_46 rfl (by decide) rfl rfl ?_
  refine s_goto 22 A S25 d4_49 (by decide) (by decide) ?_
  refine s_iloadN 23 A S25 d4_22 rfl rfl ?_
  refine s_iloadN 24 A S25 d4_23 rfl rfl ?_
  refine s_ige (xi := 1) (yi := 1) 52 27 A S25 rfl rfl d4_24 (by decide) (by decide) rfl (fun c35 => ?_) (fun c35 => (by exact absurd c35 (by decide) : False).elim)
  refine s_aloadN 53 A S25 d4_52 rfl (by first | rfl | assumption) rfl ?_
  refine s_getF 56 A S25 (hw _ (List.mem_of_getElem? (i := 19) rfl)) F27 d4_53 rfl fun T36 S37 => ?_
  exact s_retI A S37 d4_56 (by decide) (by decide) ⟨rfl, K34, F28, F29, F27⟩
set_option maxRecDepth 65536 in
set_option maxHeartbeats 40000000 in
theorem rmCpos (l : Launch) (Z : State) (a0 : Array Value) (hw : ∀ d ∈ tables_1, d.before a0 Z = true) (ws : List Jvm.Cond) (b : Addr) (q : Int32) (h0 : Heap) (n0 : Nat) (Z0 : n0 ≤ h0.size) (F2 : Fld Z h0 b "com/example/orderly_sieve/orderlysieve/query/RowSet" "count" "I" (.int q)) (hq : 0 ≤ q.toInt) :
    own_C l Z (⟨"com/example/orderly_sieve/orderlysieve/query/RowSet", "count", "()I"⟩ : MethodName) prog_20_method_8_code 6 (some .int) ({ frames := 0, cells := 0, slots := 0, locals := 0 } : Room) n0 ws #[(.ref b)] h0 (fun v h' => v = some (.int q) ∧ h' = h0) := by
  refine own_C.of pn_4 Z0 ?_
  intro p e s m below meth c T A S
  rw [ef_4]
  refine s_aloadN 1 A S d4_0 rfl (by first | rfl | assumption) rfl ?_
  refine s_getF 4 A S (hw _ (List.mem_of_getElem? (i := 19) rfl)) F2 d4_1 rfl fun T1 S2 => ?_
  refine s_ifge 52 7 A S2 rfl d4_4 (by decide) (by decide) rfl (fun c3 => ?_) (fun c3 => (by omega : False).elim)
  refine s_aloadN 53 A S2 d4_52 rfl (by first | rfl | assumption) rfl ?_
  refine s_getF 56 A S2 (hw _ (List.mem_of_getElem? (i := 19) rfl)) F2 d4_53 rfl fun T4 S5 => ?_
  exact s_retI A S5 d4_56 (by decide) (by decide) ⟨rfl, rfl⟩
theorem d7_0 : decode prog_20_method_6_code 0 = .ok (.aload_n 0, 1) := by decide +kernel
theorem d7_1 : decode prog_20_method_6_code 1 = .ok (.iconst (-1), 1) := by decide +kernel
theorem d7_2 : decode prog_20_method_6_code 2 = .ok (.putfield 17, 3) := by decide +kernel
theorem d7_5 : decode prog_20_method_6_code 5 = .ok (.aload_n 0, 1) := by decide +kernel
theorem d7_6 : decode prog_20_method_6_code 6 = .ok (.getfield 7, 3) := by decide +kernel
theorem d7_9 : decode prog_20_method_6_code 9 = .ok (.areturn, 1) := by decide +kernel
theorem pn_7 : plainFor (⟨"com/example/orderly_sieve/orderlysieve/query/RowSet", "words", "()[J"⟩ : MethodName) = true := plainFor_of_name (by first | (simp [plainName, overriddenIn]; done) | decide +kernel)
theorem ef_7 (m : MethodId) (x0 : Addr) : entryFrame m #[(.ref x0)] 1 = mkF m 0 #[.val (.ref x0)] [] := by first | (simp [entryFrame, mkF, argsToLocals, Value.category]; done) | rfl
set_option maxRecDepth 65536 in
set_option maxHeartbeats 40000000 in
theorem rm7 (l : Launch) (Z : State) (a0 : Array Value) (hw : ∀ d ∈ tables_1, d.before a0 Z = true) (ws : List Jvm.Cond) (b ar : Addr) (r q : Int32) (h0 : Heap) (n0 : Nat) (Z0 : n0 ≤ h0.size) (E0 : Exa Z h0 b "com/example/orderly_sieve/orderlysieve/query/RowSet") (F0 : Fld Z h0 b "com/example/orderly_sieve/orderlysieve/query/RowSet" "words" "[J" (.ref ar)) (F1 : Fld Z h0 b "com/example/orderly_sieve/orderlysieve/query/RowSet" "size" "I" (.int r)) (F2 : Fld Z h0 b "com/example/orderly_sieve/orderlysieve/query/RowSet" "count" "I" (.int q)) (g0 : n0 ≤ b) :
    own_C l Z (⟨"com/example/orderly_sieve/orderlysieve/query/RowSet", "words", "()[J"⟩ : MethodName) prog_20_method_6_code 1 (some (.array .long)) ({ frames := 0, cells := 0, slots := 0, locals := 0 } : Room) n0 ws #[(.ref b)] h0 (fun v h' => v = some (.ref ar) ∧ Keep h0 h' [b] ∧ Fld Z h' b "com/example/orderly_sieve/orderlysieve/query/RowSet" "words" "[J" (.ref ar) ∧ Fld Z h' b "com/example/orderly_sieve/orderlysieve/query/RowSet" "size" "I" (.int r) ∧ Fld Z h' b "com/example/orderly_sieve/orderlysieve/query/RowSet" "count" "I" (.int (-1 : Int32))) := by
  refine own_C.of pn_7 Z0 ?_
  intro p e s m below meth c T A S
  rw [ef_7]
  refine s_aloadN 1 A S d7_0 rfl (by first | rfl | assumption) rfl ?_
  refine s_iconst (z := (-1 : Int32)) 2 A S d7_1 rfl rfl ?_
  refine s_putF (ty := .int) 5 A S (hw _ (List.mem_of_getElem? (i := 19) rfl)) F2 E0 (Or.inl (hw _ (List.mem_of_getElem? (i := 20) rfl))) (hw _ (List.mem_of_getElem? (i := 7) rfl)) g0 d7_2 (by decide) rfl rfl rfl fun T1 h2 W4 S3 => ?_
  have F5 := Fld.same W4 F2
  have F6 := Fld.other W4 F0 (Or.inr (slot_ne (Or.inr (hw _ (List.mem_of_getElem? (i := 16) rfl))) (Or.inl (hw _ (List.mem_of_getElem? (i := 20) rfl))) (by decide) (t := (.array .long)) (t' := .int) (by decide) (by decide)))
  have F7 := Fld.other W4 F1 (Or.inr (slot_ne (Or.inr (hw _ (List.mem_of_getElem? (i := 18) rfl))) (Or.inl (hw _ (List.mem_of_getElem? (i := 20) rfl))) (by decide) (t := .int) (t' := .int) (by decide) (by decide)))
  have E9 := Exa.wr W4 E0
  have Z10 : n0 ≤ h2.size := by rw [W4.size]; exact Z0
  have K11 : Keep h0 h2 [b] := (Keep.refl h0 [b]).wr W4 (Or.inl (List.mem_of_getElem? (i := 0) rfl))
  refine s_aloadN 6 A S3 d7_5 rfl (by first | rfl | assumption) rfl ?_
  refine s_getF 9 A S3 (hw _ (List.mem_of_getElem? (i := 15) rfl)) F6 d7_6 rfl fun T12 S13 => ?_
  exact s_retA A S13 d7_9 rfl rfl (by first | rfl | assumption) (by decide) (by decide) ⟨rfl, K11, F6, F7, F5⟩
theorem d1_0 : decode method_2_code 0 = .ok (.ldc2_w 7, 3) := by decide +kernel
theorem d1_3 : decode method_2_code 3 = .ok (.bipush 64, 2) := by decide +kernel
theorem d1_5 : decode method_2_code 5 = .ok (.iload_n 0, 1) := by decide +kernel
theorem d1_6 : decode method_2_code 6 = .ok (.isub, 1) := by decide +kernel
theorem d1_7 : decode method_2_code 7 = .ok (.lushr, 1) := by decide +kernel
theorem d1_8 : decode method_2_code 8 = .ok (.lreturn, 1) := by decide +kernel
theorem pn_1 : plainFor (⟨"com/example/orderly_sieve/orderlysieve/query/RowSetFlipPinLaw", "low", "(I)J"⟩ : MethodName) = true := plainFor_of_name (by first | (simp [plainName, overriddenIn]; done) | decide +kernel)
theorem ef_1 (m : MethodId) (x0 : Int32) : entryFrame m #[(.int x0)] 1 = mkF m 0 #[.val (.int x0)] [] := by first | (simp [entryFrame, mkF, argsToLocals, Value.category]; done) | rfl
set_option maxRecDepth 65536 in
set_option maxHeartbeats 40000000 in
theorem rm1 (l : Launch) (Z : State) (a0 : Array Value) (hw : ∀ d ∈ tables_1, d.before a0 Z = true) (ws : List Jvm.Cond) (q : Int32) (h0 : Heap) (n0 : Nat) (Z0 : n0 ≤ h0.size)  :
    own_C l Z (⟨"com/example/orderly_sieve/orderlysieve/query/RowSetFlipPinLaw", "low", "(I)J"⟩ : MethodName) method_2_code 1 (some .long) ({ frames := 0, cells := 0, slots := 0, locals := 0 } : Room) n0 ws #[(.int q)] h0 (fun v h' => v = some (.long (own_low q)) ∧ h' = h0) := by
  refine own_C.of pn_1 Z0 ?_
  intro p e s m below meth c T A S
  rw [ef_1]
  refine s_ldc2 3 A S (hw _ (List.mem_of_getElem? (i := 4) rfl)) d1_0 rfl ?_
  refine s_bipush (z := (64 : Int32)) 5 A S d1_3 rfl rfl ?_
  refine s_iloadN 6 A S d1_5 rfl rfl ?_
  refine s_isub (z := ((64 : Int32) - q)) 7 A S d1_6 rfl rfl ?_
  refine s_lushr (z := (own_ushrL (-1 : Int64) ((64 : Int32) - q))) 8 A S d1_7 rfl rfl ?_
  exact s_retJ A S d1_8 (by decide) (by decide) ⟨rfl, rfl⟩
theorem d6_0 : decode prog_20_method_13_code 0 = .ok (.iconst 0, 1) := by decide +kernel
theorem d6_1 : decode prog_20_method_13_code 1 = .ok (.istore_n 1, 1) := by decide +kernel
theorem d6_2 : decode prog_20_method_13_code 2 = .ok (.iload_n 1, 1) := by decide +kernel
theorem d6_3 : decode prog_20_method_13_code 3 = .ok (.aload_n 0, 1) := by decide +kernel
theorem d6_4 : decode prog_20_method_13_code 4 = .ok (.getfield 7, 3) := by decide +kernel
theorem d6_7 : decode prog_20_method_13_code 7 = .ok (.arraylength, 1) := by decide +kernel
theorem d6_8 : decode prog_20_method_13_code 8 = .ok (.if_icmp .ge 25, 3) := by decide +kernel
theorem d6_11 : decode prog_20_method_13_code 11 = .ok (.aload_n 0, 1) := by decide +kernel
theorem d6_12 : decode prog_20_method_13_code 12 = .ok (.getfield 7, 3) := by decide +kernel
theorem d6_15 : decode prog_20_method_13_code 15 = .ok (.iload_n 1, 1) := by decide +kernel
theorem d6_16 : decode prog_20_method_13_code 16 = .ok (.aload_n 0, 1) := by decide +kernel
theorem d6_17 : decode prog_20_method_13_code 17 = .ok (.getfield 7, 3) := by decide +kernel
theorem d6_20 : decode prog_20_method_13_code 20 = .ok (.iload_n 1, 1) := by decide +kernel
theorem d6_21 : decode prog_20_method_13_code 21 = .ok (.laload, 1) := by decide +kernel
theorem d6_22 : decode prog_20_method_13_code 22 = .ok (.ldc2_w 39, 3) := by decide +kernel
theorem d6_25 : decode prog_20_method_13_code 25 = .ok (.lxor, 1) := by decide +kernel
theorem d6_26 : decode prog_20_method_13_code 26 = .ok (.lastore, 1) := by decide +kernel
theorem d6_27 : decode prog_20_method_13_code 27 = .ok (.iinc 1 1, 3) := by decide +kernel
theorem d6_30 : decode prog_20_method_13_code 30 = .ok (.goto (-28), 3) := by decide +kernel
theorem d6_33 : decode prog_20_method_13_code 33 = .ok (.aload_n 0, 1) := by decide +kernel
theorem d6_34 : decode prog_20_method_13_code 34 = .ok (.getfield 13, 3) := by decide +kernel
theorem d6_37 : decode prog_20_method_13_code 37 = .ok (.bipush 64, 2) := by decide +kernel
theorem d6_39 : decode prog_20_method_13_code 39 = .ok (.irem, 1) := by decide +kernel
theorem d6_40 : decode prog_20_method_13_code 40 = .ok (.ifCond .eq 26, 3) := by decide +kernel
theorem d6_43 : decode prog_20_method_13_code 43 = .ok (.aload_n 0, 1) := by decide +kernel
theorem d6_44 : decode prog_20_method_13_code 44 = .ok (.getfield 7, 3) := by decide +kernel
theorem d6_47 : decode prog_20_method_13_code 47 = .ok (.aload_n 0, 1) := by decide +kernel
theorem d6_48 : decode prog_20_method_13_code 48 = .ok (.getfield 7, 3) := by decide +kernel
theorem d6_51 : decode prog_20_method_13_code 51 = .ok (.arraylength, 1) := by decide +kernel
theorem d6_52 : decode prog_20_method_13_code 52 = .ok (.iconst 1, 1) := by decide +kernel
theorem d6_53 : decode prog_20_method_13_code 53 = .ok (.isub, 1) := by decide +kernel
theorem d6_54 : decode prog_20_method_13_code 54 = .ok (.dup2, 1) := by decide +kernel
theorem d6_55 : decode prog_20_method_13_code 55 = .ok (.laload, 1) := by decide +kernel
theorem d6_56 : decode prog_20_method_13_code 56 = .ok (.lconst 1, 1) := by decide +kernel
theorem d6_57 : decode prog_20_method_13_code 57 = .ok (.aload_n 0, 1) := by decide +kernel
theorem d6_58 : decode prog_20_method_13_code 58 = .ok (.getfield 13, 3) := by decide +kernel
theorem d6_61 : decode prog_20_method_13_code 61 = .ok (.lshl, 1) := by decide +kernel
theorem d6_62 : decode prog_20_method_13_code 62 = .ok (.lconst 1, 1) := by decide +kernel
theorem d6_63 : decode prog_20_method_13_code 63 = .ok (.lsub, 1) := by decide +kernel
theorem d6_64 : decode prog_20_method_13_code 64 = .ok (.land, 1) := by decide +kernel
theorem d6_65 : decode prog_20_method_13_code 65 = .ok (.lastore, 1) := by decide +kernel
theorem d6_66 : decode prog_20_method_13_code 66 = .ok (.aload_n 0, 1) := by decide +kernel
theorem d6_67 : decode prog_20_method_13_code 67 = .ok (.aload_n 0, 1) := by decide +kernel
theorem d6_68 : decode prog_20_method_13_code 68 = .ok (.getfield 17, 3) := by decide +kernel
theorem d6_71 : decode prog_20_method_13_code 71 = .ok (.ifCond .ge 7, 3) := by decide +kernel
theorem d6_74 : decode prog_20_method_13_code 74 = .ok (.iconst (-1), 1) := by decide +kernel
theorem d6_75 : decode prog_20_method_13_code 75 = .ok (.goto 12, 3) := by decide +kernel
theorem d6_78 : decode prog_20_method_13_code 78 = .ok (.aload_n 0, 1) := by decide +kernel
theorem d6_79 : decode prog_20_method_13_code 79 = .ok (.getfield 13, 3) := by decide +kernel
theorem d6_82 : decode prog_20_method_13_code 82 = .ok (.aload_n 0, 1) := by decide +kernel
theorem d6_83 : decode prog_20_method_13_code 83 = .ok (.getfield 17, 3) := by decide +kernel
theorem d6_86 : decode prog_20_method_13_code 86 = .ok (.isub, 1) := by decide +kernel
theorem d6_87 : decode prog_20_method_13_code 87 = .ok (.putfield 17, 3) := by decide +kernel
theorem d6_90 : decode prog_20_method_13_code 90 = .ok (.return_, 1) := by decide +kernel
theorem pn_6 : plainFor (⟨"com/example/orderly_sieve/orderlysieve/query/RowSet", "flip", "()V"⟩ : MethodName) = true := plainFor_of_name (by first | (simp [plainName, overriddenIn]; done) | decide +kernel)
theorem ef_6 (m : MethodId) (x0 : Addr) : entryFrame m #[(.ref x0)] 2 = mkF m 0 #[.val (.ref x0), .unset] [] := by first | (simp [entryFrame, mkF, argsToLocals, Value.category]; done) | rfl
set_option maxRecDepth 65536 in
set_option maxHeartbeats 40000000 in
theorem rmF2 (l : Launch) (Z : State) (a0 : Array Value) (hw : ∀ d ∈ tables_1, d.before a0 Z = true) (ws : List Jvm.Cond) (b ar : Addr) (k : ClassId) (sz q : Int32) (x0 x1 : Int64) (h0 : Heap) (n0 : Nat) (Z0 : n0 ≤ h0.size) (E0 : Exa Z h0 b "com/example/orderly_sieve/orderlysieve/query/RowSet") (F0 : Fld Z h0 b "com/example/orderly_sieve/orderlysieve/query/RowSet" "words" "[J" (.ref ar)) (F1 : Fld Z h0 b "com/example/orderly_sieve/orderlysieve/query/RowSet" "size" "I" (.int sz)) (F2 : Fld Z h0 b "com/example/orderly_sieve/orderlysieve/query/RowSet" "count" "I" (.int q)) (V0 : Arv Z h0 ar k .long (2 : Int32) [(.long x0), (.long x1)] (.long 0)) (g0 : n0 ≤ b) (g1 : n0 ≤ ar) (na : ar ≠ b) :
    own_C l Z (⟨"com/example/orderly_sieve/orderlysieve/query/RowSet", "flip", "()V"⟩ : MethodName) prog_20_method_13_code 2 none ({ frames := 0, cells := 0, slots := 0, locals := 0 } : Room) n0 ws #[(.ref b)] h0 (fun v h' => v = none ∧ Keep h0 h' [b, ar] ∧ (Fld Z h' b "com/example/orderly_sieve/orderlysieve/query/RowSet" "words" "[J" (.ref ar)) ∧ (Fld Z h' b "com/example/orderly_sieve/orderlysieve/query/RowSet" "size" "I" (.int sz)) ∧ (Fld Z h' b "com/example/orderly_sieve/orderlysieve/query/RowSet" "count" "I" (.int (own_fc sz q))) ∧ Arv Z h' ar k .long (2 : Int32) [(.long (x0 ^^^ (-1 : Int64))), (.long (own_fm sz (x1 ^^^ (-1 : Int64))))] (.long 0)) := by
  refine own_C.of pn_6 Z0 ?_
  intro p e s m below meth c T A S
  rw [ef_6]
  refine s_iconst (z := (0 : Int32)) 1 A S d6_0 rfl rfl ?_
  refine s_istoreN (Ls' := #[.val (.ref b), .val (.int (0 : Int32))]) 2 A S d6_1 rfl rfl ?_
  refine s_iloadN 3 A S d6_2 rfl rfl ?_
  refine s_aloadN 4 A S d6_3 rfl (by first | rfl | assumption) rfl ?_
  refine s_getF 7 A S (hw _ (List.mem_of_getElem? (i := 15) rfl)) F0 d6_4 rfl fun T1 S2 => ?_
  refine s_alen 8 A S2 V0 d6_7 rfl ?_
  refine s_ige (xi := 0) (yi := 2) 33 11 A S2 rfl rfl d6_8 (by decide) (by decide) rfl (fun c3 => (by exact absurd c3 (by decide) : False).elim) (fun c3 => ?_)
  refine s_aloadN 12 A S2 d6_11 rfl (by first | rfl | assumption) rfl ?_
  refine s_getF 15 A S2 (hw _ (List.mem_of_getElem? (i := 15) rfl)) F0 d6_12 rfl fun T4 S5 => ?_
  refine s_iloadN 16 A S5 d6_15 rfl rfl ?_
  refine s_aloadN 17 A S5 d6_16 rfl (by first | rfl | assumption) rfl ?_
  refine s_getF 20 A S5 (hw _ (List.mem_of_getElem? (i := 15) rfl)) F0 d6_17 rfl fun T6 S7 => ?_
  refine s_iloadN 21 A S7 d6_20 rfl rfl ?_
  refine s_lald (v := (.long x0)) 22 A S7 V0 ⟨by decide, by decide⟩ rfl d6_21 rfl ?_
  refine s_ldc2 25 A S7 (hw _ (List.mem_of_getElem? (i := 38) rfl)) d6_22 rfl ?_
  refine s_lxor (z := (x0 ^^^ (-1 : Int64))) 26 A S7 d6_25 rfl rfl ?_
  refine s_last 27 A S7 V0 ⟨by decide, by decide⟩ 0 rfl (Nat.le_of_ble_eq_true rfl) g1 d6_26 rfl fun T8 h9 W11 V12 S10 => ?_
  have F13 := Fld.other W11 F0 (Or.inl (Ne.symm na))
  have F14 := Fld.other W11 F1 (Or.inl (Ne.symm na))
  have F15 := Fld.other W11 F2 (Or.inl (Ne.symm na))
  have E16 := Exa.wr W11 E0
  have Z18 : n0 ≤ h9.size := by rw [W11.size]; exact Z0
  have K19 : Keep h0 h9 [b, ar] := (Keep.refl h0 [b, ar]).wr W11 (Or.inl (List.mem_of_getElem? (i := 1) rfl))
  have V20 : Arv Z h9 ar k .long (2 : Int32) [(.long (x0 ^^^ (-1 : Int64))), (.long x1)] (.long 0) := V12
  refine s_iinc (z := (1 : Int32)) (Ls' := #[.val (.ref b), .val (.int (1 : Int32))]) 30 A S10 d6_27 rfl (by decide) rfl rfl ?_
  refine s_goto 2 A S10 d6_30 (by decide) (by decide) ?_
  refine s_iloadN 3 A S10 d6_2 rfl rfl ?_
  refine s_aloadN 4 A S10 d6_3 rfl (by first | rfl | assumption) rfl ?_
  refine s_getF 7 A S10 (hw _ (List.mem_of_getElem? (i := 15) rfl)) F13 d6_4 rfl fun T21 S22 => ?_
  refine s_alen 8 A S22 V20 d6_7 rfl ?_
  refine s_ige (xi := 1) (yi := 2) 33 11 A S22 rfl rfl d6_8 (by decide) (by decide) rfl (fun c23 => (by exact absurd c23 (by decide) : False).elim) (fun c23 => ?_)
  refine s_aloadN 12 A S22 d6_11 rfl (by first | rfl | assumption) rfl ?_
  refine s_getF 15 A S22 (hw _ (List.mem_of_getElem? (i := 15) rfl)) F13 d6_12 rfl fun T24 S25 => ?_
  refine s_iloadN 16 A S25 d6_15 rfl rfl ?_
  refine s_aloadN 17 A S25 d6_16 rfl (by first | rfl | assumption) rfl ?_
  refine s_getF 20 A S25 (hw _ (List.mem_of_getElem? (i := 15) rfl)) F13 d6_17 rfl fun T26 S27 => ?_
  refine s_iloadN 21 A S27 d6_20 rfl rfl ?_
  refine s_lald (v := (.long x1)) 22 A S27 V20 ⟨by decide, by decide⟩ rfl d6_21 rfl ?_
  refine s_ldc2 25 A S27 (hw _ (List.mem_of_getElem? (i := 38) rfl)) d6_22 rfl ?_
  refine s_lxor (z := (x1 ^^^ (-1 : Int64))) 26 A S27 d6_25 rfl rfl ?_
  refine s_last 27 A S27 V20 ⟨by decide, by decide⟩ 1 rfl (Nat.le_of_ble_eq_true rfl) g1 d6_26 rfl fun T28 h29 W31 V32 S30 => ?_
  have F33 := Fld.other W31 F13 (Or.inl (Ne.symm na))
  have F34 := Fld.other W31 F14 (Or.inl (Ne.symm na))
  have F35 := Fld.other W31 F15 (Or.inl (Ne.symm na))
  have E36 := Exa.wr W31 E16
  have Z38 : n0 ≤ h29.size := by rw [W31.size]; exact Z18
  have K39 : Keep h0 h29 [b, ar] := K19.wr W31 (Or.inl (List.mem_of_getElem? (i := 1) rfl))
  have V40 : Arv Z h29 ar k .long (2 : Int32) [(.long (x0 ^^^ (-1 : Int64))), (.long (x1 ^^^ (-1 : Int64)))] (.long 0) := V32
  refine s_iinc (z := (2 : Int32)) (Ls' := #[.val (.ref b), .val (.int (2 : Int32))]) 30 A S30 d6_27 rfl (by decide) rfl rfl ?_
  refine s_goto 2 A S30 d6_30 (by decide) (by decide) ?_
  refine s_iloadN 3 A S30 d6_2 rfl rfl ?_
  refine s_aloadN 4 A S30 d6_3 rfl (by first | rfl | assumption) rfl ?_
  refine s_getF 7 A S30 (hw _ (List.mem_of_getElem? (i := 15) rfl)) F33 d6_4 rfl fun T41 S42 => ?_
  refine s_alen 8 A S42 V40 d6_7 rfl ?_
  refine s_ige (xi := 2) (yi := 2) 33 11 A S42 rfl rfl d6_8 (by decide) (by decide) rfl (fun c43 => ?_) (fun c43 => (by exact absurd c43 (by decide) : False).elim)
  refine s_aloadN 34 A S42 d6_33 rfl (by first | rfl | assumption) rfl ?_
  refine s_getF 37 A S42 (hw _ (List.mem_of_getElem? (i := 17) rfl)) F34 d6_34 rfl fun T44 S45 => ?_
  refine s_bipush (z := (64 : Int32)) 39 A S45 d6_37 rfl rfl ?_
  obtain ⟨sm, h_sm⟩ : ∃ z_, (sz % (64 : Int32)) = z_ := ⟨_, rfl⟩
  refine s_irem (z := sm) 40 A S45 d6_39 (by decide) h_sm rfl ?_
  refine s_ifeq 66 43 A S45 rfl d6_40 (by decide) (by decide) rfl (fun c46 tc46 => ?_) (fun c46 tc46 => ?_)
  · refine s_aloadN 67 A S45 d6_66 rfl (by first | rfl | assumption) rfl ?_
    refine s_aloadN 68 A S45 d6_67 rfl (by first | rfl | assumption) rfl ?_
    refine s_getF 71 A S45 (hw _ (List.mem_of_getElem? (i := 19) rfl)) F35 d6_68 rfl fun T47 S48 => ?_
    refine s_ifge 78 74 A S48 rfl d6_71 (by decide) (by decide) rfl (fun c49 => ?_) (fun c49 => ?_)
    · refine s_aloadN 79 A S48 d6_78 rfl (by first | rfl | assumption) rfl ?_
      refine s_getF 82 A S48 (hw _ (List.mem_of_getElem? (i := 17) rfl)) F34 d6_79 rfl fun T50 S51 => ?_
      refine s_aloadN 83 A S51 d6_82 rfl (by first | rfl | assumption) rfl ?_
      refine s_getF 86 A S51 (hw _ (List.mem_of_getElem? (i := 19) rfl)) F35 d6_83 rfl fun T52 S53 => ?_
      refine s_isub (z := (sz - q)) 87 A S53 d6_86 rfl rfl ?_
      refine s_putF (ty := .int) 90 A S53 (hw _ (List.mem_of_getElem? (i := 19) rfl)) F35 E36 (Or.inl (hw _ (List.mem_of_getElem? (i := 20) rfl))) (hw _ (List.mem_of_getElem? (i := 7) rfl)) g0 d6_87 (by decide) rfl rfl rfl fun T54 h55 W57 S56 => ?_
      have F58 := Fld.same W57 F35
      have F59 := Fld.other W57 F33 (Or.inr (slot_ne (Or.inr (hw _ (List.mem_of_getElem? (i := 16) rfl))) (Or.inl (hw _ (List.mem_of_getElem? (i := 20) rfl))) (by decide) (t := (.array .long)) (t' := .int) (by decide) (by decide)))
      have F60 := Fld.other W57 F34 (Or.inr (slot_ne (Or.inr (hw _ (List.mem_of_getElem? (i := 18) rfl))) (Or.inl (hw _ (List.mem_of_getElem? (i := 20) rfl))) (by decide) (t := .int) (t' := .int) (by decide) (by decide)))
      have E62 := Exa.wr W57 E36
      have V63 := Arv.other V40 W57 na
      have Z64 : n0 ≤ h55.size := by rw [W57.size]; exact Z38
      have K65 : Keep h0 h55 [b, ar] := K39.wr W57 (Or.inl (List.mem_of_getElem? (i := 0) rfl))
      exact s_ret A S56 d6_90 (by decide) (by decide) (by unfold own_fm own_fc; rw [if_pos (h_sm.trans c46), if_neg (Int.not_lt.mpr c49)]; exact ⟨rfl, K65, F59, F60, F58, V63⟩)
    · refine s_iconst (z := (-1 : Int32)) 75 A S48 d6_74 rfl rfl ?_
      refine s_goto 87 A S48 d6_75 (by decide) (by decide) ?_
      refine s_putF (ty := .int) 90 A S48 (hw _ (List.mem_of_getElem? (i := 19) rfl)) F35 E36 (Or.inl (hw _ (List.mem_of_getElem? (i := 20) rfl))) (hw _ (List.mem_of_getElem? (i := 7) rfl)) g0 d6_87 (by decide) rfl rfl rfl fun T66 h67 W69 S68 => ?_
      have F70 := Fld.same W69 F35
      have F71 := Fld.other W69 F33 (Or.inr (slot_ne (Or.inr (hw _ (List.mem_of_getElem? (i := 16) rfl))) (Or.inl (hw _ (List.mem_of_getElem? (i := 20) rfl))) (by decide) (t := (.array .long)) (t' := .int) (by decide) (by decide)))
      have F72 := Fld.other W69 F34 (Or.inr (slot_ne (Or.inr (hw _ (List.mem_of_getElem? (i := 18) rfl))) (Or.inl (hw _ (List.mem_of_getElem? (i := 20) rfl))) (by decide) (t := .int) (t' := .int) (by decide) (by decide)))
      have E74 := Exa.wr W69 E36
      have V75 := Arv.other V40 W69 na
      have Z76 : n0 ≤ h67.size := by rw [W69.size]; exact Z38
      have K77 : Keep h0 h67 [b, ar] := K39.wr W69 (Or.inl (List.mem_of_getElem? (i := 0) rfl))
      exact s_ret A S68 d6_90 (by decide) (by decide) (by unfold own_fm own_fc; rw [if_pos (h_sm.trans c46), if_pos c49]; exact ⟨rfl, K77, F71, F72, F70, V75⟩)
  · refine s_aloadN 44 A S45 d6_43 rfl (by first | rfl | assumption) rfl ?_
    refine s_getF 47 A S45 (hw _ (List.mem_of_getElem? (i := 15) rfl)) F33 d6_44 rfl fun T78 S79 => ?_
    refine s_aloadN 48 A S79 d6_47 rfl (by first | rfl | assumption) rfl ?_
    refine s_getF 51 A S79 (hw _ (List.mem_of_getElem? (i := 15) rfl)) F33 d6_48 rfl fun T80 S81 => ?_
    refine s_alen 52 A S81 V40 d6_51 rfl ?_
    refine s_iconst (z := (1 : Int32)) 53 A S81 d6_52 rfl rfl ?_
    refine s_isub (z := (1 : Int32)) 54 A S81 d6_53 (by decide) rfl ?_
    refine s_dup2 55 A S81 d6_54 rfl rfl rfl ?_
    refine s_lald (v := (.long (x1 ^^^ (-1 : Int64)))) 56 A S81 V40 ⟨by decide, by decide⟩ rfl d6_55 rfl ?_
    refine s_lconst (z := (1 : Int64)) 57 A S81 d6_56 rfl rfl ?_
    refine s_aloadN 58 A S81 d6_57 rfl (by first | rfl | assumption) rfl ?_
    refine s_getF 61 A S81 (hw _ (List.mem_of_getElem? (i := 17) rfl)) F34 d6_58 rfl fun T82 S83 => ?_
    refine s_lshl (z := ((1 : Int64) <<< (sz &&& 63).toInt64)) 62 A S83 d6_61 rfl rfl ?_
    refine s_lconst (z := (1 : Int64)) 63 A S83 d6_62 rfl rfl ?_
    refine s_lsub (z := (((1 : Int64) <<< (sz &&& 63).toInt64) - (1 : Int64))) 64 A S83 d6_63 rfl rfl ?_
    refine s_land (z := ((x1 ^^^ (-1 : Int64)) &&& (((1 : Int64) <<< (sz &&& 63).toInt64) - (1 : Int64)))) 65 A S83 d6_64 rfl rfl ?_
    refine s_last 66 A S83 V40 ⟨by decide, by decide⟩ 1 rfl (Nat.le_of_ble_eq_true rfl) g1 d6_65 rfl fun T84 h85 W87 V88 S86 => ?_
    have F89 := Fld.other W87 F33 (Or.inl (Ne.symm na))
    have F90 := Fld.other W87 F34 (Or.inl (Ne.symm na))
    have F91 := Fld.other W87 F35 (Or.inl (Ne.symm na))
    have E92 := Exa.wr W87 E36
    have Z94 : n0 ≤ h85.size := by rw [W87.size]; exact Z38
    have K95 : Keep h0 h85 [b, ar] := K39.wr W87 (Or.inl (List.mem_of_getElem? (i := 1) rfl))
    have V96 : Arv Z h85 ar k .long (2 : Int32) [(.long (x0 ^^^ (-1 : Int64))), (.long ((x1 ^^^ (-1 : Int64)) &&& (((1 : Int64) <<< (sz &&& 63).toInt64) - (1 : Int64))))] (.long 0) := V88
    refine s_aloadN 67 A S86 d6_66 rfl (by first | rfl | assumption) rfl ?_
    refine s_aloadN 68 A S86 d6_67 rfl (by first | rfl | assumption) rfl ?_
    refine s_getF 71 A S86 (hw _ (List.mem_of_getElem? (i := 19) rfl)) F91 d6_68 rfl fun T97 S98 => ?_
    refine s_ifge 78 74 A S98 rfl d6_71 (by decide) (by decide) rfl (fun c99 => ?_) (fun c99 => ?_)
    · refine s_aloadN 79 A S98 d6_78 rfl (by first | rfl | assumption) rfl ?_
      refine s_getF 82 A S98 (hw _ (List.mem_of_getElem? (i := 17) rfl)) F90 d6_79 rfl fun T100 S101 => ?_
      refine s_aloadN 83 A S101 d6_82 rfl (by first | rfl | assumption) rfl ?_
      refine s_getF 86 A S101 (hw _ (List.mem_of_getElem? (i := 19) rfl)) F91 d6_83 rfl fun T102 S103 => ?_
      refine s_isub (z := (sz - q)) 87 A S103 d6_86 rfl rfl ?_
      refine s_putF (ty := .int) 90 A S103 (hw _ (List.mem_of_getElem? (i := 19) rfl)) F91 E92 (Or.inl (hw _ (List.mem_of_getElem? (i := 20) rfl))) (hw _ (List.mem_of_getElem? (i := 7) rfl)) g0 d6_87 (by decide) rfl rfl rfl fun T104 h105 W107 S106 => ?_
      have F108 := Fld.same W107 F91
      have F109 := Fld.other W107 F89 (Or.inr (slot_ne (Or.inr (hw _ (List.mem_of_getElem? (i := 16) rfl))) (Or.inl (hw _ (List.mem_of_getElem? (i := 20) rfl))) (by decide) (t := (.array .long)) (t' := .int) (by decide) (by decide)))
      have F110 := Fld.other W107 F90 (Or.inr (slot_ne (Or.inr (hw _ (List.mem_of_getElem? (i := 18) rfl))) (Or.inl (hw _ (List.mem_of_getElem? (i := 20) rfl))) (by decide) (t := .int) (t' := .int) (by decide) (by decide)))
      have E112 := Exa.wr W107 E92
      have V113 := Arv.other V96 W107 na
      have Z114 : n0 ≤ h105.size := by rw [W107.size]; exact Z94
      have K115 : Keep h0 h105 [b, ar] := K95.wr W107 (Or.inl (List.mem_of_getElem? (i := 0) rfl))
      exact s_ret A S106 d6_90 (by decide) (by decide) (by unfold own_fm own_fc; rw [if_neg (fun w => c46 (h_sm.symm.trans w)), if_neg (Int.not_lt.mpr c99)]; exact ⟨rfl, K115, F109, F110, F108, V113⟩)
    · refine s_iconst (z := (-1 : Int32)) 75 A S98 d6_74 rfl rfl ?_
      refine s_goto 87 A S98 d6_75 (by decide) (by decide) ?_
      refine s_putF (ty := .int) 90 A S98 (hw _ (List.mem_of_getElem? (i := 19) rfl)) F91 E92 (Or.inl (hw _ (List.mem_of_getElem? (i := 20) rfl))) (hw _ (List.mem_of_getElem? (i := 7) rfl)) g0 d6_87 (by decide) rfl rfl rfl fun T116 h117 W119 S118 => ?_
      have F120 := Fld.same W119 F91
      have F121 := Fld.other W119 F89 (Or.inr (slot_ne (Or.inr (hw _ (List.mem_of_getElem? (i := 16) rfl))) (Or.inl (hw _ (List.mem_of_getElem? (i := 20) rfl))) (by decide) (t := (.array .long)) (t' := .int) (by decide) (by decide)))
      have F122 := Fld.other W119 F90 (Or.inr (slot_ne (Or.inr (hw _ (List.mem_of_getElem? (i := 18) rfl))) (Or.inl (hw _ (List.mem_of_getElem? (i := 20) rfl))) (by decide) (t := .int) (t' := .int) (by decide) (by decide)))
      have E124 := Exa.wr W119 E92
      have V125 := Arv.other V96 W119 na
      have Z126 : n0 ≤ h117.size := by rw [W119.size]; exact Z94
      have K127 : Keep h0 h117 [b, ar] := K95.wr W119 (Or.inl (List.mem_of_getElem? (i := 0) rfl))
      exact s_ret A S118 d6_90 (by decide) (by decide) (by unfold own_fm own_fc; rw [if_neg (fun w => c46 (h_sm.symm.trans w)), if_pos c99]; exact ⟨rfl, K127, F121, F122, F120, V125⟩)
set_option maxRecDepth 65536 in
set_option maxHeartbeats 40000000 in
theorem rmF1 (l : Launch) (Z : State) (a0 : Array Value) (hw : ∀ d ∈ tables_1, d.before a0 Z = true) (ws : List Jvm.Cond) (b ar : Addr) (k : ClassId) (sz q : Int32) (x0 : Int64) (h0 : Heap) (n0 : Nat) (Z0 : n0 ≤ h0.size) (E0 : Exa Z h0 b "com/example/orderly_sieve/orderlysieve/query/RowSet") (F0 : Fld Z h0 b "com/example/orderly_sieve/orderlysieve/query/RowSet" "words" "[J" (.ref ar)) (F1 : Fld Z h0 b "com/example/orderly_sieve/orderlysieve/query/RowSet" "size" "I" (.int sz)) (F2 : Fld Z h0 b "com/example/orderly_sieve/orderlysieve/query/RowSet" "count" "I" (.int q)) (V0 : Arv Z h0 ar k .long (1 : Int32) [(.long x0)] (.long 0)) (g0 : n0 ≤ b) (g1 : n0 ≤ ar) (na : ar ≠ b) :
    own_C l Z (⟨"com/example/orderly_sieve/orderlysieve/query/RowSet", "flip", "()V"⟩ : MethodName) prog_20_method_13_code 2 none ({ frames := 0, cells := 0, slots := 0, locals := 0 } : Room) n0 ws #[(.ref b)] h0 (fun v h' => v = none ∧ Keep h0 h' [b, ar] ∧ (Fld Z h' b "com/example/orderly_sieve/orderlysieve/query/RowSet" "words" "[J" (.ref ar)) ∧ (Fld Z h' b "com/example/orderly_sieve/orderlysieve/query/RowSet" "size" "I" (.int sz)) ∧ (Fld Z h' b "com/example/orderly_sieve/orderlysieve/query/RowSet" "count" "I" (.int (own_fc sz q))) ∧ Arv Z h' ar k .long (1 : Int32) [(.long (own_fm sz (x0 ^^^ (-1 : Int64))))] (.long 0)) := by
  refine own_C.of pn_6 Z0 ?_
  intro p e s m below meth c T A S
  rw [ef_6]
  refine s_iconst (z := (0 : Int32)) 1 A S d6_0 rfl rfl ?_
  refine s_istoreN (Ls' := #[.val (.ref b), .val (.int (0 : Int32))]) 2 A S d6_1 rfl rfl ?_
  refine s_iloadN 3 A S d6_2 rfl rfl ?_
  refine s_aloadN 4 A S d6_3 rfl (by first | rfl | assumption) rfl ?_
  refine s_getF 7 A S (hw _ (List.mem_of_getElem? (i := 15) rfl)) F0 d6_4 rfl fun T1 S2 => ?_
  refine s_alen 8 A S2 V0 d6_7 rfl ?_
  refine s_ige (xi := 0) (yi := 1) 33 11 A S2 rfl rfl d6_8 (by decide) (by decide) rfl (fun c3 => (by exact absurd c3 (by decide) : False).elim) (fun c3 => ?_)
  refine s_aloadN 12 A S2 d6_11 rfl (by first | rfl | assumption) rfl ?_
  refine s_getF 15 A S2 (hw _ (List.mem_of_getElem? (i := 15) rfl)) F0 d6_12 rfl fun T4 S5 => ?_
  refine s_iloadN 16 A S5 d6_15 rfl rfl ?_
  refine s_aloadN 17 A S5 d6_16 rfl (by first | rfl | assumption) rfl ?_
  refine s_getF 20 A S5 (hw _ (List.mem_of_getElem? (i := 15) rfl)) F0 d6_17 rfl fun T6 S7 => ?_
  refine s_iloadN 21 A S7 d6_20 rfl rfl ?_
  refine s_lald (v := (.long x0)) 22 A S7 V0 ⟨by decide, by decide⟩ rfl d6_21 rfl ?_
  refine s_ldc2 25 A S7 (hw _ (List.mem_of_getElem? (i := 38) rfl)) d6_22 rfl ?_
  refine s_lxor (z := (x0 ^^^ (-1 : Int64))) 26 A S7 d6_25 rfl rfl ?_
  refine s_last 27 A S7 V0 ⟨by decide, by decide⟩ 0 rfl (Nat.le_of_ble_eq_true rfl) g1 d6_26 rfl fun T8 h9 W11 V12 S10 => ?_
  have F13 := Fld.other W11 F0 (Or.inl (Ne.symm na))
  have F14 := Fld.other W11 F1 (Or.inl (Ne.symm na))
  have F15 := Fld.other W11 F2 (Or.inl (Ne.symm na))
  have E16 := Exa.wr W11 E0
  have Z18 : n0 ≤ h9.size := by rw [W11.size]; exact Z0
  have K19 : Keep h0 h9 [b, ar] := (Keep.refl h0 [b, ar]).wr W11 (Or.inl (List.mem_of_getElem? (i := 1) rfl))
  have V20 : Arv Z h9 ar k .long (1 : Int32) [(.long (x0 ^^^ (-1 : Int64)))] (.long 0) := V12
  refine s_iinc (z := (1 : Int32)) (Ls' := #[.val (.ref b), .val (.int (1 : Int32))]) 30 A S10 d6_27 rfl (by decide) rfl rfl ?_
  refine s_goto 2 A S10 d6_30 (by decide) (by decide) ?_
  refine s_iloadN 3 A S10 d6_2 rfl rfl ?_
  refine s_aloadN 4 A S10 d6_3 rfl (by first | rfl | assumption) rfl ?_
  refine s_getF 7 A S10 (hw _ (List.mem_of_getElem? (i := 15) rfl)) F13 d6_4 rfl fun T21 S22 => ?_
  refine s_alen 8 A S22 V20 d6_7 rfl ?_
  refine s_ige (xi := 1) (yi := 1) 33 11 A S22 rfl rfl d6_8 (by decide) (by decide) rfl (fun c23 => ?_) (fun c23 => (by exact absurd c23 (by decide) : False).elim)
  refine s_aloadN 34 A S22 d6_33 rfl (by first | rfl | assumption) rfl ?_
  refine s_getF 37 A S22 (hw _ (List.mem_of_getElem? (i := 17) rfl)) F14 d6_34 rfl fun T24 S25 => ?_
  refine s_bipush (z := (64 : Int32)) 39 A S25 d6_37 rfl rfl ?_
  obtain ⟨sm, h_sm⟩ : ∃ z_, (sz % (64 : Int32)) = z_ := ⟨_, rfl⟩
  refine s_irem (z := sm) 40 A S25 d6_39 (by decide) h_sm rfl ?_
  refine s_ifeq 66 43 A S25 rfl d6_40 (by decide) (by decide) rfl (fun c26 tc26 => ?_) (fun c26 tc26 => ?_)
  · refine s_aloadN 67 A S25 d6_66 rfl (by first | rfl | assumption) rfl ?_
    refine s_aloadN 68 A S25 d6_67 rfl (by first | rfl | assumption) rfl ?_
    refine s_getF 71 A S25 (hw _ (List.mem_of_getElem? (i := 19) rfl)) F15 d6_68 rfl fun T27 S28 => ?_
    refine s_ifge 78 74 A S28 rfl d6_71 (by decide) (by decide) rfl (fun c29 => ?_) (fun c29 => ?_)
    · refine s_aloadN 79 A S28 d6_78 rfl (by first | rfl | assumption) rfl ?_
      refine s_getF 82 A S28 (hw _ (List.mem_of_getElem? (i := 17) rfl)) F14 d6_79 rfl fun T30 S31 => ?_
      refine s_aloadN 83 A S31 d6_82 rfl (by first | rfl | assumption) rfl ?_
      refine s_getF 86 A S31 (hw _ (List.mem_of_getElem? (i := 19) rfl)) F15 d6_83 rfl fun T32 S33 => ?_
      refine s_isub (z := (sz - q)) 87 A S33 d6_86 rfl rfl ?_
      refine s_putF (ty := .int) 90 A S33 (hw _ (List.mem_of_getElem? (i := 19) rfl)) F15 E16 (Or.inl (hw _ (List.mem_of_getElem? (i := 20) rfl))) (hw _ (List.mem_of_getElem? (i := 7) rfl)) g0 d6_87 (by decide) rfl rfl rfl fun T34 h35 W37 S36 => ?_
      have F38 := Fld.same W37 F15
      have F39 := Fld.other W37 F13 (Or.inr (slot_ne (Or.inr (hw _ (List.mem_of_getElem? (i := 16) rfl))) (Or.inl (hw _ (List.mem_of_getElem? (i := 20) rfl))) (by decide) (t := (.array .long)) (t' := .int) (by decide) (by decide)))
      have F40 := Fld.other W37 F14 (Or.inr (slot_ne (Or.inr (hw _ (List.mem_of_getElem? (i := 18) rfl))) (Or.inl (hw _ (List.mem_of_getElem? (i := 20) rfl))) (by decide) (t := .int) (t' := .int) (by decide) (by decide)))
      have E42 := Exa.wr W37 E16
      have V43 := Arv.other V20 W37 na
      have Z44 : n0 ≤ h35.size := by rw [W37.size]; exact Z18
      have K45 : Keep h0 h35 [b, ar] := K19.wr W37 (Or.inl (List.mem_of_getElem? (i := 0) rfl))
      exact s_ret A S36 d6_90 (by decide) (by decide) (by unfold own_fm own_fc; rw [if_pos (h_sm.trans c26), if_neg (Int.not_lt.mpr c29)]; exact ⟨rfl, K45, F39, F40, F38, V43⟩)
    · refine s_iconst (z := (-1 : Int32)) 75 A S28 d6_74 rfl rfl ?_
      refine s_goto 87 A S28 d6_75 (by decide) (by decide) ?_
      refine s_putF (ty := .int) 90 A S28 (hw _ (List.mem_of_getElem? (i := 19) rfl)) F15 E16 (Or.inl (hw _ (List.mem_of_getElem? (i := 20) rfl))) (hw _ (List.mem_of_getElem? (i := 7) rfl)) g0 d6_87 (by decide) rfl rfl rfl fun T46 h47 W49 S48 => ?_
      have F50 := Fld.same W49 F15
      have F51 := Fld.other W49 F13 (Or.inr (slot_ne (Or.inr (hw _ (List.mem_of_getElem? (i := 16) rfl))) (Or.inl (hw _ (List.mem_of_getElem? (i := 20) rfl))) (by decide) (t := (.array .long)) (t' := .int) (by decide) (by decide)))
      have F52 := Fld.other W49 F14 (Or.inr (slot_ne (Or.inr (hw _ (List.mem_of_getElem? (i := 18) rfl))) (Or.inl (hw _ (List.mem_of_getElem? (i := 20) rfl))) (by decide) (t := .int) (t' := .int) (by decide) (by decide)))
      have E54 := Exa.wr W49 E16
      have V55 := Arv.other V20 W49 na
      have Z56 : n0 ≤ h47.size := by rw [W49.size]; exact Z18
      have K57 : Keep h0 h47 [b, ar] := K19.wr W49 (Or.inl (List.mem_of_getElem? (i := 0) rfl))
      exact s_ret A S48 d6_90 (by decide) (by decide) (by unfold own_fm own_fc; rw [if_pos (h_sm.trans c26), if_pos c29]; exact ⟨rfl, K57, F51, F52, F50, V55⟩)
  · refine s_aloadN 44 A S25 d6_43 rfl (by first | rfl | assumption) rfl ?_
    refine s_getF 47 A S25 (hw _ (List.mem_of_getElem? (i := 15) rfl)) F13 d6_44 rfl fun T58 S59 => ?_
    refine s_aloadN 48 A S59 d6_47 rfl (by first | rfl | assumption) rfl ?_
    refine s_getF 51 A S59 (hw _ (List.mem_of_getElem? (i := 15) rfl)) F13 d6_48 rfl fun T60 S61 => ?_
    refine s_alen 52 A S61 V20 d6_51 rfl ?_
    refine s_iconst (z := (1 : Int32)) 53 A S61 d6_52 rfl rfl ?_
    refine s_isub (z := (0 : Int32)) 54 A S61 d6_53 (by decide) rfl ?_
    refine s_dup2 55 A S61 d6_54 rfl rfl rfl ?_
    refine s_lald (v := (.long (x0 ^^^ (-1 : Int64)))) 56 A S61 V20 ⟨by decide, by decide⟩ rfl d6_55 rfl ?_
    refine s_lconst (z := (1 : Int64)) 57 A S61 d6_56 rfl rfl ?_
    refine s_aloadN 58 A S61 d6_57 rfl (by first | rfl | assumption) rfl ?_
    refine s_getF 61 A S61 (hw _ (List.mem_of_getElem? (i := 17) rfl)) F14 d6_58 rfl fun T62 S63 => ?_
    refine s_lshl (z := ((1 : Int64) <<< (sz &&& 63).toInt64)) 62 A S63 d6_61 rfl rfl ?_
    refine s_lconst (z := (1 : Int64)) 63 A S63 d6_62 rfl rfl ?_
    refine s_lsub (z := (((1 : Int64) <<< (sz &&& 63).toInt64) - (1 : Int64))) 64 A S63 d6_63 rfl rfl ?_
    refine s_land (z := ((x0 ^^^ (-1 : Int64)) &&& (((1 : Int64) <<< (sz &&& 63).toInt64) - (1 : Int64)))) 65 A S63 d6_64 rfl rfl ?_
    refine s_last 66 A S63 V20 ⟨by decide, by decide⟩ 0 rfl (Nat.le_of_ble_eq_true rfl) g1 d6_65 rfl fun T64 h65 W67 V68 S66 => ?_
    have F69 := Fld.other W67 F13 (Or.inl (Ne.symm na))
    have F70 := Fld.other W67 F14 (Or.inl (Ne.symm na))
    have F71 := Fld.other W67 F15 (Or.inl (Ne.symm na))
    have E72 := Exa.wr W67 E16
    have Z74 : n0 ≤ h65.size := by rw [W67.size]; exact Z18
    have K75 : Keep h0 h65 [b, ar] := K19.wr W67 (Or.inl (List.mem_of_getElem? (i := 1) rfl))
    have V76 : Arv Z h65 ar k .long (1 : Int32) [(.long ((x0 ^^^ (-1 : Int64)) &&& (((1 : Int64) <<< (sz &&& 63).toInt64) - (1 : Int64))))] (.long 0) := V68
    refine s_aloadN 67 A S66 d6_66 rfl (by first | rfl | assumption) rfl ?_
    refine s_aloadN 68 A S66 d6_67 rfl (by first | rfl | assumption) rfl ?_
    refine s_getF 71 A S66 (hw _ (List.mem_of_getElem? (i := 19) rfl)) F71 d6_68 rfl fun T77 S78 => ?_
    refine s_ifge 78 74 A S78 rfl d6_71 (by decide) (by decide) rfl (fun c79 => ?_) (fun c79 => ?_)
    · refine s_aloadN 79 A S78 d6_78 rfl (by first | rfl | assumption) rfl ?_
      refine s_getF 82 A S78 (hw _ (List.mem_of_getElem? (i := 17) rfl)) F70 d6_79 rfl fun T80 S81 => ?_
      refine s_aloadN 83 A S81 d6_82 rfl (by first | rfl | assumption) rfl ?_
      refine s_getF 86 A S81 (hw _ (List.mem_of_getElem? (i := 19) rfl)) F71 d6_83 rfl fun T82 S83 => ?_
      refine s_isub (z := (sz - q)) 87 A S83 d6_86 rfl rfl ?_
      refine s_putF (ty := .int) 90 A S83 (hw _ (List.mem_of_getElem? (i := 19) rfl)) F71 E72 (Or.inl (hw _ (List.mem_of_getElem? (i := 20) rfl))) (hw _ (List.mem_of_getElem? (i := 7) rfl)) g0 d6_87 (by decide) rfl rfl rfl fun T84 h85 W87 S86 => ?_
      have F88 := Fld.same W87 F71
      have F89 := Fld.other W87 F69 (Or.inr (slot_ne (Or.inr (hw _ (List.mem_of_getElem? (i := 16) rfl))) (Or.inl (hw _ (List.mem_of_getElem? (i := 20) rfl))) (by decide) (t := (.array .long)) (t' := .int) (by decide) (by decide)))
      have F90 := Fld.other W87 F70 (Or.inr (slot_ne (Or.inr (hw _ (List.mem_of_getElem? (i := 18) rfl))) (Or.inl (hw _ (List.mem_of_getElem? (i := 20) rfl))) (by decide) (t := .int) (t' := .int) (by decide) (by decide)))
      have E92 := Exa.wr W87 E72
      have V93 := Arv.other V76 W87 na
      have Z94 : n0 ≤ h85.size := by rw [W87.size]; exact Z74
      have K95 : Keep h0 h85 [b, ar] := K75.wr W87 (Or.inl (List.mem_of_getElem? (i := 0) rfl))
      exact s_ret A S86 d6_90 (by decide) (by decide) (by unfold own_fm own_fc; rw [if_neg (fun w => c26 (h_sm.symm.trans w)), if_neg (Int.not_lt.mpr c79)]; exact ⟨rfl, K95, F89, F90, F88, V93⟩)
    · refine s_iconst (z := (-1 : Int32)) 75 A S78 d6_74 rfl rfl ?_
      refine s_goto 87 A S78 d6_75 (by decide) (by decide) ?_
      refine s_putF (ty := .int) 90 A S78 (hw _ (List.mem_of_getElem? (i := 19) rfl)) F71 E72 (Or.inl (hw _ (List.mem_of_getElem? (i := 20) rfl))) (hw _ (List.mem_of_getElem? (i := 7) rfl)) g0 d6_87 (by decide) rfl rfl rfl fun T96 h97 W99 S98 => ?_
      have F100 := Fld.same W99 F71
      have F101 := Fld.other W99 F69 (Or.inr (slot_ne (Or.inr (hw _ (List.mem_of_getElem? (i := 16) rfl))) (Or.inl (hw _ (List.mem_of_getElem? (i := 20) rfl))) (by decide) (t := (.array .long)) (t' := .int) (by decide) (by decide)))
      have F102 := Fld.other W99 F70 (Or.inr (slot_ne (Or.inr (hw _ (List.mem_of_getElem? (i := 18) rfl))) (Or.inl (hw _ (List.mem_of_getElem? (i := 20) rfl))) (by decide) (t := .int) (t' := .int) (by decide) (by decide)))
      have E104 := Exa.wr W99 E72
      have V105 := Arv.other V76 W99 na
      have Z106 : n0 ≤ h97.size := by rw [W99.size]; exact Z74
      have K107 : Keep h0 h97 [b, ar] := K75.wr W99 (Or.inl (List.mem_of_getElem? (i := 0) rfl))
      exact s_ret A S98 d6_90 (by decide) (by decide) (by unfold own_fm own_fc; rw [if_neg (fun w => c26 (h_sm.symm.trans w)), if_pos c79]; exact ⟨rfl, K107, F101, F102, F100, V105⟩)
theorem pn_0 : plainFor (⟨"com/example/orderly_sieve/orderlysieve/query/RowSetFlipPinLaw", "law", "(JJII)Z"⟩ : MethodName) = true := plainFor_of_name (by first | (simp [plainName, overriddenIn]; done) | decide +kernel)
theorem ef_0 (m : MethodId) (x0 : Int64) (x1 : Int64) (x2 : Int32) (x3 : Int32) : entryFrame m #[(.long x0), (.long x1), (.int x2), (.int x3)] maxLocals = mkF m 0 #[.val (.long x0), .second, .val (.long x1), .second, .val (.int x2), .val (.int x3), .unset, .unset, .unset, .unset, .unset, .unset, .unset, .unset, .unset, .unset, .unset, .unset, .unset, .unset, .unset, .unset, .unset] [] := by first | (simp [entryFrame, mkF, argsToLocals, Value.category, maxLocals]; done) | rfl
set_option maxRecDepth 65536 in
set_option maxHeartbeats 40000000 in
theorem rm0 (l : Launch) (Z : State) (a0 : Array Value) (hw : ∀ d ∈ tables_1, d.before a0 Z = true) (ws : List Jvm.Cond) (i0 i1 : Int64) (i2 i3 : Int32) (h0 : Heap) (n0 : Nat) (Z0 : n0 ≤ h0.size)  :
    own_C l Z x code maxLocals ret room_1 n0 ws #[(.long i0), (.long i1), (.int i2), (.int i3)] h0 (fun v h' => v = some (.int 1)) := by
  refine own_C.of pn_0 Z0 ?_
  intro p e s m below meth c T A S
  rw [ef_0]
  refine s_iconst (z := (1 : Int32)) 1 A S at_0 rfl rfl ?_
  refine s_iload 3 A S at_1 rfl rfl ?_
  refine s_bipush (z := (127 : Int32)) 5 A S at_3 rfl rfl ?_
  refine s_iand (z := (i2 &&& (127 : Int32))) 6 A S at_5 rfl rfl ?_
  obtain ⟨n, h_n⟩ : ∃ z_, ((1 : Int32) + (i2 &&& (127 : Int32))) = z_ := ⟨_, rfl⟩
  refine s_iadd (z := n) 7 A S at_6 h_n rfl ?_
  have bn : 1 ≤ n.toInt ∧ n.toInt ≤ 128 := by have q1 := c_and i2 127 (by decide); have q2 : (127 : Int32).toInt = 127 := rfl; rw [← h_n, own_iadd (by show _ ≤ 1 + _; omega) (by show 1 + _ < _; omega)]; show 1 ≤ 1 + _ ∧ 1 + _ ≤ _; omega
  refine s_istore (Ls' := #[.val (.long i0), .second, .val (.long i1), .second, .val (.int i2), .val (.int i3), .val (.int n), .unset, .unset, .unset, .unset, .unset, .unset, .unset, .unset, .unset, .unset, .unset, .unset, .unset, .unset, .unset, .unset]) 9 A S at_7 rfl rfl ?_
  refine s_iload 11 A S at_9 rfl rfl ?_
  refine s_bipush (z := (64 : Int32)) 13 A S at_11 rfl rfl ?_
  refine s_ile (yi := 64) 20 16 A S rfl rfl at_13 (by decide) (by decide) rfl (fun c1 => ?_) (fun c1 => ?_)
  · refine s_iconst (z := (0 : Int32)) 21 A S at_20 rfl rfl ?_
    refine s_istore (Ls' := #[.val (.long i0), .second, .val (.long i1), .second, .val (.int i2), .val (.int i3), .val (.int n), .val (.int (0 : Int32)), .unset, .unset, .unset, .unset, .unset, .unset, .unset, .unset, .unset, .unset, .unset, .unset, .unset, .unset, .unset]) 23 A S at_21 rfl rfl ?_
    refine s_iload 25 A S at_23 rfl rfl ?_
    refine s_ifeq (xi := 0) 32 28 A S rfl at_25 (by decide) (by decide) rfl (fun c2 tc2 => ?_) (fun c2 tc2 => (by exact absurd tc2 (by decide) : False).elim)
    refine s_lloadN 33 A S at_32 rfl rfl ?_
    refine s_iload 35 A S at_33 rfl rfl ?_
    refine s_callV (y := (⟨"com/example/orderly_sieve/orderlysieve/query/RowSetFlipPinLaw", "low", "(I)J"⟩ : MethodName)) (argsL := [(.int n)]) (rest := [(.long i0)]) 38 A S (hw _ (List.mem_of_getElem? (i := 0) rfl)) (hw _ (List.mem_of_getElem? (i := 1) rfl)) (hw _ (List.mem_of_getElem? (i := 2) rfl)) (hw _ (List.mem_of_getElem? (i := 3) rfl)) (rm1 l Z a0 hw [] n h0 n0 Z0) (lenOf pd__I_J rfl) at_35 rfl rfl rfl (by decide) (by decide) (Nat.le_of_ble_eq_true rfl) (by decide) (by decide) fun T3 S4 => ?_
    refine s_land (z := (i0 &&& (own_low n))) 39 A S4 at_38 rfl rfl ?_
    refine s_lstore (Ls' := #[.val (.long i0), .second, .val (.long i1), .second, .val (.int i2), .val (.int i3), .val (.int n), .val (.int (0 : Int32)), .val (.long (i0 &&& (own_low n))), .second, .unset, .unset, .unset, .unset, .unset, .unset, .unset, .unset, .unset, .unset, .unset, .unset, .unset]) 41 A S4 at_39 rfl rfl ?_
    refine s_iload 43 A S4 at_41 rfl rfl ?_
    refine s_ifeq (xi := 0) 59 46 A S4 rfl at_43 (by decide) (by decide) rfl (fun c5 tc5 => ?_) (fun c5 tc5 => (by exact absurd tc5 (by decide) : False).elim)
    refine s_lconst (z := (0 : Int64)) 60 A S4 at_59 rfl rfl ?_
    refine s_lstore (Ls' := #[.val (.long i0), .second, .val (.long i1), .second, .val (.int i2), .val (.int i3), .val (.int n), .val (.int (0 : Int32)), .val (.long (i0 &&& (own_low n))), .second, .val (.long (0 : Int64)), .second, .unset, .unset, .unset, .unset, .unset, .unset, .unset, .unset, .unset, .unset, .unset]) 62 A S4 at_60 rfl rfl ?_
    refine s_iload 64 A S4 at_62 rfl rfl ?_
    refine s_ifeq (xi := 0) 75 67 A S4 rfl at_64 (by decide) (by decide) rfl (fun c6 tc6 => ?_) (fun c6 tc6 => (by exact absurd tc6 (by decide) : False).elim)
    refine s_lloadN 76 A S4 at_75 rfl rfl ?_
    refine s_ldc2 79 A S4 (hw _ (List.mem_of_getElem? (i := 4) rfl)) at_76 rfl ?_
    refine s_lxor (z := (i0 ^^^ (-1 : Int64))) 80 A S4 at_79 rfl rfl ?_
    refine s_iload 82 A S4 at_80 rfl rfl ?_
    refine s_callV (y := (⟨"com/example/orderly_sieve/orderlysieve/query/RowSetFlipPinLaw", "low", "(I)J"⟩ : MethodName)) (argsL := [(.int n)]) (rest := [(.long (i0 ^^^ (-1 : Int64)))]) 85 A S4 (hw _ (List.mem_of_getElem? (i := 0) rfl)) (hw _ (List.mem_of_getElem? (i := 1) rfl)) (hw _ (List.mem_of_getElem? (i := 2) rfl)) (hw _ (List.mem_of_getElem? (i := 3) rfl)) (rm1 l Z a0 hw [] n h0 n0 Z0) (lenOf pd__I_J rfl) at_82 rfl rfl rfl (by decide) (by decide) (Nat.le_of_ble_eq_true rfl) (by decide) (by decide) fun T7 S8 => ?_
    refine s_land (z := ((i0 ^^^ (-1 : Int64)) &&& (own_low n))) 86 A S8 at_85 rfl rfl ?_
    refine s_lstore (Ls' := #[.val (.long i0), .second, .val (.long i1), .second, .val (.int i2), .val (.int i3), .val (.int n), .val (.int (0 : Int32)), .val (.long (i0 &&& (own_low n))), .second, .val (.long (0 : Int64)), .second, .val (.long ((i0 ^^^ (-1 : Int64)) &&& (own_low n))), .second, .unset, .unset, .unset, .unset, .unset, .unset, .unset, .unset, .unset]) 88 A S8 at_86 rfl rfl ?_
    refine s_iload 90 A S8 at_88 rfl rfl ?_
    refine s_ifeq (xi := 0) 110 93 A S8 rfl at_90 (by decide) (by decide) rfl (fun c9 tc9 => ?_) (fun c9 tc9 => (by exact absurd tc9 (by decide) : False).elim)
    refine s_lconst (z := (0 : Int64)) 111 A S8 at_110 rfl rfl ?_
    refine s_lstore (Ls' := #[.val (.long i0), .second, .val (.long i1), .second, .val (.int i2), .val (.int i3), .val (.int n), .val (.int (0 : Int32)), .val (.long (i0 &&& (own_low n))), .second, .val (.long (0 : Int64)), .second, .val (.long ((i0 ^^^ (-1 : Int64)) &&& (own_low n))), .second, .val (.long (0 : Int64)), .second, .unset, .unset, .unset, .unset, .unset, .unset, .unset]) 113 A S8 at_111 rfl rfl ?_
    refine s_iload 115 A S8 at_113 rfl rfl ?_
    refine s_ifeq (xi := 0) 134 118 A S8 rfl at_115 (by decide) (by decide) rfl (fun c10 tc10 => ?_) (fun c10 tc10 => (by exact absurd tc10 (by decide) : False).elim)
    refine s_iconst (z := (1 : Int32)) 135 A S8 at_134 rfl rfl ?_
    refine s_newP (cap := 1) 137 A S8 (hw _ (List.mem_of_getElem? (i := 5) rfl)) at_135 (by decide) (by decide) (by decide) rfl (by decide) (by decide) fun T11 h12 k14 a15 ha_a15 E_a15 V_a15 S13 => ?_
    have ge_a15 : n0 ≤ a15 := by rw [ha_a15]; exact Z0
    have Z16 : n0 ≤ h12.size := Nat.le_trans Z0 E_a15.1
    have V17 : Arv Z h12 a15 k14 .long (1 : Int32) [(.long 0)] (.long 0) := Arv.pad V_a15 (fun i => by simpa using pad_rep [] (.long 0) 1 i)
    refine s_dup 138 A S13 at_137 rfl rfl ?_
    refine s_iconst (z := (0 : Int32)) 139 A S13 at_138 rfl rfl ?_
    refine s_lload 141 A S13 at_139 rfl rfl ?_
    refine s_last 142 A S13 V17 ⟨by decide, by decide⟩ 0 rfl (Nat.le_of_ble_eq_true rfl) ge_a15 at_141 rfl fun T18 h19 W21 V22 S20 => ?_
    have Z24 : n0 ≤ h19.size := by rw [W21.size]; exact Z16
    have V25 : Arv Z h19 a15 k14 .long (1 : Int32) [(.long (i0 &&& (own_low n)))] (.long 0) := V22
    refine s_astore (Ls' := #[.val (.long i0), .second, .val (.long i1), .second, .val (.int i2), .val (.int i3), .val (.int n), .val (.int (0 : Int32)), .val (.long (i0 &&& (own_low n))), .second, .val (.long (0 : Int64)), .second, .val (.long ((i0 ^^^ (-1 : Int64)) &&& (own_low n))), .second, .val (.long (0 : Int64)), .second, .val (.ref a15), .unset, .unset, .unset, .unset, .unset, .unset]) 144 A S20 at_142 (by first | rfl | assumption) rfl rfl ?_
    refine s_iload 146 A S20 at_144 rfl rfl ?_
    refine s_ifeq (xi := 0) 165 149 A S20 rfl at_146 (by decide) (by decide) rfl (fun c26 tc26 => ?_) (fun c26 tc26 => (by exact absurd tc26 (by decide) : False).elim)
    refine s_iconst (z := (1 : Int32)) 166 A S20 at_165 rfl rfl ?_
    refine s_newP (cap := 1) 168 A S20 (hw _ (List.mem_of_getElem? (i := 5) rfl)) at_166 (by decide) (by decide) (by decide) rfl (by decide) (by decide) fun T27 h28 k30 a31 ha_a31 E_a31 V_a31 S29 => ?_
    have ne_a15_a31 : a15 ≠ a31 := by rw [ha_a31]; exact Nat.ne_of_lt V25.lt
    have ge_a31 : n0 ≤ a31 := by rw [ha_a31]; exact Z24
    have V32 := Arv.ext V25 E_a31
    have Z33 : n0 ≤ h28.size := Nat.le_trans Z24 E_a31.1
    have V34 : Arv Z h28 a31 k30 .long (1 : Int32) [(.long 0)] (.long 0) := Arv.pad V_a31 (fun i => by simpa using pad_rep [] (.long 0) 1 i)
    refine s_dup 169 A S29 at_168 rfl rfl ?_
    refine s_iconst (z := (0 : Int32)) 170 A S29 at_169 rfl rfl ?_
    refine s_lload 172 A S29 at_170 rfl rfl ?_
    refine s_last 173 A S29 V34 ⟨by decide, by decide⟩ 0 rfl (Nat.le_of_ble_eq_true rfl) ge_a31 at_172 rfl fun T35 h36 W38 V39 S37 => ?_
    have V40 := Arv.other V32 W38 ne_a15_a31
    have Z42 : n0 ≤ h36.size := by rw [W38.size]; exact Z33
    have V43 : Arv Z h36 a31 k30 .long (1 : Int32) [(.long ((i0 ^^^ (-1 : Int64)) &&& (own_low n)))] (.long 0) := V39
    refine s_astore (Ls' := #[.val (.long i0), .second, .val (.long i1), .second, .val (.int i2), .val (.int i3), .val (.int n), .val (.int (0 : Int32)), .val (.long (i0 &&& (own_low n))), .second, .val (.long (0 : Int64)), .second, .val (.long ((i0 ^^^ (-1 : Int64)) &&& (own_low n))), .second, .val (.long (0 : Int64)), .second, .val (.ref a15), .val (.ref a31), .unset, .unset, .unset, .unset, .unset]) 175 A S37 at_173 (by first | rfl | assumption) rfl rfl ?_
    refine s_iload 177 A S37 at_175 rfl rfl ?_
    refine s_iconst (z := (1 : Int32)) 178 A S37 at_177 rfl rfl ?_
    refine s_iand (z := (i3 &&& (1 : Int32))) 179 A S37 at_178 rfl rfl ?_
    refine s_ifeq 186 182 A S37 rfl at_179 (by decide) (by decide) rfl (fun c44 tc44 => ?_) (fun c44 tc44 => ?_)
    · refine s_iconst (z := (0 : Int32)) 187 A S37 at_186 rfl rfl ?_
      refine s_istore (Ls' := #[.val (.long i0), .second, .val (.long i1), .second, .val (.int i2), .val (.int i3), .val (.int n), .val (.int (0 : Int32)), .val (.long (i0 &&& (own_low n))), .second, .val (.long (0 : Int64)), .second, .val (.long ((i0 ^^^ (-1 : Int64)) &&& (own_low n))), .second, .val (.long (0 : Int64)), .second, .val (.ref a15), .val (.ref a31), .val (.int (0 : Int32)), .unset, .unset, .unset, .unset]) 189 A S37 at_187 rfl rfl ?_
      refine s_new 192 A S37 (hw _ (List.mem_of_getElem? (i := 6) rfl)) (hw _ (List.mem_of_getElem? (i := 7) rfl)) (hw _ (List.mem_of_getElem? (i := 8) rfl)) at_189 rfl (by decide) (by decide) fun T45 h46 a48 ha_a48 E_a48 X_a48 D_a48 S47 => ?_
      have ne_a15_a48 : a15 ≠ a48 := by rw [ha_a48]; exact Nat.ne_of_lt V40.lt
      have ne_a31_a48 : a31 ≠ a48 := by rw [ha_a48]; exact Nat.ne_of_lt V43.lt
      have ge_a48 : n0 ≤ a48 := by rw [ha_a48]; exact Z42
      have V49 := Arv.ext V40 E_a48
      have V50 := Arv.ext V43 E_a48
      have Z51 : n0 ≤ h46.size := Nat.le_trans Z42 E_a48.1
      have F_a48_words : Fld Z h46 a48 "com/example/orderly_sieve/orderlysieve/query/RowSet" "words" "[J" .null := D_a48 (Or.inr (hw _ (List.mem_of_getElem? (i := 16) rfl))) (ty := (.array .long)) (by decide)
      have F_a48_size : Fld Z h46 a48 "com/example/orderly_sieve/orderlysieve/query/RowSet" "size" "I" (.int (0 : Int32)) := D_a48 (Or.inr (hw _ (List.mem_of_getElem? (i := 18) rfl))) (ty := .int) (by decide)
      have F_a48_count : Fld Z h46 a48 "com/example/orderly_sieve/orderlysieve/query/RowSet" "count" "I" (.int (0 : Int32)) := D_a48 (Or.inl (hw _ (List.mem_of_getElem? (i := 20) rfl))) (ty := .int) (by decide)
      refine s_dup 193 A S47 at_192 rfl rfl ?_
      refine s_aload 195 A S47 at_193 rfl (by first | rfl | assumption) rfl ?_
      refine s_iload 197 A S47 at_195 rfl rfl ?_
      refine s_iconst (z := (-1 : Int32)) 198 A S47 at_197 rfl rfl ?_
      refine s_spec (y := (⟨"com/example/orderly_sieve/orderlysieve/query/RowSet", "<init>", "([JII)V"⟩ : MethodName)) (argsL := [(.ref a15), (.int n), (.int (-1 : Int32))]) (rest := [(.ref a48)]) (b := a48) 201 A S47 (hw _ (List.mem_of_getElem? (i := 9) rfl)) (hw _ (List.mem_of_getElem? (i := 10) rfl)) (hw _ (List.mem_of_getElem? (i := 8) rfl)) (hw _ (List.mem_of_getElem? (i := 11) rfl)) (rm2 l Z a0 hw [] a48 a15 n (-1 : Int32) h46 n0 Z51 X_a48 F_a48_words F_a48_size F_a48_count ge_a48) (lenOf pd___JII_V rfl) at_198 rfl rfl rfl rfl (by decide) (by decide) (Nat.le_of_ble_eq_true rfl) (by decide) (by decide) fun T52 h54 v55 q56 S53 => ?_
      obtain ⟨rfl, K57, E61, F58, F59, F60⟩ := q56
      show own_G _ _ _ _ _ _ _ _ _ (mkF m 201 #[.val (.long i0), .second, .val (.long i1), .second, .val (.int i2), .val (.int i3), .val (.int n), .val (.int (0 : Int32)), .val (.long (i0 &&& (own_low n))), .second, .val (.long (0 : Int64)), .second, .val (.long ((i0 ^^^ (-1 : Int64)) &&& (own_low n))), .second, .val (.long (0 : Int64)), .second, .val (.ref a15), .val (.ref a31), .val (.int (0 : Int32)), .unset, .unset, .unset, .unset] [(.ref a48)])
      have E65 := Exa.keep X_a48 K57
      have V66 := Arv.keep V49 K57 (ninS ne_a15_a48 nin0)
      have V67 := Arv.keep V50 K57 (ninS ne_a31_a48 nin0)
      have Z68 : n0 ≤ h54.size := Nat.le_trans Z51 K57.1
      refine s_astore (Ls' := #[.val (.long i0), .second, .val (.long i1), .second, .val (.int i2), .val (.int i3), .val (.int n), .val (.int (0 : Int32)), .val (.long (i0 &&& (own_low n))), .second, .val (.long (0 : Int64)), .second, .val (.long ((i0 ^^^ (-1 : Int64)) &&& (own_low n))), .second, .val (.long (0 : Int64)), .second, .val (.ref a15), .val (.ref a31), .val (.int (0 : Int32)), .val (.ref a48), .unset, .unset, .unset]) 203 A S53 at_201 (by first | rfl | assumption) rfl rfl ?_
      refine s_iload 205 A S53 at_203 rfl rfl ?_
      refine s_ifeq (xi := 0) 214 208 A S53 rfl at_205 (by decide) (by decide) rfl (fun c69 tc69 => ?_) (fun c69 tc69 => (by exact absurd tc69 (by decide) : False).elim)
      refine s_aload 216 A S53 at_214 rfl (by first | rfl | assumption) rfl ?_
      refine s_virt (y := (⟨"com/example/orderly_sieve/orderlysieve/query/RowSet", "flip", "()V"⟩ : MethodName)) (z := (⟨"com/example/orderly_sieve/orderlysieve/query/RowSet", "flip", "()V"⟩ : MethodName)) (argsL := []) (rest := []) (b := a48) 219 A S53 E65 (hw _ (List.mem_of_getElem? (i := 33) rfl)) (hw _ (List.mem_of_getElem? (i := 34) rfl)) (notFace_of_selects (args := #[]) (mvT A.2.2.2.2.2.2.2 (hw _ (List.mem_of_getElem? (i := 36) rfl)))) (hw _ (List.mem_of_getElem? (i := 36) rfl)) (hw _ (List.mem_of_getElem? (i := 35) rfl)) (hw _ (List.mem_of_getElem? (i := 8) rfl)) (hw _ (List.mem_of_getElem? (i := 37) rfl)) (rmF1 l Z a0 hw [] a48 a15 k14 n (-1 : Int32) (i0 &&& (own_low n)) h54 n0 Z68 E65 F58 F59 F60 V66 ge_a48 ge_a15 ne_a15_a48) (lenOf pd___V rfl) at_216 rfl rfl rfl (by decide) (by decide) (Nat.le_of_ble_eq_true rfl) (by decide) (by decide) fun T70 h72 v73 q74 S71 => ?_
      obtain ⟨rfl, K75, F76, F77, F78, V79⟩ := q74
      show own_G _ _ _ _ _ _ _ _ _ (mkF m 219 #[.val (.long i0), .second, .val (.long i1), .second, .val (.int i2), .val (.int i3), .val (.int n), .val (.int (0 : Int32)), .val (.long (i0 &&& (own_low n))), .second, .val (.long (0 : Int64)), .second, .val (.long ((i0 ^^^ (-1 : Int64)) &&& (own_low n))), .second, .val (.long (0 : Int64)), .second, .val (.ref a15), .val (.ref a31), .val (.int (0 : Int32)), .val (.ref a48), .unset, .unset, .unset] [])
      rw [own_fcm] at F78
      have fe := own_fme i0 n (by omega) (by omega)
      rw [own_kkS n (by omega)] at fe
      rw [fe] at V79
      have E83 := Exa.keep E65 K75
      have V85 := Arv.keep V67 K75 (ninS ne_a31_a48 (ninS (Ne.symm ne_a15_a31) nin0))
      have Z86 : n0 ≤ h72.size := Nat.le_trans Z68 K75.1
      refine s_aload 221 A S71 at_219 rfl (by first | rfl | assumption) rfl ?_
      refine s_virt (y := (⟨"com/example/orderly_sieve/orderlysieve/query/RowSet", "count", "()I"⟩ : MethodName)) (z := (⟨"com/example/orderly_sieve/orderlysieve/query/RowSet", "count", "()I"⟩ : MethodName)) (argsL := []) (rest := []) (b := a48) 224 A S71 E83 (hw _ (List.mem_of_getElem? (i := 21) rfl)) (hw _ (List.mem_of_getElem? (i := 22) rfl)) (notFace_of_selects (args := #[]) (mvT A.2.2.2.2.2.2.2 (hw _ (List.mem_of_getElem? (i := 24) rfl)))) (hw _ (List.mem_of_getElem? (i := 24) rfl)) (hw _ (List.mem_of_getElem? (i := 23) rfl)) (hw _ (List.mem_of_getElem? (i := 8) rfl)) (hw _ (List.mem_of_getElem? (i := 25) rfl)) (rmC1 l Z a0 hw [] a48 a15 k14 n (-1 : Int32) ((i0 ^^^ (-1 : Int64)) &&& (own_low n)) h72 n0 Z86 E83 F76 F77 F78 V79 ge_a48 ne_a15_a48 (by decide)) (lenOf pd___I rfl) at_221 rfl rfl rfl (by decide) (by decide) (Nat.le_of_ble_eq_true rfl) (by decide) (by decide) fun T87 h89 v90 q91 S88 => ?_
      obtain ⟨rfl, K92, F93, F94, F95⟩ := q91
      show own_G _ _ _ _ _ _ _ _ _ (mkF m 224 #[.val (.long i0), .second, .val (.long i1), .second, .val (.int i2), .val (.int i3), .val (.int n), .val (.int (0 : Int32)), .val (.long (i0 &&& (own_low n))), .second, .val (.long (0 : Int64)), .second, .val (.long ((i0 ^^^ (-1 : Int64)) &&& (own_low n))), .second, .val (.long (0 : Int64)), .second, .val (.ref a15), .val (.ref a31), .val (.int (0 : Int32)), .val (.ref a48), .unset, .unset, .unset] [(.int ((0 : Int32) + (own_bc ((i0 ^^^ (-1 : Int64)) &&& (own_low n)))))])
      have E99 := Exa.keep E83 K92
      have V100 := Arv.keep V85 K92 (ninS ne_a31_a48 nin0)
      have V101 := Arv.keep V79 K92 (ninS ne_a15_a48 nin0)
      have Z102 : n0 ≤ h89.size := Nat.le_trans Z86 K92.1
      refine s_istore (Ls' := #[.val (.long i0), .second, .val (.long i1), .second, .val (.int i2), .val (.int i3), .val (.int n), .val (.int (0 : Int32)), .val (.long (i0 &&& (own_low n))), .second, .val (.long (0 : Int64)), .second, .val (.long ((i0 ^^^ (-1 : Int64)) &&& (own_low n))), .second, .val (.long (0 : Int64)), .second, .val (.ref a15), .val (.ref a31), .val (.int (0 : Int32)), .val (.ref a48), .val (.int ((0 : Int32) + (own_bc ((i0 ^^^ (-1 : Int64)) &&& (own_low n))))), .unset, .unset]) 226 A S88 at_224 rfl rfl ?_
      refine s_new 229 A S88 (hw _ (List.mem_of_getElem? (i := 6) rfl)) (hw _ (List.mem_of_getElem? (i := 7) rfl)) (hw _ (List.mem_of_getElem? (i := 8) rfl)) at_226 rfl (by decide) (by decide) fun T103 h104 a106 ha_a106 E_a106 X_a106 D_a106 S105 => ?_
      have ne_a15_a106 : a15 ≠ a106 := by rw [ha_a106]; exact Nat.ne_of_lt V101.lt
      have ne_a31_a106 : a31 ≠ a106 := by rw [ha_a106]; exact Nat.ne_of_lt V100.lt
      have ne_a48_a106 : a48 ≠ a106 := by rw [ha_a106]; exact Nat.ne_of_lt E99.lt
      have ge_a106 : n0 ≤ a106 := by rw [ha_a106]; exact Z102
      have F107 := Fld.ext E_a106 F93
      have F108 := Fld.ext E_a106 F94
      have F109 := Fld.ext E_a106 F95
      have E110 := Exa.ext E_a106 E99
      have V111 := Arv.ext V100 E_a106
      have V112 := Arv.ext V101 E_a106
      have Z113 : n0 ≤ h104.size := Nat.le_trans Z102 E_a106.1
      have F_a106_words : Fld Z h104 a106 "com/example/orderly_sieve/orderlysieve/query/RowSet" "words" "[J" .null := D_a106 (Or.inr (hw _ (List.mem_of_getElem? (i := 16) rfl))) (ty := (.array .long)) (by decide)
      have F_a106_size : Fld Z h104 a106 "com/example/orderly_sieve/orderlysieve/query/RowSet" "size" "I" (.int (0 : Int32)) := D_a106 (Or.inr (hw _ (List.mem_of_getElem? (i := 18) rfl))) (ty := .int) (by decide)
      have F_a106_count : Fld Z h104 a106 "com/example/orderly_sieve/orderlysieve/query/RowSet" "count" "I" (.int (0 : Int32)) := D_a106 (Or.inl (hw _ (List.mem_of_getElem? (i := 20) rfl))) (ty := .int) (by decide)
      refine s_dup 230 A S105 at_229 rfl rfl ?_
      refine s_aload 232 A S105 at_230 rfl (by first | rfl | assumption) rfl ?_
      refine s_iload 234 A S105 at_232 rfl rfl ?_
      refine s_iconst (z := (-1 : Int32)) 235 A S105 at_234 rfl rfl ?_
      refine s_spec (y := (⟨"com/example/orderly_sieve/orderlysieve/query/RowSet", "<init>", "([JII)V"⟩ : MethodName)) (argsL := [(.ref a31), (.int n), (.int (-1 : Int32))]) (rest := [(.ref a106)]) (b := a106) 238 A S105 (hw _ (List.mem_of_getElem? (i := 9) rfl)) (hw _ (List.mem_of_getElem? (i := 10) rfl)) (hw _ (List.mem_of_getElem? (i := 8) rfl)) (hw _ (List.mem_of_getElem? (i := 11) rfl)) (rm2 l Z a0 hw [] a106 a31 n (-1 : Int32) h104 n0 Z113 X_a106 F_a106_words F_a106_size F_a106_count ge_a106) (lenOf pd___JII_V rfl) at_235 rfl rfl rfl rfl (by decide) (by decide) (Nat.le_of_ble_eq_true rfl) (by decide) (by decide) fun T114 h116 v117 q118 S115 => ?_
      obtain ⟨rfl, K119, E123, F120, F121, F122⟩ := q118
      show own_G _ _ _ _ _ _ _ _ _ (mkF m 238 #[.val (.long i0), .second, .val (.long i1), .second, .val (.int i2), .val (.int i3), .val (.int n), .val (.int (0 : Int32)), .val (.long (i0 &&& (own_low n))), .second, .val (.long (0 : Int64)), .second, .val (.long ((i0 ^^^ (-1 : Int64)) &&& (own_low n))), .second, .val (.long (0 : Int64)), .second, .val (.ref a15), .val (.ref a31), .val (.int (0 : Int32)), .val (.ref a48), .val (.int ((0 : Int32) + (own_bc ((i0 ^^^ (-1 : Int64)) &&& (own_low n))))), .unset, .unset] [(.ref a106)])
      have F124 := Fld.keep F107 K119 (ninS ne_a48_a106 nin0)
      have F125 := Fld.keep F108 K119 (ninS ne_a48_a106 nin0)
      have F126 := Fld.keep F109 K119 (ninS ne_a48_a106 nin0)
      have E130 := Exa.keep E110 K119
      have E131 := Exa.keep X_a106 K119
      have V132 := Arv.keep V111 K119 (ninS ne_a31_a106 nin0)
      have V133 := Arv.keep V112 K119 (ninS ne_a15_a106 nin0)
      have Z134 : n0 ≤ h116.size := Nat.le_trans Z113 K119.1
      refine s_virt (y := (⟨"com/example/orderly_sieve/orderlysieve/query/RowSet", "count", "()I"⟩ : MethodName)) (z := (⟨"com/example/orderly_sieve/orderlysieve/query/RowSet", "count", "()I"⟩ : MethodName)) (argsL := []) (rest := []) (b := a106) 241 A S115 E131 (hw _ (List.mem_of_getElem? (i := 21) rfl)) (hw _ (List.mem_of_getElem? (i := 22) rfl)) (notFace_of_selects (args := #[]) (mvT A.2.2.2.2.2.2.2 (hw _ (List.mem_of_getElem? (i := 24) rfl)))) (hw _ (List.mem_of_getElem? (i := 24) rfl)) (hw _ (List.mem_of_getElem? (i := 23) rfl)) (hw _ (List.mem_of_getElem? (i := 8) rfl)) (hw _ (List.mem_of_getElem? (i := 25) rfl)) (rmC1 l Z a0 hw [] a106 a31 k30 n (-1 : Int32) ((i0 ^^^ (-1 : Int64)) &&& (own_low n)) h116 n0 Z134 E131 F120 F121 F122 V132 ge_a106 ne_a31_a106 (by decide)) (lenOf pd___I rfl) at_238 rfl rfl rfl (by decide) (by decide) (Nat.le_of_ble_eq_true rfl) (by decide) (by decide) fun T135 h137 v138 q139 S136 => ?_
      obtain ⟨rfl, K140, F141, F142, F143⟩ := q139
      show own_G _ _ _ _ _ _ _ _ _ (mkF m 241 #[.val (.long i0), .second, .val (.long i1), .second, .val (.int i2), .val (.int i3), .val (.int n), .val (.int (0 : Int32)), .val (.long (i0 &&& (own_low n))), .second, .val (.long (0 : Int64)), .second, .val (.long ((i0 ^^^ (-1 : Int64)) &&& (own_low n))), .second, .val (.long (0 : Int64)), .second, .val (.ref a15), .val (.ref a31), .val (.int (0 : Int32)), .val (.ref a48), .val (.int ((0 : Int32) + (own_bc ((i0 ^^^ (-1 : Int64)) &&& (own_low n))))), .unset, .unset] [(.int ((0 : Int32) + (own_bc ((i0 ^^^ (-1 : Int64)) &&& (own_low n)))))])
      have F144 := Fld.keep F124 K140 (ninS ne_a48_a106 nin0)
      have F145 := Fld.keep F125 K140 (ninS ne_a48_a106 nin0)
      have F146 := Fld.keep F126 K140 (ninS ne_a48_a106 nin0)
      have E150 := Exa.keep E130 K140
      have E151 := Exa.keep E131 K140
      have V152 := Arv.keep V132 K140 (ninS ne_a31_a106 nin0)
      have V153 := Arv.keep V133 K140 (ninS ne_a15_a106 nin0)
      have Z154 : n0 ≤ h137.size := Nat.le_trans Z134 K140.1
      refine s_istore (Ls' := #[.val (.long i0), .second, .val (.long i1), .second, .val (.int i2), .val (.int i3), .val (.int n), .val (.int (0 : Int32)), .val (.long (i0 &&& (own_low n))), .second, .val (.long (0 : Int64)), .second, .val (.long ((i0 ^^^ (-1 : Int64)) &&& (own_low n))), .second, .val (.long (0 : Int64)), .second, .val (.ref a15), .val (.ref a31), .val (.int (0 : Int32)), .val (.ref a48), .val (.int ((0 : Int32) + (own_bc ((i0 ^^^ (-1 : Int64)) &&& (own_low n))))), .val (.int ((0 : Int32) + (own_bc ((i0 ^^^ (-1 : Int64)) &&& (own_low n))))), .unset]) 243 A S136 at_241 rfl rfl ?_
      refine s_aload 245 A S136 at_243 rfl (by first | rfl | assumption) rfl ?_
      refine s_virt (y := (⟨"com/example/orderly_sieve/orderlysieve/query/RowSet", "words", "()[J"⟩ : MethodName)) (z := (⟨"com/example/orderly_sieve/orderlysieve/query/RowSet", "words", "()[J"⟩ : MethodName)) (argsL := []) (rest := []) (b := a48) 248 A S136 E150 (hw _ (List.mem_of_getElem? (i := 39) rfl)) (hw _ (List.mem_of_getElem? (i := 40) rfl)) (notFace_of_selects (args := #[]) (mvT A.2.2.2.2.2.2.2 (hw _ (List.mem_of_getElem? (i := 42) rfl)))) (hw _ (List.mem_of_getElem? (i := 42) rfl)) (hw _ (List.mem_of_getElem? (i := 41) rfl)) (hw _ (List.mem_of_getElem? (i := 8) rfl)) (hw _ (List.mem_of_getElem? (i := 43) rfl)) (rm7 l Z a0 hw [] a48 a15 n ((0 : Int32) + (own_bc ((i0 ^^^ (-1 : Int64)) &&& (own_low n)))) h137 n0 Z154 E150 F144 F145 F146 ge_a48) (lenOf pd____J rfl) at_245 rfl rfl rfl (by decide) (by decide) (Nat.le_of_ble_eq_true rfl) (by decide) (by decide) fun T155 h157 v158 q159 S156 => ?_
      obtain ⟨rfl, K160, F161, F162, F163⟩ := q159
      show own_G _ _ _ _ _ _ _ _ _ (mkF m 248 #[.val (.long i0), .second, .val (.long i1), .second, .val (.int i2), .val (.int i3), .val (.int n), .val (.int (0 : Int32)), .val (.long (i0 &&& (own_low n))), .second, .val (.long (0 : Int64)), .second, .val (.long ((i0 ^^^ (-1 : Int64)) &&& (own_low n))), .second, .val (.long (0 : Int64)), .second, .val (.ref a15), .val (.ref a31), .val (.int (0 : Int32)), .val (.ref a48), .val (.int ((0 : Int32) + (own_bc ((i0 ^^^ (-1 : Int64)) &&& (own_low n))))), .val (.int ((0 : Int32) + (own_bc ((i0 ^^^ (-1 : Int64)) &&& (own_low n))))), .unset] [(.ref a15)])
      have F167 := Fld.keep F141 K160 (ninS (Ne.symm ne_a48_a106) nin0)
      have F168 := Fld.keep F142 K160 (ninS (Ne.symm ne_a48_a106) nin0)
      have F169 := Fld.keep F143 K160 (ninS (Ne.symm ne_a48_a106) nin0)
      have E170 := Exa.keep E150 K160
      have E171 := Exa.keep E151 K160
      have V172 := Arv.keep V152 K160 (ninS ne_a31_a48 nin0)
      have V173 := Arv.keep V153 K160 (ninS ne_a15_a48 nin0)
      have Z174 : n0 ≤ h157.size := Nat.le_trans Z154 K160.1
      refine s_astore (Ls' := #[.val (.long i0), .second, .val (.long i1), .second, .val (.int i2), .val (.int i3), .val (.int n), .val (.int (0 : Int32)), .val (.long (i0 &&& (own_low n))), .second, .val (.long (0 : Int64)), .second, .val (.long ((i0 ^^^ (-1 : Int64)) &&& (own_low n))), .second, .val (.long (0 : Int64)), .second, .val (.ref a15), .val (.ref a31), .val (.int (0 : Int32)), .val (.ref a48), .val (.int ((0 : Int32) + (own_bc ((i0 ^^^ (-1 : Int64)) &&& (own_low n))))), .val (.int ((0 : Int32) + (own_bc ((i0 ^^^ (-1 : Int64)) &&& (own_low n))))), .val (.ref a15)]) 250 A S156 at_248 (by first | rfl | assumption) rfl rfl ?_
      refine s_aload 252 A S156 at_250 rfl (by first | rfl | assumption) rfl ?_
      refine s_aload 254 A S156 at_252 rfl (by first | rfl | assumption) rfl ?_
      refine s_ane 266 257 A S156 (by first | rfl | assumption) (by first | rfl | assumption) at_254 (by decide) (by decide) rfl (fun c175 => (by exact c175 rfl : False).elim) (fun c175 => ?_)
      refine s_aload 259 A S156 at_257 rfl (by first | rfl | assumption) rfl ?_
      refine s_alen 260 A S156 V173 at_259 rfl ?_
      refine s_aload 262 A S156 at_260 rfl (by first | rfl | assumption) rfl ?_
      refine s_alen 263 A S156 V172 at_262 rfl ?_
      refine s_ieq (xi := 1) (yi := 1) 268 266 A S156 rfl rfl at_263 (by decide) (by decide) rfl (fun c176 tc176 => ?_) (fun c176 tc176 => (by exact absurd tc176 (by decide) : False).elim)
      refine s_aload 270 A S156 at_268 rfl (by first | rfl | assumption) rfl ?_
      refine s_iconst (z := (0 : Int32)) 271 A S156 at_270 rfl rfl ?_
      refine s_lald (v := (.long ((i0 ^^^ (-1 : Int64)) &&& (own_low n)))) 272 A S156 V173 ⟨by decide, by decide⟩ rfl at_271 rfl ?_
      refine s_lload 274 A S156 at_272 rfl rfl ?_
      refine s_lifeq 280 278 275 A S156 rfl rfl at_274 rfl at_275 (by decide) (by decide) rfl (fun c177 tc177 => ?_) (fun c177 tc177 => (by exact c177 rfl : False).elim)
      refine s_iload 282 A S156 at_280 rfl rfl ?_
      refine s_ifeq (xi := 0) 297 285 A S156 rfl at_282 (by decide) (by decide) rfl (fun c178 tc178 => ?_) (fun c178 tc178 => (by exact absurd tc178 (by decide) : False).elim)
      refine s_iload 299 A S156 at_297 rfl rfl ?_
      refine s_iload 301 A S156 at_299 rfl rfl ?_
      refine s_ine 308 304 A S156 rfl rfl at_301 (by decide) (by decide) rfl (fun c179 tc179 => (by exact c179 rfl : False).elim) (fun c179 tc179 => ?_)
      refine s_iconst (z := (1 : Int32)) 305 A S156 at_304 rfl rfl ?_
      refine s_goto 309 A S156 at_305 (by decide) (by decide) ?_
      exact s_retZ A S156 at_309 rfl (by decide) (by decide) rfl
    · refine s_iconst (z := (1 : Int32)) 183 A S37 at_182 rfl rfl ?_
      refine s_goto 187 A S37 at_183 (by decide) (by decide) ?_
      refine s_istore (Ls' := #[.val (.long i0), .second, .val (.long i1), .second, .val (.int i2), .val (.int i3), .val (.int n), .val (.int (0 : Int32)), .val (.long (i0 &&& (own_low n))), .second, .val (.long (0 : Int64)), .second, .val (.long ((i0 ^^^ (-1 : Int64)) &&& (own_low n))), .second, .val (.long (0 : Int64)), .second, .val (.ref a15), .val (.ref a31), .val (.int (1 : Int32)), .unset, .unset, .unset, .unset]) 189 A S37 at_187 rfl rfl ?_
      refine s_new 192 A S37 (hw _ (List.mem_of_getElem? (i := 6) rfl)) (hw _ (List.mem_of_getElem? (i := 7) rfl)) (hw _ (List.mem_of_getElem? (i := 8) rfl)) at_189 rfl (by decide) (by decide) fun T180 h181 a183 ha_a183 E_a183 X_a183 D_a183 S182 => ?_
      have ne_a15_a183 : a15 ≠ a183 := by rw [ha_a183]; exact Nat.ne_of_lt V40.lt
      have ne_a31_a183 : a31 ≠ a183 := by rw [ha_a183]; exact Nat.ne_of_lt V43.lt
      have ge_a183 : n0 ≤ a183 := by rw [ha_a183]; exact Z42
      have V184 := Arv.ext V40 E_a183
      have V185 := Arv.ext V43 E_a183
      have Z186 : n0 ≤ h181.size := Nat.le_trans Z42 E_a183.1
      have F_a183_words : Fld Z h181 a183 "com/example/orderly_sieve/orderlysieve/query/RowSet" "words" "[J" .null := D_a183 (Or.inr (hw _ (List.mem_of_getElem? (i := 16) rfl))) (ty := (.array .long)) (by decide)
      have F_a183_size : Fld Z h181 a183 "com/example/orderly_sieve/orderlysieve/query/RowSet" "size" "I" (.int (0 : Int32)) := D_a183 (Or.inr (hw _ (List.mem_of_getElem? (i := 18) rfl))) (ty := .int) (by decide)
      have F_a183_count : Fld Z h181 a183 "com/example/orderly_sieve/orderlysieve/query/RowSet" "count" "I" (.int (0 : Int32)) := D_a183 (Or.inl (hw _ (List.mem_of_getElem? (i := 20) rfl))) (ty := .int) (by decide)
      refine s_dup 193 A S182 at_192 rfl rfl ?_
      refine s_aload 195 A S182 at_193 rfl (by first | rfl | assumption) rfl ?_
      refine s_iload 197 A S182 at_195 rfl rfl ?_
      refine s_iconst (z := (-1 : Int32)) 198 A S182 at_197 rfl rfl ?_
      refine s_spec (y := (⟨"com/example/orderly_sieve/orderlysieve/query/RowSet", "<init>", "([JII)V"⟩ : MethodName)) (argsL := [(.ref a15), (.int n), (.int (-1 : Int32))]) (rest := [(.ref a183)]) (b := a183) 201 A S182 (hw _ (List.mem_of_getElem? (i := 9) rfl)) (hw _ (List.mem_of_getElem? (i := 10) rfl)) (hw _ (List.mem_of_getElem? (i := 8) rfl)) (hw _ (List.mem_of_getElem? (i := 11) rfl)) (rm2 l Z a0 hw [] a183 a15 n (-1 : Int32) h181 n0 Z186 X_a183 F_a183_words F_a183_size F_a183_count ge_a183) (lenOf pd___JII_V rfl) at_198 rfl rfl rfl rfl (by decide) (by decide) (Nat.le_of_ble_eq_true rfl) (by decide) (by decide) fun T187 h189 v190 q191 S188 => ?_
      obtain ⟨rfl, K192, E196, F193, F194, F195⟩ := q191
      show own_G _ _ _ _ _ _ _ _ _ (mkF m 201 #[.val (.long i0), .second, .val (.long i1), .second, .val (.int i2), .val (.int i3), .val (.int n), .val (.int (0 : Int32)), .val (.long (i0 &&& (own_low n))), .second, .val (.long (0 : Int64)), .second, .val (.long ((i0 ^^^ (-1 : Int64)) &&& (own_low n))), .second, .val (.long (0 : Int64)), .second, .val (.ref a15), .val (.ref a31), .val (.int (1 : Int32)), .unset, .unset, .unset, .unset] [(.ref a183)])
      have E200 := Exa.keep X_a183 K192
      have V201 := Arv.keep V184 K192 (ninS ne_a15_a183 nin0)
      have V202 := Arv.keep V185 K192 (ninS ne_a31_a183 nin0)
      have Z203 : n0 ≤ h189.size := Nat.le_trans Z186 K192.1
      refine s_astore (Ls' := #[.val (.long i0), .second, .val (.long i1), .second, .val (.int i2), .val (.int i3), .val (.int n), .val (.int (0 : Int32)), .val (.long (i0 &&& (own_low n))), .second, .val (.long (0 : Int64)), .second, .val (.long ((i0 ^^^ (-1 : Int64)) &&& (own_low n))), .second, .val (.long (0 : Int64)), .second, .val (.ref a15), .val (.ref a31), .val (.int (1 : Int32)), .val (.ref a183), .unset, .unset, .unset]) 203 A S188 at_201 (by first | rfl | assumption) rfl rfl ?_
      refine s_iload 205 A S188 at_203 rfl rfl ?_
      refine s_ifeq (xi := 1) 214 208 A S188 rfl at_205 (by decide) (by decide) rfl (fun c204 tc204 => (by exact absurd tc204 (by decide) : False).elim) (fun c204 tc204 => ?_)
      refine s_aload 210 A S188 at_208 rfl (by first | rfl | assumption) rfl ?_
      refine s_virt (y := (⟨"com/example/orderly_sieve/orderlysieve/query/RowSet", "count", "()I"⟩ : MethodName)) (z := (⟨"com/example/orderly_sieve/orderlysieve/query/RowSet", "count", "()I"⟩ : MethodName)) (argsL := []) (rest := []) (b := a183) 213 A S188 E200 (hw _ (List.mem_of_getElem? (i := 21) rfl)) (hw _ (List.mem_of_getElem? (i := 22) rfl)) (notFace_of_selects (args := #[]) (mvT A.2.2.2.2.2.2.2 (hw _ (List.mem_of_getElem? (i := 24) rfl)))) (hw _ (List.mem_of_getElem? (i := 24) rfl)) (hw _ (List.mem_of_getElem? (i := 23) rfl)) (hw _ (List.mem_of_getElem? (i := 8) rfl)) (hw _ (List.mem_of_getElem? (i := 25) rfl)) (rmC1 l Z a0 hw [] a183 a15 k14 n (-1 : Int32) (i0 &&& (own_low n)) h189 n0 Z203 E200 F193 F194 F195 V201 ge_a183 ne_a15_a183 (by decide)) (lenOf pd___I rfl) at_210 rfl rfl rfl (by decide) (by decide) (Nat.le_of_ble_eq_true rfl) (by decide) (by decide) fun T205 h207 v208 q209 S206 => ?_
      obtain ⟨rfl, K210, F211, F212, F213⟩ := q209
      show own_G _ _ _ _ _ _ _ _ _ (mkF m 213 #[.val (.long i0), .second, .val (.long i1), .second, .val (.int i2), .val (.int i3), .val (.int n), .val (.int (0 : Int32)), .val (.long (i0 &&& (own_low n))), .second, .val (.long (0 : Int64)), .second, .val (.long ((i0 ^^^ (-1 : Int64)) &&& (own_low n))), .second, .val (.long (0 : Int64)), .second, .val (.ref a15), .val (.ref a31), .val (.int (1 : Int32)), .val (.ref a183), .unset, .unset, .unset] [(.int ((0 : Int32) + (own_bc (i0 &&& (own_low n)))))])
      have E217 := Exa.keep E200 K210
      have V218 := Arv.keep V201 K210 (ninS ne_a15_a183 nin0)
      have V219 := Arv.keep V202 K210 (ninS ne_a31_a183 nin0)
      have Z220 : n0 ≤ h207.size := Nat.le_trans Z203 K210.1
      refine s_pop 214 A S206 at_213 rfl rfl ?_
      refine s_aload 216 A S206 at_214 rfl (by first | rfl | assumption) rfl ?_
      refine s_virt (y := (⟨"com/example/orderly_sieve/orderlysieve/query/RowSet", "flip", "()V"⟩ : MethodName)) (z := (⟨"com/example/orderly_sieve/orderlysieve/query/RowSet", "flip", "()V"⟩ : MethodName)) (argsL := []) (rest := []) (b := a183) 219 A S206 E217 (hw _ (List.mem_of_getElem? (i := 33) rfl)) (hw _ (List.mem_of_getElem? (i := 34) rfl)) (notFace_of_selects (args := #[]) (mvT A.2.2.2.2.2.2.2 (hw _ (List.mem_of_getElem? (i := 36) rfl)))) (hw _ (List.mem_of_getElem? (i := 36) rfl)) (hw _ (List.mem_of_getElem? (i := 35) rfl)) (hw _ (List.mem_of_getElem? (i := 8) rfl)) (hw _ (List.mem_of_getElem? (i := 37) rfl)) (rmF1 l Z a0 hw [] a183 a15 k14 n ((0 : Int32) + (own_bc (i0 &&& (own_low n)))) (i0 &&& (own_low n)) h207 n0 Z220 E217 F211 F212 F213 V218 ge_a183 ge_a15 ne_a15_a183) (lenOf pd___V rfl) at_216 rfl rfl rfl (by decide) (by decide) (Nat.le_of_ble_eq_true rfl) (by decide) (by decide) fun T221 h223 v224 q225 S222 => ?_
      obtain ⟨rfl, K226, F227, F228, F229, V230⟩ := q225
      show own_G _ _ _ _ _ _ _ _ _ (mkF m 219 #[.val (.long i0), .second, .val (.long i1), .second, .val (.int i2), .val (.int i3), .val (.int n), .val (.int (0 : Int32)), .val (.long (i0 &&& (own_low n))), .second, .val (.long (0 : Int64)), .second, .val (.long ((i0 ^^^ (-1 : Int64)) &&& (own_low n))), .second, .val (.long (0 : Int64)), .second, .val (.ref a15), .val (.ref a31), .val (.int (1 : Int32)), .val (.ref a183), .unset, .unset, .unset] [])
      rw [own_fcp (own_z1 _)] at F229
      have fe := own_fme i0 n (by omega) (by omega)
      rw [own_kkS n (by omega)] at fe
      rw [fe] at V230
      have E234 := Exa.keep E217 K226
      have V236 := Arv.keep V219 K226 (ninS ne_a31_a183 (ninS (Ne.symm ne_a15_a31) nin0))
      have Z237 : n0 ≤ h223.size := Nat.le_trans Z220 K226.1
      refine s_aload 221 A S222 at_219 rfl (by first | rfl | assumption) rfl ?_
      refine s_virtV (y := (⟨"com/example/orderly_sieve/orderlysieve/query/RowSet", "count", "()I"⟩ : MethodName)) (z := (⟨"com/example/orderly_sieve/orderlysieve/query/RowSet", "count", "()I"⟩ : MethodName)) (argsL := []) (rest := []) (b := a183) 224 A S222 E234 (hw _ (List.mem_of_getElem? (i := 21) rfl)) (hw _ (List.mem_of_getElem? (i := 22) rfl)) (notFace_of_selects (args := #[]) (mvT A.2.2.2.2.2.2.2 (hw _ (List.mem_of_getElem? (i := 24) rfl)))) (hw _ (List.mem_of_getElem? (i := 24) rfl)) (hw _ (List.mem_of_getElem? (i := 23) rfl)) (hw _ (List.mem_of_getElem? (i := 8) rfl)) (hw _ (List.mem_of_getElem? (i := 25) rfl)) (rmCpos l Z a0 hw [] a183 (n - ((0 : Int32) + (own_bc (i0 &&& (own_low n))))) h223 n0 Z237 F229 (by rw [own_one i0 n (by omega) (by omega)]; exact own_z1 _)) (lenOf pd___I rfl) at_221 rfl rfl rfl (by decide) (by decide) (Nat.le_of_ble_eq_true rfl) (by decide) (by decide) fun T238 S239 => ?_
      refine s_istore (Ls' := #[.val (.long i0), .second, .val (.long i1), .second, .val (.int i2), .val (.int i3), .val (.int n), .val (.int (0 : Int32)), .val (.long (i0 &&& (own_low n))), .second, .val (.long (0 : Int64)), .second, .val (.long ((i0 ^^^ (-1 : Int64)) &&& (own_low n))), .second, .val (.long (0 : Int64)), .second, .val (.ref a15), .val (.ref a31), .val (.int (1 : Int32)), .val (.ref a183), .val (.int (n - ((0 : Int32) + (own_bc (i0 &&& (own_low n)))))), .unset, .unset]) 226 A S239 at_224 rfl rfl ?_
      refine s_new 229 A S239 (hw _ (List.mem_of_getElem? (i := 6) rfl)) (hw _ (List.mem_of_getElem? (i := 7) rfl)) (hw _ (List.mem_of_getElem? (i := 8) rfl)) at_226 rfl (by decide) (by decide) fun T240 h241 a243 ha_a243 E_a243 X_a243 D_a243 S242 => ?_
      have ne_a15_a243 : a15 ≠ a243 := by rw [ha_a243]; exact Nat.ne_of_lt V230.lt
      have ne_a183_a243 : a183 ≠ a243 := by rw [ha_a243]; exact Nat.ne_of_lt E234.lt
      have ne_a31_a243 : a31 ≠ a243 := by rw [ha_a243]; exact Nat.ne_of_lt V236.lt
      have ge_a243 : n0 ≤ a243 := by rw [ha_a243]; exact Z237
      have F244 := Fld.ext E_a243 F227
      have F245 := Fld.ext E_a243 F228
      have F246 := Fld.ext E_a243 F229
      have E247 := Exa.ext E_a243 E234
      have V248 := Arv.ext V236 E_a243
      have V249 := Arv.ext V230 E_a243
      have Z250 : n0 ≤ h241.size := Nat.le_trans Z237 E_a243.1
      have F_a243_words : Fld Z h241 a243 "com/example/orderly_sieve/orderlysieve/query/RowSet" "words" "[J" .null := D_a243 (Or.inr (hw _ (List.mem_of_getElem? (i := 16) rfl))) (ty := (.array .long)) (by decide)
      have F_a243_size : Fld Z h241 a243 "com/example/orderly_sieve/orderlysieve/query/RowSet" "size" "I" (.int (0 : Int32)) := D_a243 (Or.inr (hw _ (List.mem_of_getElem? (i := 18) rfl))) (ty := .int) (by decide)
      have F_a243_count : Fld Z h241 a243 "com/example/orderly_sieve/orderlysieve/query/RowSet" "count" "I" (.int (0 : Int32)) := D_a243 (Or.inl (hw _ (List.mem_of_getElem? (i := 20) rfl))) (ty := .int) (by decide)
      refine s_dup 230 A S242 at_229 rfl rfl ?_
      refine s_aload 232 A S242 at_230 rfl (by first | rfl | assumption) rfl ?_
      refine s_iload 234 A S242 at_232 rfl rfl ?_
      refine s_iconst (z := (-1 : Int32)) 235 A S242 at_234 rfl rfl ?_
      refine s_spec (y := (⟨"com/example/orderly_sieve/orderlysieve/query/RowSet", "<init>", "([JII)V"⟩ : MethodName)) (argsL := [(.ref a31), (.int n), (.int (-1 : Int32))]) (rest := [(.ref a243)]) (b := a243) 238 A S242 (hw _ (List.mem_of_getElem? (i := 9) rfl)) (hw _ (List.mem_of_getElem? (i := 10) rfl)) (hw _ (List.mem_of_getElem? (i := 8) rfl)) (hw _ (List.mem_of_getElem? (i := 11) rfl)) (rm2 l Z a0 hw [] a243 a31 n (-1 : Int32) h241 n0 Z250 X_a243 F_a243_words F_a243_size F_a243_count ge_a243) (lenOf pd___JII_V rfl) at_235 rfl rfl rfl rfl (by decide) (by decide) (Nat.le_of_ble_eq_true rfl) (by decide) (by decide) fun T251 h253 v254 q255 S252 => ?_
      obtain ⟨rfl, K256, E260, F257, F258, F259⟩ := q255
      show own_G _ _ _ _ _ _ _ _ _ (mkF m 238 #[.val (.long i0), .second, .val (.long i1), .second, .val (.int i2), .val (.int i3), .val (.int n), .val (.int (0 : Int32)), .val (.long (i0 &&& (own_low n))), .second, .val (.long (0 : Int64)), .second, .val (.long ((i0 ^^^ (-1 : Int64)) &&& (own_low n))), .second, .val (.long (0 : Int64)), .second, .val (.ref a15), .val (.ref a31), .val (.int (1 : Int32)), .val (.ref a183), .val (.int (n - ((0 : Int32) + (own_bc (i0 &&& (own_low n)))))), .unset, .unset] [(.ref a243)])
      have F261 := Fld.keep F244 K256 (ninS ne_a183_a243 nin0)
      have F262 := Fld.keep F245 K256 (ninS ne_a183_a243 nin0)
      have F263 := Fld.keep F246 K256 (ninS ne_a183_a243 nin0)
      have E267 := Exa.keep E247 K256
      have E268 := Exa.keep X_a243 K256
      have V269 := Arv.keep V248 K256 (ninS ne_a31_a243 nin0)
      have V270 := Arv.keep V249 K256 (ninS ne_a15_a243 nin0)
      have Z271 : n0 ≤ h253.size := Nat.le_trans Z250 K256.1
      refine s_virt (y := (⟨"com/example/orderly_sieve/orderlysieve/query/RowSet", "count", "()I"⟩ : MethodName)) (z := (⟨"com/example/orderly_sieve/orderlysieve/query/RowSet", "count", "()I"⟩ : MethodName)) (argsL := []) (rest := []) (b := a243) 241 A S252 E268 (hw _ (List.mem_of_getElem? (i := 21) rfl)) (hw _ (List.mem_of_getElem? (i := 22) rfl)) (notFace_of_selects (args := #[]) (mvT A.2.2.2.2.2.2.2 (hw _ (List.mem_of_getElem? (i := 24) rfl)))) (hw _ (List.mem_of_getElem? (i := 24) rfl)) (hw _ (List.mem_of_getElem? (i := 23) rfl)) (hw _ (List.mem_of_getElem? (i := 8) rfl)) (hw _ (List.mem_of_getElem? (i := 25) rfl)) (rmC1 l Z a0 hw [] a243 a31 k30 n (-1 : Int32) ((i0 ^^^ (-1 : Int64)) &&& (own_low n)) h253 n0 Z271 E268 F257 F258 F259 V269 ge_a243 ne_a31_a243 (by decide)) (lenOf pd___I rfl) at_238 rfl rfl rfl (by decide) (by decide) (Nat.le_of_ble_eq_true rfl) (by decide) (by decide) fun T272 h274 v275 q276 S273 => ?_
      obtain ⟨rfl, K277, F278, F279, F280⟩ := q276
      show own_G _ _ _ _ _ _ _ _ _ (mkF m 241 #[.val (.long i0), .second, .val (.long i1), .second, .val (.int i2), .val (.int i3), .val (.int n), .val (.int (0 : Int32)), .val (.long (i0 &&& (own_low n))), .second, .val (.long (0 : Int64)), .second, .val (.long ((i0 ^^^ (-1 : Int64)) &&& (own_low n))), .second, .val (.long (0 : Int64)), .second, .val (.ref a15), .val (.ref a31), .val (.int (1 : Int32)), .val (.ref a183), .val (.int (n - ((0 : Int32) + (own_bc (i0 &&& (own_low n)))))), .unset, .unset] [(.int ((0 : Int32) + (own_bc ((i0 ^^^ (-1 : Int64)) &&& (own_low n)))))])
      have F281 := Fld.keep F261 K277 (ninS ne_a183_a243 nin0)
      have F282 := Fld.keep F262 K277 (ninS ne_a183_a243 nin0)
      have F283 := Fld.keep F263 K277 (ninS ne_a183_a243 nin0)
      have E287 := Exa.keep E267 K277
      have E288 := Exa.keep E268 K277
      have V289 := Arv.keep V269 K277 (ninS ne_a31_a243 nin0)
      have V290 := Arv.keep V270 K277 (ninS ne_a15_a243 nin0)
      have Z291 : n0 ≤ h274.size := Nat.le_trans Z271 K277.1
      refine s_istore (Ls' := #[.val (.long i0), .second, .val (.long i1), .second, .val (.int i2), .val (.int i3), .val (.int n), .val (.int (0 : Int32)), .val (.long (i0 &&& (own_low n))), .second, .val (.long (0 : Int64)), .second, .val (.long ((i0 ^^^ (-1 : Int64)) &&& (own_low n))), .second, .val (.long (0 : Int64)), .second, .val (.ref a15), .val (.ref a31), .val (.int (1 : Int32)), .val (.ref a183), .val (.int (n - ((0 : Int32) + (own_bc (i0 &&& (own_low n)))))), .val (.int ((0 : Int32) + (own_bc ((i0 ^^^ (-1 : Int64)) &&& (own_low n))))), .unset]) 243 A S273 at_241 rfl rfl ?_
      refine s_aload 245 A S273 at_243 rfl (by first | rfl | assumption) rfl ?_
      refine s_virt (y := (⟨"com/example/orderly_sieve/orderlysieve/query/RowSet", "words", "()[J"⟩ : MethodName)) (z := (⟨"com/example/orderly_sieve/orderlysieve/query/RowSet", "words", "()[J"⟩ : MethodName)) (argsL := []) (rest := []) (b := a183) 248 A S273 E287 (hw _ (List.mem_of_getElem? (i := 39) rfl)) (hw _ (List.mem_of_getElem? (i := 40) rfl)) (notFace_of_selects (args := #[]) (mvT A.2.2.2.2.2.2.2 (hw _ (List.mem_of_getElem? (i := 42) rfl)))) (hw _ (List.mem_of_getElem? (i := 42) rfl)) (hw _ (List.mem_of_getElem? (i := 41) rfl)) (hw _ (List.mem_of_getElem? (i := 8) rfl)) (hw _ (List.mem_of_getElem? (i := 43) rfl)) (rm7 l Z a0 hw [] a183 a15 n (n - ((0 : Int32) + (own_bc (i0 &&& (own_low n))))) h274 n0 Z291 E287 F281 F282 F283 ge_a183) (lenOf pd____J rfl) at_245 rfl rfl rfl (by decide) (by decide) (Nat.le_of_ble_eq_true rfl) (by decide) (by decide) fun T292 h294 v295 q296 S293 => ?_
      obtain ⟨rfl, K297, F298, F299, F300⟩ := q296
      show own_G _ _ _ _ _ _ _ _ _ (mkF m 248 #[.val (.long i0), .second, .val (.long i1), .second, .val (.int i2), .val (.int i3), .val (.int n), .val (.int (0 : Int32)), .val (.long (i0 &&& (own_low n))), .second, .val (.long (0 : Int64)), .second, .val (.long ((i0 ^^^ (-1 : Int64)) &&& (own_low n))), .second, .val (.long (0 : Int64)), .second, .val (.ref a15), .val (.ref a31), .val (.int (1 : Int32)), .val (.ref a183), .val (.int (n - ((0 : Int32) + (own_bc (i0 &&& (own_low n)))))), .val (.int ((0 : Int32) + (own_bc ((i0 ^^^ (-1 : Int64)) &&& (own_low n))))), .unset] [(.ref a15)])
      have F304 := Fld.keep F278 K297 (ninS (Ne.symm ne_a183_a243) nin0)
      have F305 := Fld.keep F279 K297 (ninS (Ne.symm ne_a183_a243) nin0)
      have F306 := Fld.keep F280 K297 (ninS (Ne.symm ne_a183_a243) nin0)
      have E307 := Exa.keep E287 K297
      have E308 := Exa.keep E288 K297
      have V309 := Arv.keep V289 K297 (ninS ne_a31_a183 nin0)
      have V310 := Arv.keep V290 K297 (ninS ne_a15_a183 nin0)
      have Z311 : n0 ≤ h294.size := Nat.le_trans Z291 K297.1
      refine s_astore (Ls' := #[.val (.long i0), .second, .val (.long i1), .second, .val (.int i2), .val (.int i3), .val (.int n), .val (.int (0 : Int32)), .val (.long (i0 &&& (own_low n))), .second, .val (.long (0 : Int64)), .second, .val (.long ((i0 ^^^ (-1 : Int64)) &&& (own_low n))), .second, .val (.long (0 : Int64)), .second, .val (.ref a15), .val (.ref a31), .val (.int (1 : Int32)), .val (.ref a183), .val (.int (n - ((0 : Int32) + (own_bc (i0 &&& (own_low n)))))), .val (.int ((0 : Int32) + (own_bc ((i0 ^^^ (-1 : Int64)) &&& (own_low n))))), .val (.ref a15)]) 250 A S293 at_248 (by first | rfl | assumption) rfl rfl ?_
      refine s_aload 252 A S293 at_250 rfl (by first | rfl | assumption) rfl ?_
      refine s_aload 254 A S293 at_252 rfl (by first | rfl | assumption) rfl ?_
      refine s_ane 266 257 A S293 (by first | rfl | assumption) (by first | rfl | assumption) at_254 (by decide) (by decide) rfl (fun c312 => (by exact c312 rfl : False).elim) (fun c312 => ?_)
      refine s_aload 259 A S293 at_257 rfl (by first | rfl | assumption) rfl ?_
      refine s_alen 260 A S293 V310 at_259 rfl ?_
      refine s_aload 262 A S293 at_260 rfl (by first | rfl | assumption) rfl ?_
      refine s_alen 263 A S293 V309 at_262 rfl ?_
      refine s_ieq (xi := 1) (yi := 1) 268 266 A S293 rfl rfl at_263 (by decide) (by decide) rfl (fun c313 tc313 => ?_) (fun c313 tc313 => (by exact absurd tc313 (by decide) : False).elim)
      refine s_aload 270 A S293 at_268 rfl (by first | rfl | assumption) rfl ?_
      refine s_iconst (z := (0 : Int32)) 271 A S293 at_270 rfl rfl ?_
      refine s_lald (v := (.long ((i0 ^^^ (-1 : Int64)) &&& (own_low n)))) 272 A S293 V310 ⟨by decide, by decide⟩ rfl at_271 rfl ?_
      refine s_lload 274 A S293 at_272 rfl rfl ?_
      refine s_lifeq 280 278 275 A S293 rfl rfl at_274 rfl at_275 (by decide) (by decide) rfl (fun c314 tc314 => ?_) (fun c314 tc314 => (by exact c314 rfl : False).elim)
      refine s_iload 282 A S293 at_280 rfl rfl ?_
      refine s_ifeq (xi := 0) 297 285 A S293 rfl at_282 (by decide) (by decide) rfl (fun c315 tc315 => ?_) (fun c315 tc315 => (by exact absurd tc315 (by decide) : False).elim)
      refine s_iload 299 A S293 at_297 rfl rfl ?_
      refine s_iload 301 A S293 at_299 rfl rfl ?_
      refine s_ine 308 304 A S293 rfl rfl at_301 (by decide) (by decide) rfl (fun c316 tc316 => (by exact c316 (own_one i0 n (by omega) (by omega)) : False).elim) (fun c316 tc316 => ?_)
      refine s_iconst (z := (1 : Int32)) 305 A S293 at_304 rfl rfl ?_
      refine s_goto 309 A S293 at_305 (by decide) (by decide) ?_
      exact s_retZ A S293 at_309 rfl (by decide) (by decide) rfl
  · refine s_iconst (z := (1 : Int32)) 17 A S at_16 rfl rfl ?_
    refine s_goto 21 A S at_17 (by decide) (by decide) ?_
    refine s_istore (Ls' := #[.val (.long i0), .second, .val (.long i1), .second, .val (.int i2), .val (.int i3), .val (.int n), .val (.int (1 : Int32)), .unset, .unset, .unset, .unset, .unset, .unset, .unset, .unset, .unset, .unset, .unset, .unset, .unset, .unset, .unset]) 23 A S at_21 rfl rfl ?_
    refine s_iload 25 A S at_23 rfl rfl ?_
    refine s_ifeq (xi := 1) 32 28 A S rfl at_25 (by decide) (by decide) rfl (fun c317 tc317 => (by exact absurd tc317 (by decide) : False).elim) (fun c317 tc317 => ?_)
    refine s_lloadN 29 A S at_28 rfl rfl ?_
    refine s_goto 39 A S at_29 (by decide) (by decide) ?_
    refine s_lstore (Ls' := #[.val (.long i0), .second, .val (.long i1), .second, .val (.int i2), .val (.int i3), .val (.int n), .val (.int (1 : Int32)), .val (.long i0), .second, .unset, .unset, .unset, .unset, .unset, .unset, .unset, .unset, .unset, .unset, .unset, .unset, .unset]) 41 A S at_39 rfl rfl ?_
    refine s_iload 43 A S at_41 rfl rfl ?_
    refine s_ifeq (xi := 1) 59 46 A S rfl at_43 (by decide) (by decide) rfl (fun c318 tc318 => (by exact absurd tc318 (by decide) : False).elim) (fun c318 tc318 => ?_)
    refine s_lloadN 47 A S at_46 rfl rfl ?_
    refine s_iload 49 A S at_47 rfl rfl ?_
    refine s_bipush (z := (64 : Int32)) 51 A S at_49 rfl rfl ?_
    refine s_isub (z := (n - (64 : Int32))) 52 A S at_51 rfl rfl ?_
    refine s_callV (y := (⟨"com/example/orderly_sieve/orderlysieve/query/RowSetFlipPinLaw", "low", "(I)J"⟩ : MethodName)) (argsL := [(.int (n - (64 : Int32)))]) (rest := [(.long i1)]) 55 A S (hw _ (List.mem_of_getElem? (i := 0) rfl)) (hw _ (List.mem_of_getElem? (i := 1) rfl)) (hw _ (List.mem_of_getElem? (i := 2) rfl)) (hw _ (List.mem_of_getElem? (i := 3) rfl)) (rm1 l Z a0 hw [] (n - (64 : Int32)) h0 n0 Z0) (lenOf pd__I_J rfl) at_52 rfl rfl rfl (by decide) (by decide) (Nat.le_of_ble_eq_true rfl) (by decide) (by decide) fun T319 S320 => ?_
    refine s_land (z := (i1 &&& (own_low (n - (64 : Int32))))) 56 A S320 at_55 rfl rfl ?_
    refine s_goto 60 A S320 at_56 (by decide) (by decide) ?_
    refine s_lstore (Ls' := #[.val (.long i0), .second, .val (.long i1), .second, .val (.int i2), .val (.int i3), .val (.int n), .val (.int (1 : Int32)), .val (.long i0), .second, .val (.long (i1 &&& (own_low (n - (64 : Int32))))), .second, .unset, .unset, .unset, .unset, .unset, .unset, .unset, .unset, .unset, .unset, .unset]) 62 A S320 at_60 rfl rfl ?_
    refine s_iload 64 A S320 at_62 rfl rfl ?_
    refine s_ifeq (xi := 1) 75 67 A S320 rfl at_64 (by decide) (by decide) rfl (fun c321 tc321 => (by exact absurd tc321 (by decide) : False).elim) (fun c321 tc321 => ?_)
    refine s_lloadN 68 A S320 at_67 rfl rfl ?_
    refine s_ldc2 71 A S320 (hw _ (List.mem_of_getElem? (i := 4) rfl)) at_68 rfl ?_
    refine s_lxor (z := (i0 ^^^ (-1 : Int64))) 72 A S320 at_71 rfl rfl ?_
    refine s_goto 86 A S320 at_72 (by decide) (by decide) ?_
    refine s_lstore (Ls' := #[.val (.long i0), .second, .val (.long i1), .second, .val (.int i2), .val (.int i3), .val (.int n), .val (.int (1 : Int32)), .val (.long i0), .second, .val (.long (i1 &&& (own_low (n - (64 : Int32))))), .second, .val (.long (i0 ^^^ (-1 : Int64))), .second, .unset, .unset, .unset, .unset, .unset, .unset, .unset, .unset, .unset]) 88 A S320 at_86 rfl rfl ?_
    refine s_iload 90 A S320 at_88 rfl rfl ?_
    refine s_ifeq (xi := 1) 110 93 A S320 rfl at_90 (by decide) (by decide) rfl (fun c322 tc322 => (by exact absurd tc322 (by decide) : False).elim) (fun c322 tc322 => ?_)
    refine s_lloadN 94 A S320 at_93 rfl rfl ?_
    refine s_ldc2 97 A S320 (hw _ (List.mem_of_getElem? (i := 4) rfl)) at_94 rfl ?_
    refine s_lxor (z := (i1 ^^^ (-1 : Int64))) 98 A S320 at_97 rfl rfl ?_
    refine s_iload 100 A S320 at_98 rfl rfl ?_
    refine s_bipush (z := (64 : Int32)) 102 A S320 at_100 rfl rfl ?_
    refine s_isub (z := (n - (64 : Int32))) 103 A S320 at_102 rfl rfl ?_
    refine s_callV (y := (⟨"com/example/orderly_sieve/orderlysieve/query/RowSetFlipPinLaw", "low", "(I)J"⟩ : MethodName)) (argsL := [(.int (n - (64 : Int32)))]) (rest := [(.long (i1 ^^^ (-1 : Int64)))]) 106 A S320 (hw _ (List.mem_of_getElem? (i := 0) rfl)) (hw _ (List.mem_of_getElem? (i := 1) rfl)) (hw _ (List.mem_of_getElem? (i := 2) rfl)) (hw _ (List.mem_of_getElem? (i := 3) rfl)) (rm1 l Z a0 hw [] (n - (64 : Int32)) h0 n0 Z0) (lenOf pd__I_J rfl) at_103 rfl rfl rfl (by decide) (by decide) (Nat.le_of_ble_eq_true rfl) (by decide) (by decide) fun T323 S324 => ?_
    refine s_land (z := ((i1 ^^^ (-1 : Int64)) &&& (own_low (n - (64 : Int32))))) 107 A S324 at_106 rfl rfl ?_
    refine s_goto 111 A S324 at_107 (by decide) (by decide) ?_
    refine s_lstore (Ls' := #[.val (.long i0), .second, .val (.long i1), .second, .val (.int i2), .val (.int i3), .val (.int n), .val (.int (1 : Int32)), .val (.long i0), .second, .val (.long (i1 &&& (own_low (n - (64 : Int32))))), .second, .val (.long (i0 ^^^ (-1 : Int64))), .second, .val (.long ((i1 ^^^ (-1 : Int64)) &&& (own_low (n - (64 : Int32))))), .second, .unset, .unset, .unset, .unset, .unset, .unset, .unset]) 113 A S324 at_111 rfl rfl ?_
    refine s_iload 115 A S324 at_113 rfl rfl ?_
    refine s_ifeq (xi := 1) 134 118 A S324 rfl at_115 (by decide) (by decide) rfl (fun c325 tc325 => (by exact absurd tc325 (by decide) : False).elim) (fun c325 tc325 => ?_)
    refine s_iconst (z := (2 : Int32)) 119 A S324 at_118 rfl rfl ?_
    refine s_newP (cap := 2) 121 A S324 (hw _ (List.mem_of_getElem? (i := 5) rfl)) at_119 (by decide) (by decide) (by decide) rfl (by decide) (by decide) fun T326 h327 k329 a330 ha_a330 E_a330 V_a330 S328 => ?_
    have ge_a330 : n0 ≤ a330 := by rw [ha_a330]; exact Z0
    have Z331 : n0 ≤ h327.size := Nat.le_trans Z0 E_a330.1
    have V332 : Arv Z h327 a330 k329 .long (2 : Int32) [(.long 0), (.long 0)] (.long 0) := Arv.pad V_a330 (fun i => by simpa using pad_rep [] (.long 0) 2 i)
    refine s_dup 122 A S328 at_121 rfl rfl ?_
    refine s_iconst (z := (0 : Int32)) 123 A S328 at_122 rfl rfl ?_
    refine s_lload 125 A S328 at_123 rfl rfl ?_
    refine s_last 126 A S328 V332 ⟨by decide, by decide⟩ 0 rfl (Nat.le_of_ble_eq_true rfl) ge_a330 at_125 rfl fun T333 h334 W336 V337 S335 => ?_
    have Z339 : n0 ≤ h334.size := by rw [W336.size]; exact Z331
    have V340 : Arv Z h334 a330 k329 .long (2 : Int32) [(.long i0), (.long 0)] (.long 0) := V337
    refine s_dup 127 A S335 at_126 rfl rfl ?_
    refine s_iconst (z := (1 : Int32)) 128 A S335 at_127 rfl rfl ?_
    refine s_lload 130 A S335 at_128 rfl rfl ?_
    refine s_last 131 A S335 V340 ⟨by decide, by decide⟩ 1 rfl (Nat.le_of_ble_eq_true rfl) ge_a330 at_130 rfl fun T341 h342 W344 V345 S343 => ?_
    have Z347 : n0 ≤ h342.size := by rw [W344.size]; exact Z339
    have V348 : Arv Z h342 a330 k329 .long (2 : Int32) [(.long i0), (.long (i1 &&& (own_low (n - (64 : Int32)))))] (.long 0) := V345
    refine s_goto 142 A S343 at_131 (by decide) (by decide) ?_
    refine s_astore (Ls' := #[.val (.long i0), .second, .val (.long i1), .second, .val (.int i2), .val (.int i3), .val (.int n), .val (.int (1 : Int32)), .val (.long i0), .second, .val (.long (i1 &&& (own_low (n - (64 : Int32))))), .second, .val (.long (i0 ^^^ (-1 : Int64))), .second, .val (.long ((i1 ^^^ (-1 : Int64)) &&& (own_low (n - (64 : Int32))))), .second, .val (.ref a330), .unset, .unset, .unset, .unset, .unset, .unset]) 144 A S343 at_142 (by first | rfl | assumption) rfl rfl ?_
    refine s_iload 146 A S343 at_144 rfl rfl ?_
    refine s_ifeq (xi := 1) 165 149 A S343 rfl at_146 (by decide) (by decide) rfl (fun c349 tc349 => (by exact absurd tc349 (by decide) : False).elim) (fun c349 tc349 => ?_)
    refine s_iconst (z := (2 : Int32)) 150 A S343 at_149 rfl rfl ?_
    refine s_newP (cap := 2) 152 A S343 (hw _ (List.mem_of_getElem? (i := 5) rfl)) at_150 (by decide) (by decide) (by decide) rfl (by decide) (by decide) fun T350 h351 k353 a354 ha_a354 E_a354 V_a354 S352 => ?_
    have ne_a330_a354 : a330 ≠ a354 := by rw [ha_a354]; exact Nat.ne_of_lt V348.lt
    have ge_a354 : n0 ≤ a354 := by rw [ha_a354]; exact Z347
    have V355 := Arv.ext V348 E_a354
    have Z356 : n0 ≤ h351.size := Nat.le_trans Z347 E_a354.1
    have V357 : Arv Z h351 a354 k353 .long (2 : Int32) [(.long 0), (.long 0)] (.long 0) := Arv.pad V_a354 (fun i => by simpa using pad_rep [] (.long 0) 2 i)
    refine s_dup 153 A S352 at_152 rfl rfl ?_
    refine s_iconst (z := (0 : Int32)) 154 A S352 at_153 rfl rfl ?_
    refine s_lload 156 A S352 at_154 rfl rfl ?_
    refine s_last 157 A S352 V357 ⟨by decide, by decide⟩ 0 rfl (Nat.le_of_ble_eq_true rfl) ge_a354 at_156 rfl fun T358 h359 W361 V362 S360 => ?_
    have V363 := Arv.other V355 W361 ne_a330_a354
    have Z365 : n0 ≤ h359.size := by rw [W361.size]; exact Z356
    have V366 : Arv Z h359 a354 k353 .long (2 : Int32) [(.long (i0 ^^^ (-1 : Int64))), (.long 0)] (.long 0) := V362
    refine s_dup 158 A S360 at_157 rfl rfl ?_
    refine s_iconst (z := (1 : Int32)) 159 A S360 at_158 rfl rfl ?_
    refine s_lload 161 A S360 at_159 rfl rfl ?_
    refine s_last 162 A S360 V366 ⟨by decide, by decide⟩ 1 rfl (Nat.le_of_ble_eq_true rfl) ge_a354 at_161 rfl fun T367 h368 W370 V371 S369 => ?_
    have V372 := Arv.other V363 W370 ne_a330_a354
    have Z374 : n0 ≤ h368.size := by rw [W370.size]; exact Z365
    have V375 : Arv Z h368 a354 k353 .long (2 : Int32) [(.long (i0 ^^^ (-1 : Int64))), (.long ((i1 ^^^ (-1 : Int64)) &&& (own_low (n - (64 : Int32)))))] (.long 0) := V371
    refine s_goto 173 A S369 at_162 (by decide) (by decide) ?_
    refine s_astore (Ls' := #[.val (.long i0), .second, .val (.long i1), .second, .val (.int i2), .val (.int i3), .val (.int n), .val (.int (1 : Int32)), .val (.long i0), .second, .val (.long (i1 &&& (own_low (n - (64 : Int32))))), .second, .val (.long (i0 ^^^ (-1 : Int64))), .second, .val (.long ((i1 ^^^ (-1 : Int64)) &&& (own_low (n - (64 : Int32))))), .second, .val (.ref a330), .val (.ref a354), .unset, .unset, .unset, .unset, .unset]) 175 A S369 at_173 (by first | rfl | assumption) rfl rfl ?_
    refine s_iload 177 A S369 at_175 rfl rfl ?_
    refine s_iconst (z := (1 : Int32)) 178 A S369 at_177 rfl rfl ?_
    refine s_iand (z := (i3 &&& (1 : Int32))) 179 A S369 at_178 rfl rfl ?_
    refine s_ifeq 186 182 A S369 rfl at_179 (by decide) (by decide) rfl (fun c376 tc376 => ?_) (fun c376 tc376 => ?_)
    · refine s_iconst (z := (0 : Int32)) 187 A S369 at_186 rfl rfl ?_
      refine s_istore (Ls' := #[.val (.long i0), .second, .val (.long i1), .second, .val (.int i2), .val (.int i3), .val (.int n), .val (.int (1 : Int32)), .val (.long i0), .second, .val (.long (i1 &&& (own_low (n - (64 : Int32))))), .second, .val (.long (i0 ^^^ (-1 : Int64))), .second, .val (.long ((i1 ^^^ (-1 : Int64)) &&& (own_low (n - (64 : Int32))))), .second, .val (.ref a330), .val (.ref a354), .val (.int (0 : Int32)), .unset, .unset, .unset, .unset]) 189 A S369 at_187 rfl rfl ?_
      refine s_new 192 A S369 (hw _ (List.mem_of_getElem? (i := 6) rfl)) (hw _ (List.mem_of_getElem? (i := 7) rfl)) (hw _ (List.mem_of_getElem? (i := 8) rfl)) at_189 rfl (by decide) (by decide) fun T377 h378 a380 ha_a380 E_a380 X_a380 D_a380 S379 => ?_
      have ne_a330_a380 : a330 ≠ a380 := by rw [ha_a380]; exact Nat.ne_of_lt V372.lt
      have ne_a354_a380 : a354 ≠ a380 := by rw [ha_a380]; exact Nat.ne_of_lt V375.lt
      have ge_a380 : n0 ≤ a380 := by rw [ha_a380]; exact Z374
      have V381 := Arv.ext V372 E_a380
      have V382 := Arv.ext V375 E_a380
      have Z383 : n0 ≤ h378.size := Nat.le_trans Z374 E_a380.1
      have F_a380_words : Fld Z h378 a380 "com/example/orderly_sieve/orderlysieve/query/RowSet" "words" "[J" .null := D_a380 (Or.inr (hw _ (List.mem_of_getElem? (i := 16) rfl))) (ty := (.array .long)) (by decide)
      have F_a380_size : Fld Z h378 a380 "com/example/orderly_sieve/orderlysieve/query/RowSet" "size" "I" (.int (0 : Int32)) := D_a380 (Or.inr (hw _ (List.mem_of_getElem? (i := 18) rfl))) (ty := .int) (by decide)
      have F_a380_count : Fld Z h378 a380 "com/example/orderly_sieve/orderlysieve/query/RowSet" "count" "I" (.int (0 : Int32)) := D_a380 (Or.inl (hw _ (List.mem_of_getElem? (i := 20) rfl))) (ty := .int) (by decide)
      refine s_dup 193 A S379 at_192 rfl rfl ?_
      refine s_aload 195 A S379 at_193 rfl (by first | rfl | assumption) rfl ?_
      refine s_iload 197 A S379 at_195 rfl rfl ?_
      refine s_iconst (z := (-1 : Int32)) 198 A S379 at_197 rfl rfl ?_
      refine s_spec (y := (⟨"com/example/orderly_sieve/orderlysieve/query/RowSet", "<init>", "([JII)V"⟩ : MethodName)) (argsL := [(.ref a330), (.int n), (.int (-1 : Int32))]) (rest := [(.ref a380)]) (b := a380) 201 A S379 (hw _ (List.mem_of_getElem? (i := 9) rfl)) (hw _ (List.mem_of_getElem? (i := 10) rfl)) (hw _ (List.mem_of_getElem? (i := 8) rfl)) (hw _ (List.mem_of_getElem? (i := 11) rfl)) (rm2 l Z a0 hw [] a380 a330 n (-1 : Int32) h378 n0 Z383 X_a380 F_a380_words F_a380_size F_a380_count ge_a380) (lenOf pd___JII_V rfl) at_198 rfl rfl rfl rfl (by decide) (by decide) (Nat.le_of_ble_eq_true rfl) (by decide) (by decide) fun T384 h386 v387 q388 S385 => ?_
      obtain ⟨rfl, K389, E393, F390, F391, F392⟩ := q388
      show own_G _ _ _ _ _ _ _ _ _ (mkF m 201 #[.val (.long i0), .second, .val (.long i1), .second, .val (.int i2), .val (.int i3), .val (.int n), .val (.int (1 : Int32)), .val (.long i0), .second, .val (.long (i1 &&& (own_low (n - (64 : Int32))))), .second, .val (.long (i0 ^^^ (-1 : Int64))), .second, .val (.long ((i1 ^^^ (-1 : Int64)) &&& (own_low (n - (64 : Int32))))), .second, .val (.ref a330), .val (.ref a354), .val (.int (0 : Int32)), .unset, .unset, .unset, .unset] [(.ref a380)])
      have E397 := Exa.keep X_a380 K389
      have V398 := Arv.keep V381 K389 (ninS ne_a330_a380 nin0)
      have V399 := Arv.keep V382 K389 (ninS ne_a354_a380 nin0)
      have Z400 : n0 ≤ h386.size := Nat.le_trans Z383 K389.1
      refine s_astore (Ls' := #[.val (.long i0), .second, .val (.long i1), .second, .val (.int i2), .val (.int i3), .val (.int n), .val (.int (1 : Int32)), .val (.long i0), .second, .val (.long (i1 &&& (own_low (n - (64 : Int32))))), .second, .val (.long (i0 ^^^ (-1 : Int64))), .second, .val (.long ((i1 ^^^ (-1 : Int64)) &&& (own_low (n - (64 : Int32))))), .second, .val (.ref a330), .val (.ref a354), .val (.int (0 : Int32)), .val (.ref a380), .unset, .unset, .unset]) 203 A S385 at_201 (by first | rfl | assumption) rfl rfl ?_
      refine s_iload 205 A S385 at_203 rfl rfl ?_
      refine s_ifeq (xi := 0) 214 208 A S385 rfl at_205 (by decide) (by decide) rfl (fun c401 tc401 => ?_) (fun c401 tc401 => (by exact absurd tc401 (by decide) : False).elim)
      refine s_aload 216 A S385 at_214 rfl (by first | rfl | assumption) rfl ?_
      refine s_virt (y := (⟨"com/example/orderly_sieve/orderlysieve/query/RowSet", "flip", "()V"⟩ : MethodName)) (z := (⟨"com/example/orderly_sieve/orderlysieve/query/RowSet", "flip", "()V"⟩ : MethodName)) (argsL := []) (rest := []) (b := a380) 219 A S385 E397 (hw _ (List.mem_of_getElem? (i := 33) rfl)) (hw _ (List.mem_of_getElem? (i := 34) rfl)) (notFace_of_selects (args := #[]) (mvT A.2.2.2.2.2.2.2 (hw _ (List.mem_of_getElem? (i := 36) rfl)))) (hw _ (List.mem_of_getElem? (i := 36) rfl)) (hw _ (List.mem_of_getElem? (i := 35) rfl)) (hw _ (List.mem_of_getElem? (i := 8) rfl)) (hw _ (List.mem_of_getElem? (i := 37) rfl)) (rmF2 l Z a0 hw [] a380 a330 k329 n (-1 : Int32) i0 (i1 &&& (own_low (n - (64 : Int32)))) h386 n0 Z400 E397 F390 F391 F392 V398 ge_a380 ge_a330 ne_a330_a380) (lenOf pd___V rfl) at_216 rfl rfl rfl (by decide) (by decide) (Nat.le_of_ble_eq_true rfl) (by decide) (by decide) fun T402 h404 v405 q406 S403 => ?_
      obtain ⟨rfl, K407, F408, F409, F410, V411⟩ := q406
      show own_G _ _ _ _ _ _ _ _ _ (mkF m 219 #[.val (.long i0), .second, .val (.long i1), .second, .val (.int i2), .val (.int i3), .val (.int n), .val (.int (1 : Int32)), .val (.long i0), .second, .val (.long (i1 &&& (own_low (n - (64 : Int32))))), .second, .val (.long (i0 ^^^ (-1 : Int64))), .second, .val (.long ((i1 ^^^ (-1 : Int64)) &&& (own_low (n - (64 : Int32))))), .second, .val (.ref a330), .val (.ref a354), .val (.int (0 : Int32)), .val (.ref a380), .unset, .unset, .unset] [])
      rw [own_fcm] at F410
      have fe := own_fme i1 n (by omega) (by omega)
      rw [own_kkL n (by omega)] at fe
      rw [fe] at V411
      have E415 := Exa.keep E397 K407
      have V417 := Arv.keep V399 K407 (ninS ne_a354_a380 (ninS (Ne.symm ne_a330_a354) nin0))
      have Z418 : n0 ≤ h404.size := Nat.le_trans Z400 K407.1
      refine s_aload 221 A S403 at_219 rfl (by first | rfl | assumption) rfl ?_
      refine s_virt (y := (⟨"com/example/orderly_sieve/orderlysieve/query/RowSet", "count", "()I"⟩ : MethodName)) (z := (⟨"com/example/orderly_sieve/orderlysieve/query/RowSet", "count", "()I"⟩ : MethodName)) (argsL := []) (rest := []) (b := a380) 224 A S403 E415 (hw _ (List.mem_of_getElem? (i := 21) rfl)) (hw _ (List.mem_of_getElem? (i := 22) rfl)) (notFace_of_selects (args := #[]) (mvT A.2.2.2.2.2.2.2 (hw _ (List.mem_of_getElem? (i := 24) rfl)))) (hw _ (List.mem_of_getElem? (i := 24) rfl)) (hw _ (List.mem_of_getElem? (i := 23) rfl)) (hw _ (List.mem_of_getElem? (i := 8) rfl)) (hw _ (List.mem_of_getElem? (i := 25) rfl)) (rmC2 l Z a0 hw [] a380 a330 k329 n (-1 : Int32) (i0 ^^^ (-1 : Int64)) ((i1 ^^^ (-1 : Int64)) &&& (own_low (n - (64 : Int32)))) h404 n0 Z418 E415 F408 F409 F410 V411 ge_a380 ne_a330_a380 (by decide)) (lenOf pd___I rfl) at_221 rfl rfl rfl (by decide) (by decide) (Nat.le_of_ble_eq_true rfl) (by decide) (by decide) fun T419 h421 v422 q423 S420 => ?_
      obtain ⟨rfl, K424, F425, F426, F427⟩ := q423
      show own_G _ _ _ _ _ _ _ _ _ (mkF m 224 #[.val (.long i0), .second, .val (.long i1), .second, .val (.int i2), .val (.int i3), .val (.int n), .val (.int (1 : Int32)), .val (.long i0), .second, .val (.long (i1 &&& (own_low (n - (64 : Int32))))), .second, .val (.long (i0 ^^^ (-1 : Int64))), .second, .val (.long ((i1 ^^^ (-1 : Int64)) &&& (own_low (n - (64 : Int32))))), .second, .val (.ref a330), .val (.ref a354), .val (.int (0 : Int32)), .val (.ref a380), .unset, .unset, .unset] [(.int (((0 : Int32) + (own_bc (i0 ^^^ (-1 : Int64)))) + (own_bc ((i1 ^^^ (-1 : Int64)) &&& (own_low (n - (64 : Int32)))))))])
      have E431 := Exa.keep E415 K424
      have V432 := Arv.keep V417 K424 (ninS ne_a354_a380 nin0)
      have V433 := Arv.keep V411 K424 (ninS ne_a330_a380 nin0)
      have Z434 : n0 ≤ h421.size := Nat.le_trans Z418 K424.1
      refine s_istore (Ls' := #[.val (.long i0), .second, .val (.long i1), .second, .val (.int i2), .val (.int i3), .val (.int n), .val (.int (1 : Int32)), .val (.long i0), .second, .val (.long (i1 &&& (own_low (n - (64 : Int32))))), .second, .val (.long (i0 ^^^ (-1 : Int64))), .second, .val (.long ((i1 ^^^ (-1 : Int64)) &&& (own_low (n - (64 : Int32))))), .second, .val (.ref a330), .val (.ref a354), .val (.int (0 : Int32)), .val (.ref a380), .val (.int (((0 : Int32) + (own_bc (i0 ^^^ (-1 : Int64)))) + (own_bc ((i1 ^^^ (-1 : Int64)) &&& (own_low (n - (64 : Int32))))))), .unset, .unset]) 226 A S420 at_224 rfl rfl ?_
      refine s_new 229 A S420 (hw _ (List.mem_of_getElem? (i := 6) rfl)) (hw _ (List.mem_of_getElem? (i := 7) rfl)) (hw _ (List.mem_of_getElem? (i := 8) rfl)) at_226 rfl (by decide) (by decide) fun T435 h436 a438 ha_a438 E_a438 X_a438 D_a438 S437 => ?_
      have ne_a330_a438 : a330 ≠ a438 := by rw [ha_a438]; exact Nat.ne_of_lt V433.lt
      have ne_a354_a438 : a354 ≠ a438 := by rw [ha_a438]; exact Nat.ne_of_lt V432.lt
      have ne_a380_a438 : a380 ≠ a438 := by rw [ha_a438]; exact Nat.ne_of_lt E431.lt
      have ge_a438 : n0 ≤ a438 := by rw [ha_a438]; exact Z434
      have F439 := Fld.ext E_a438 F425
      have F440 := Fld.ext E_a438 F426
      have F441 := Fld.ext E_a438 F427
      have E442 := Exa.ext E_a438 E431
      have V443 := Arv.ext V432 E_a438
      have V444 := Arv.ext V433 E_a438
      have Z445 : n0 ≤ h436.size := Nat.le_trans Z434 E_a438.1
      have F_a438_words : Fld Z h436 a438 "com/example/orderly_sieve/orderlysieve/query/RowSet" "words" "[J" .null := D_a438 (Or.inr (hw _ (List.mem_of_getElem? (i := 16) rfl))) (ty := (.array .long)) (by decide)
      have F_a438_size : Fld Z h436 a438 "com/example/orderly_sieve/orderlysieve/query/RowSet" "size" "I" (.int (0 : Int32)) := D_a438 (Or.inr (hw _ (List.mem_of_getElem? (i := 18) rfl))) (ty := .int) (by decide)
      have F_a438_count : Fld Z h436 a438 "com/example/orderly_sieve/orderlysieve/query/RowSet" "count" "I" (.int (0 : Int32)) := D_a438 (Or.inl (hw _ (List.mem_of_getElem? (i := 20) rfl))) (ty := .int) (by decide)
      refine s_dup 230 A S437 at_229 rfl rfl ?_
      refine s_aload 232 A S437 at_230 rfl (by first | rfl | assumption) rfl ?_
      refine s_iload 234 A S437 at_232 rfl rfl ?_
      refine s_iconst (z := (-1 : Int32)) 235 A S437 at_234 rfl rfl ?_
      refine s_spec (y := (⟨"com/example/orderly_sieve/orderlysieve/query/RowSet", "<init>", "([JII)V"⟩ : MethodName)) (argsL := [(.ref a354), (.int n), (.int (-1 : Int32))]) (rest := [(.ref a438)]) (b := a438) 238 A S437 (hw _ (List.mem_of_getElem? (i := 9) rfl)) (hw _ (List.mem_of_getElem? (i := 10) rfl)) (hw _ (List.mem_of_getElem? (i := 8) rfl)) (hw _ (List.mem_of_getElem? (i := 11) rfl)) (rm2 l Z a0 hw [] a438 a354 n (-1 : Int32) h436 n0 Z445 X_a438 F_a438_words F_a438_size F_a438_count ge_a438) (lenOf pd___JII_V rfl) at_235 rfl rfl rfl rfl (by decide) (by decide) (Nat.le_of_ble_eq_true rfl) (by decide) (by decide) fun T446 h448 v449 q450 S447 => ?_
      obtain ⟨rfl, K451, E455, F452, F453, F454⟩ := q450
      show own_G _ _ _ _ _ _ _ _ _ (mkF m 238 #[.val (.long i0), .second, .val (.long i1), .second, .val (.int i2), .val (.int i3), .val (.int n), .val (.int (1 : Int32)), .val (.long i0), .second, .val (.long (i1 &&& (own_low (n - (64 : Int32))))), .second, .val (.long (i0 ^^^ (-1 : Int64))), .second, .val (.long ((i1 ^^^ (-1 : Int64)) &&& (own_low (n - (64 : Int32))))), .second, .val (.ref a330), .val (.ref a354), .val (.int (0 : Int32)), .val (.ref a380), .val (.int (((0 : Int32) + (own_bc (i0 ^^^ (-1 : Int64)))) + (own_bc ((i1 ^^^ (-1 : Int64)) &&& (own_low (n - (64 : Int32))))))), .unset, .unset] [(.ref a438)])
      have F456 := Fld.keep F439 K451 (ninS ne_a380_a438 nin0)
      have F457 := Fld.keep F440 K451 (ninS ne_a380_a438 nin0)
      have F458 := Fld.keep F441 K451 (ninS ne_a380_a438 nin0)
      have E462 := Exa.keep E442 K451
      have E463 := Exa.keep X_a438 K451
      have V464 := Arv.keep V443 K451 (ninS ne_a354_a438 nin0)
      have V465 := Arv.keep V444 K451 (ninS ne_a330_a438 nin0)
      have Z466 : n0 ≤ h448.size := Nat.le_trans Z445 K451.1
      refine s_virt (y := (⟨"com/example/orderly_sieve/orderlysieve/query/RowSet", "count", "()I"⟩ : MethodName)) (z := (⟨"com/example/orderly_sieve/orderlysieve/query/RowSet", "count", "()I"⟩ : MethodName)) (argsL := []) (rest := []) (b := a438) 241 A S447 E463 (hw _ (List.mem_of_getElem? (i := 21) rfl)) (hw _ (List.mem_of_getElem? (i := 22) rfl)) (notFace_of_selects (args := #[]) (mvT A.2.2.2.2.2.2.2 (hw _ (List.mem_of_getElem? (i := 24) rfl)))) (hw _ (List.mem_of_getElem? (i := 24) rfl)) (hw _ (List.mem_of_getElem? (i := 23) rfl)) (hw _ (List.mem_of_getElem? (i := 8) rfl)) (hw _ (List.mem_of_getElem? (i := 25) rfl)) (rmC2 l Z a0 hw [] a438 a354 k353 n (-1 : Int32) (i0 ^^^ (-1 : Int64)) ((i1 ^^^ (-1 : Int64)) &&& (own_low (n - (64 : Int32)))) h448 n0 Z466 E463 F452 F453 F454 V464 ge_a438 ne_a354_a438 (by decide)) (lenOf pd___I rfl) at_238 rfl rfl rfl (by decide) (by decide) (Nat.le_of_ble_eq_true rfl) (by decide) (by decide) fun T467 h469 v470 q471 S468 => ?_
      obtain ⟨rfl, K472, F473, F474, F475⟩ := q471
      show own_G _ _ _ _ _ _ _ _ _ (mkF m 241 #[.val (.long i0), .second, .val (.long i1), .second, .val (.int i2), .val (.int i3), .val (.int n), .val (.int (1 : Int32)), .val (.long i0), .second, .val (.long (i1 &&& (own_low (n - (64 : Int32))))), .second, .val (.long (i0 ^^^ (-1 : Int64))), .second, .val (.long ((i1 ^^^ (-1 : Int64)) &&& (own_low (n - (64 : Int32))))), .second, .val (.ref a330), .val (.ref a354), .val (.int (0 : Int32)), .val (.ref a380), .val (.int (((0 : Int32) + (own_bc (i0 ^^^ (-1 : Int64)))) + (own_bc ((i1 ^^^ (-1 : Int64)) &&& (own_low (n - (64 : Int32))))))), .unset, .unset] [(.int (((0 : Int32) + (own_bc (i0 ^^^ (-1 : Int64)))) + (own_bc ((i1 ^^^ (-1 : Int64)) &&& (own_low (n - (64 : Int32)))))))])
      have F476 := Fld.keep F456 K472 (ninS ne_a380_a438 nin0)
      have F477 := Fld.keep F457 K472 (ninS ne_a380_a438 nin0)
      have F478 := Fld.keep F458 K472 (ninS ne_a380_a438 nin0)
      have E482 := Exa.keep E462 K472
      have E483 := Exa.keep E463 K472
      have V484 := Arv.keep V464 K472 (ninS ne_a354_a438 nin0)
      have V485 := Arv.keep V465 K472 (ninS ne_a330_a438 nin0)
      have Z486 : n0 ≤ h469.size := Nat.le_trans Z466 K472.1
      refine s_istore (Ls' := #[.val (.long i0), .second, .val (.long i1), .second, .val (.int i2), .val (.int i3), .val (.int n), .val (.int (1 : Int32)), .val (.long i0), .second, .val (.long (i1 &&& (own_low (n - (64 : Int32))))), .second, .val (.long (i0 ^^^ (-1 : Int64))), .second, .val (.long ((i1 ^^^ (-1 : Int64)) &&& (own_low (n - (64 : Int32))))), .second, .val (.ref a330), .val (.ref a354), .val (.int (0 : Int32)), .val (.ref a380), .val (.int (((0 : Int32) + (own_bc (i0 ^^^ (-1 : Int64)))) + (own_bc ((i1 ^^^ (-1 : Int64)) &&& (own_low (n - (64 : Int32))))))), .val (.int (((0 : Int32) + (own_bc (i0 ^^^ (-1 : Int64)))) + (own_bc ((i1 ^^^ (-1 : Int64)) &&& (own_low (n - (64 : Int32))))))), .unset]) 243 A S468 at_241 rfl rfl ?_
      refine s_aload 245 A S468 at_243 rfl (by first | rfl | assumption) rfl ?_
      refine s_virt (y := (⟨"com/example/orderly_sieve/orderlysieve/query/RowSet", "words", "()[J"⟩ : MethodName)) (z := (⟨"com/example/orderly_sieve/orderlysieve/query/RowSet", "words", "()[J"⟩ : MethodName)) (argsL := []) (rest := []) (b := a380) 248 A S468 E482 (hw _ (List.mem_of_getElem? (i := 39) rfl)) (hw _ (List.mem_of_getElem? (i := 40) rfl)) (notFace_of_selects (args := #[]) (mvT A.2.2.2.2.2.2.2 (hw _ (List.mem_of_getElem? (i := 42) rfl)))) (hw _ (List.mem_of_getElem? (i := 42) rfl)) (hw _ (List.mem_of_getElem? (i := 41) rfl)) (hw _ (List.mem_of_getElem? (i := 8) rfl)) (hw _ (List.mem_of_getElem? (i := 43) rfl)) (rm7 l Z a0 hw [] a380 a330 n (((0 : Int32) + (own_bc (i0 ^^^ (-1 : Int64)))) + (own_bc ((i1 ^^^ (-1 : Int64)) &&& (own_low (n - (64 : Int32)))))) h469 n0 Z486 E482 F476 F477 F478 ge_a380) (lenOf pd____J rfl) at_245 rfl rfl rfl (by decide) (by decide) (Nat.le_of_ble_eq_true rfl) (by decide) (by decide) fun T487 h489 v490 q491 S488 => ?_
      obtain ⟨rfl, K492, F493, F494, F495⟩ := q491
      show own_G _ _ _ _ _ _ _ _ _ (mkF m 248 #[.val (.long i0), .second, .val (.long i1), .second, .val (.int i2), .val (.int i3), .val (.int n), .val (.int (1 : Int32)), .val (.long i0), .second, .val (.long (i1 &&& (own_low (n - (64 : Int32))))), .second, .val (.long (i0 ^^^ (-1 : Int64))), .second, .val (.long ((i1 ^^^ (-1 : Int64)) &&& (own_low (n - (64 : Int32))))), .second, .val (.ref a330), .val (.ref a354), .val (.int (0 : Int32)), .val (.ref a380), .val (.int (((0 : Int32) + (own_bc (i0 ^^^ (-1 : Int64)))) + (own_bc ((i1 ^^^ (-1 : Int64)) &&& (own_low (n - (64 : Int32))))))), .val (.int (((0 : Int32) + (own_bc (i0 ^^^ (-1 : Int64)))) + (own_bc ((i1 ^^^ (-1 : Int64)) &&& (own_low (n - (64 : Int32))))))), .unset] [(.ref a330)])
      have F499 := Fld.keep F473 K492 (ninS (Ne.symm ne_a380_a438) nin0)
      have F500 := Fld.keep F474 K492 (ninS (Ne.symm ne_a380_a438) nin0)
      have F501 := Fld.keep F475 K492 (ninS (Ne.symm ne_a380_a438) nin0)
      have E502 := Exa.keep E482 K492
      have E503 := Exa.keep E483 K492
      have V504 := Arv.keep V484 K492 (ninS ne_a354_a380 nin0)
      have V505 := Arv.keep V485 K492 (ninS ne_a330_a380 nin0)
      have Z506 : n0 ≤ h489.size := Nat.le_trans Z486 K492.1
      refine s_astore (Ls' := #[.val (.long i0), .second, .val (.long i1), .second, .val (.int i2), .val (.int i3), .val (.int n), .val (.int (1 : Int32)), .val (.long i0), .second, .val (.long (i1 &&& (own_low (n - (64 : Int32))))), .second, .val (.long (i0 ^^^ (-1 : Int64))), .second, .val (.long ((i1 ^^^ (-1 : Int64)) &&& (own_low (n - (64 : Int32))))), .second, .val (.ref a330), .val (.ref a354), .val (.int (0 : Int32)), .val (.ref a380), .val (.int (((0 : Int32) + (own_bc (i0 ^^^ (-1 : Int64)))) + (own_bc ((i1 ^^^ (-1 : Int64)) &&& (own_low (n - (64 : Int32))))))), .val (.int (((0 : Int32) + (own_bc (i0 ^^^ (-1 : Int64)))) + (own_bc ((i1 ^^^ (-1 : Int64)) &&& (own_low (n - (64 : Int32))))))), .val (.ref a330)]) 250 A S488 at_248 (by first | rfl | assumption) rfl rfl ?_
      refine s_aload 252 A S488 at_250 rfl (by first | rfl | assumption) rfl ?_
      refine s_aload 254 A S488 at_252 rfl (by first | rfl | assumption) rfl ?_
      refine s_ane 266 257 A S488 (by first | rfl | assumption) (by first | rfl | assumption) at_254 (by decide) (by decide) rfl (fun c507 => (by exact c507 rfl : False).elim) (fun c507 => ?_)
      refine s_aload 259 A S488 at_257 rfl (by first | rfl | assumption) rfl ?_
      refine s_alen 260 A S488 V505 at_259 rfl ?_
      refine s_aload 262 A S488 at_260 rfl (by first | rfl | assumption) rfl ?_
      refine s_alen 263 A S488 V504 at_262 rfl ?_
      refine s_ieq (xi := 2) (yi := 2) 268 266 A S488 rfl rfl at_263 (by decide) (by decide) rfl (fun c508 tc508 => ?_) (fun c508 tc508 => (by exact absurd tc508 (by decide) : False).elim)
      refine s_aload 270 A S488 at_268 rfl (by first | rfl | assumption) rfl ?_
      refine s_iconst (z := (0 : Int32)) 271 A S488 at_270 rfl rfl ?_
      refine s_lald (v := (.long (i0 ^^^ (-1 : Int64)))) 272 A S488 V505 ⟨by decide, by decide⟩ rfl at_271 rfl ?_
      refine s_lload 274 A S488 at_272 rfl rfl ?_
      refine s_lifeq 280 278 275 A S488 rfl rfl at_274 rfl at_275 (by decide) (by decide) rfl (fun c509 tc509 => ?_) (fun c509 tc509 => (by exact c509 rfl : False).elim)
      refine s_iload 282 A S488 at_280 rfl rfl ?_
      refine s_ifeq (xi := 1) 297 285 A S488 rfl at_282 (by decide) (by decide) rfl (fun c510 tc510 => (by exact absurd tc510 (by decide) : False).elim) (fun c510 tc510 => ?_)
      refine s_aload 287 A S488 at_285 rfl (by first | rfl | assumption) rfl ?_
      refine s_iconst (z := (1 : Int32)) 288 A S488 at_287 rfl rfl ?_
      refine s_lald (v := (.long ((i1 ^^^ (-1 : Int64)) &&& (own_low (n - (64 : Int32)))))) 289 A S488 V505 ⟨by decide, by decide⟩ rfl at_288 rfl ?_
      refine s_lload 291 A S488 at_289 rfl rfl ?_
      refine s_lifeq 297 295 292 A S488 rfl rfl at_291 rfl at_292 (by decide) (by decide) rfl (fun c511 tc511 => ?_) (fun c511 tc511 => (by exact c511 rfl : False).elim)
      refine s_iload 299 A S488 at_297 rfl rfl ?_
      refine s_iload 301 A S488 at_299 rfl rfl ?_
      refine s_ine 308 304 A S488 rfl rfl at_301 (by decide) (by decide) rfl (fun c512 tc512 => (by exact c512 rfl : False).elim) (fun c512 tc512 => ?_)
      refine s_iconst (z := (1 : Int32)) 305 A S488 at_304 rfl rfl ?_
      refine s_goto 309 A S488 at_305 (by decide) (by decide) ?_
      exact s_retZ A S488 at_309 rfl (by decide) (by decide) rfl
    · refine s_iconst (z := (1 : Int32)) 183 A S369 at_182 rfl rfl ?_
      refine s_goto 187 A S369 at_183 (by decide) (by decide) ?_
      refine s_istore (Ls' := #[.val (.long i0), .second, .val (.long i1), .second, .val (.int i2), .val (.int i3), .val (.int n), .val (.int (1 : Int32)), .val (.long i0), .second, .val (.long (i1 &&& (own_low (n - (64 : Int32))))), .second, .val (.long (i0 ^^^ (-1 : Int64))), .second, .val (.long ((i1 ^^^ (-1 : Int64)) &&& (own_low (n - (64 : Int32))))), .second, .val (.ref a330), .val (.ref a354), .val (.int (1 : Int32)), .unset, .unset, .unset, .unset]) 189 A S369 at_187 rfl rfl ?_
      refine s_new 192 A S369 (hw _ (List.mem_of_getElem? (i := 6) rfl)) (hw _ (List.mem_of_getElem? (i := 7) rfl)) (hw _ (List.mem_of_getElem? (i := 8) rfl)) at_189 rfl (by decide) (by decide) fun T513 h514 a516 ha_a516 E_a516 X_a516 D_a516 S515 => ?_
      have ne_a330_a516 : a330 ≠ a516 := by rw [ha_a516]; exact Nat.ne_of_lt V372.lt
      have ne_a354_a516 : a354 ≠ a516 := by rw [ha_a516]; exact Nat.ne_of_lt V375.lt
      have ge_a516 : n0 ≤ a516 := by rw [ha_a516]; exact Z374
      have V517 := Arv.ext V372 E_a516
      have V518 := Arv.ext V375 E_a516
      have Z519 : n0 ≤ h514.size := Nat.le_trans Z374 E_a516.1
      have F_a516_words : Fld Z h514 a516 "com/example/orderly_sieve/orderlysieve/query/RowSet" "words" "[J" .null := D_a516 (Or.inr (hw _ (List.mem_of_getElem? (i := 16) rfl))) (ty := (.array .long)) (by decide)
      have F_a516_size : Fld Z h514 a516 "com/example/orderly_sieve/orderlysieve/query/RowSet" "size" "I" (.int (0 : Int32)) := D_a516 (Or.inr (hw _ (List.mem_of_getElem? (i := 18) rfl))) (ty := .int) (by decide)
      have F_a516_count : Fld Z h514 a516 "com/example/orderly_sieve/orderlysieve/query/RowSet" "count" "I" (.int (0 : Int32)) := D_a516 (Or.inl (hw _ (List.mem_of_getElem? (i := 20) rfl))) (ty := .int) (by decide)
      refine s_dup 193 A S515 at_192 rfl rfl ?_
      refine s_aload 195 A S515 at_193 rfl (by first | rfl | assumption) rfl ?_
      refine s_iload 197 A S515 at_195 rfl rfl ?_
      refine s_iconst (z := (-1 : Int32)) 198 A S515 at_197 rfl rfl ?_
      refine s_spec (y := (⟨"com/example/orderly_sieve/orderlysieve/query/RowSet", "<init>", "([JII)V"⟩ : MethodName)) (argsL := [(.ref a330), (.int n), (.int (-1 : Int32))]) (rest := [(.ref a516)]) (b := a516) 201 A S515 (hw _ (List.mem_of_getElem? (i := 9) rfl)) (hw _ (List.mem_of_getElem? (i := 10) rfl)) (hw _ (List.mem_of_getElem? (i := 8) rfl)) (hw _ (List.mem_of_getElem? (i := 11) rfl)) (rm2 l Z a0 hw [] a516 a330 n (-1 : Int32) h514 n0 Z519 X_a516 F_a516_words F_a516_size F_a516_count ge_a516) (lenOf pd___JII_V rfl) at_198 rfl rfl rfl rfl (by decide) (by decide) (Nat.le_of_ble_eq_true rfl) (by decide) (by decide) fun T520 h522 v523 q524 S521 => ?_
      obtain ⟨rfl, K525, E529, F526, F527, F528⟩ := q524
      show own_G _ _ _ _ _ _ _ _ _ (mkF m 201 #[.val (.long i0), .second, .val (.long i1), .second, .val (.int i2), .val (.int i3), .val (.int n), .val (.int (1 : Int32)), .val (.long i0), .second, .val (.long (i1 &&& (own_low (n - (64 : Int32))))), .second, .val (.long (i0 ^^^ (-1 : Int64))), .second, .val (.long ((i1 ^^^ (-1 : Int64)) &&& (own_low (n - (64 : Int32))))), .second, .val (.ref a330), .val (.ref a354), .val (.int (1 : Int32)), .unset, .unset, .unset, .unset] [(.ref a516)])
      have E533 := Exa.keep X_a516 K525
      have V534 := Arv.keep V517 K525 (ninS ne_a330_a516 nin0)
      have V535 := Arv.keep V518 K525 (ninS ne_a354_a516 nin0)
      have Z536 : n0 ≤ h522.size := Nat.le_trans Z519 K525.1
      refine s_astore (Ls' := #[.val (.long i0), .second, .val (.long i1), .second, .val (.int i2), .val (.int i3), .val (.int n), .val (.int (1 : Int32)), .val (.long i0), .second, .val (.long (i1 &&& (own_low (n - (64 : Int32))))), .second, .val (.long (i0 ^^^ (-1 : Int64))), .second, .val (.long ((i1 ^^^ (-1 : Int64)) &&& (own_low (n - (64 : Int32))))), .second, .val (.ref a330), .val (.ref a354), .val (.int (1 : Int32)), .val (.ref a516), .unset, .unset, .unset]) 203 A S521 at_201 (by first | rfl | assumption) rfl rfl ?_
      refine s_iload 205 A S521 at_203 rfl rfl ?_
      refine s_ifeq (xi := 1) 214 208 A S521 rfl at_205 (by decide) (by decide) rfl (fun c537 tc537 => (by exact absurd tc537 (by decide) : False).elim) (fun c537 tc537 => ?_)
      refine s_aload 210 A S521 at_208 rfl (by first | rfl | assumption) rfl ?_
      refine s_virt (y := (⟨"com/example/orderly_sieve/orderlysieve/query/RowSet", "count", "()I"⟩ : MethodName)) (z := (⟨"com/example/orderly_sieve/orderlysieve/query/RowSet", "count", "()I"⟩ : MethodName)) (argsL := []) (rest := []) (b := a516) 213 A S521 E533 (hw _ (List.mem_of_getElem? (i := 21) rfl)) (hw _ (List.mem_of_getElem? (i := 22) rfl)) (notFace_of_selects (args := #[]) (mvT A.2.2.2.2.2.2.2 (hw _ (List.mem_of_getElem? (i := 24) rfl)))) (hw _ (List.mem_of_getElem? (i := 24) rfl)) (hw _ (List.mem_of_getElem? (i := 23) rfl)) (hw _ (List.mem_of_getElem? (i := 8) rfl)) (hw _ (List.mem_of_getElem? (i := 25) rfl)) (rmC2 l Z a0 hw [] a516 a330 k329 n (-1 : Int32) i0 (i1 &&& (own_low (n - (64 : Int32)))) h522 n0 Z536 E533 F526 F527 F528 V534 ge_a516 ne_a330_a516 (by decide)) (lenOf pd___I rfl) at_210 rfl rfl rfl (by decide) (by decide) (Nat.le_of_ble_eq_true rfl) (by decide) (by decide) fun T538 h540 v541 q542 S539 => ?_
      obtain ⟨rfl, K543, F544, F545, F546⟩ := q542
      show own_G _ _ _ _ _ _ _ _ _ (mkF m 213 #[.val (.long i0), .second, .val (.long i1), .second, .val (.int i2), .val (.int i3), .val (.int n), .val (.int (1 : Int32)), .val (.long i0), .second, .val (.long (i1 &&& (own_low (n - (64 : Int32))))), .second, .val (.long (i0 ^^^ (-1 : Int64))), .second, .val (.long ((i1 ^^^ (-1 : Int64)) &&& (own_low (n - (64 : Int32))))), .second, .val (.ref a330), .val (.ref a354), .val (.int (1 : Int32)), .val (.ref a516), .unset, .unset, .unset] [(.int (((0 : Int32) + (own_bc i0)) + (own_bc (i1 &&& (own_low (n - (64 : Int32)))))))])
      have E550 := Exa.keep E533 K543
      have V551 := Arv.keep V534 K543 (ninS ne_a330_a516 nin0)
      have V552 := Arv.keep V535 K543 (ninS ne_a354_a516 nin0)
      have Z553 : n0 ≤ h540.size := Nat.le_trans Z536 K543.1
      refine s_pop 214 A S539 at_213 rfl rfl ?_
      refine s_aload 216 A S539 at_214 rfl (by first | rfl | assumption) rfl ?_
      refine s_virt (y := (⟨"com/example/orderly_sieve/orderlysieve/query/RowSet", "flip", "()V"⟩ : MethodName)) (z := (⟨"com/example/orderly_sieve/orderlysieve/query/RowSet", "flip", "()V"⟩ : MethodName)) (argsL := []) (rest := []) (b := a516) 219 A S539 E550 (hw _ (List.mem_of_getElem? (i := 33) rfl)) (hw _ (List.mem_of_getElem? (i := 34) rfl)) (notFace_of_selects (args := #[]) (mvT A.2.2.2.2.2.2.2 (hw _ (List.mem_of_getElem? (i := 36) rfl)))) (hw _ (List.mem_of_getElem? (i := 36) rfl)) (hw _ (List.mem_of_getElem? (i := 35) rfl)) (hw _ (List.mem_of_getElem? (i := 8) rfl)) (hw _ (List.mem_of_getElem? (i := 37) rfl)) (rmF2 l Z a0 hw [] a516 a330 k329 n (((0 : Int32) + (own_bc i0)) + (own_bc (i1 &&& (own_low (n - (64 : Int32)))))) i0 (i1 &&& (own_low (n - (64 : Int32)))) h540 n0 Z553 E550 F544 F545 F546 V551 ge_a516 ge_a330 ne_a330_a516) (lenOf pd___V rfl) at_216 rfl rfl rfl (by decide) (by decide) (Nat.le_of_ble_eq_true rfl) (by decide) (by decide) fun T554 h556 v557 q558 S555 => ?_
      obtain ⟨rfl, K559, F560, F561, F562, V563⟩ := q558
      show own_G _ _ _ _ _ _ _ _ _ (mkF m 219 #[.val (.long i0), .second, .val (.long i1), .second, .val (.int i2), .val (.int i3), .val (.int n), .val (.int (1 : Int32)), .val (.long i0), .second, .val (.long (i1 &&& (own_low (n - (64 : Int32))))), .second, .val (.long (i0 ^^^ (-1 : Int64))), .second, .val (.long ((i1 ^^^ (-1 : Int64)) &&& (own_low (n - (64 : Int32))))), .second, .val (.ref a330), .val (.ref a354), .val (.int (1 : Int32)), .val (.ref a516), .unset, .unset, .unset] [])
      rw [own_fcp (own_z2 _ _)] at F562
      have fe := own_fme i1 n (by omega) (by omega)
      rw [own_kkL n (by omega)] at fe
      rw [fe] at V563
      have E567 := Exa.keep E550 K559
      have V569 := Arv.keep V552 K559 (ninS ne_a354_a516 (ninS (Ne.symm ne_a330_a354) nin0))
      have Z570 : n0 ≤ h556.size := Nat.le_trans Z553 K559.1
      refine s_aload 221 A S555 at_219 rfl (by first | rfl | assumption) rfl ?_
      refine s_virtV (y := (⟨"com/example/orderly_sieve/orderlysieve/query/RowSet", "count", "()I"⟩ : MethodName)) (z := (⟨"com/example/orderly_sieve/orderlysieve/query/RowSet", "count", "()I"⟩ : MethodName)) (argsL := []) (rest := []) (b := a516) 224 A S555 E567 (hw _ (List.mem_of_getElem? (i := 21) rfl)) (hw _ (List.mem_of_getElem? (i := 22) rfl)) (notFace_of_selects (args := #[]) (mvT A.2.2.2.2.2.2.2 (hw _ (List.mem_of_getElem? (i := 24) rfl)))) (hw _ (List.mem_of_getElem? (i := 24) rfl)) (hw _ (List.mem_of_getElem? (i := 23) rfl)) (hw _ (List.mem_of_getElem? (i := 8) rfl)) (hw _ (List.mem_of_getElem? (i := 25) rfl)) (rmCpos l Z a0 hw [] a516 (n - (((0 : Int32) + (own_bc i0)) + (own_bc (i1 &&& (own_low (n - (64 : Int32))))))) h556 n0 Z570 F562 (by rw [own_two i0 i1 n (by omega) (by omega)]; exact own_z2 _ _)) (lenOf pd___I rfl) at_221 rfl rfl rfl (by decide) (by decide) (Nat.le_of_ble_eq_true rfl) (by decide) (by decide) fun T571 S572 => ?_
      refine s_istore (Ls' := #[.val (.long i0), .second, .val (.long i1), .second, .val (.int i2), .val (.int i3), .val (.int n), .val (.int (1 : Int32)), .val (.long i0), .second, .val (.long (i1 &&& (own_low (n - (64 : Int32))))), .second, .val (.long (i0 ^^^ (-1 : Int64))), .second, .val (.long ((i1 ^^^ (-1 : Int64)) &&& (own_low (n - (64 : Int32))))), .second, .val (.ref a330), .val (.ref a354), .val (.int (1 : Int32)), .val (.ref a516), .val (.int (n - (((0 : Int32) + (own_bc i0)) + (own_bc (i1 &&& (own_low (n - (64 : Int32)))))))), .unset, .unset]) 226 A S572 at_224 rfl rfl ?_
      refine s_new 229 A S572 (hw _ (List.mem_of_getElem? (i := 6) rfl)) (hw _ (List.mem_of_getElem? (i := 7) rfl)) (hw _ (List.mem_of_getElem? (i := 8) rfl)) at_226 rfl (by decide) (by decide) fun T573 h574 a576 ha_a576 E_a576 X_a576 D_a576 S575 => ?_
      have ne_a330_a576 : a330 ≠ a576 := by rw [ha_a576]; exact Nat.ne_of_lt V563.lt
      have ne_a354_a576 : a354 ≠ a576 := by rw [ha_a576]; exact Nat.ne_of_lt V569.lt
      have ne_a516_a576 : a516 ≠ a576 := by rw [ha_a576]; exact Nat.ne_of_lt E567.lt
      have ge_a576 : n0 ≤ a576 := by rw [ha_a576]; exact Z570
      have F577 := Fld.ext E_a576 F560
      have F578 := Fld.ext E_a576 F561
      have F579 := Fld.ext E_a576 F562
      have E580 := Exa.ext E_a576 E567
      have V581 := Arv.ext V569 E_a576
      have V582 := Arv.ext V563 E_a576
      have Z583 : n0 ≤ h574.size := Nat.le_trans Z570 E_a576.1
      have F_a576_words : Fld Z h574 a576 "com/example/orderly_sieve/orderlysieve/query/RowSet" "words" "[J" .null := D_a576 (Or.inr (hw _ (List.mem_of_getElem? (i := 16) rfl))) (ty := (.array .long)) (by decide)
      have F_a576_size : Fld Z h574 a576 "com/example/orderly_sieve/orderlysieve/query/RowSet" "size" "I" (.int (0 : Int32)) := D_a576 (Or.inr (hw _ (List.mem_of_getElem? (i := 18) rfl))) (ty := .int) (by decide)
      have F_a576_count : Fld Z h574 a576 "com/example/orderly_sieve/orderlysieve/query/RowSet" "count" "I" (.int (0 : Int32)) := D_a576 (Or.inl (hw _ (List.mem_of_getElem? (i := 20) rfl))) (ty := .int) (by decide)
      refine s_dup 230 A S575 at_229 rfl rfl ?_
      refine s_aload 232 A S575 at_230 rfl (by first | rfl | assumption) rfl ?_
      refine s_iload 234 A S575 at_232 rfl rfl ?_
      refine s_iconst (z := (-1 : Int32)) 235 A S575 at_234 rfl rfl ?_
      refine s_spec (y := (⟨"com/example/orderly_sieve/orderlysieve/query/RowSet", "<init>", "([JII)V"⟩ : MethodName)) (argsL := [(.ref a354), (.int n), (.int (-1 : Int32))]) (rest := [(.ref a576)]) (b := a576) 238 A S575 (hw _ (List.mem_of_getElem? (i := 9) rfl)) (hw _ (List.mem_of_getElem? (i := 10) rfl)) (hw _ (List.mem_of_getElem? (i := 8) rfl)) (hw _ (List.mem_of_getElem? (i := 11) rfl)) (rm2 l Z a0 hw [] a576 a354 n (-1 : Int32) h574 n0 Z583 X_a576 F_a576_words F_a576_size F_a576_count ge_a576) (lenOf pd___JII_V rfl) at_235 rfl rfl rfl rfl (by decide) (by decide) (Nat.le_of_ble_eq_true rfl) (by decide) (by decide) fun T584 h586 v587 q588 S585 => ?_
      obtain ⟨rfl, K589, E593, F590, F591, F592⟩ := q588
      show own_G _ _ _ _ _ _ _ _ _ (mkF m 238 #[.val (.long i0), .second, .val (.long i1), .second, .val (.int i2), .val (.int i3), .val (.int n), .val (.int (1 : Int32)), .val (.long i0), .second, .val (.long (i1 &&& (own_low (n - (64 : Int32))))), .second, .val (.long (i0 ^^^ (-1 : Int64))), .second, .val (.long ((i1 ^^^ (-1 : Int64)) &&& (own_low (n - (64 : Int32))))), .second, .val (.ref a330), .val (.ref a354), .val (.int (1 : Int32)), .val (.ref a516), .val (.int (n - (((0 : Int32) + (own_bc i0)) + (own_bc (i1 &&& (own_low (n - (64 : Int32)))))))), .unset, .unset] [(.ref a576)])
      have F594 := Fld.keep F577 K589 (ninS ne_a516_a576 nin0)
      have F595 := Fld.keep F578 K589 (ninS ne_a516_a576 nin0)
      have F596 := Fld.keep F579 K589 (ninS ne_a516_a576 nin0)
      have E600 := Exa.keep E580 K589
      have E601 := Exa.keep X_a576 K589
      have V602 := Arv.keep V581 K589 (ninS ne_a354_a576 nin0)
      have V603 := Arv.keep V582 K589 (ninS ne_a330_a576 nin0)
      have Z604 : n0 ≤ h586.size := Nat.le_trans Z583 K589.1
      refine s_virt (y := (⟨"com/example/orderly_sieve/orderlysieve/query/RowSet", "count", "()I"⟩ : MethodName)) (z := (⟨"com/example/orderly_sieve/orderlysieve/query/RowSet", "count", "()I"⟩ : MethodName)) (argsL := []) (rest := []) (b := a576) 241 A S585 E601 (hw _ (List.mem_of_getElem? (i := 21) rfl)) (hw _ (List.mem_of_getElem? (i := 22) rfl)) (notFace_of_selects (args := #[]) (mvT A.2.2.2.2.2.2.2 (hw _ (List.mem_of_getElem? (i := 24) rfl)))) (hw _ (List.mem_of_getElem? (i := 24) rfl)) (hw _ (List.mem_of_getElem? (i := 23) rfl)) (hw _ (List.mem_of_getElem? (i := 8) rfl)) (hw _ (List.mem_of_getElem? (i := 25) rfl)) (rmC2 l Z a0 hw [] a576 a354 k353 n (-1 : Int32) (i0 ^^^ (-1 : Int64)) ((i1 ^^^ (-1 : Int64)) &&& (own_low (n - (64 : Int32)))) h586 n0 Z604 E601 F590 F591 F592 V602 ge_a576 ne_a354_a576 (by decide)) (lenOf pd___I rfl) at_238 rfl rfl rfl (by decide) (by decide) (Nat.le_of_ble_eq_true rfl) (by decide) (by decide) fun T605 h607 v608 q609 S606 => ?_
      obtain ⟨rfl, K610, F611, F612, F613⟩ := q609
      show own_G _ _ _ _ _ _ _ _ _ (mkF m 241 #[.val (.long i0), .second, .val (.long i1), .second, .val (.int i2), .val (.int i3), .val (.int n), .val (.int (1 : Int32)), .val (.long i0), .second, .val (.long (i1 &&& (own_low (n - (64 : Int32))))), .second, .val (.long (i0 ^^^ (-1 : Int64))), .second, .val (.long ((i1 ^^^ (-1 : Int64)) &&& (own_low (n - (64 : Int32))))), .second, .val (.ref a330), .val (.ref a354), .val (.int (1 : Int32)), .val (.ref a516), .val (.int (n - (((0 : Int32) + (own_bc i0)) + (own_bc (i1 &&& (own_low (n - (64 : Int32)))))))), .unset, .unset] [(.int (((0 : Int32) + (own_bc (i0 ^^^ (-1 : Int64)))) + (own_bc ((i1 ^^^ (-1 : Int64)) &&& (own_low (n - (64 : Int32)))))))])
      have F614 := Fld.keep F594 K610 (ninS ne_a516_a576 nin0)
      have F615 := Fld.keep F595 K610 (ninS ne_a516_a576 nin0)
      have F616 := Fld.keep F596 K610 (ninS ne_a516_a576 nin0)
      have E620 := Exa.keep E600 K610
      have E621 := Exa.keep E601 K610
      have V622 := Arv.keep V602 K610 (ninS ne_a354_a576 nin0)
      have V623 := Arv.keep V603 K610 (ninS ne_a330_a576 nin0)
      have Z624 : n0 ≤ h607.size := Nat.le_trans Z604 K610.1
      refine s_istore (Ls' := #[.val (.long i0), .second, .val (.long i1), .second, .val (.int i2), .val (.int i3), .val (.int n), .val (.int (1 : Int32)), .val (.long i0), .second, .val (.long (i1 &&& (own_low (n - (64 : Int32))))), .second, .val (.long (i0 ^^^ (-1 : Int64))), .second, .val (.long ((i1 ^^^ (-1 : Int64)) &&& (own_low (n - (64 : Int32))))), .second, .val (.ref a330), .val (.ref a354), .val (.int (1 : Int32)), .val (.ref a516), .val (.int (n - (((0 : Int32) + (own_bc i0)) + (own_bc (i1 &&& (own_low (n - (64 : Int32)))))))), .val (.int (((0 : Int32) + (own_bc (i0 ^^^ (-1 : Int64)))) + (own_bc ((i1 ^^^ (-1 : Int64)) &&& (own_low (n - (64 : Int32))))))), .unset]) 243 A S606 at_241 rfl rfl ?_
      refine s_aload 245 A S606 at_243 rfl (by first | rfl | assumption) rfl ?_
      refine s_virt (y := (⟨"com/example/orderly_sieve/orderlysieve/query/RowSet", "words", "()[J"⟩ : MethodName)) (z := (⟨"com/example/orderly_sieve/orderlysieve/query/RowSet", "words", "()[J"⟩ : MethodName)) (argsL := []) (rest := []) (b := a516) 248 A S606 E620 (hw _ (List.mem_of_getElem? (i := 39) rfl)) (hw _ (List.mem_of_getElem? (i := 40) rfl)) (notFace_of_selects (args := #[]) (mvT A.2.2.2.2.2.2.2 (hw _ (List.mem_of_getElem? (i := 42) rfl)))) (hw _ (List.mem_of_getElem? (i := 42) rfl)) (hw _ (List.mem_of_getElem? (i := 41) rfl)) (hw _ (List.mem_of_getElem? (i := 8) rfl)) (hw _ (List.mem_of_getElem? (i := 43) rfl)) (rm7 l Z a0 hw [] a516 a330 n (n - (((0 : Int32) + (own_bc i0)) + (own_bc (i1 &&& (own_low (n - (64 : Int32))))))) h607 n0 Z624 E620 F614 F615 F616 ge_a516) (lenOf pd____J rfl) at_245 rfl rfl rfl (by decide) (by decide) (Nat.le_of_ble_eq_true rfl) (by decide) (by decide) fun T625 h627 v628 q629 S626 => ?_
      obtain ⟨rfl, K630, F631, F632, F633⟩ := q629
      show own_G _ _ _ _ _ _ _ _ _ (mkF m 248 #[.val (.long i0), .second, .val (.long i1), .second, .val (.int i2), .val (.int i3), .val (.int n), .val (.int (1 : Int32)), .val (.long i0), .second, .val (.long (i1 &&& (own_low (n - (64 : Int32))))), .second, .val (.long (i0 ^^^ (-1 : Int64))), .second, .val (.long ((i1 ^^^ (-1 : Int64)) &&& (own_low (n - (64 : Int32))))), .second, .val (.ref a330), .val (.ref a354), .val (.int (1 : Int32)), .val (.ref a516), .val (.int (n - (((0 : Int32) + (own_bc i0)) + (own_bc (i1 &&& (own_low (n - (64 : Int32)))))))), .val (.int (((0 : Int32) + (own_bc (i0 ^^^ (-1 : Int64)))) + (own_bc ((i1 ^^^ (-1 : Int64)) &&& (own_low (n - (64 : Int32))))))), .unset] [(.ref a330)])
      have F637 := Fld.keep F611 K630 (ninS (Ne.symm ne_a516_a576) nin0)
      have F638 := Fld.keep F612 K630 (ninS (Ne.symm ne_a516_a576) nin0)
      have F639 := Fld.keep F613 K630 (ninS (Ne.symm ne_a516_a576) nin0)
      have E640 := Exa.keep E620 K630
      have E641 := Exa.keep E621 K630
      have V642 := Arv.keep V622 K630 (ninS ne_a354_a516 nin0)
      have V643 := Arv.keep V623 K630 (ninS ne_a330_a516 nin0)
      have Z644 : n0 ≤ h627.size := Nat.le_trans Z624 K630.1
      refine s_astore (Ls' := #[.val (.long i0), .second, .val (.long i1), .second, .val (.int i2), .val (.int i3), .val (.int n), .val (.int (1 : Int32)), .val (.long i0), .second, .val (.long (i1 &&& (own_low (n - (64 : Int32))))), .second, .val (.long (i0 ^^^ (-1 : Int64))), .second, .val (.long ((i1 ^^^ (-1 : Int64)) &&& (own_low (n - (64 : Int32))))), .second, .val (.ref a330), .val (.ref a354), .val (.int (1 : Int32)), .val (.ref a516), .val (.int (n - (((0 : Int32) + (own_bc i0)) + (own_bc (i1 &&& (own_low (n - (64 : Int32)))))))), .val (.int (((0 : Int32) + (own_bc (i0 ^^^ (-1 : Int64)))) + (own_bc ((i1 ^^^ (-1 : Int64)) &&& (own_low (n - (64 : Int32))))))), .val (.ref a330)]) 250 A S626 at_248 (by first | rfl | assumption) rfl rfl ?_
      refine s_aload 252 A S626 at_250 rfl (by first | rfl | assumption) rfl ?_
      refine s_aload 254 A S626 at_252 rfl (by first | rfl | assumption) rfl ?_
      refine s_ane 266 257 A S626 (by first | rfl | assumption) (by first | rfl | assumption) at_254 (by decide) (by decide) rfl (fun c645 => (by exact c645 rfl : False).elim) (fun c645 => ?_)
      refine s_aload 259 A S626 at_257 rfl (by first | rfl | assumption) rfl ?_
      refine s_alen 260 A S626 V643 at_259 rfl ?_
      refine s_aload 262 A S626 at_260 rfl (by first | rfl | assumption) rfl ?_
      refine s_alen 263 A S626 V642 at_262 rfl ?_
      refine s_ieq (xi := 2) (yi := 2) 268 266 A S626 rfl rfl at_263 (by decide) (by decide) rfl (fun c646 tc646 => ?_) (fun c646 tc646 => (by exact absurd tc646 (by decide) : False).elim)
      refine s_aload 270 A S626 at_268 rfl (by first | rfl | assumption) rfl ?_
      refine s_iconst (z := (0 : Int32)) 271 A S626 at_270 rfl rfl ?_
      refine s_lald (v := (.long (i0 ^^^ (-1 : Int64)))) 272 A S626 V643 ⟨by decide, by decide⟩ rfl at_271 rfl ?_
      refine s_lload 274 A S626 at_272 rfl rfl ?_
      refine s_lifeq 280 278 275 A S626 rfl rfl at_274 rfl at_275 (by decide) (by decide) rfl (fun c647 tc647 => ?_) (fun c647 tc647 => (by exact c647 rfl : False).elim)
      refine s_iload 282 A S626 at_280 rfl rfl ?_
      refine s_ifeq (xi := 1) 297 285 A S626 rfl at_282 (by decide) (by decide) rfl (fun c648 tc648 => (by exact absurd tc648 (by decide) : False).elim) (fun c648 tc648 => ?_)
      refine s_aload 287 A S626 at_285 rfl (by first | rfl | assumption) rfl ?_
      refine s_iconst (z := (1 : Int32)) 288 A S626 at_287 rfl rfl ?_
      refine s_lald (v := (.long ((i1 ^^^ (-1 : Int64)) &&& (own_low (n - (64 : Int32)))))) 289 A S626 V643 ⟨by decide, by decide⟩ rfl at_288 rfl ?_
      refine s_lload 291 A S626 at_289 rfl rfl ?_
      refine s_lifeq 297 295 292 A S626 rfl rfl at_291 rfl at_292 (by decide) (by decide) rfl (fun c649 tc649 => ?_) (fun c649 tc649 => (by exact c649 rfl : False).elim)
      refine s_iload 299 A S626 at_297 rfl rfl ?_
      refine s_iload 301 A S626 at_299 rfl rfl ?_
      refine s_ine 308 304 A S626 rfl rfl at_301 (by decide) (by decide) rfl (fun c650 tc650 => (by exact c650 (own_two i0 i1 n (by omega) (by omega)) : False).elim) (fun c650 tc650 => ?_)
      refine s_iconst (z := (1 : Int32)) 305 A S626 at_304 rfl rfl ?_
      refine s_goto 309 A S626 at_305 (by decide) (by decide) ?_
      exact s_retZ A S626 at_309 rfl (by decide) (by decide) rfl
set_option maxRecDepth 65536 in
set_option maxHeartbeats 40000000 in
theorem comes_1 {Post : Tables → Env → Array Value → State → Outcome → State → Prop} (hpost : ∀ tb e args s v u, (limb_1_1.after args s (.returned v) u = true ∧ limb_1_2.after args s (.returned v) u = true ∧ True) → FrameEnd s (.returned v) u (Jvm.fieldLocs frame_1_writes args s ++ Jvm.arrayLocs frame_1_arrays args s ++ Jvm.staticLocs frame_1_statics s) 16 128 → Post tb e args s (.returned v) u) :
    ArmFor flags0 classFile x code maxLocals ret World_1 tables_1 room_1 Calls_1 rest_1 Pre_1 Post := by
  intro l hfl _ _ p e ha hc hk s m args below hf hA hF happ hP
  obtain ⟨hcalls, hrest, hpre⟩ := hP
  obtain ⟨-, -, -, hnamed, -, -, -, hat⟩ := (Spec.applies_iff hf).mp happ
  obtain ⟨hg, hn⟩ := and_e (Cond.before_iff.mp (show (Jvm.Cond.and given_1 narrow_1).before args s = true from hpre))
  obtain ⟨g0, k0⟩ := and_e hg
  obtain ⟨j0, k1⟩ := and_e k0
  obtain ⟨j1, k2⟩ := and_e k1
  obtain ⟨j2, k3⟩ := and_e k2
  obtain ⟨w0, w1, w2, w3, rfl⟩ : ∃ w0 w1 w2 w3 : Value, args = #[w0, w1, w2, w3] := by
    have hs : args.size = 4 := by simpa [Cond.value, given_1] using g0
    obtain ⟨L⟩ := args
    match L, hs with
    | [w0, w1, w2, w3], _ => exact ⟨w0, w1, w2, w3, rfl⟩
  have hw := fun d (hd : d ∈ tables_1) => atoms_spec (ws := Jvm.Cond.code x code maxLocals ret :: tables_1) hat d (List.mem_cons_of_mem _ hd)
  have hfit : Fit s := fun {y c} hc i hi => by
    obtain ⟨ha, rfl⟩ := Array.getElem?_eq_some_iff.mp hc
    have q := List.all_eq_true.mp ((Array.all_eq_true_iff_forall_mem.mp hF) _ (Array.getElem_mem ha)) i (List.mem_range.mpr hi)
    simpa [Array.getElem?_eq_getElem hi] using q
  obtain ⟨i0, ei0⟩ := isL_v j0
  obtain rfl : w0 = (.long i0) := Option.some.inj ei0
  obtain ⟨i1, ei1⟩ := isL_v j1
  obtain rfl : w1 = (.long i1) := Option.some.inj ei1
  obtain ⟨i2, ei2⟩ := is_v j2
  obtain rfl : w2 = (.int i2) := Option.some.inj ei2
  obtain ⟨i3, ei3⟩ := is_v k3
  obtain rfl : w3 = (.int i3) := Option.some.inj ei3
  obtain ⟨n, o, h1, h2, h3, _, L, rfl, ⟨rfl, N⟩, hq⟩ := rm0 l s _ hw tables_1 i0 i1 i2 i3 s.heap s.heap.size (Nat.le_refl _)  p e ha hc hk s m _ below hf ((Spec.applies_iff_loose hf).mp happ).1 ⟨rfl, State.Warmed39.refl s, rfl⟩ trivial
  refine ⟨n, _, h1, h2, h3, hpost _ _ _ _ _ _ ⟨Cond.after_iff.mpr rfl, Cond.after_iff.mpr (eq_i res_at (Term.int_eval (1)) rfl), trivial⟩ ⟨hq.1, hq.2.1, (hq.2.2.sift fun y hy => Or.inr (N y hy)).mono (by decide) (by decide)⟩⟩
theorem main_1_1 : Claimed_1_1 := comes_1 fun _ _ _ _ _ _ h hF => ⟨h.1, hF⟩
theorem main_1_2 : Claimed_1_2 := comes_1 fun _ _ _ _ _ _ h hF => ⟨h.2.1, hF⟩
end Jvm.Pilot.@@N@@
namespace Jvm.Pilot.@@N@@
open Jvm Jvm.ClassFile Sem Op Lib Jvm.Free Jvm.Stand Jvm.Pilot.@@N@@.Jvm.D
/-! MADE BY PROGRAM (witnessworld.py) out of the Statement's table words and the real class files: 16 classes; the members and pool entries that the words name. The judged class is class 1, her method 2. -/
namespace start1
open Jvm.ClassFile
def u (s : String) : CpInfo := .utf8 (stringToUtf16 s)
/-- a pool by its gaps: so many unusable entries, then the entry; so many at the end -/
def gap : Nat → List CpInfo → List CpInfo
  | 0, r => r
  | n + 1, r => .unusable :: gap n r
def poolList (es : List (Nat × CpInfo)) (last : Nat) : List CpInfo := es.foldr (fun e r => gap e.1 (e.2 :: r)) (gap last [])
def pool (es : List (Nat × CpInfo)) (last : Nat) : Array CpInfo := ⟨poolList es last⟩
def fileOf (pool : Array CpInfo) (this : Nat) (attrs : Array Attribute := #[]) (ms : Array MethodInfo := #[]) (fl : Nat := 33) (sup : Nat := 0) (ifs : Array Nat := #[]) (fds : Array FieldInfo := #[]) : ClassFile where
  minorVersion := 0
  majorVersion := 65
  constantPool := pool
  accessFlags := fl
  thisClass := this
  superClass := sup
  interfaces := ifs
  fields := fds
  methods := ms
  attributes := attrs
def plain (name : String) (sup : Option ClassId) : Class where
  name := name
  kind := .ordinary
  loader := none
  accessFlags := 33
  super := sup
  interfaces := #[]
  cf := none
  fields := #[]
  methods := #[]
  instanceTypes := #[]
  staticTypes := #[]
  resolved := #[]
  callSites := []
  init := .initialized
  statics := none
  mirror := none

def pool0 : Array CpInfo := pool [(5, u "<init>"), (0, u "()V"), (1, .class_ 10), (1, u "java/lang/Object")] 113

def k0c0 : Code := { maxStack := 0, maxLocals := 1, code := object_method_1_code, exceptionTable := #[], attributes := #[] }
def k0m0 : Method := { name := "<init>", desc := "()V", sig := { parameters := [], returnType := none }, accessFlags := 1, code := some k0c0 }
/-- java/lang/Object -/
def k0 : Class := { plain "java/lang/Object" none with
  accessFlags := 33
  interfaces := #[]
  cf := some (fileOf pool0 8 #[] #[{ accessFlags := 1, nameIndex := 5, descriptorIndex := 6, attributes := #[] }] 33 0 #[] #[])
  fields := #[]
  methods := #[k0m0]
  instanceTypes := #[]
  staticTypes := #[]
  resolved := Array.replicate 124 none
  statics := none }

def pool1 : Array CpInfo := pool [(2, .class_ 4), (1, u "java/lang/Object"), (0, u "<init>"), (0, u "()V"), (0, .long 18446744073709551615), (1, .methodref 10 11), (0, .class_ 12), (0, .nameAndType 13 14), (0, u "com/example/orderly_sieve/orderlysieve/query/RowSetFlipPinLaw"), (0, u "low"), (0, u "(I)J"), (0, .class_ 16), (0, u "com/example/orderly_sieve/orderlysieve/query/RowSet"), (0, .methodref 15 18), (0, .nameAndType 5 19), (0, u "([JII)V"), (0, .methodref 15 21), (0, .nameAndType 22 23), (0, u "count"), (0, u "()I"), (0, .methodref 15 25), (0, .nameAndType 26 6), (0, u "flip"), (0, .methodref 15 28), (0, .nameAndType 29 30), (0, u "words"), (0, u "()[J"), (2, u "law"), (0, u "(JJII)Z")] 5

def k1m0 : Method := { name := "<init>", desc := "()V", sig := { parameters := [], returnType := none }, accessFlags := 1, code := none }
def k1c1 : Code := { maxStack := 4, maxLocals := 1, code := method_2_code, exceptionTable := #[], attributes := #[] }
def k1m1 : Method := { name := "low", desc := "(I)J", sig := { parameters := [.int], returnType := some .long }, accessFlags := 10, code := some k1c1 }
def k1c2 : Code := { maxStack := 5, maxLocals := 23, code := code, exceptionTable := #[], attributes := #[] }
def k1m2 : Method := { name := "law", desc := "(JJII)Z", sig := { parameters := [.long, .long, .int, .int], returnType := some .boolean }, accessFlags := 9, code := some k1c2 }
/-- com/example/orderly_sieve/orderlysieve/query/RowSetFlipPinLaw -/
def k1 : Class := { plain "com/example/orderly_sieve/orderlysieve/query/RowSetFlipPinLaw" (some 0) with
  accessFlags := 49
  interfaces := #[]
  cf := some (fileOf pool1 10 #[] #[{ accessFlags := 1, nameIndex := 5, descriptorIndex := 6, attributes := #[] }, { accessFlags := 10, nameIndex := 13, descriptorIndex := 14, attributes := #[] }, { accessFlags := 9, nameIndex := 33, descriptorIndex := 34, attributes := #[] }] 49 2 #[] #[])
  fields := #[]
  methods := #[k1m0, k1m1, k1m2]
  instanceTypes := #[]
  staticTypes := #[]
  resolved := Array.replicate 40 none
  statics := none }

def pool2 : Array CpInfo := pool [(1, .methodref 2 3), (0, .class_ 4), (0, .nameAndType 5 6), (0, u "java/lang/Object"), (0, u "<init>"), (0, u "()V"), (0, .fieldref 8 9), (0, .class_ 10), (0, .nameAndType 11 12), (0, u "com/example/orderly_sieve/orderlysieve/query/RowSet"), (0, u "words"), (0, u "[J"), (0, .fieldref 8 14), (0, .nameAndType 15 16), (0, u "size"), (0, u "I"), (0, .fieldref 8 18), (0, .nameAndType 19 16), (0, u "count"), (5, u "([JII)V"), (6, u "flip"), (4, .class_ 38), (0, u "java/lang/Long"), (0, .long 18446744073709551615), (4, u "(J)I"), (0, .methodref 37 46), (0, .nameAndType 47 44), (0, u "bitCount"), (8, u "()I"), (38, u "()[J")] 13

def k2c0 : Code := { maxStack := 2, maxLocals := 4, code := prog_20_method_1_code, exceptionTable := #[], attributes := #[] }
def k2m0 : Method := { name := "<init>", desc := "([JII)V", sig := { parameters := [(.array .long), .int, .int], returnType := none }, accessFlags := 0, code := some k2c0 }
def k2c1 : Code := { maxStack := 2, maxLocals := 1, code := prog_20_method_6_code, exceptionTable := #[], attributes := #[] }
def k2m1 : Method := { name := "words", desc := "()[J", sig := { parameters := [], returnType := some (.array .long) }, accessFlags := 0, code := some k2c1 }
def k2c2 : Code := { maxStack := 4, maxLocals := 6, code := prog_20_method_8_code, exceptionTable := #[], attributes := #[] }
def k2m2 : Method := { name := "count", desc := "()I", sig := { parameters := [], returnType := some .int }, accessFlags := 0, code := some k2c2 }
def k2c3 : Code := { maxStack := 8, maxLocals := 2, code := prog_20_method_13_code, exceptionTable := #[], attributes := #[] }
def k2m3 : Method := { name := "flip", desc := "()V", sig := { parameters := [], returnType := none }, accessFlags := 0, code := some k2c3 }
/-- com/example/orderly_sieve/orderlysieve/query/RowSet -/
def k2 : Class := { plain "com/example/orderly_sieve/orderlysieve/query/RowSet" (some 0) with
  accessFlags := 32
  interfaces := #[]
  cf := some (fileOf pool2 8 #[] #[{ accessFlags := 0, nameIndex := 5, descriptorIndex := 25, attributes := #[] }, { accessFlags := 0, nameIndex := 11, descriptorIndex := 95, attributes := #[] }, { accessFlags := 0, nameIndex := 19, descriptorIndex := 56, attributes := #[] }, { accessFlags := 0, nameIndex := 32, descriptorIndex := 6, attributes := #[] }] 32 2 #[] #[{ accessFlags := 18, nameIndex := 11, descriptorIndex := 12, attributes := #[] }, { accessFlags := 18, nameIndex := 15, descriptorIndex := 16, attributes := #[] }, { accessFlags := 2, nameIndex := 19, descriptorIndex := 16, attributes := #[] }])
  fields := #[{ name := "words", type := (.array .long), accessFlags := 18, slot := 0, constantValue := 0 }, { name := "size", type := .int, accessFlags := 18, slot := 1, constantValue := 0 }, { name := "count", type := .int, accessFlags := 2, slot := 2, constantValue := 0 }]
  methods := #[k2m0, k2m1, k2m2, k2m3]
  instanceTypes := #[(.array .long), .int, .int]
  staticTypes := #[]
  resolved := Array.replicate 109 none
  statics := none }

def pool3 : Array CpInfo := pool [(1, .class_ 2), (0, u "java/io/Serializable"), (0, .class_ 4), (0, u "java/lang/Object")] 2

/-- java/io/Serializable -/
def k3 : Class := { plain "java/io/Serializable" (some 0) with
  accessFlags := 1537
  interfaces := #[]
  cf := some (fileOf pool3 1 #[] #[] 1537 3 #[] #[])
  fields := #[]
  methods := #[]
  instanceTypes := #[]
  staticTypes := #[]
  resolved := Array.replicate 7 none
  statics := none }

def pool4 : Array CpInfo := pool [(2, .class_ 4), (1, u "java/lang/Object"), (0, u "<init>"), (0, u "()V"), (1, .class_ 10), (1, u "java/lang/Number"), (2, .class_ 14), (0, u "java/io/Serializable"), (0, u "serialVersionUID"), (0, u "J")] 20

def k4m0 : Method := { name := "<init>", desc := "()V", sig := { parameters := [], returnType := none }, accessFlags := 1, code := none }
/-- java/lang/Number -/
def k4 : Class := { plain "java/lang/Number" (some 0) with
  accessFlags := 1057
  interfaces := #[3]
  cf := some (fileOf pool4 8 #[] #[{ accessFlags := 1, nameIndex := 5, descriptorIndex := 6, attributes := #[] }] 1057 2 #[13] #[{ accessFlags := 26, nameIndex := 15, descriptorIndex := 16, attributes := #[] }])
  fields := #[{ name := "serialVersionUID", type := .long, accessFlags := 26, slot := 0, constantValue := 0 }]
  methods := #[k4m0]
  instanceTypes := #[]
  staticTypes := #[.long]
  resolved := Array.replicate 37 none
  statics := none }

def pool5 : Array CpInfo := pool [(1, .class_ 2), (0, u "java/lang/Comparable"), (0, .class_ 4), (0, u "java/lang/Object")] 7

/-- java/lang/Comparable -/
def k5 : Class := { plain "java/lang/Comparable" (some 0) with
  accessFlags := 1537
  interfaces := #[]
  cf := some (fileOf pool5 1 #[] #[] 1537 3 #[] #[])
  fields := #[]
  methods := #[]
  instanceTypes := #[]
  staticTypes := #[]
  resolved := Array.replicate 12 none
  statics := none }

def pool6 : Array CpInfo := pool [(1, .class_ 2), (0, u "java/lang/constant/Constable"), (0, .class_ 4), (0, u "java/lang/Object")] 6

/-- java/lang/constant/Constable -/
def k6 : Class := { plain "java/lang/constant/Constable" (some 0) with
  accessFlags := 1537
  interfaces := #[]
  cf := some (fileOf pool6 1 #[] #[] 1537 3 #[] #[])
  fields := #[]
  methods := #[]
  instanceTypes := #[]
  staticTypes := #[]
  resolved := Array.replicate 11 none
  statics := none }

def pool7 : Array CpInfo := pool [(1, .class_ 2), (0, u "java/lang/constant/ConstantDesc"), (0, .class_ 4), (0, u "java/lang/Object")] 32

/-- java/lang/constant/ConstantDesc -/
def k7 : Class := { plain "java/lang/constant/ConstantDesc" (some 0) with
  accessFlags := 1537
  interfaces := #[]
  cf := some (fileOf pool7 1 #[] #[] 1537 3 #[] #[])
  fields := #[]
  methods := #[]
  instanceTypes := #[]
  staticTypes := #[]
  resolved := Array.replicate 37 none
  statics := none }

def pool8 : Array CpInfo := pool [(1, .class_ 2), (0, u "java/lang/Long"), (98, u "(J)I"), (133, .class_ 237), (1, u "java/lang/Long$LongCache"), (33, .class_ 272), (0, u "java/lang/Number"), (2, u "value"), (0, u "J"), (37, .long 6148914691236517205), (1, .long 3689348814741910323), (1, .long 1085102592571150095), (42, u "TYPE"), (0, u "Ljava/lang/Class;"), (0, .class_ 364), (0, u "java/lang/Comparable"), (0, .class_ 366), (0, u "java/lang/constant/Constable"), (0, .class_ 368), (0, u "java/lang/constant/ConstantDesc"), (0, u "MIN_VALUE"), (1, u "MAX_VALUE"), (4, u "SIZE"), (0, u "I"), (1, u "BYTES"), (1, u "serialVersionUID"), (94, u "bitCount")] 47

def k8c0 : Code := { maxStack := 6, maxLocals := 2, code := jdk_35_method_50_code, exceptionTable := #[], attributes := #[] }
def k8m0 : Method := { name := "bitCount", desc := "(J)I", sig := { parameters := [.long], returnType := some .int }, accessFlags := 9, code := some k8c0 }
/-- java/lang/Long -/
def k8 : Class := { plain "java/lang/Long" (some 4) with
  accessFlags := 49
  interfaces := #[5, 6, 7]
  cf := some (fileOf pool8 1 #[.nestMembers #[235]] #[{ accessFlags := 9, nameIndex := 476, descriptorIndex := 101, attributes := #[] }] 49 271 #[363, 365, 367] #[{ accessFlags := 25, nameIndex := 369, descriptorIndex := 276, attributes := #[] }, { accessFlags := 25, nameIndex := 371, descriptorIndex := 276, attributes := #[] }, { accessFlags := 25, nameIndex := 361, descriptorIndex := 362, attributes := #[] }, { accessFlags := 18, nameIndex := 275, descriptorIndex := 276, attributes := #[] }, { accessFlags := 25, nameIndex := 376, descriptorIndex := 377, attributes := #[] }, { accessFlags := 25, nameIndex := 379, descriptorIndex := 377, attributes := #[] }, { accessFlags := 26, nameIndex := 381, descriptorIndex := 276, attributes := #[] }])
  fields := #[{ name := "MIN_VALUE", type := .long, accessFlags := 25, slot := 0, constantValue := 0 }, { name := "MAX_VALUE", type := .long, accessFlags := 25, slot := 1, constantValue := 0 }, { name := "TYPE", type := (.object "java/lang/Class"), accessFlags := 25, slot := 2, constantValue := 0 }, { name := "value", type := .long, accessFlags := 18, slot := 0, constantValue := 0 }, { name := "SIZE", type := .int, accessFlags := 25, slot := 3, constantValue := 0 }, { name := "BYTES", type := .int, accessFlags := 25, slot := 4, constantValue := 0 }, { name := "serialVersionUID", type := .long, accessFlags := 26, slot := 5, constantValue := 0 }]
  methods := #[k8m0]
  instanceTypes := #[.long]
  staticTypes := #[.long, .long, (.object "java/lang/Class"), .int, .int, .long]
  resolved := Array.replicate 524 none
  statics := none }

def pool9 : Array CpInfo := pool [(1, u "java/lang/Cloneable"), (0, .class_ 1), (0, u "java/lang/Object"), (0, .class_ 3)] 3

/-- java/lang/Cloneable -/
def k9 : Class := { plain "java/lang/Cloneable" (some 0) with
  accessFlags := 1537
  interfaces := #[]
  cf := some (fileOf pool9 2 #[] #[] 1537 4 #[] #[])
  fields := #[]
  methods := #[]
  instanceTypes := #[]
  staticTypes := #[]
  resolved := Array.replicate 8 none
  statics := none }

/-- the primitive byte -/
def k10 : Class := { plain "byte" none with kind := .primitive 'B', accessFlags := 0x411 }
/-- [B -/
def k11 : Class := { plain "[B" (some 0) with kind := .array 10 .byte, interfaces := #[9, 3], accessFlags := 1041 }

/-- the primitive int -/
def k12 : Class := { plain "int" none with kind := .primitive 'I', accessFlags := 0x411 }
/-- [I -/
def k13 : Class := { plain "[I" (some 0) with kind := .array 12 .int, interfaces := #[9, 3], accessFlags := 1041 }

/-- the primitive long -/
def k14 : Class := { plain "long" none with kind := .primitive 'J', accessFlags := 0x411 }
/-- [J -/
def k15 : Class := { plain "[J" (some 0) with kind := .array 14 .long, interfaces := #[9, 3], accessFlags := 1041 }

def heap : Heap := #[]
def classes : Array Class := #[k0, k1, k2, k3, k4, k5, k6, k7, k8, k9, k10, k11, k12, k13, k14, k15]
def interned : List (Array UInt16 × Addr) := []
def slotsUsed : Nat := 0
def theMethod : MethodId := ⟨1, 2⟩
def args0 : Array Value := #[.long 5, .long 7, .int 2, .int 1]
def aboutOver (below : List Frame) : State where
  vm := { classes := classes, interned := interned.toArray }
  heap := heap
  slotsUsed := slotsUsed
  threads := #[{ frames := .invoking theMethod args0 :: below }]
def below0 : List Frame := [.native { method := ⟨0, 0⟩, args := #[] }]
def about1 : State := aboutOver below0
def p0 : Program := .bare "" "" ""
def e0 : Env := launch0.env 0 0 0
theorem w_frames : about1.frames = Frame.invoking theMethod args0 :: below0 := rfl
set_option maxRecDepth 65536 in
theorem w_args : argsFit about1.vm theMethod args0 = true := by decide +kernel
set_option maxRecDepth 65536 in
theorem w_heap : heapFits about1 = true := by decide +kernel
set_option maxRecDepth 65536 in
theorem w_runnable : about1.curStatus? = some .runnable := by decide +kernel
set_option maxRecDepth 65536 in
theorem w_alone : about1.alone = true := by decide +kernel
set_option maxRecDepth 65536 in
theorem w_named : about1.methodNamed? x = some theMethod := by decide +kernel
set_option maxRecDepth 65536 in
theorem w_hears : about1.hears theMethod below0 = true := by decide +kernel
set_option maxRecDepth 65536 in
theorem w_ripe : about1.ripe theMethod args0 below0 = true := by decide +kernel
theorem w_running : about1.status = .running := rfl
set_option maxRecDepth 65536 in
theorem w_room : about1.hasRoom e0.platform room_1 = true :=
  launch0.hasRoom_least _ room_1 (by decide +kernel) (by decide +kernel) (by decide +kernel) (by decide +kernel) (by decide +kernel) (by decide +kernel)
theorem allAtoms_all (ts : List Jvm.Cond) (a : Array Jvm.Value) (st : Jvm.State) : (allAtoms ts).before a st = ts.all (fun c => c.before a st) := by
  induction ts with
  | nil => rfl
  | cons c t ih =>
    show (Jvm.Cond.and c (allAtoms t)).before a st = _
    rw [Jvm.Cond.before_and, ih, List.all_cons]
def words1 : List Jvm.Cond := Jvm.Cond.code x code maxLocals ret :: tables_1
/-- a 'code' word, met by the world's own term for the bytes: nothing is compared byte by byte -/
theorem code_word {y : MethodName} {bytes : ByteArray} {mx : Nat} {rt : Option FieldType} {a : Array Value} {s : State} {m : MethodId} {meth : Method} {c : Code} (h1 : s.methodNamed? y = some m) (h2 : s.vm.method? m = some meth) (h3 : meth.code = some c) (h4 : c.code = bytes)
    (h5 : (c.maxLocals == mx && c.exceptionTable.isEmpty && decide (c.maxStack ≤ mostOperands) && decide (meth.sig.returnType = rt) && !meth.locks && decide (parseMethodDescriptor y.desc = some meth.sig)) = true) : (Jvm.Cond.code y bytes mx rt).before a s = true := by
  simp only [Bool.and_eq_true, beq_iff_eq, Bool.not_eq_true', decide_eq_true_eq] at h5
  obtain ⟨⟨⟨⟨⟨g1, g2⟩, g3⟩, g4⟩, g5⟩, g6⟩ := h5
  simp [Cond.before, Cond.holds, Cond.value, h1, h2, h3, h4, g1, g2, g3, g4, g5, g6]
def isCode : Jvm.Cond → Bool
  | .code _ _ _ _ => true
  | _ => false
theorem all_split {L : List Jvm.Cond} {P : Jvm.Cond → Bool} (h1 : L.all (fun c => isCode c || P c) = true) (h2 : ∀ c ∈ L.filter isCode, P c = true) : L.all P = true := by
  refine List.all_eq_true.mpr fun c hc => ?_
  have h := List.all_eq_true.mp h1 c hc
  rcases Bool.eq_false_or_eq_true (isCode c) with hi | hi
  · exact h2 c (List.mem_filter.mpr ⟨hc, hi⟩)
  · simpa [hi] using h
set_option maxRecDepth 65536 in
theorem w_c0 : (Jvm.Cond.code x code maxLocals ret).before args0 about1 = true := code_word (m := ⟨1, 2⟩) (meth := k1m2) (c := k1c2) (by decide +kernel) rfl rfl rfl (by decide +kernel)
set_option maxRecDepth 65536 in
theorem w_c1 : (Jvm.Cond.code ({ cls := "com/example/orderly_sieve/orderlysieve/query/RowSetFlipPinLaw", name := "low", desc := "(I)J" } : Jvm.MethodName) method_2_code (1 : Nat) (Option.some Jvm.ClassFile.FieldType.long)).before args0 about1 = true := code_word (m := ⟨1, 1⟩) (meth := k1m1) (c := k1c1) (by decide +kernel) rfl rfl rfl (by decide +kernel)
set_option maxRecDepth 65536 in
theorem w_c2 : (Jvm.Cond.code ({ cls := "com/example/orderly_sieve/orderlysieve/query/RowSet", name := "<init>", desc := "([JII)V" } : Jvm.MethodName) prog_20_method_1_code (4 : Nat) (Option.none : Option Jvm.ClassFile.FieldType)).before args0 about1 = true := code_word (m := ⟨2, 0⟩) (meth := k2m0) (c := k2c0) (by decide +kernel) rfl rfl rfl (by decide +kernel)
set_option maxRecDepth 65536 in
theorem w_c3 : (Jvm.Cond.code ({ cls := "java/lang/Object", name := "<init>", desc := "()V" } : Jvm.MethodName) object_method_1_code (1 : Nat) (Option.none : Option Jvm.ClassFile.FieldType)).before args0 about1 = true := code_word (m := ⟨0, 0⟩) (meth := k0m0) (c := k0c0) (by decide +kernel) rfl rfl rfl (by decide +kernel)
set_option maxRecDepth 65536 in
theorem w_c4 : (Jvm.Cond.code ({ cls := "com/example/orderly_sieve/orderlysieve/query/RowSet", name := "count", desc := "()I" } : Jvm.MethodName) prog_20_method_8_code (6 : Nat) (Option.some Jvm.ClassFile.FieldType.int)).before args0 about1 = true := code_word (m := ⟨2, 2⟩) (meth := k2m2) (c := k2c2) (by decide +kernel) rfl rfl rfl (by decide +kernel)
set_option maxRecDepth 65536 in
theorem w_c5 : (Jvm.Cond.code ({ cls := "java/lang/Long", name := "bitCount", desc := "(J)I" } : Jvm.MethodName) jdk_35_method_50_code (2 : Nat) (Option.some Jvm.ClassFile.FieldType.int)).before args0 about1 = true := code_word (m := ⟨8, 0⟩) (meth := k8m0) (c := k8c0) (by decide +kernel) rfl rfl rfl (by decide +kernel)
set_option maxRecDepth 65536 in
theorem w_c6 : (Jvm.Cond.code ({ cls := "com/example/orderly_sieve/orderlysieve/query/RowSet", name := "flip", desc := "()V" } : Jvm.MethodName) prog_20_method_13_code (2 : Nat) (Option.none : Option Jvm.ClassFile.FieldType)).before args0 about1 = true := code_word (m := ⟨2, 3⟩) (meth := k2m3) (c := k2c3) (by decide +kernel) rfl rfl rfl (by decide +kernel)
set_option maxRecDepth 65536 in
theorem w_c7 : (Jvm.Cond.code ({ cls := "com/example/orderly_sieve/orderlysieve/query/RowSet", name := "words", desc := "()[J" } : Jvm.MethodName) prog_20_method_6_code (1 : Nat) (Option.some (Jvm.ClassFile.FieldType.array Jvm.ClassFile.FieldType.long))).before args0 about1 = true := code_word (m := ⟨2, 1⟩) (meth := k2m1) (c := k2c1) (by decide +kernel) rfl rfl rfl (by decide +kernel)
def codes1 : List Jvm.Cond := [Jvm.Cond.code x code maxLocals ret, Jvm.Cond.code ({ cls := "com/example/orderly_sieve/orderlysieve/query/RowSetFlipPinLaw", name := "low", desc := "(I)J" } : Jvm.MethodName) method_2_code (1 : Nat) (Option.some Jvm.ClassFile.FieldType.long), Jvm.Cond.code ({ cls := "com/example/orderly_sieve/orderlysieve/query/RowSet", name := "<init>", desc := "([JII)V" } : Jvm.MethodName) prog_20_method_1_code (4 : Nat) (Option.none : Option Jvm.ClassFile.FieldType), Jvm.Cond.code ({ cls := "java/lang/Object", name := "<init>", desc := "()V" } : Jvm.MethodName) object_method_1_code (1 : Nat) (Option.none : Option Jvm.ClassFile.FieldType), Jvm.Cond.code ({ cls := "com/example/orderly_sieve/orderlysieve/query/RowSet", name := "count", desc := "()I" } : Jvm.MethodName) prog_20_method_8_code (6 : Nat) (Option.some Jvm.ClassFile.FieldType.int), Jvm.Cond.code ({ cls := "java/lang/Long", name := "bitCount", desc := "(J)I" } : Jvm.MethodName) jdk_35_method_50_code (2 : Nat) (Option.some Jvm.ClassFile.FieldType.int), Jvm.Cond.code ({ cls := "com/example/orderly_sieve/orderlysieve/query/RowSet", name := "flip", desc := "()V" } : Jvm.MethodName) prog_20_method_13_code (2 : Nat) (Option.none : Option Jvm.ClassFile.FieldType), Jvm.Cond.code ({ cls := "com/example/orderly_sieve/orderlysieve/query/RowSet", name := "words", desc := "()[J" } : Jvm.MethodName) prog_20_method_6_code (1 : Nat) (Option.some (Jvm.ClassFile.FieldType.array Jvm.ClassFile.FieldType.long))]
set_option maxRecDepth 65536 in
theorem codes_eq : words1.filter isCode = codes1 := rfl
theorem w_codes : ∀ c ∈ words1.filter isCode, c.before args0 about1 = true := by
  rw [codes_eq]
  intro c hc
  simp only [codes1, List.mem_cons, List.not_mem_nil, or_false] at hc
  rcases hc with rfl | rfl | rfl | rfl | rfl | rfl | rfl | rfl
  · exact w_c0
  · exact w_c1
  · exact w_c2
  · exact w_c3
  · exact w_c4
  · exact w_c5
  · exact w_c6
  · exact w_c7
set_option maxRecDepth 65536 in
theorem w_t1 : (words1.take 24).all (fun c => isCode c || c.before args0 about1) = true := by decide +kernel
set_option maxRecDepth 65536 in
theorem w_t2 : (words1.drop 24).all (fun c => isCode c || c.before args0 about1) = true := by decide +kernel
theorem w_tables : (allAtoms (Jvm.Cond.code x code maxLocals ret :: tables_1)).before args0 about1 = true := by
  rw [allAtoms_all]
  show words1.all (fun c => c.before args0 about1) = true
  refine all_split ?_ w_codes
  rw [← List.take_append_drop 24 words1, List.all_append, w_t1, w_t2]
  rfl
set_option maxRecDepth 65536 in
theorem w_case : (Jvm.Cond.and given_1 narrow_1).before args0 about1 = true := by decide +kernel
theorem w_applies : (headSpec (Jvm.Cond.code x code maxLocals ret :: tables_1) room_1).applies x e0.platform about1 = true :=
  (Spec.applies_iff w_frames).mpr ⟨w_running, w_runnable, w_alone, w_named, w_hears, w_ripe, w_room, w_tables⟩
theorem atStart : AtStart classFile x code maxLocals ret World_1 tables_1 room_1 Calls_1 rest_1 Pre_1 launch0 p0 e0 about1 theMethod args0 below0 :=
  ⟨lists_1, trivial, launch0.admits_env _ _ _, launch0.least_env, fairChoices_fair.cas, fairChoices_fair.clock, w_frames, w_args, w_heap, w_applies, trivial, trivial, w_case⟩
end start1
theorem witness_1 : WitnessClaimed_1 := ⟨start1.p0, start1.e0, start1.about1, start1.theMethod, start1.args0, start1.below0, start1.atStart⟩
end Jvm.Pilot.@@N@@
