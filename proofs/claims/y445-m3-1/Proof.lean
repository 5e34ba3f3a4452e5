import JvmDerived
import JvmDerived.Pilot.@@N@@Statement
import JvmDerived.Pilot.@@N@@Code
set_option linter.unusedVariables false
set_option linter.unusedSimpArgs false
namespace Jvm.Pilot.@@N@@
open Jvm Jvm.ClassFile Sem Op Lib Jvm.Free Jvm.Stand Jvm.LawKit Jvm.RoadKit Bundle Jvm.Pilot.@@N@@.Jvm.D
def own_A (p : Program) (l : Launch) (e : Env) (R : Room) (s : State) (m : MethodId) (args : Array Value) (below : List Frame) (meth : Method) (c : Code) (Z : State) (own name : String) (bytes : ByteArray) (maxL : Nat) (ret : Option FieldType) : Prop :=
  p.tables.exec = Jvm.exec ∧ c.code = bytes ∧ c.maxLocals = maxL ∧ s.vm.findClass own = some m.cls ∧ meth.name = name ∧ meth.sig.returnType = ret ∧ meth.locks = false ∧ Z.Warmed39 s.vm
def own_S (p : Program) (l : Launch) (e : Env) (R : Room) (s : State) (m : MethodId) (args : Array Value) (below : List Frame) (meth : Method) (c : Code) (n0 : Nat) (T : State) (h : Heap) (k n : Nat) : Prop :=
  ∃ locs, Stand p l e R s m args below meth c T locs k n ∧ T.heap = h ∧ Fr n0 locs
def own_G (p : Program) (e : Env) (below : List Frame) (s : State) (n0 kc ks : Nat) (Q : Option Value → Heap → Prop) (T : State) (g : JFrame) : Prop :=
  ∃ s₂ o, Steps p.tables e below (T.setTop g) s₂ ∧ s₂.status = .running ∧ Ended s₂ below o ∧ ∃ v L, o = .returned v ∧ (Q v s₂.heap ∧ Fr n0 L) ∧ FrameEnd s o s₂ L kc ks
def own_C (l : Launch) (Z : State) (y : MethodName) (bytes : ByteArray) (maxL : Nat) (ret : Option FieldType) (rm : Room) (n0 : Nat) (ws : List Jvm.Cond) (as' : Array Value) (h0 : Heap) (Q : Option Value → Heap → Prop) : Prop :=
  MetFree l y (head1 (Jvm.Cond.code y bytes maxL ret :: ws) rm) (fun a U => a = as' ∧ Z.Warmed39 U.vm ∧ U.heap = h0) (fun _ _ _ _ _ => True) (fun _ U o U' => ∃ v L, o = .returned v ∧ (Q v U'.heap ∧ Fr n0 L) ∧ FrameEnd U o U' L rm.cells rm.slots)
section OwnLayer
variable {p : Program} {l : Launch} {e : Env} {R : Room} {s : State} {m : MethodId} {args : Array Value} {below : List Frame} {meth : Method} {c : Code} {Z : State} {own name : String} {bytes : ByteArray} {maxL : Nat} {ret : Option FieldType} {T T' : State} {h : Heap} {k n n0 kc ks pc : Nat} {Ls Ls' : Array Slot} {st : List Value} {Q : Option Value → Heap → Prop} {g g' : JFrame} {a0 : Array Value}
theorem own_st (q : ∀ t, Steps p.tables e below (T'.setTop g') t → Steps p.tables e below (T.setTop g) t) (K : own_G p e below s n0 kc ks Q T' g') : own_G p e below s n0 kc ks Q T g := by
  obtain ⟨s2, o, a, b⟩ := K; exact ⟨s2, o, q _ a, b⟩
theorem own_C.of {y : MethodName} {rm : Room} {ws : List Jvm.Cond} {as' : Array Value} {h0 : Heap} (pn : plainFor y = true) (hn : n0 ≤ h0.size)
    (body : ∀ (p : Program) (e : Env) (s : State) (m : MethodId) (below : List Frame) (meth : Method) (c : Code) (T : State), own_A p l e rm s m as' below meth c Z y.cls y.name bytes maxL ret → own_S p l e rm s m as' below meth c n0 T h0 0 0 → own_G p e below s n0 rm.cells rm.slots Q T (entryFrame m as' maxL)) :
    own_C l Z y bytes maxL ret rm n0 ws as' h0 Q := by
  refine MetFree.of_bodySF pn hisR ?_
  intro p e s m args below meth c s₁ Bd hml0 hP hK
  obtain ⟨rfl, hZ, hh⟩ := hP
  have e0 : s₁.heap = h0 := by rw [← hh, Bd.state]; rfl
  exact body p e s m below meth c s₁ ⟨Bd.exec, Bd.bytes, hml0, findClass_of_methodNamed Bd.named, (name_of_methodNamed Bd.named Bd.method).1, Bd.returns, Bd.notSynchronized, hZ⟩ ⟨[], Stand.of_body Bd, e0, Fr.nil n0⟩
def own_ushr (x y : Int32) : Int32 := (x.toUInt32 >>> (y &&& 31).toUInt32).toInt32
def own_ushrL (x : Int64) (y : Int32) : Int64 := (x.toUInt64 >>> (y &&& 0x3f).toInt64.toUInt64).toInt64
theorem own_toInt {x y : Int32} (hh : ¬ x = y) : x.toInt ≠ y.toInt := fun q => hh (Int32.toInt_inj.mp q)
theorem own_toIntL {x y : Int64} (hh : ¬ x = y) : x.toInt ≠ y.toInt := fun q => hh (Int64.toInt_inj.mp q)
theorem s_iloadN (pc' : Nat) {i : Fin 4} {v : Int32} (A : own_A p l e R s m args below meth c Z own name bytes maxL ret) (S : own_S p l e R s m args below meth c n0 T h k n) (hd : decode bytes pc = .ok (.iload_n i, 1)) (hl : Ls[i.val]? = some (.val (.int v))) (hp : pc + 1 = pc') (K : own_G p e below s n0 kc ks Q T (mkF m pc' Ls (.int v :: st))) : own_G p e below s n0 kc ks Q T (mkF m pc Ls st) := by
  obtain ⟨_, X, -, -⟩ := S
  subst hp
  exact own_st (T' := T) (g' := mkF m _ Ls (.int v :: st)) (fun t ht => XS.iloadN X.here A.1 rfl (hb A.2.1 hd) hl ht) K
theorem s_iload (pc' : Nat) {i : Nat} {v : Int32} (A : own_A p l e R s m args below meth c Z own name bytes maxL ret) (S : own_S p l e R s m args below meth c n0 T h k n) (hd : decode bytes pc = .ok (.iload i, 2)) (hl : Ls[i]? = some (.val (.int v))) (hp : pc + 2 = pc') (K : own_G p e below s n0 kc ks Q T (mkF m pc' Ls (.int v :: st))) : own_G p e below s n0 kc ks Q T (mkF m pc Ls st) := by
  obtain ⟨_, X, -, -⟩ := S
  subst hp
  exact own_st (T' := T) (g' := mkF m _ Ls (.int v :: st)) (fun t ht => XS.iload X.here A.1 rfl (hb A.2.1 hd) hl ht) K
theorem s_istoreN (pc' : Nat) {i : Fin 4} {v : Int32} (A : own_A p l e R s m args below meth c Z own name bytes maxL ret) (S : own_S p l e R s m args below meth c n0 T h k n) (hd : decode bytes pc = .ok (.istore_n i, 1)) (hl : storeLocals Ls i.val (.int v) = some Ls') (hp : pc + 1 = pc') (K : own_G p e below s n0 kc ks Q T (mkF m pc' Ls' st)) : own_G p e below s n0 kc ks Q T (mkF m pc Ls (.int v :: st)) := by
  obtain ⟨_, X, -, -⟩ := S
  subst hp
  exact own_st (T' := T) (g' := mkF m _ Ls' st) (fun t ht => XS.istoreN X.here A.1 rfl (hb A.2.1 hd) rfl hl ht) K
theorem s_istore (pc' : Nat) {i : Nat} {v : Int32} (A : own_A p l e R s m args below meth c Z own name bytes maxL ret) (S : own_S p l e R s m args below meth c n0 T h k n) (hd : decode bytes pc = .ok (.istore i, 2)) (hl : storeLocals Ls i (.int v) = some Ls') (hp : pc + 2 = pc') (K : own_G p e below s n0 kc ks Q T (mkF m pc' Ls' st)) : own_G p e below s n0 kc ks Q T (mkF m pc Ls (.int v :: st)) := by
  obtain ⟨_, X, -, -⟩ := S
  subst hp
  exact own_st (T' := T) (g' := mkF m _ Ls' st) (fun t ht => XS.istore X.here A.1 rfl (hb A.2.1 hd) rfl hl ht) K
theorem s_lloadN (pc' : Nat) {i : Fin 4} {v : Int64} (A : own_A p l e R s m args below meth c Z own name bytes maxL ret) (S : own_S p l e R s m args below meth c n0 T h k n) (hd : decode bytes pc = .ok (.lload_n i, 1)) (hl : Ls[i.val]? = some (.val (.long v))) (hp : pc + 1 = pc') (K : own_G p e below s n0 kc ks Q T (mkF m pc' Ls (.long v :: st))) : own_G p e below s n0 kc ks Q T (mkF m pc Ls st) := by
  obtain ⟨_, X, -, -⟩ := S
  subst hp
  exact own_st (T' := T) (g' := mkF m _ Ls (.long v :: st)) (fun t ht => XS.lloadN X.here A.1 rfl (hb A.2.1 hd) hl ht) K
theorem s_lload (pc' : Nat) {i : Nat} {v : Int64} (A : own_A p l e R s m args below meth c Z own name bytes maxL ret) (S : own_S p l e R s m args below meth c n0 T h k n) (hd : decode bytes pc = .ok (.lload i, 2)) (hl : Ls[i]? = some (.val (.long v))) (hp : pc + 2 = pc') (K : own_G p e below s n0 kc ks Q T (mkF m pc' Ls (.long v :: st))) : own_G p e below s n0 kc ks Q T (mkF m pc Ls st) := by
  obtain ⟨_, X, -, -⟩ := S
  subst hp
  exact own_st (T' := T) (g' := mkF m _ Ls (.long v :: st)) (fun t ht => XS.lload X.here A.1 rfl (hb A.2.1 hd) hl ht) K
theorem s_lstoreN (pc' : Nat) {i : Fin 4} {v : Int64} (A : own_A p l e R s m args below meth c Z own name bytes maxL ret) (S : own_S p l e R s m args below meth c n0 T h k n) (hd : decode bytes pc = .ok (.lstore_n i, 1)) (hl : storeLocals Ls i.val (.long v) = some Ls') (hp : pc + 1 = pc') (K : own_G p e below s n0 kc ks Q T (mkF m pc' Ls' st)) : own_G p e below s n0 kc ks Q T (mkF m pc Ls (.long v :: st)) := by
  obtain ⟨_, X, -, -⟩ := S
  subst hp
  exact own_st (T' := T) (g' := mkF m _ Ls' st) (fun t ht => XS.lstoreN X.here A.1 rfl (hb A.2.1 hd) rfl hl ht) K
theorem s_lstore (pc' : Nat) {i : Nat} {v : Int64} (A : own_A p l e R s m args below meth c Z own name bytes maxL ret) (S : own_S p l e R s m args below meth c n0 T h k n) (hd : decode bytes pc = .ok (.lstore i, 2)) (hl : storeLocals Ls i (.long v) = some Ls') (hp : pc + 2 = pc') (K : own_G p e below s n0 kc ks Q T (mkF m pc' Ls' st)) : own_G p e below s n0 kc ks Q T (mkF m pc Ls (.long v :: st)) := by
  obtain ⟨_, X, -, -⟩ := S
  subst hp
  exact own_st (T' := T) (g' := mkF m _ Ls' st) (fun t ht => XS.lstore X.here A.1 rfl (hb A.2.1 hd) rfl hl ht) K
theorem s_aloadN (pc' : Nat) {i : Fin 4} {v : Value} (A : own_A p l e R s m args below meth c Z own name bytes maxL ret) (S : own_S p l e R s m args below meth c n0 T h k n) (hd : decode bytes pc = .ok (.aload_n i, 1)) (hl : Ls[i.val]? = some (.val v)) (hv : v.isRef = true) (hp : pc + 1 = pc') (K : own_G p e below s n0 kc ks Q T (mkF m pc' Ls (v :: st))) : own_G p e below s n0 kc ks Q T (mkF m pc Ls st) := by
  obtain ⟨_, X, -, -⟩ := S
  subst hp
  exact own_st (T' := T) (g' := mkF m _ Ls (v :: st)) (fun t ht => XS.aloadN X.here A.1 rfl (hb A.2.1 hd) hl hv ht) K
theorem s_aload (pc' : Nat) {i : Nat} {v : Value} (A : own_A p l e R s m args below meth c Z own name bytes maxL ret) (S : own_S p l e R s m args below meth c n0 T h k n) (hd : decode bytes pc = .ok (.aload i, 2)) (hl : Ls[i]? = some (.val v)) (hv : v.isRef = true) (hp : pc + 2 = pc') (K : own_G p e below s n0 kc ks Q T (mkF m pc' Ls (v :: st))) : own_G p e below s n0 kc ks Q T (mkF m pc Ls st) := by
  obtain ⟨_, X, -, -⟩ := S
  subst hp
  exact own_st (T' := T) (g' := mkF m _ Ls (v :: st)) (fun t ht => XS.aload X.here A.1 rfl (hb A.2.1 hd) hl hv ht) K
theorem s_astoreN (pc' : Nat) {i : Fin 4} {v : Value} (A : own_A p l e R s m args below meth c Z own name bytes maxL ret) (S : own_S p l e R s m args below meth c n0 T h k n) (hd : decode bytes pc = .ok (.astore_n i, 1)) (hv : v.isRef = true) (hl : storeLocals Ls i.val v = some Ls') (hp : pc + 1 = pc') (K : own_G p e below s n0 kc ks Q T (mkF m pc' Ls' st)) : own_G p e below s n0 kc ks Q T (mkF m pc Ls (v :: st)) := by
  obtain ⟨_, X, -, -⟩ := S
  subst hp
  exact own_st (T' := T) (g' := mkF m _ Ls' st) (fun t ht => XS.astoreN X.here A.1 rfl (hb A.2.1 hd) rfl hv hl ht) K
theorem s_astore (pc' : Nat) {i : Nat} {v : Value} (A : own_A p l e R s m args below meth c Z own name bytes maxL ret) (S : own_S p l e R s m args below meth c n0 T h k n) (hd : decode bytes pc = .ok (.astore i, 2)) (hv : v.isRef = true) (hl : storeLocals Ls i v = some Ls') (hp : pc + 2 = pc') (K : own_G p e below s n0 kc ks Q T (mkF m pc' Ls' st)) : own_G p e below s n0 kc ks Q T (mkF m pc Ls (v :: st)) := by
  obtain ⟨_, X, -, -⟩ := S
  subst hp
  exact own_st (T' := T) (g' := mkF m _ Ls' st) (fun t ht => XS.astore X.here A.1 rfl (hb A.2.1 hd) rfl hv hl ht) K
theorem s_iconst (pc' : Nat) {i : Int} {z : Int32} (A : own_A p l e R s m args below meth c Z own name bytes maxL ret) (S : own_S p l e R s m args below meth c n0 T h k n) (hd : decode bytes pc = .ok (.iconst i, 1)) (hz : Int32.ofInt i = z) (hp : pc + 1 = pc') (K : own_G p e below s n0 kc ks Q T (mkF m pc' Ls (.int z :: st))) : own_G p e below s n0 kc ks Q T (mkF m pc Ls st) := by
  obtain ⟨_, X, -, -⟩ := S
  subst hp hz
  exact own_st (T' := T) (g' := mkF m _ Ls (.int _ :: st)) (fun t ht => XS.iconst X.here A.1 rfl (hb A.2.1 hd) ht) K
theorem s_bipush (pc' : Nat) {i : Int} {z : Int32} (A : own_A p l e R s m args below meth c Z own name bytes maxL ret) (S : own_S p l e R s m args below meth c n0 T h k n) (hd : decode bytes pc = .ok (.bipush i, 2)) (hz : (Int8.ofInt i).toInt32 = z) (hp : pc + 2 = pc') (K : own_G p e below s n0 kc ks Q T (mkF m pc' Ls (.int z :: st))) : own_G p e below s n0 kc ks Q T (mkF m pc Ls st) := by
  obtain ⟨_, X, -, -⟩ := S
  subst hp hz
  exact own_st (T' := T) (g' := mkF m _ Ls (.int _ :: st)) (fun t ht => XS.bipush X.here A.1 rfl (hb A.2.1 hd) ht) K
theorem s_sipush (pc' : Nat) {i : Int} {z : Int32} (A : own_A p l e R s m args below meth c Z own name bytes maxL ret) (S : own_S p l e R s m args below meth c n0 T h k n) (hd : decode bytes pc = .ok (.sipush i, 3)) (hz : (Int16.ofInt i).toInt32 = z) (hp : pc + 3 = pc') (K : own_G p e below s n0 kc ks Q T (mkF m pc' Ls (.int z :: st))) : own_G p e below s n0 kc ks Q T (mkF m pc Ls st) := by
  obtain ⟨_, X, -, -⟩ := S
  subst hp hz
  exact own_st (T' := T) (g' := mkF m _ Ls (.int _ :: st)) (fun t ht => XS.sipush X.here A.1 rfl (hb A.2.1 hd) ht) K
theorem s_lconst (pc' : Nat) {i : Fin 2} {z : Int64} (A : own_A p l e R s m args below meth c Z own name bytes maxL ret) (S : own_S p l e R s m args below meth c n0 T h k n) (hd : decode bytes pc = .ok (.lconst i, 1)) (hz : Int64.ofNat i = z) (hp : pc + 1 = pc') (K : own_G p e below s n0 kc ks Q T (mkF m pc' Ls (.long z :: st))) : own_G p e below s n0 kc ks Q T (mkF m pc Ls st) := by
  obtain ⟨_, X, -, -⟩ := S
  subst hp hz
  exact own_st (T' := T) (g' := mkF m _ Ls (.long _ :: st)) (fun t ht => XS.lconst X.here A.1 rfl (hb A.2.1 hd) ht) K
theorem s_aconstNull (pc' : Nat)  (A : own_A p l e R s m args below meth c Z own name bytes maxL ret) (S : own_S p l e R s m args below meth c n0 T h k n) (hd : decode bytes pc = .ok (.aconst_null, 1)) (hp : pc + 1 = pc') (K : own_G p e below s n0 kc ks Q T (mkF m pc' Ls (.null :: st))) : own_G p e below s n0 kc ks Q T (mkF m pc Ls st) := by
  obtain ⟨_, X, -, -⟩ := S
  subst hp
  exact own_st (T' := T) (g' := mkF m _ Ls (.null :: st)) (fun t ht => XS.aconstNull X.here A.1 rfl (hb A.2.1 hd)  ht) K
theorem s_ldc (pc' : Nat) {i : Nat} {v : Int32} (A : own_A p l e R s m args below meth c Z own name bytes maxL ret) (S : own_S p l e R s m args below meth c n0 T h k n) (w : (Jvm.Cond.constant own i v).before a0 Z = true) (hd : decode bytes pc = .ok (.ldc i, 2)) (hp : pc + 2 = pc') (K : own_G p e below s n0 kc ks Q T (mkF m pc' Ls (.int v :: st))) : own_G p e below s n0 kc ks Q T (mkF m pc Ls st) := by
  obtain ⟨_, X, -, -⟩ := S
  obtain ⟨hx, hby, -, hown, -, -, -, hZ⟩ := A
  subst hp
  exact own_st (T' := T) (g' := mkF m _ Ls (.int v :: st)) (X.ldcInt hx hown (mvT hZ w) (g := mkF m pc Ls st) rfl (hb hby hd)) K
theorem s_ldc2 (pc' : Nat) {i : Nat} {v : Int64} (A : own_A p l e R s m args below meth c Z own name bytes maxL ret) (S : own_S p l e R s m args below meth c n0 T h k n) (w : (Jvm.Cond.constantLong own i v).before a0 Z = true) (hd : decode bytes pc = .ok (.ldc2_w i, 3)) (hp : pc + 3 = pc') (K : own_G p e below s n0 kc ks Q T (mkF m pc' Ls (.long v :: st))) : own_G p e below s n0 kc ks Q T (mkF m pc Ls st) := by
  obtain ⟨_, X, -, -⟩ := S
  obtain ⟨hx, hby, -, hown, -, -, -, hZ⟩ := A
  subst hp
  exact own_st (T' := T) (g' := mkF m _ Ls (.long v :: st)) (X.ldc2Long hx hown (mvT hZ w) (g := mkF m pc Ls st) rfl (hb hby hd)) K
theorem s_iadd (pc' : Nat) {x y : Int32} {z : Int32} (A : own_A p l e R s m args below meth c Z own name bytes maxL ret) (S : own_S p l e R s m args below meth c n0 T h k n) (hd : decode bytes pc = .ok (.iadd, 1)) (hz : x + y = z) (hp : pc + 1 = pc') (K : own_G p e below s n0 kc ks Q T (mkF m pc' Ls (.int z :: st))) : own_G p e below s n0 kc ks Q T (mkF m pc Ls (.int y :: .int x :: st)) := by
  obtain ⟨_, X, -, -⟩ := S
  subst hp hz
  exact own_st (T' := T) (g' := mkF m _ Ls (.int _ :: st)) (fun t ht => XS.iadd X.here A.1 rfl (hb A.2.1 hd) rfl  ht) K
theorem s_isub (pc' : Nat) {x y : Int32} {z : Int32} (A : own_A p l e R s m args below meth c Z own name bytes maxL ret) (S : own_S p l e R s m args below meth c n0 T h k n) (hd : decode bytes pc = .ok (.isub, 1)) (hz : x - y = z) (hp : pc + 1 = pc') (K : own_G p e below s n0 kc ks Q T (mkF m pc' Ls (.int z :: st))) : own_G p e below s n0 kc ks Q T (mkF m pc Ls (.int y :: .int x :: st)) := by
  obtain ⟨_, X, -, -⟩ := S
  subst hp hz
  exact own_st (T' := T) (g' := mkF m _ Ls (.int _ :: st)) (fun t ht => XS.isub X.here A.1 rfl (hb A.2.1 hd) rfl  ht) K
theorem s_imul (pc' : Nat) {x y : Int32} {z : Int32} (A : own_A p l e R s m args below meth c Z own name bytes maxL ret) (S : own_S p l e R s m args below meth c n0 T h k n) (hd : decode bytes pc = .ok (.imul, 1)) (hz : x * y = z) (hp : pc + 1 = pc') (K : own_G p e below s n0 kc ks Q T (mkF m pc' Ls (.int z :: st))) : own_G p e below s n0 kc ks Q T (mkF m pc Ls (.int y :: .int x :: st)) := by
  obtain ⟨_, X, -, -⟩ := S
  subst hp hz
  exact own_st (T' := T) (g' := mkF m _ Ls (.int _ :: st)) (fun t ht => XS.imul X.here A.1 rfl (hb A.2.1 hd) rfl  ht) K
theorem s_iand (pc' : Nat) {x y : Int32} {z : Int32} (A : own_A p l e R s m args below meth c Z own name bytes maxL ret) (S : own_S p l e R s m args below meth c n0 T h k n) (hd : decode bytes pc = .ok (.iand, 1)) (hz : x &&& y = z) (hp : pc + 1 = pc') (K : own_G p e below s n0 kc ks Q T (mkF m pc' Ls (.int z :: st))) : own_G p e below s n0 kc ks Q T (mkF m pc Ls (.int y :: .int x :: st)) := by
  obtain ⟨_, X, -, -⟩ := S
  subst hp hz
  exact own_st (T' := T) (g' := mkF m _ Ls (.int _ :: st)) (fun t ht => XS.iand X.here A.1 rfl (hb A.2.1 hd) rfl  ht) K
theorem s_ior (pc' : Nat) {x y : Int32} {z : Int32} (A : own_A p l e R s m args below meth c Z own name bytes maxL ret) (S : own_S p l e R s m args below meth c n0 T h k n) (hd : decode bytes pc = .ok (.ior, 1)) (hz : x ||| y = z) (hp : pc + 1 = pc') (K : own_G p e below s n0 kc ks Q T (mkF m pc' Ls (.int z :: st))) : own_G p e below s n0 kc ks Q T (mkF m pc Ls (.int y :: .int x :: st)) := by
  obtain ⟨_, X, -, -⟩ := S
  subst hp hz
  exact own_st (T' := T) (g' := mkF m _ Ls (.int _ :: st)) (fun t ht => XS.ior X.here A.1 rfl (hb A.2.1 hd) rfl  ht) K
theorem s_ixor (pc' : Nat) {x y : Int32} {z : Int32} (A : own_A p l e R s m args below meth c Z own name bytes maxL ret) (S : own_S p l e R s m args below meth c n0 T h k n) (hd : decode bytes pc = .ok (.ixor, 1)) (hz : x ^^^ y = z) (hp : pc + 1 = pc') (K : own_G p e below s n0 kc ks Q T (mkF m pc' Ls (.int z :: st))) : own_G p e below s n0 kc ks Q T (mkF m pc Ls (.int y :: .int x :: st)) := by
  obtain ⟨_, X, -, -⟩ := S
  subst hp hz
  exact own_st (T' := T) (g' := mkF m _ Ls (.int _ :: st)) (fun t ht => XS.ixor X.here A.1 rfl (hb A.2.1 hd) rfl  ht) K
theorem s_ishl (pc' : Nat) {x y : Int32} {z : Int32} (A : own_A p l e R s m args below meth c Z own name bytes maxL ret) (S : own_S p l e R s m args below meth c n0 T h k n) (hd : decode bytes pc = .ok (.ishl, 1)) (hz : x <<< (y &&& 31) = z) (hp : pc + 1 = pc') (K : own_G p e below s n0 kc ks Q T (mkF m pc' Ls (.int z :: st))) : own_G p e below s n0 kc ks Q T (mkF m pc Ls (.int y :: .int x :: st)) := by
  obtain ⟨_, X, -, -⟩ := S
  subst hp hz
  exact own_st (T' := T) (g' := mkF m _ Ls (.int _ :: st)) (fun t ht => XS.ishl X.here A.1 rfl (hb A.2.1 hd) rfl  ht) K
theorem s_ishr (pc' : Nat) {x y : Int32} {z : Int32} (A : own_A p l e R s m args below meth c Z own name bytes maxL ret) (S : own_S p l e R s m args below meth c n0 T h k n) (hd : decode bytes pc = .ok (.ishr, 1)) (hz : x >>> (y &&& 31) = z) (hp : pc + 1 = pc') (K : own_G p e below s n0 kc ks Q T (mkF m pc' Ls (.int z :: st))) : own_G p e below s n0 kc ks Q T (mkF m pc Ls (.int y :: .int x :: st)) := by
  obtain ⟨_, X, -, -⟩ := S
  subst hp hz
  exact own_st (T' := T) (g' := mkF m _ Ls (.int _ :: st)) (fun t ht => XS.ishr X.here A.1 rfl (hb A.2.1 hd) rfl  ht) K
theorem s_iushr (pc' : Nat) {x y : Int32} {z : Int32} (A : own_A p l e R s m args below meth c Z own name bytes maxL ret) (S : own_S p l e R s m args below meth c n0 T h k n) (hd : decode bytes pc = .ok (.iushr, 1)) (hz : own_ushr x y = z) (hp : pc + 1 = pc') (K : own_G p e below s n0 kc ks Q T (mkF m pc' Ls (.int z :: st))) : own_G p e below s n0 kc ks Q T (mkF m pc Ls (.int y :: .int x :: st)) := by
  obtain ⟨_, X, -, -⟩ := S
  subst hp hz
  exact own_st (T' := T) (g' := mkF m _ Ls (.int _ :: st)) (fun t ht => XS.iushr X.here A.1 rfl (hb A.2.1 hd) rfl  ht) K
theorem s_idiv (pc' : Nat) {x y : Int32} {z : Int32} (A : own_A p l e R s m args below meth c Z own name bytes maxL ret) (S : own_S p l e R s m args below meth c n0 T h k n) (hd : decode bytes pc = .ok (.idiv, 1)) (hy : y ≠ 0) (hz : x / y = z) (hp : pc + 1 = pc') (K : own_G p e below s n0 kc ks Q T (mkF m pc' Ls (.int z :: st))) : own_G p e below s n0 kc ks Q T (mkF m pc Ls (.int y :: .int x :: st)) := by
  obtain ⟨_, X, -, -⟩ := S
  subst hp hz
  exact own_st (T' := T) (g' := mkF m _ Ls (.int _ :: st)) (fun t ht => XS.idiv X.here A.1 rfl (hb A.2.1 hd) rfl hy ht) K
theorem s_irem (pc' : Nat) {x y : Int32} {z : Int32} (A : own_A p l e R s m args below meth c Z own name bytes maxL ret) (S : own_S p l e R s m args below meth c n0 T h k n) (hd : decode bytes pc = .ok (.irem, 1)) (hy : y ≠ 0) (hz : x % y = z) (hp : pc + 1 = pc') (K : own_G p e below s n0 kc ks Q T (mkF m pc' Ls (.int z :: st))) : own_G p e below s n0 kc ks Q T (mkF m pc Ls (.int y :: .int x :: st)) := by
  obtain ⟨_, X, -, -⟩ := S
  subst hp hz
  exact own_st (T' := T) (g' := mkF m _ Ls (.int _ :: st)) (fun t ht => iremM X A.1 rfl (hb A.2.1 hd) rfl hy ht) K
theorem s_ladd (pc' : Nat) {x y : Int64} {z : Int64} (A : own_A p l e R s m args below meth c Z own name bytes maxL ret) (S : own_S p l e R s m args below meth c n0 T h k n) (hd : decode bytes pc = .ok (.ladd, 1)) (hz : x + y = z) (hp : pc + 1 = pc') (K : own_G p e below s n0 kc ks Q T (mkF m pc' Ls (.long z :: st))) : own_G p e below s n0 kc ks Q T (mkF m pc Ls (.long y :: .long x :: st)) := by
  obtain ⟨_, X, -, -⟩ := S
  subst hp hz
  exact own_st (T' := T) (g' := mkF m _ Ls (.long _ :: st)) (fun t ht => XS.ladd X.here A.1 rfl (hb A.2.1 hd) rfl  ht) K
theorem s_lsub (pc' : Nat) {x y : Int64} {z : Int64} (A : own_A p l e R s m args below meth c Z own name bytes maxL ret) (S : own_S p l e R s m args below meth c n0 T h k n) (hd : decode bytes pc = .ok (.lsub, 1)) (hz : x - y = z) (hp : pc + 1 = pc') (K : own_G p e below s n0 kc ks Q T (mkF m pc' Ls (.long z :: st))) : own_G p e below s n0 kc ks Q T (mkF m pc Ls (.long y :: .long x :: st)) := by
  obtain ⟨_, X, -, -⟩ := S
  subst hp hz
  exact own_st (T' := T) (g' := mkF m _ Ls (.long _ :: st)) (fun t ht => XS.lsub X.here A.1 rfl (hb A.2.1 hd) rfl  ht) K
theorem s_lmul (pc' : Nat) {x y : Int64} {z : Int64} (A : own_A p l e R s m args below meth c Z own name bytes maxL ret) (S : own_S p l e R s m args below meth c n0 T h k n) (hd : decode bytes pc = .ok (.lmul, 1)) (hz : x * y = z) (hp : pc + 1 = pc') (K : own_G p e below s n0 kc ks Q T (mkF m pc' Ls (.long z :: st))) : own_G p e below s n0 kc ks Q T (mkF m pc Ls (.long y :: .long x :: st)) := by
  obtain ⟨_, X, -, -⟩ := S
  subst hp hz
  exact own_st (T' := T) (g' := mkF m _ Ls (.long _ :: st)) (fun t ht => XS.lmul X.here A.1 rfl (hb A.2.1 hd) rfl  ht) K
theorem s_land (pc' : Nat) {x y : Int64} {z : Int64} (A : own_A p l e R s m args below meth c Z own name bytes maxL ret) (S : own_S p l e R s m args below meth c n0 T h k n) (hd : decode bytes pc = .ok (.land, 1)) (hz : x &&& y = z) (hp : pc + 1 = pc') (K : own_G p e below s n0 kc ks Q T (mkF m pc' Ls (.long z :: st))) : own_G p e below s n0 kc ks Q T (mkF m pc Ls (.long y :: .long x :: st)) := by
  obtain ⟨_, X, -, -⟩ := S
  subst hp hz
  exact own_st (T' := T) (g' := mkF m _ Ls (.long _ :: st)) (fun t ht => XS.land X.here A.1 rfl (hb A.2.1 hd) rfl  ht) K
theorem s_lor (pc' : Nat) {x y : Int64} {z : Int64} (A : own_A p l e R s m args below meth c Z own name bytes maxL ret) (S : own_S p l e R s m args below meth c n0 T h k n) (hd : decode bytes pc = .ok (.lor, 1)) (hz : x ||| y = z) (hp : pc + 1 = pc') (K : own_G p e below s n0 kc ks Q T (mkF m pc' Ls (.long z :: st))) : own_G p e below s n0 kc ks Q T (mkF m pc Ls (.long y :: .long x :: st)) := by
  obtain ⟨_, X, -, -⟩ := S
  subst hp hz
  exact own_st (T' := T) (g' := mkF m _ Ls (.long _ :: st)) (fun t ht => XS.lor X.here A.1 rfl (hb A.2.1 hd) rfl  ht) K
theorem s_lxor (pc' : Nat) {x y : Int64} {z : Int64} (A : own_A p l e R s m args below meth c Z own name bytes maxL ret) (S : own_S p l e R s m args below meth c n0 T h k n) (hd : decode bytes pc = .ok (.lxor, 1)) (hz : x ^^^ y = z) (hp : pc + 1 = pc') (K : own_G p e below s n0 kc ks Q T (mkF m pc' Ls (.long z :: st))) : own_G p e below s n0 kc ks Q T (mkF m pc Ls (.long y :: .long x :: st)) := by
  obtain ⟨_, X, -, -⟩ := S
  subst hp hz
  exact own_st (T' := T) (g' := mkF m _ Ls (.long _ :: st)) (fun t ht => XS.lxor X.here A.1 rfl (hb A.2.1 hd) rfl  ht) K
theorem s_ldiv (pc' : Nat) {x y : Int64} {z : Int64} (A : own_A p l e R s m args below meth c Z own name bytes maxL ret) (S : own_S p l e R s m args below meth c n0 T h k n) (hd : decode bytes pc = .ok (.ldiv, 1)) (hy : y ≠ 0) (hz : x / y = z) (hp : pc + 1 = pc') (K : own_G p e below s n0 kc ks Q T (mkF m pc' Ls (.long z :: st))) : own_G p e below s n0 kc ks Q T (mkF m pc Ls (.long y :: .long x :: st)) := by
  obtain ⟨_, X, -, -⟩ := S
  subst hp hz
  exact own_st (T' := T) (g' := mkF m _ Ls (.long _ :: st)) (fun t ht => XS.ldiv X.here A.1 rfl (hb A.2.1 hd) rfl hy ht) K
theorem s_lrem (pc' : Nat) {x y : Int64} {z : Int64} (A : own_A p l e R s m args below meth c Z own name bytes maxL ret) (S : own_S p l e R s m args below meth c n0 T h k n) (hd : decode bytes pc = .ok (.lrem, 1)) (hy : y ≠ 0) (hz : x - (x / y) * y = z) (hp : pc + 1 = pc') (K : own_G p e below s n0 kc ks Q T (mkF m pc' Ls (.long z :: st))) : own_G p e below s n0 kc ks Q T (mkF m pc Ls (.long y :: .long x :: st)) := by
  obtain ⟨_, X, -, -⟩ := S
  subst hp hz
  exact own_st (T' := T) (g' := mkF m _ Ls (.long _ :: st)) (fun t ht => XS.lrem X.here A.1 rfl (hb A.2.1 hd) rfl hy ht) K
theorem s_lshl (pc' : Nat) {x : Int64} {y : Int32} {z : Int64} (A : own_A p l e R s m args below meth c Z own name bytes maxL ret) (S : own_S p l e R s m args below meth c n0 T h k n) (hd : decode bytes pc = .ok (.lshl, 1)) (hz : x <<< (y &&& 63).toInt64 = z) (hp : pc + 1 = pc') (K : own_G p e below s n0 kc ks Q T (mkF m pc' Ls (.long z :: st))) : own_G p e below s n0 kc ks Q T (mkF m pc Ls (.int y :: .long x :: st)) := by
  obtain ⟨_, X, -, -⟩ := S
  subst hp hz
  exact own_st (T' := T) (g' := mkF m _ Ls (.long _ :: st)) (fun t ht => XS.lshl X.here A.1 rfl (hb A.2.1 hd) rfl  ht) K
theorem s_lshr (pc' : Nat) {x : Int64} {y : Int32} {z : Int64} (A : own_A p l e R s m args below meth c Z own name bytes maxL ret) (S : own_S p l e R s m args below meth c n0 T h k n) (hd : decode bytes pc = .ok (.lshr, 1)) (hz : x >>> (y &&& 63).toInt64 = z) (hp : pc + 1 = pc') (K : own_G p e below s n0 kc ks Q T (mkF m pc' Ls (.long z :: st))) : own_G p e below s n0 kc ks Q T (mkF m pc Ls (.int y :: .long x :: st)) := by
  obtain ⟨_, X, -, -⟩ := S
  subst hp hz
  exact own_st (T' := T) (g' := mkF m _ Ls (.long _ :: st)) (fun t ht => XS.lshr X.here A.1 rfl (hb A.2.1 hd) rfl  ht) K
theorem s_lushr (pc' : Nat) {x : Int64} {y : Int32} {z : Int64} (A : own_A p l e R s m args below meth c Z own name bytes maxL ret) (S : own_S p l e R s m args below meth c n0 T h k n) (hd : decode bytes pc = .ok (.lushr, 1)) (hz : own_ushrL x y = z) (hp : pc + 1 = pc') (K : own_G p e below s n0 kc ks Q T (mkF m pc' Ls (.long z :: st))) : own_G p e below s n0 kc ks Q T (mkF m pc Ls (.int y :: .long x :: st)) := by
  obtain ⟨_, X, -, -⟩ := S
  subst hp hz
  exact own_st (T' := T) (g' := mkF m _ Ls (.long _ :: st)) (fun t ht => XS.lushr X.here A.1 rfl (hb A.2.1 hd) rfl  ht) K
theorem s_ineg (pc' : Nat) {x : Int32} {z : Int32} (A : own_A p l e R s m args below meth c Z own name bytes maxL ret) (S : own_S p l e R s m args below meth c n0 T h k n) (hd : decode bytes pc = .ok (.ineg, 1)) (hz : -x = z) (hp : pc + 1 = pc') (K : own_G p e below s n0 kc ks Q T (mkF m pc' Ls (.int z :: st))) : own_G p e below s n0 kc ks Q T (mkF m pc Ls (.int x :: st)) := by
  obtain ⟨_, X, -, -⟩ := S
  subst hp hz
  exact own_st (T' := T) (g' := mkF m _ Ls (.int _ :: st)) (fun t ht => XS.ineg X.here A.1 rfl (hb A.2.1 hd) rfl  ht) K
theorem s_lneg (pc' : Nat) {x : Int64} {z : Int64} (A : own_A p l e R s m args below meth c Z own name bytes maxL ret) (S : own_S p l e R s m args below meth c n0 T h k n) (hd : decode bytes pc = .ok (.lneg, 1)) (hz : -x = z) (hp : pc + 1 = pc') (K : own_G p e below s n0 kc ks Q T (mkF m pc' Ls (.long z :: st))) : own_G p e below s n0 kc ks Q T (mkF m pc Ls (.long x :: st)) := by
  obtain ⟨_, X, -, -⟩ := S
  subst hp hz
  exact own_st (T' := T) (g' := mkF m _ Ls (.long _ :: st)) (fun t ht => XS.lneg X.here A.1 rfl (hb A.2.1 hd) rfl  ht) K
theorem s_i2l (pc' : Nat) {x : Int32} {z : Int64} (A : own_A p l e R s m args below meth c Z own name bytes maxL ret) (S : own_S p l e R s m args below meth c n0 T h k n) (hd : decode bytes pc = .ok (.i2l, 1)) (hz : x.toInt64 = z) (hp : pc + 1 = pc') (K : own_G p e below s n0 kc ks Q T (mkF m pc' Ls (.long z :: st))) : own_G p e below s n0 kc ks Q T (mkF m pc Ls (.int x :: st)) := by
  obtain ⟨_, X, -, -⟩ := S
  subst hp hz
  exact own_st (T' := T) (g' := mkF m _ Ls (.long _ :: st)) (fun t ht => XS.i2l X.here A.1 rfl (hb A.2.1 hd) rfl  ht) K
theorem s_l2i (pc' : Nat) {x : Int64} {z : Int32} (A : own_A p l e R s m args below meth c Z own name bytes maxL ret) (S : own_S p l e R s m args below meth c n0 T h k n) (hd : decode bytes pc = .ok (.l2i, 1)) (hz : x.toInt32 = z) (hp : pc + 1 = pc') (K : own_G p e below s n0 kc ks Q T (mkF m pc' Ls (.int z :: st))) : own_G p e below s n0 kc ks Q T (mkF m pc Ls (.long x :: st)) := by
  obtain ⟨_, X, -, -⟩ := S
  subst hp hz
  exact own_st (T' := T) (g' := mkF m _ Ls (.int _ :: st)) (fun t ht => XS.l2i X.here A.1 rfl (hb A.2.1 hd) rfl  ht) K
theorem s_i2b (pc' : Nat) {x : Int32} {z : Int32} (A : own_A p l e R s m args below meth c Z own name bytes maxL ret) (S : own_S p l e R s m args below meth c n0 T h k n) (hd : decode bytes pc = .ok (.i2b, 1)) (hz : x.toInt8.toInt32 = z) (hp : pc + 1 = pc') (K : own_G p e below s n0 kc ks Q T (mkF m pc' Ls (.int z :: st))) : own_G p e below s n0 kc ks Q T (mkF m pc Ls (.int x :: st)) := by
  obtain ⟨_, X, -, -⟩ := S
  subst hp hz
  exact own_st (T' := T) (g' := mkF m _ Ls (.int _ :: st)) (fun t ht => XS.i2b X.here A.1 rfl (hb A.2.1 hd) rfl  ht) K
theorem s_i2c (pc' : Nat) {x : Int32} {z : Int32} (A : own_A p l e R s m args below meth c Z own name bytes maxL ret) (S : own_S p l e R s m args below meth c n0 T h k n) (hd : decode bytes pc = .ok (.i2c, 1)) (hz : x.toUInt32.toUInt16.toUInt32.toInt32 = z) (hp : pc + 1 = pc') (K : own_G p e below s n0 kc ks Q T (mkF m pc' Ls (.int z :: st))) : own_G p e below s n0 kc ks Q T (mkF m pc Ls (.int x :: st)) := by
  obtain ⟨_, X, -, -⟩ := S
  subst hp hz
  exact own_st (T' := T) (g' := mkF m _ Ls (.int _ :: st)) (fun t ht => XS.i2c X.here A.1 rfl (hb A.2.1 hd) rfl  ht) K
theorem s_i2s (pc' : Nat) {x : Int32} {z : Int32} (A : own_A p l e R s m args below meth c Z own name bytes maxL ret) (S : own_S p l e R s m args below meth c n0 T h k n) (hd : decode bytes pc = .ok (.i2s, 1)) (hz : x.toInt16.toInt32 = z) (hp : pc + 1 = pc') (K : own_G p e below s n0 kc ks Q T (mkF m pc' Ls (.int z :: st))) : own_G p e below s n0 kc ks Q T (mkF m pc Ls (.int x :: st)) := by
  obtain ⟨_, X, -, -⟩ := S
  subst hp hz
  exact own_st (T' := T) (g' := mkF m _ Ls (.int _ :: st)) (fun t ht => XS.i2s X.here A.1 rfl (hb A.2.1 hd) rfl  ht) K
theorem s_lcmp (pc' : Nat) {x y : Int64} {z : Int32} (A : own_A p l e R s m args below meth c Z own name bytes maxL ret) (S : own_S p l e R s m args below meth c n0 T h k n) (hd : decode bytes pc = .ok (.lcmp, 1)) (hz : lcmpW x y = z) (hp : pc + 1 = pc') (K : own_G p e below s n0 kc ks Q T (mkF m pc' Ls (.int z :: st))) : own_G p e below s n0 kc ks Q T (mkF m pc Ls (.long y :: .long x :: st)) := by
  obtain ⟨_, X, -, -⟩ := S
  subst hp hz
  exact own_st (T' := T) (g' := mkF m _ Ls (.int _ :: st)) (fun t ht => XS.lcmp X.here A.1 rfl (hb A.2.1 hd) rfl  ht) K
theorem s_dup (pc' : Nat) {v : Value} (A : own_A p l e R s m args below meth c Z own name bytes maxL ret) (S : own_S p l e R s m args below meth c n0 T h k n) (hd : decode bytes pc = .ok (.dup, 1)) (hv : v.category = 1) (hp : pc + 1 = pc') (K : own_G p e below s n0 kc ks Q T (mkF m pc' Ls (v :: v :: st))) : own_G p e below s n0 kc ks Q T (mkF m pc Ls (v :: st)) := by
  obtain ⟨_, X, -, -⟩ := S
  subst hp
  exact own_st (T' := T) (g' := mkF m _ Ls (v :: v :: st)) (fun t ht => XS.dup X.here A.1 rfl (hb A.2.1 hd) rfl hv ht) K
theorem s_dup2 (pc' : Nat) {v w : Value} (A : own_A p l e R s m args below meth c Z own name bytes maxL ret) (S : own_S p l e R s m args below meth c n0 T h k n) (hd : decode bytes pc = .ok (.dup2, 1)) (hv : v.category = 1) (hv' : w.category = 1) (hp : pc + 1 = pc') (K : own_G p e below s n0 kc ks Q T (mkF m pc' Ls (v :: w :: v :: w :: st))) : own_G p e below s n0 kc ks Q T (mkF m pc Ls (v :: w :: st)) := by
  obtain ⟨_, X, -, -⟩ := S
  subst hp
  exact own_st (T' := T) (g' := mkF m _ Ls (v :: w :: v :: w :: st)) (fun t ht => Jvm.Free.XT.dup2 X.here A.1 rfl (hb A.2.1 hd) rfl hv hv' ht) K
theorem s_dup2L (pc' : Nat) {v : Int64} (A : own_A p l e R s m args below meth c Z own name bytes maxL ret) (S : own_S p l e R s m args below meth c n0 T h k n) (hd : decode bytes pc = .ok (.dup2, 1)) (hp : pc + 1 = pc') (K : own_G p e below s n0 kc ks Q T (mkF m pc' Ls (.long v :: .long v :: st))) : own_G p e below s n0 kc ks Q T (mkF m pc Ls (.long v :: st)) := by
  obtain ⟨_, X, -, -⟩ := S
  subst hp
  exact own_st (T' := T) (g' := mkF m _ Ls (.long v :: .long v :: st)) (fun t ht => Jvm.Free.XT.dup2L X.here A.1 rfl (hb A.2.1 hd) rfl ht) K
theorem s_dupX1 (pc' : Nat) {v w : Value} (A : own_A p l e R s m args below meth c Z own name bytes maxL ret) (S : own_S p l e R s m args below meth c n0 T h k n) (hd : decode bytes pc = .ok (.dup_x1, 1)) (hv : v.category = 1) (hv' : w.category = 1) (hp : pc + 1 = pc') (K : own_G p e below s n0 kc ks Q T (mkF m pc' Ls (v :: w :: v :: st))) : own_G p e below s n0 kc ks Q T (mkF m pc Ls (v :: w :: st)) := by
  obtain ⟨_, X, -, -⟩ := S
  subst hp
  exact own_st (T' := T) (g' := mkF m _ Ls (v :: w :: v :: st)) (fun t ht => XS.dupX1 X.here A.1 rfl (hb A.2.1 hd) rfl hv hv' ht) K
theorem s_pop (pc' : Nat) {v : Value} (A : own_A p l e R s m args below meth c Z own name bytes maxL ret) (S : own_S p l e R s m args below meth c n0 T h k n) (hd : decode bytes pc = .ok (.pop, 1)) (hv : v.category = 1) (hp : pc + 1 = pc') (K : own_G p e below s n0 kc ks Q T (mkF m pc' Ls st)) : own_G p e below s n0 kc ks Q T (mkF m pc Ls (v :: st)) := by
  obtain ⟨_, X, -, -⟩ := S
  subst hp
  exact own_st (T' := T) (g' := mkF m _ Ls st) (fun t ht => XS.pop X.here A.1 rfl (hb A.2.1 hd) rfl hv ht) K
theorem s_iinc (pc' : Nat) {i : Nat} {cst : Int} {x z : Int32} (A : own_A p l e R s m args below meth c Z own name bytes maxL ret) (S : own_S p l e R s m args below meth c n0 T h k n) (hd : decode bytes pc = .ok (.iinc i cst, 3)) (hl : Ls[i]? = some (.val (.int x))) (hz : x + Int32.ofInt cst = z) (hl' : storeLocals Ls i (.int z) = some Ls') (hp : pc + 3 = pc') (K : own_G p e below s n0 kc ks Q T (mkF m pc' Ls' st)) : own_G p e below s n0 kc ks Q T (mkF m pc Ls st) := by
  obtain ⟨_, X, -, -⟩ := S
  subst hp hz
  exact own_st (T' := T) (g' := mkF m _ Ls' st) (fun t ht => XS.iinc X.here A.1 rfl (hb A.2.1 hd) hl hl' ht) K
theorem s_goto (pc' : Nat) {o : Int} (A : own_A p l e R s m args below meth c Z own name bytes maxL ret) (S : own_S p l e R s m args below meth c n0 T h k n) (hd : decode bytes pc = .ok (.goto o, 3)) (ho : 0 ≤ (pc : Int) + o) (hp : ((pc : Int) + o).toNat = pc') (K : own_G p e below s n0 kc ks Q T (mkF m pc' Ls st)) : own_G p e below s n0 kc ks Q T (mkF m pc Ls st) := by
  obtain ⟨_, X, -, -⟩ := S
  exact own_st (T' := T) (g' := mkF m pc' Ls st) (fun t ht => XS.goto X.here A.1 rfl (pc0 := pc) (pc' := pc') rfl (hb A.2.1 hd) ho hp ht) K
theorem s_icmp (pcY pcN : Nat) {cd : ClassFile.Cond} {o : Int} {x y : Int32} (A : own_A p l e R s m args below meth c Z own name bytes maxL ret) (S : own_S p l e R s m args below meth c n0 T h k n) (hd : decode bytes pc = .ok (.if_icmp cd o, 3)) (ho : 0 ≤ (pc : Int) + o) (hp : ((pc : Int) + o).toNat = pcY) (hn : pc + 3 = pcN) (KY : if_icmp.holds cd x y = true → own_G p e below s n0 kc ks Q T (mkF m pcY Ls st)) (KN : if_icmp.holds cd x y = false → own_G p e below s n0 kc ks Q T (mkF m pcN Ls st)) : own_G p e below s n0 kc ks Q T (mkF m pc Ls (.int y :: .int x :: st)) := by
  obtain ⟨_, X, -, -⟩ := S
  subst hn
  rcases Bool.eq_false_or_eq_true (if_icmp.holds cd x y) with hc | hc
  · exact own_st (T' := T) (g' := mkF m pcY Ls st) (fun t ht => XS.icmpYes X.here A.1 rfl (pc0 := pc) (pc' := pcY) rfl (hb A.2.1 hd) rfl hc ho hp ht) (KY hc)
  · exact own_st (T' := T) (g' := mkF m _ Ls st) (fun t ht => XS.icmpNo X.here A.1 rfl (hb A.2.1 hd) rfl hc ht) (KN hc)
theorem s_ifc (pcY pcN : Nat) {cd : ClassFile.Cond} {o : Int} {x : Int32} (A : own_A p l e R s m args below meth c Z own name bytes maxL ret) (S : own_S p l e R s m args below meth c n0 T h k n) (hd : decode bytes pc = .ok (.ifCond cd o, 3)) (ho : 0 ≤ (pc : Int) + o) (hp : ((pc : Int) + o).toNat = pcY) (hn : pc + 3 = pcN) (KY : ifCond.holds cd x = true → own_G p e below s n0 kc ks Q T (mkF m pcY Ls st)) (KN : ifCond.holds cd x = false → own_G p e below s n0 kc ks Q T (mkF m pcN Ls st)) : own_G p e below s n0 kc ks Q T (mkF m pc Ls (.int x :: st)) := by
  obtain ⟨_, X, -, -⟩ := S
  subst hn
  rcases Bool.eq_false_or_eq_true (ifCond.holds cd x) with hc | hc
  · exact own_st (T' := T) (g' := mkF m pcY Ls st) (fun t ht => XS.ifYes X.here A.1 rfl (pc0 := pc) (pc' := pcY) rfl (hb A.2.1 hd) rfl hc ho hp ht) (KY hc)
  · exact own_st (T' := T) (g' := mkF m _ Ls st) (fun t ht => XS.ifNo X.here A.1 rfl (hb A.2.1 hd) rfl hc ht) (KN hc)
theorem own_eqY {x y : Int32} : if_icmp.holds .eq x y = true → x = y := by simp [if_icmp.holds]
theorem own_eqN {x y : Int32} : if_icmp.holds .eq x y = false → ¬ x = y := by simp [if_icmp.holds]
theorem own_neY {x y : Int32} : if_icmp.holds .ne x y = true → ¬ x = y := by simp [if_icmp.holds]
theorem own_neN {x y : Int32} : if_icmp.holds .ne x y = false → x = y := by simp [if_icmp.holds]
theorem own_ltY {x y : Int32} : if_icmp.holds .lt x y = true → x.toInt < y.toInt := by simp [if_icmp.holds, Int32.lt_iff_toInt_lt]
theorem own_ltN {x y : Int32} : if_icmp.holds .lt x y = false → y.toInt ≤ x.toInt := by simp [if_icmp.holds, Int32.le_iff_toInt_le]
theorem own_geY {x y : Int32} : if_icmp.holds .ge x y = true → y.toInt ≤ x.toInt := by simp [if_icmp.holds, Int32.le_iff_toInt_le]
theorem own_geN {x y : Int32} : if_icmp.holds .ge x y = false → x.toInt < y.toInt := by simp [if_icmp.holds, Int32.lt_iff_toInt_lt]
theorem own_gtY {x y : Int32} : if_icmp.holds .gt x y = true → y.toInt < x.toInt := by simp [if_icmp.holds, Int32.lt_iff_toInt_lt]
theorem own_gtN {x y : Int32} : if_icmp.holds .gt x y = false → x.toInt ≤ y.toInt := by simp [if_icmp.holds, Int32.le_iff_toInt_le]
theorem own_leY {x y : Int32} : if_icmp.holds .le x y = true → x.toInt ≤ y.toInt := by simp [if_icmp.holds, Int32.le_iff_toInt_le]
theorem own_leN {x y : Int32} : if_icmp.holds .le x y = false → y.toInt < x.toInt := by simp [if_icmp.holds, Int32.lt_iff_toInt_lt]
theorem own_lcmp_lt (x y : Int64) : lcmpW x y < 0 ↔ x.toInt < y.toInt := by rw [lw_lt, Int64.lt_iff_toInt_lt]
theorem own_lcmp_gt (x y : Int64) : 0 < lcmpW x y ↔ y.toInt < x.toInt := by rw [lw_gt, Int64.lt_iff_toInt_lt]
theorem own_lcmp_eq (x y : Int64) : lcmpW x y = 0 ↔ x = y := by rw [lw_eq]
theorem s_ieq (pcY pcN : Nat) {o : Int} {x y : Int32} {xi yi : Int} (A : own_A p l e R s m args below meth c Z own name bytes maxL ret) (S : own_S p l e R s m args below meth c n0 T h k n) (hxi : x.toInt = xi) (hyi : y.toInt = yi) (hd : decode bytes pc = .ok (.if_icmp .eq o, 3)) (ho : 0 ≤ (pc : Int) + o) (hp : ((pc : Int) + o).toNat = pcY) (hn : pc + 3 = pcN) (KY : x = y → xi = yi → own_G p e below s n0 kc ks Q T (mkF m pcY Ls st)) (KN : ¬ x = y → xi ≠ yi → own_G p e below s n0 kc ks Q T (mkF m pcN Ls st)) : own_G p e below s n0 kc ks Q T (mkF m pc Ls (.int y :: .int x :: st)) :=
  s_icmp pcY pcN A S hd ho hp hn (fun q => by have q := own_eqY q; exact KY q (by subst hxi hyi; rw [q])) (fun q => by have q := own_eqN q; exact KN q (by subst hxi hyi; exact own_toInt q))
theorem s_ifeq (pcY pcN : Nat) {o : Int} {x : Int32} {xi : Int} (A : own_A p l e R s m args below meth c Z own name bytes maxL ret) (S : own_S p l e R s m args below meth c n0 T h k n) (hxi : x.toInt = xi) (hd : decode bytes pc = .ok (.ifCond .eq o, 3)) (ho : 0 ≤ (pc : Int) + o) (hp : ((pc : Int) + o).toNat = pcY) (hn : pc + 3 = pcN) (KY : x = 0 → xi = 0 → own_G p e below s n0 kc ks Q T (mkF m pcY Ls st)) (KN : ¬ x = 0 → xi ≠ 0 → own_G p e below s n0 kc ks Q T (mkF m pcN Ls st)) : own_G p e below s n0 kc ks Q T (mkF m pc Ls (.int x :: st)) :=
  s_ifc pcY pcN A S hd ho hp hn (fun q => by have q := own_eqY (y := 0) ((if0 _ _).symm.trans q); exact KY q (by subst hxi; rw [q]; rfl)) (fun q => by have q := own_eqN (y := 0) ((if0 _ _).symm.trans q); exact KN q (by subst hxi; exact own_toInt q))
theorem s_lifeq (pcY pcN pcM : Nat) {o : Int} {x y : Int64} {xi yi : Int} (A : own_A p l e R s m args below meth c Z own name bytes maxL ret) (S : own_S p l e R s m args below meth c n0 T h k n) (hxi : x.toInt = xi) (hyi : y.toInt = yi) (hd0 : decode bytes pc = .ok (.lcmp, 1)) (hm : pc + 1 = pcM) (hd : decode bytes pcM = .ok (.ifCond .eq o, 3)) (ho : 0 ≤ (pcM : Int) + o) (hp : ((pcM : Int) + o).toNat = pcY) (hn : pcM + 3 = pcN) (KY : x = y → xi = yi → own_G p e below s n0 kc ks Q T (mkF m pcY Ls st)) (KN : ¬ x = y → xi ≠ yi → own_G p e below s n0 kc ks Q T (mkF m pcN Ls st)) : own_G p e below s n0 kc ks Q T (mkF m pc Ls (.long y :: .long x :: st)) :=
  s_lcmp pcM A S hd0 rfl hm (s_ifeq pcY pcN A S rfl hd ho hp hn (fun q _ => by have q : x = y := (own_lcmp_eq x y).mp q; exact KY q (by subst hxi hyi; rw [q])) (fun q _ => by have q : ¬ x = y := fun w => q ((own_lcmp_eq x y).mpr w); exact KN q (by subst hxi hyi; exact own_toIntL q)))
theorem s_ine (pcY pcN : Nat) {o : Int} {x y : Int32} {xi yi : Int} (A : own_A p l e R s m args below meth c Z own name bytes maxL ret) (S : own_S p l e R s m args below meth c n0 T h k n) (hxi : x.toInt = xi) (hyi : y.toInt = yi) (hd : decode bytes pc = .ok (.if_icmp .ne o, 3)) (ho : 0 ≤ (pc : Int) + o) (hp : ((pc : Int) + o).toNat = pcY) (hn : pc + 3 = pcN) (KY : ¬ x = y → xi ≠ yi → own_G p e below s n0 kc ks Q T (mkF m pcY Ls st)) (KN : x = y → xi = yi → own_G p e below s n0 kc ks Q T (mkF m pcN Ls st)) : own_G p e below s n0 kc ks Q T (mkF m pc Ls (.int y :: .int x :: st)) :=
  s_icmp pcY pcN A S hd ho hp hn (fun q => by have q := own_neY q; exact KY q (by subst hxi hyi; exact own_toInt q)) (fun q => by have q := own_neN q; exact KN q (by subst hxi hyi; rw [q]))
theorem s_ifne (pcY pcN : Nat) {o : Int} {x : Int32} {xi : Int} (A : own_A p l e R s m args below meth c Z own name bytes maxL ret) (S : own_S p l e R s m args below meth c n0 T h k n) (hxi : x.toInt = xi) (hd : decode bytes pc = .ok (.ifCond .ne o, 3)) (ho : 0 ≤ (pc : Int) + o) (hp : ((pc : Int) + o).toNat = pcY) (hn : pc + 3 = pcN) (KY : ¬ x = 0 → xi ≠ 0 → own_G p e below s n0 kc ks Q T (mkF m pcY Ls st)) (KN : x = 0 → xi = 0 → own_G p e below s n0 kc ks Q T (mkF m pcN Ls st)) : own_G p e below s n0 kc ks Q T (mkF m pc Ls (.int x :: st)) :=
  s_ifc pcY pcN A S hd ho hp hn (fun q => by have q := own_neY (y := 0) ((if0 _ _).symm.trans q); exact KY q (by subst hxi; exact own_toInt q)) (fun q => by have q := own_neN (y := 0) ((if0 _ _).symm.trans q); exact KN q (by subst hxi; rw [q]; rfl))
theorem s_lifne (pcY pcN pcM : Nat) {o : Int} {x y : Int64} {xi yi : Int} (A : own_A p l e R s m args below meth c Z own name bytes maxL ret) (S : own_S p l e R s m args below meth c n0 T h k n) (hxi : x.toInt = xi) (hyi : y.toInt = yi) (hd0 : decode bytes pc = .ok (.lcmp, 1)) (hm : pc + 1 = pcM) (hd : decode bytes pcM = .ok (.ifCond .ne o, 3)) (ho : 0 ≤ (pcM : Int) + o) (hp : ((pcM : Int) + o).toNat = pcY) (hn : pcM + 3 = pcN) (KY : ¬ x = y → xi ≠ yi → own_G p e below s n0 kc ks Q T (mkF m pcY Ls st)) (KN : x = y → xi = yi → own_G p e below s n0 kc ks Q T (mkF m pcN Ls st)) : own_G p e below s n0 kc ks Q T (mkF m pc Ls (.long y :: .long x :: st)) :=
  s_lcmp pcM A S hd0 rfl hm (s_ifne pcY pcN A S rfl hd ho hp hn (fun q _ => by have q : ¬ x = y := fun w => q ((own_lcmp_eq x y).mpr w); exact KY q (by subst hxi hyi; exact own_toIntL q)) (fun q _ => by have q : x = y := (own_lcmp_eq x y).mp q; exact KN q (by subst hxi hyi; rw [q])))
theorem s_ilt (pcY pcN : Nat) {o : Int} {x y : Int32} {xi yi : Int} (A : own_A p l e R s m args below meth c Z own name bytes maxL ret) (S : own_S p l e R s m args below meth c n0 T h k n) (hxi : x.toInt = xi) (hyi : y.toInt = yi) (hd : decode bytes pc = .ok (.if_icmp .lt o, 3)) (ho : 0 ≤ (pc : Int) + o) (hp : ((pc : Int) + o).toNat = pcY) (hn : pc + 3 = pcN) (KY : xi < yi → own_G p e below s n0 kc ks Q T (mkF m pcY Ls st)) (KN : yi ≤ xi → own_G p e below s n0 kc ks Q T (mkF m pcN Ls st)) : own_G p e below s n0 kc ks Q T (mkF m pc Ls (.int y :: .int x :: st)) :=
  s_icmp pcY pcN A S hd ho hp hn (fun q => by have q := own_ltY q; exact KY (by subst hxi hyi; exact q)) (fun q => by have q := own_ltN q; exact KN (by subst hxi hyi; exact q))
theorem s_iflt (pcY pcN : Nat) {o : Int} {x : Int32} {xi : Int} (A : own_A p l e R s m args below meth c Z own name bytes maxL ret) (S : own_S p l e R s m args below meth c n0 T h k n) (hxi : x.toInt = xi) (hd : decode bytes pc = .ok (.ifCond .lt o, 3)) (ho : 0 ≤ (pc : Int) + o) (hp : ((pc : Int) + o).toNat = pcY) (hn : pc + 3 = pcN) (KY : xi < 0 → own_G p e below s n0 kc ks Q T (mkF m pcY Ls st)) (KN : 0 ≤ xi → own_G p e below s n0 kc ks Q T (mkF m pcN Ls st)) : own_G p e below s n0 kc ks Q T (mkF m pc Ls (.int x :: st)) :=
  s_ifc pcY pcN A S hd ho hp hn (fun q => by have q := own_ltY (y := 0) ((if0 _ _).symm.trans q); exact KY (by subst hxi; exact q)) (fun q => by have q := own_ltN (y := 0) ((if0 _ _).symm.trans q); exact KN (by subst hxi; exact q))
theorem s_liflt (pcY pcN pcM : Nat) {o : Int} {x y : Int64} {xi yi : Int} (A : own_A p l e R s m args below meth c Z own name bytes maxL ret) (S : own_S p l e R s m args below meth c n0 T h k n) (hxi : x.toInt = xi) (hyi : y.toInt = yi) (hd0 : decode bytes pc = .ok (.lcmp, 1)) (hm : pc + 1 = pcM) (hd : decode bytes pcM = .ok (.ifCond .lt o, 3)) (ho : 0 ≤ (pcM : Int) + o) (hp : ((pcM : Int) + o).toNat = pcY) (hn : pcM + 3 = pcN) (KY : xi < yi → own_G p e below s n0 kc ks Q T (mkF m pcY Ls st)) (KN : yi ≤ xi → own_G p e below s n0 kc ks Q T (mkF m pcN Ls st)) : own_G p e below s n0 kc ks Q T (mkF m pc Ls (.long y :: .long x :: st)) :=
  s_lcmp pcM A S hd0 rfl hm (s_iflt pcY pcN A S rfl hd ho hp hn (fun q => by have q : x.toInt < y.toInt := (own_lcmp_lt x y).mp (Int32.lt_iff_toInt_lt.mpr q); exact KY (by subst hxi hyi; exact q)) (fun q => by have q : y.toInt ≤ x.toInt := Int.not_lt.mp fun w => Int.not_lt.mpr q (Int32.lt_iff_toInt_lt.mp ((own_lcmp_lt x y).mpr w)); exact KN (by subst hxi hyi; exact q)))
theorem s_ige (pcY pcN : Nat) {o : Int} {x y : Int32} {xi yi : Int} (A : own_A p l e R s m args below meth c Z own name bytes maxL ret) (S : own_S p l e R s m args below meth c n0 T h k n) (hxi : x.toInt = xi) (hyi : y.toInt = yi) (hd : decode bytes pc = .ok (.if_icmp .ge o, 3)) (ho : 0 ≤ (pc : Int) + o) (hp : ((pc : Int) + o).toNat = pcY) (hn : pc + 3 = pcN) (KY : yi ≤ xi → own_G p e below s n0 kc ks Q T (mkF m pcY Ls st)) (KN : xi < yi → own_G p e below s n0 kc ks Q T (mkF m pcN Ls st)) : own_G p e below s n0 kc ks Q T (mkF m pc Ls (.int y :: .int x :: st)) :=
  s_icmp pcY pcN A S hd ho hp hn (fun q => by have q := own_geY q; exact KY (by subst hxi hyi; exact q)) (fun q => by have q := own_geN q; exact KN (by subst hxi hyi; exact q))
theorem s_ifge (pcY pcN : Nat) {o : Int} {x : Int32} {xi : Int} (A : own_A p l e R s m args below meth c Z own name bytes maxL ret) (S : own_S p l e R s m args below meth c n0 T h k n) (hxi : x.toInt = xi) (hd : decode bytes pc = .ok (.ifCond .ge o, 3)) (ho : 0 ≤ (pc : Int) + o) (hp : ((pc : Int) + o).toNat = pcY) (hn : pc + 3 = pcN) (KY : 0 ≤ xi → own_G p e below s n0 kc ks Q T (mkF m pcY Ls st)) (KN : xi < 0 → own_G p e below s n0 kc ks Q T (mkF m pcN Ls st)) : own_G p e below s n0 kc ks Q T (mkF m pc Ls (.int x :: st)) :=
  s_ifc pcY pcN A S hd ho hp hn (fun q => by have q := own_geY (y := 0) ((if0 _ _).symm.trans q); exact KY (by subst hxi; exact q)) (fun q => by have q := own_geN (y := 0) ((if0 _ _).symm.trans q); exact KN (by subst hxi; exact q))
theorem s_lifge (pcY pcN pcM : Nat) {o : Int} {x y : Int64} {xi yi : Int} (A : own_A p l e R s m args below meth c Z own name bytes maxL ret) (S : own_S p l e R s m args below meth c n0 T h k n) (hxi : x.toInt = xi) (hyi : y.toInt = yi) (hd0 : decode bytes pc = .ok (.lcmp, 1)) (hm : pc + 1 = pcM) (hd : decode bytes pcM = .ok (.ifCond .ge o, 3)) (ho : 0 ≤ (pcM : Int) + o) (hp : ((pcM : Int) + o).toNat = pcY) (hn : pcM + 3 = pcN) (KY : yi ≤ xi → own_G p e below s n0 kc ks Q T (mkF m pcY Ls st)) (KN : xi < yi → own_G p e below s n0 kc ks Q T (mkF m pcN Ls st)) : own_G p e below s n0 kc ks Q T (mkF m pc Ls (.long y :: .long x :: st)) :=
  s_lcmp pcM A S hd0 rfl hm (s_ifge pcY pcN A S rfl hd ho hp hn (fun q => by have q : y.toInt ≤ x.toInt := Int.not_lt.mp fun w => Int.not_lt.mpr q (Int32.lt_iff_toInt_lt.mp ((own_lcmp_lt x y).mpr w)); exact KY (by subst hxi hyi; exact q)) (fun q => by have q : x.toInt < y.toInt := (own_lcmp_lt x y).mp (Int32.lt_iff_toInt_lt.mpr q); exact KN (by subst hxi hyi; exact q)))
theorem s_igt (pcY pcN : Nat) {o : Int} {x y : Int32} {xi yi : Int} (A : own_A p l e R s m args below meth c Z own name bytes maxL ret) (S : own_S p l e R s m args below meth c n0 T h k n) (hxi : x.toInt = xi) (hyi : y.toInt = yi) (hd : decode bytes pc = .ok (.if_icmp .gt o, 3)) (ho : 0 ≤ (pc : Int) + o) (hp : ((pc : Int) + o).toNat = pcY) (hn : pc + 3 = pcN) (KY : yi < xi → own_G p e below s n0 kc ks Q T (mkF m pcY Ls st)) (KN : xi ≤ yi → own_G p e below s n0 kc ks Q T (mkF m pcN Ls st)) : own_G p e below s n0 kc ks Q T (mkF m pc Ls (.int y :: .int x :: st)) :=
  s_icmp pcY pcN A S hd ho hp hn (fun q => by have q := own_gtY q; exact KY (by subst hxi hyi; exact q)) (fun q => by have q := own_gtN q; exact KN (by subst hxi hyi; exact q))
theorem s_ifgt (pcY pcN : Nat) {o : Int} {x : Int32} {xi : Int} (A : own_A p l e R s m args below meth c Z own name bytes maxL ret) (S : own_S p l e R s m args below meth c n0 T h k n) (hxi : x.toInt = xi) (hd : decode bytes pc = .ok (.ifCond .gt o, 3)) (ho : 0 ≤ (pc : Int) + o) (hp : ((pc : Int) + o).toNat = pcY) (hn : pc + 3 = pcN) (KY : 0 < xi → own_G p e below s n0 kc ks Q T (mkF m pcY Ls st)) (KN : xi ≤ 0 → own_G p e below s n0 kc ks Q T (mkF m pcN Ls st)) : own_G p e below s n0 kc ks Q T (mkF m pc Ls (.int x :: st)) :=
  s_ifc pcY pcN A S hd ho hp hn (fun q => by have q := own_gtY (y := 0) ((if0 _ _).symm.trans q); exact KY (by subst hxi; exact q)) (fun q => by have q := own_gtN (y := 0) ((if0 _ _).symm.trans q); exact KN (by subst hxi; exact q))
theorem s_lifgt (pcY pcN pcM : Nat) {o : Int} {x y : Int64} {xi yi : Int} (A : own_A p l e R s m args below meth c Z own name bytes maxL ret) (S : own_S p l e R s m args below meth c n0 T h k n) (hxi : x.toInt = xi) (hyi : y.toInt = yi) (hd0 : decode bytes pc = .ok (.lcmp, 1)) (hm : pc + 1 = pcM) (hd : decode bytes pcM = .ok (.ifCond .gt o, 3)) (ho : 0 ≤ (pcM : Int) + o) (hp : ((pcM : Int) + o).toNat = pcY) (hn : pcM + 3 = pcN) (KY : yi < xi → own_G p e below s n0 kc ks Q T (mkF m pcY Ls st)) (KN : xi ≤ yi → own_G p e below s n0 kc ks Q T (mkF m pcN Ls st)) : own_G p e below s n0 kc ks Q T (mkF m pc Ls (.long y :: .long x :: st)) :=
  s_lcmp pcM A S hd0 rfl hm (s_ifgt pcY pcN A S rfl hd ho hp hn (fun q => by have q : y.toInt < x.toInt := (own_lcmp_gt x y).mp (Int32.lt_iff_toInt_lt.mpr q); exact KY (by subst hxi hyi; exact q)) (fun q => by have q : x.toInt ≤ y.toInt := Int.not_lt.mp fun w => Int.not_lt.mpr q (Int32.lt_iff_toInt_lt.mp ((own_lcmp_gt x y).mpr w)); exact KN (by subst hxi hyi; exact q)))
theorem s_ile (pcY pcN : Nat) {o : Int} {x y : Int32} {xi yi : Int} (A : own_A p l e R s m args below meth c Z own name bytes maxL ret) (S : own_S p l e R s m args below meth c n0 T h k n) (hxi : x.toInt = xi) (hyi : y.toInt = yi) (hd : decode bytes pc = .ok (.if_icmp .le o, 3)) (ho : 0 ≤ (pc : Int) + o) (hp : ((pc : Int) + o).toNat = pcY) (hn : pc + 3 = pcN) (KY : xi ≤ yi → own_G p e below s n0 kc ks Q T (mkF m pcY Ls st)) (KN : yi < xi → own_G p e below s n0 kc ks Q T (mkF m pcN Ls st)) : own_G p e below s n0 kc ks Q T (mkF m pc Ls (.int y :: .int x :: st)) :=
  s_icmp pcY pcN A S hd ho hp hn (fun q => by have q := own_leY q; exact KY (by subst hxi hyi; exact q)) (fun q => by have q := own_leN q; exact KN (by subst hxi hyi; exact q))
theorem s_ifle (pcY pcN : Nat) {o : Int} {x : Int32} {xi : Int} (A : own_A p l e R s m args below meth c Z own name bytes maxL ret) (S : own_S p l e R s m args below meth c n0 T h k n) (hxi : x.toInt = xi) (hd : decode bytes pc = .ok (.ifCond .le o, 3)) (ho : 0 ≤ (pc : Int) + o) (hp : ((pc : Int) + o).toNat = pcY) (hn : pc + 3 = pcN) (KY : xi ≤ 0 → own_G p e below s n0 kc ks Q T (mkF m pcY Ls st)) (KN : 0 < xi → own_G p e below s n0 kc ks Q T (mkF m pcN Ls st)) : own_G p e below s n0 kc ks Q T (mkF m pc Ls (.int x :: st)) :=
  s_ifc pcY pcN A S hd ho hp hn (fun q => by have q := own_leY (y := 0) ((if0 _ _).symm.trans q); exact KY (by subst hxi; exact q)) (fun q => by have q := own_leN (y := 0) ((if0 _ _).symm.trans q); exact KN (by subst hxi; exact q))
theorem s_lifle (pcY pcN pcM : Nat) {o : Int} {x y : Int64} {xi yi : Int} (A : own_A p l e R s m args below meth c Z own name bytes maxL ret) (S : own_S p l e R s m args below meth c n0 T h k n) (hxi : x.toInt = xi) (hyi : y.toInt = yi) (hd0 : decode bytes pc = .ok (.lcmp, 1)) (hm : pc + 1 = pcM) (hd : decode bytes pcM = .ok (.ifCond .le o, 3)) (ho : 0 ≤ (pcM : Int) + o) (hp : ((pcM : Int) + o).toNat = pcY) (hn : pcM + 3 = pcN) (KY : xi ≤ yi → own_G p e below s n0 kc ks Q T (mkF m pcY Ls st)) (KN : yi < xi → own_G p e below s n0 kc ks Q T (mkF m pcN Ls st)) : own_G p e below s n0 kc ks Q T (mkF m pc Ls (.long y :: .long x :: st)) :=
  s_lcmp pcM A S hd0 rfl hm (s_ifle pcY pcN A S rfl hd ho hp hn (fun q => by have q : x.toInt ≤ y.toInt := Int.not_lt.mp fun w => Int.not_lt.mpr q (Int32.lt_iff_toInt_lt.mp ((own_lcmp_gt x y).mpr w)); exact KY (by subst hxi hyi; exact q)) (fun q => by have q : y.toInt < x.toInt := (own_lcmp_gt x y).mp (Int32.lt_iff_toInt_lt.mpr q); exact KN (by subst hxi hyi; exact q)))
theorem s_aeq (pcY pcN : Nat) {o : Int} {v w : Value} (A : own_A p l e R s m args below meth c Z own name bytes maxL ret) (S : own_S p l e R s m args below meth c n0 T h k n) (hv : v.isRef = true) (hw' : w.isRef = true) (hd : decode bytes pc = .ok (.if_acmp .eq o, 3)) (ho : 0 ≤ (pc : Int) + o) (hp : ((pc : Int) + o).toNat = pcY) (hn : pc + 3 = pcN) (KY : v = w → own_G p e below s n0 kc ks Q T (mkF m pcY Ls st)) (KN : ¬ v = w → own_G p e below s n0 kc ks Q T (mkF m pcN Ls st)) : own_G p e below s n0 kc ks Q T (mkF m pc Ls (w :: v :: st)) := by
  obtain ⟨_, X, -, -⟩ := S
  subst hn
  by_cases q : v = w
  · exact own_st (T' := T) (g' := mkF m pcY Ls st) (fun t ht => RoadKit.acmp X A.1 rfl hv hw' (pc0 := pc) (same := true) rfl (hb A.2.1 hd) rfl (decide_eq_true q) ho hp.symm ht) (KY q)
  · exact own_st (T' := T) (g' := mkF m _ Ls st) (fun t ht => RoadKit.acmp X A.1 rfl hv hw' (pc0 := pc) (same := false) rfl (hb A.2.1 hd) rfl (decide_eq_false q) ho rfl ht) (KN q)
theorem s_ane (pcY pcN : Nat) {o : Int} {v w : Value} (A : own_A p l e R s m args below meth c Z own name bytes maxL ret) (S : own_S p l e R s m args below meth c n0 T h k n) (hv : v.isRef = true) (hw' : w.isRef = true) (hd : decode bytes pc = .ok (.if_acmp .ne o, 3)) (ho : 0 ≤ (pc : Int) + o) (hp : ((pc : Int) + o).toNat = pcY) (hn : pc + 3 = pcN) (KY : ¬ v = w → own_G p e below s n0 kc ks Q T (mkF m pcY Ls st)) (KN : v = w → own_G p e below s n0 kc ks Q T (mkF m pcN Ls st)) : own_G p e below s n0 kc ks Q T (mkF m pc Ls (w :: v :: st)) := by
  obtain ⟨_, X, -, -⟩ := S
  subst hn
  by_cases q : v = w
  · exact own_st (T' := T) (g' := mkF m _ Ls st) (fun t ht => RoadKit.acmp X A.1 rfl hv hw' (pc0 := pc) (same := true) rfl (hb A.2.1 hd) rfl (decide_eq_true q) ho rfl ht) (KN q)
  · exact own_st (T' := T) (g' := mkF m pcY Ls st) (fun t ht => RoadKit.acmp X A.1 rfl hv hw' (pc0 := pc) (same := false) rfl (hb A.2.1 hd) rfl (decide_eq_false q) ho hp.symm ht) (KY q)
theorem own_leave {v : Option Value} (A : own_A p l e R s m args below meth c Z own name bytes maxL ret) (S : own_S p l e R s m args below meth c n0 T h k n) (hv : meth.sig.returnType = none → v = none) (hk : k ≤ kc) (hn : n ≤ ks) (hq : Q v h)
    (go : ∀ (locs : List Loc) (X : Stand p l e R s m args below meth c T locs k n) (fs : List Frame), (∀ (f : JFrame) (acts : List Action), f.method = m → f.locked = none → f.entered = [] → (doReturn e (T.setTop f) acts v).1 = T.setFrames fs) → Steps p.tables e below (T.setTop g) (T.setFrames fs)) : own_G p e below s n0 kc ks Q T g := by
  obtain ⟨locs, X, hh, N⟩ := S
  obtain ⟨-, -, -, -, -, -, hlk, -⟩ := A
  obtain ⟨fs, hr, hrun, hended, hW, hsame⟩ := X.leave (v := v) hv hlk
  exact ⟨_, _, go locs X fs hr, hrun, hended, v, locs, rfl, ⟨by show Q v T.heap; rw [hh]; exact hq, N⟩, ⟨v, rfl⟩, hW, hsame.mono hk hn⟩
theorem s_ret (A : own_A p l e R s m args below meth c Z own name bytes maxL none) (S : own_S p l e R s m args below meth c n0 T h k n) (hd : decode bytes pc = .ok (.return_, 1)) (hk : k ≤ kc) (hn : n ≤ ks) (hq : Q none h) : own_G p e below s n0 kc ks Q T (mkF m pc Ls []) :=
  own_leave A S (fun _ => rfl) hk hn hq fun locs X fs hr => X.returnOut A.1 A.2.2.2.2.2.1 (hb A.2.1 hd) hr
theorem s_retV {w : Value} {t : FieldType} {i : Instr} (A : own_A p l e R s m args below meth c Z own name bytes maxL (some t)) (S : own_S p l e R s m args below meth c n0 T h k n) (hd : decode bytes pc = .ok (i, 1)) (hn' : narrow t w = w) (hi : (i = .ireturn ∧ (t = .int ∨ t = .boolean ∨ t = .byte ∨ t = .char ∨ t = .short) ∧ ∃ z, w = .int z) ∨ (i = .lreturn ∧ t = .long ∧ ∃ z, w = .long z) ∨ (i = .dreturn ∧ t = .double ∧ ∃ z, w = .double z) ∨ (i = .freturn ∧ t = .float ∧ ∃ z, w = .float z) ∨ (i = .areturn ∧ t.isReference = true ∧ w.isRef = true)) (hk : k ≤ kc) (hn : n ≤ ks) (hq : Q (some w) h) : own_G p e below s n0 kc ks Q T (mkF m pc Ls (w :: st)) :=
  own_leave A S (fun q => by rw [A.2.2.2.2.2.1] at q; cases q) hk hn hq fun locs X fs hr => retOut X A.1 A.2.2.2.2.2.1 hn' hi (hb A.2.1 hd) hr
theorem s_retI {z : Int32} (A : own_A p l e R s m args below meth c Z own name bytes maxL (some .int)) (S : own_S p l e R s m args below meth c n0 T h k n) (hd : decode bytes pc = .ok (.ireturn, 1)) (hk : k ≤ kc) (hn : n ≤ ks) (hq : Q (some (.int z)) h) : own_G p e below s n0 kc ks Q T (mkF m pc Ls (.int z :: st)) :=
  s_retV A S hd rfl (Or.inl ⟨rfl, Or.inl rfl, z, rfl⟩) hk hn hq
theorem s_retZ {z : Int32} (A : own_A p l e R s m args below meth c Z own name bytes maxL (some .boolean)) (S : own_S p l e R s m args below meth c n0 T h k n) (hd : decode bytes pc = .ok (.ireturn, 1)) (hz : narrow .boolean (.int z) = .int z) (hk : k ≤ kc) (hn : n ≤ ks) (hq : Q (some (.int z)) h) : own_G p e below s n0 kc ks Q T (mkF m pc Ls (.int z :: st)) :=
  s_retV A S hd hz (Or.inl ⟨rfl, Or.inr (Or.inl rfl), z, rfl⟩) hk hn hq
theorem s_retJ {z : Int64} (A : own_A p l e R s m args below meth c Z own name bytes maxL (some .long)) (S : own_S p l e R s m args below meth c n0 T h k n) (hd : decode bytes pc = .ok (.lreturn, 1)) (hk : k ≤ kc) (hn : n ≤ ks) (hq : Q (some (.long z)) h) : own_G p e below s n0 kc ks Q T (mkF m pc Ls (.long z :: st)) :=
  s_retV A S hd rfl (Or.inr (Or.inl ⟨rfl, rfl, z, rfl⟩)) hk hn hq
theorem s_retA {w : Value} {t : FieldType} (A : own_A p l e R s m args below meth c Z own name bytes maxL (some t)) (S : own_S p l e R s m args below meth c n0 T h k n) (hd : decode bytes pc = .ok (.areturn, 1)) (ht : t.isReference = true) (hn' : narrow t w = w) (hw' : w.isRef = true) (hk : k ≤ kc) (hn : n ≤ ks) (hq : Q (some w) h) : own_G p e below s n0 kc ks Q T (mkF m pc Ls (w :: st)) :=
  s_retV A S hd hn' (Or.inr (Or.inr (Or.inr (Or.inr ⟨rfl, ht, hw'⟩)))) hk hn hq
theorem s_callS (pc' : Nat) {y : MethodName} {index : Nat} {bytes' : ByteArray} {maxL' : Nat} {ret' : Option FieldType} {rm : Room} {argsL rest stk : List Value} {Q' : Option Value → Heap → Prop}
    (A : own_A p l e R s m args below meth c Z own name bytes maxL ret) (S : own_S p l e R s m args below meth c n0 T h k n)
    (w1 : (Jvm.Cond.methodLink own index y).before a0 Z = true) (w2 : (Jvm.Cond.static y).before a0 Z = true) (w3 : (Jvm.Cond.initialized y.cls).before a0 Z = true) (w4 : (Jvm.Cond.code y bytes' maxL' ret').before a0 Z = true)
    (C : own_C l Z y bytes' maxL' ret' rm n0 [] argsL.toArray h Q') (hlen : ∀ sig, parseMethodDescriptor y.desc = some sig → argsL.length = sig.parameters.length)
    (hd : decode bytes pc = .ok (.invokestatic index, 3)) (hst : stk = argsL.reverse ++ rest) (hp : pc + 3 = pc') (hsize : Ls.size = maxL) (hy : y.cls ≠ "java/lang/invoke/MethodHandle" ∧ y.cls ≠ "java/lang/invoke/VarHandle")
    (hf : rm.frames + 1 ≤ R.frames) (hl : (rest.map fun v => v.category).sum + (maxL' + 11) + rm.locals ≤ R.locals) (hc : k + rm.cells ≤ R.cells) (hs : n + rm.slots ≤ R.slots)
    (K : ∀ (T' : State) (h' : Heap) (v : Option Value), Q' v h' → own_S p l e R s m args below meth c n0 T' h' (k + rm.cells) (n + rm.slots) → own_G p e below s n0 kc ks Q T' (mkF m pc' Ls (v.toList ++ rest))) : own_G p e below s n0 kc ks Q T (mkF m pc Ls stk) := by
  obtain ⟨locs, X, eT, N⟩ := S
  obtain ⟨hx, hby, hml, hown, -, -, -, hZ⟩ := A
  subst hp
  obtain ⟨v, _, ⟨T1, L1, k1, n1⟩, -, X1, ⟨Lc, hQ1, l1, y1, z1⟩, st1⟩ := Jvm.LawKit.callS X hx (y := y) hown (mvT hZ w1) (mvT hZ w2) (mvT hZ w3) (mvT hZ w4) hy (backOf (W := (rest.map fun v => v.category).sum) (Q := fun v h L => Q' v h ∧ Fr n0 L) C hZ w4 w3 hf hl) (g := mkF m pc Ls stk) rfl (by rw [hml]; exact hsize) (argsL := argsL) (rest := rest) hlen hst (by show 2 * 0 + _ ≤ _; omega) (hb hby hd) (fun _ _ => ⟨rfl, eT, hc, hs⟩)
  dsimp only [Pt.U, Pt.locs, Pt.cells, Pt.slots] at X1 l1 y1 z1 st1 hQ1
  subst l1 y1 z1
  exact own_st (T' := T1) (g' := mkF m _ Ls (v.toList ++ rest)) st1 (K T1 T1.heap v hQ1.1 ⟨_, X1, rfl, Fr.app N hQ1.2⟩)
theorem s_callV (pc' : Nat) {y : MethodName} {index : Nat} {bytes' : ByteArray} {maxL' : Nat} {ret' : Option FieldType} {rm : Room} {argsL rest stk : List Value} {w : Value}
    (A : own_A p l e R s m args below meth c Z own name bytes maxL ret) (S : own_S p l e R s m args below meth c n0 T h k n)
    (w1 : (Jvm.Cond.methodLink own index y).before a0 Z = true) (w2 : (Jvm.Cond.static y).before a0 Z = true) (w3 : (Jvm.Cond.initialized y.cls).before a0 Z = true) (w4 : (Jvm.Cond.code y bytes' maxL' ret').before a0 Z = true)
    (C : own_C l Z y bytes' maxL' ret' rm n0 [] argsL.toArray h (fun v h' => v = some w ∧ h' = h)) (hlen : ∀ sig, parseMethodDescriptor y.desc = some sig → argsL.length = sig.parameters.length)
    (hd : decode bytes pc = .ok (.invokestatic index, 3)) (hst : stk = argsL.reverse ++ rest) (hp : pc + 3 = pc') (hsize : Ls.size = maxL) (hy : y.cls ≠ "java/lang/invoke/MethodHandle" ∧ y.cls ≠ "java/lang/invoke/VarHandle")
    (hf : rm.frames + 1 ≤ R.frames) (hl : (rest.map fun v => v.category).sum + (maxL' + 11) + rm.locals ≤ R.locals) (hc : k + rm.cells ≤ R.cells) (hs : n + rm.slots ≤ R.slots)
    (K : ∀ (T' : State), own_S p l e R s m args below meth c n0 T' h (k + rm.cells) (n + rm.slots) → own_G p e below s n0 kc ks Q T' (mkF m pc' Ls (w :: rest))) : own_G p e below s n0 kc ks Q T (mkF m pc Ls stk) :=
  s_callS pc' A S w1 w2 w3 w4 C hlen hd hst hp hsize hy hf hl hc hs (fun T' h' v q S' => by obtain ⟨rfl, rfl⟩ := q; exact K T' S')
theorem s_callN (pc' : Nat) {y : MethodName} {index : Nat} {bytes' : ByteArray} {maxL' : Nat} {ret' : Option FieldType} {rm : Room} {argsL rest stk : List Value}
    (A : own_A p l e R s m args below meth c Z own name bytes maxL ret) (S : own_S p l e R s m args below meth c n0 T h k n)
    (w1 : (Jvm.Cond.methodLink own index y).before a0 Z = true) (w2 : (Jvm.Cond.static y).before a0 Z = true) (w3 : (Jvm.Cond.initialized y.cls).before a0 Z = true) (w4 : (Jvm.Cond.code y bytes' maxL' ret').before a0 Z = true)
    (C : own_C l Z y bytes' maxL' ret' rm n0 [] argsL.toArray h (fun v h' => v = none ∧ h' = h)) (hlen : ∀ sig, parseMethodDescriptor y.desc = some sig → argsL.length = sig.parameters.length)
    (hd : decode bytes pc = .ok (.invokestatic index, 3)) (hst : stk = argsL.reverse ++ rest) (hp : pc + 3 = pc') (hsize : Ls.size = maxL) (hy : y.cls ≠ "java/lang/invoke/MethodHandle" ∧ y.cls ≠ "java/lang/invoke/VarHandle")
    (hf : rm.frames + 1 ≤ R.frames) (hl : (rest.map fun v => v.category).sum + (maxL' + 11) + rm.locals ≤ R.locals) (hc : k + rm.cells ≤ R.cells) (hs : n + rm.slots ≤ R.slots)
    (K : ∀ (T' : State), own_S p l e R s m args below meth c n0 T' h (k + rm.cells) (n + rm.slots) → own_G p e below s n0 kc ks Q T' (mkF m pc' Ls rest)) : own_G p e below s n0 kc ks Q T (mkF m pc Ls stk) :=
  s_callS pc' A S w1 w2 w3 w4 C hlen hd hst hp hsize hy hf hl hc hs (fun T' h' v q S' => by obtain ⟨rfl, rfl⟩ := q; exact K T' S')
theorem s_virt (pc' : Nat) {y z : MethodName} {CC : String} {index : Nat} {bytes' : ByteArray} {maxL' : Nat} {ret' : Option FieldType} {rm : Room} {argsL rest stk : List Value} {b : Addr} {Q' : Option Value → Heap → Prop}
    (A : own_A p l e R s m args below meth c Z own name bytes maxL ret) (S : own_S p l e R s m args below meth c n0 T h k n) (E : Exa Z h b CC)
    (w1 : (Jvm.Cond.methodLink own index y).before a0 Z = true) (w2 : (Jvm.Cond.declares y).before a0 Z = true) (nf : NotFace s y) (w5 : (Jvm.Cond.selects CC y z).before a0 Z = true) (w6 : (Jvm.Cond.instanceMethod z).before a0 Z = true) (w3 : (Jvm.Cond.initialized z.cls).before a0 Z = true) (w4 : (Jvm.Cond.code z bytes' maxL' ret').before a0 Z = true)
    (C : own_C l Z z bytes' maxL' ret' rm n0 [] (Value.ref b :: argsL).toArray h Q') (hlen : ∀ sig, parseMethodDescriptor y.desc = some sig → argsL.length = sig.parameters.length)
    (hd : decode bytes pc = .ok (.invokevirtual index, 3)) (hst : stk = argsL.reverse ++ Value.ref b :: rest) (hp : pc + 3 = pc') (hsize : Ls.size = maxL) (hy : y.cls ≠ "java/lang/invoke/MethodHandle" ∧ y.cls ≠ "java/lang/invoke/VarHandle")
    (hf : rm.frames + 1 ≤ R.frames) (hl : (rest.map fun v => v.category).sum + (maxL' + 11) + rm.locals ≤ R.locals) (hc : k + rm.cells ≤ R.cells) (hs : n + rm.slots ≤ R.slots)
    (K : ∀ (T' : State) (h' : Heap) (v : Option Value), Q' v h' → own_S p l e R s m args below meth c n0 T' h' (k + rm.cells) (n + rm.slots) → own_G p e below s n0 kc ks Q T' (mkF m pc' Ls (v.toList ++ rest))) : own_G p e below s n0 kc ks Q T (mkF m pc Ls stk) := by
  obtain ⟨locs, X, eT, N⟩ := S
  obtain ⟨hx, hby, hml, hown, -, -, -, hZ⟩ := A
  subst hp
  obtain ⟨cq, kq, qa, qb, qc⟩ := isOf hZ eT E
  obtain ⟨v, _, ⟨T1, L1, k1, n1⟩, -, X1, ⟨Lc, hQ1, l1, y1, z1⟩, st1⟩ := X.virtualBack hx (y := y) (z := z) hown (mvT hZ w1) (mvT hZ w2) nf (mvT hZ w5) (mvT hZ w6) hy (backOf (W := (rest.map fun v => v.category).sum) (Q := fun v h L => Q' v h ∧ Fr n0 L) C hZ w4 w3 hf hl) qa qc (g := mkF m pc Ls stk) rfl (by rw [hml]; exact hsize) (Steps.refl _) (argsL := argsL) (rest := rest) hlen hst (by show 2 * 0 + _ ≤ _; omega) (hb hby hd) (fun _ _ => ⟨rfl, eT, hc, hs⟩)
  dsimp only [Pt.U, Pt.locs, Pt.cells, Pt.slots] at X1 l1 y1 z1 st1 hQ1
  subst l1 y1 z1
  exact own_st (T' := T1) (g' := mkF m _ Ls (v.toList ++ rest)) (fun t => st1.trans) (K T1 T1.heap v hQ1.1 ⟨_, X1, rfl, Fr.app N hQ1.2⟩)
theorem s_virtV (pc' : Nat) {y z : MethodName} {CC : String} {index : Nat} {bytes' : ByteArray} {maxL' : Nat} {ret' : Option FieldType} {rm : Room} {argsL rest stk : List Value} {b : Addr} {w : Value}
    (A : own_A p l e R s m args below meth c Z own name bytes maxL ret) (S : own_S p l e R s m args below meth c n0 T h k n) (E : Exa Z h b CC)
    (w1 : (Jvm.Cond.methodLink own index y).before a0 Z = true) (w2 : (Jvm.Cond.declares y).before a0 Z = true) (nf : NotFace s y) (w5 : (Jvm.Cond.selects CC y z).before a0 Z = true) (w6 : (Jvm.Cond.instanceMethod z).before a0 Z = true) (w3 : (Jvm.Cond.initialized z.cls).before a0 Z = true) (w4 : (Jvm.Cond.code z bytes' maxL' ret').before a0 Z = true)
    (C : own_C l Z z bytes' maxL' ret' rm n0 [] (Value.ref b :: argsL).toArray h (fun v h' => v = some w ∧ h' = h)) (hlen : ∀ sig, parseMethodDescriptor y.desc = some sig → argsL.length = sig.parameters.length)
    (hd : decode bytes pc = .ok (.invokevirtual index, 3)) (hst : stk = argsL.reverse ++ Value.ref b :: rest) (hp : pc + 3 = pc') (hsize : Ls.size = maxL) (hy : y.cls ≠ "java/lang/invoke/MethodHandle" ∧ y.cls ≠ "java/lang/invoke/VarHandle")
    (hf : rm.frames + 1 ≤ R.frames) (hl : (rest.map fun v => v.category).sum + (maxL' + 11) + rm.locals ≤ R.locals) (hc : k + rm.cells ≤ R.cells) (hs : n + rm.slots ≤ R.slots)
    (K : ∀ (T' : State), own_S p l e R s m args below meth c n0 T' h (k + rm.cells) (n + rm.slots) → own_G p e below s n0 kc ks Q T' (mkF m pc' Ls (w :: rest))) : own_G p e below s n0 kc ks Q T (mkF m pc Ls stk) :=
  s_virt pc' A S E w1 w2 nf w5 w6 w3 w4 C hlen hd hst hp hsize hy hf hl hc hs (fun T' h' v q S' => by obtain ⟨rfl, rfl⟩ := q; exact K T' S')
theorem s_virtN (pc' : Nat) {y z : MethodName} {CC : String} {index : Nat} {bytes' : ByteArray} {maxL' : Nat} {ret' : Option FieldType} {rm : Room} {argsL rest stk : List Value} {b : Addr}
    (A : own_A p l e R s m args below meth c Z own name bytes maxL ret) (S : own_S p l e R s m args below meth c n0 T h k n) (E : Exa Z h b CC)
    (w1 : (Jvm.Cond.methodLink own index y).before a0 Z = true) (w2 : (Jvm.Cond.declares y).before a0 Z = true) (nf : NotFace s y) (w5 : (Jvm.Cond.selects CC y z).before a0 Z = true) (w6 : (Jvm.Cond.instanceMethod z).before a0 Z = true) (w3 : (Jvm.Cond.initialized z.cls).before a0 Z = true) (w4 : (Jvm.Cond.code z bytes' maxL' ret').before a0 Z = true)
    (C : own_C l Z z bytes' maxL' ret' rm n0 [] (Value.ref b :: argsL).toArray h (fun v h' => v = none ∧ h' = h)) (hlen : ∀ sig, parseMethodDescriptor y.desc = some sig → argsL.length = sig.parameters.length)
    (hd : decode bytes pc = .ok (.invokevirtual index, 3)) (hst : stk = argsL.reverse ++ Value.ref b :: rest) (hp : pc + 3 = pc') (hsize : Ls.size = maxL) (hy : y.cls ≠ "java/lang/invoke/MethodHandle" ∧ y.cls ≠ "java/lang/invoke/VarHandle")
    (hf : rm.frames + 1 ≤ R.frames) (hl : (rest.map fun v => v.category).sum + (maxL' + 11) + rm.locals ≤ R.locals) (hc : k + rm.cells ≤ R.cells) (hs : n + rm.slots ≤ R.slots)
    (K : ∀ (T' : State), own_S p l e R s m args below meth c n0 T' h (k + rm.cells) (n + rm.slots) → own_G p e below s n0 kc ks Q T' (mkF m pc' Ls rest)) : own_G p e below s n0 kc ks Q T (mkF m pc Ls stk) :=
  s_virt pc' A S E w1 w2 nf w5 w6 w3 w4 C hlen hd hst hp hsize hy hf hl hc hs (fun T' h' v q S' => by obtain ⟨rfl, rfl⟩ := q; exact K T' S')
theorem s_spec (pc' : Nat) {y : MethodName} {index : Nat} {bytes' : ByteArray} {maxL' : Nat} {rm : Room} {argsL rest stk : List Value} {b : Addr} {Q' : Option Value → Heap → Prop}
    (A : own_A p l e R s m args below meth c Z own name bytes maxL ret) (S : own_S p l e R s m args below meth c n0 T h k n)
    (w1 : (Jvm.Cond.methodLink own index y).before a0 Z = true) (w2 : (Jvm.Cond.instanceMethod y).before a0 Z = true) (w3 : (Jvm.Cond.initialized y.cls).before a0 Z = true) (w4 : (Jvm.Cond.code y bytes' maxL' none).before a0 Z = true)
    (C : own_C l Z y bytes' maxL' none rm n0 [] (Value.ref b :: argsL).toArray h Q') (hlen : ∀ sig, parseMethodDescriptor y.desc = some sig → argsL.length = sig.parameters.length)
    (hd : decode bytes pc = .ok (.invokespecial index, 3)) (hst : stk = argsL.reverse ++ Value.ref b :: rest) (hp : pc + 3 = pc') (hsize : Ls.size = maxL) (hy1 : y.name = "<init>") (hy : y.cls ≠ "java/lang/invoke/MethodHandle" ∧ y.cls ≠ "java/lang/invoke/VarHandle")
    (hf : rm.frames + 1 ≤ R.frames) (hl : (rest.map fun v => v.category).sum + (maxL' + 11) + rm.locals ≤ R.locals) (hc : k + rm.cells ≤ R.cells) (hs : n + rm.slots ≤ R.slots)
    (K : ∀ (T' : State) (h' : Heap) (v : Option Value), Q' v h' → own_S p l e R s m args below meth c n0 T' h' (k + rm.cells) (n + rm.slots) → own_G p e below s n0 kc ks Q T' (mkF m pc' Ls (v.toList ++ rest))) : own_G p e below s n0 kc ks Q T (mkF m pc Ls stk) := by
  obtain ⟨locs, X, eT, N⟩ := S
  obtain ⟨hx, hby, hml, hown, -, -, -, hZ⟩ := A
  subst hp
  obtain ⟨v, _, ⟨T1, L1, k1, n1⟩, -, X1, ⟨Lc, hQ1, l1, y1, z1⟩, st1⟩ := X.specialBack hx (y := y) hy1 hown (mvT hZ w1) (mvT hZ w2) (mvT hZ w4) hy (backOf (W := (rest.map fun v => v.category).sum) (Q := fun v h L => Q' v h ∧ Fr n0 L) C hZ w4 w3 hf hl) (g := mkF m pc Ls stk) rfl (by rw [hml]; exact hsize) (Steps.refl _) (a := b) (argsL := argsL) (rest := rest) hlen hst (by show 2 * 0 + _ ≤ _; omega) (hb hby hd) (fun _ _ => ⟨rfl, eT, hc, hs⟩)
  dsimp only [Pt.U, Pt.locs, Pt.cells, Pt.slots] at X1 l1 y1 z1 st1 hQ1
  subst l1 y1 z1
  exact own_st (T' := T1) (g' := mkF m _ Ls (v.toList ++ rest)) (fun t => st1.trans) (K T1 T1.heap v hQ1.1 ⟨_, X1, rfl, Fr.app N hQ1.2⟩)
theorem s_specN (pc' : Nat) {y : MethodName} {index : Nat} {bytes' : ByteArray} {maxL' : Nat} {rm : Room} {argsL rest stk : List Value} {b : Addr}
    (A : own_A p l e R s m args below meth c Z own name bytes maxL ret) (S : own_S p l e R s m args below meth c n0 T h k n)
    (w1 : (Jvm.Cond.methodLink own index y).before a0 Z = true) (w2 : (Jvm.Cond.instanceMethod y).before a0 Z = true) (w3 : (Jvm.Cond.initialized y.cls).before a0 Z = true) (w4 : (Jvm.Cond.code y bytes' maxL' none).before a0 Z = true)
    (C : own_C l Z y bytes' maxL' none rm n0 [] (Value.ref b :: argsL).toArray h (fun v h' => v = none ∧ h' = h)) (hlen : ∀ sig, parseMethodDescriptor y.desc = some sig → argsL.length = sig.parameters.length)
    (hd : decode bytes pc = .ok (.invokespecial index, 3)) (hst : stk = argsL.reverse ++ Value.ref b :: rest) (hp : pc + 3 = pc') (hsize : Ls.size = maxL) (hy1 : y.name = "<init>") (hy : y.cls ≠ "java/lang/invoke/MethodHandle" ∧ y.cls ≠ "java/lang/invoke/VarHandle")
    (hf : rm.frames + 1 ≤ R.frames) (hl : (rest.map fun v => v.category).sum + (maxL' + 11) + rm.locals ≤ R.locals) (hc : k + rm.cells ≤ R.cells) (hs : n + rm.slots ≤ R.slots)
    (K : ∀ (T' : State), own_S p l e R s m args below meth c n0 T' h (k + rm.cells) (n + rm.slots) → own_G p e below s n0 kc ks Q T' (mkF m pc' Ls rest)) : own_G p e below s n0 kc ks Q T (mkF m pc Ls stk) :=
  s_spec pc' A S w1 w2 w3 w4 C hlen hd hst hp hsize hy1 hy hf hl hc hs (fun T' h' v q S' => by obtain ⟨rfl, rfl⟩ := q; exact K T' S')
theorem s_getS (pc' : Nat) {O nm dd : String} {index : Nat} {v : Value} (A : own_A p l e R s m args below meth c Z own name bytes maxL ret) (S : own_S p l e R s m args below meth c n0 T h k n)
    (w : (Jvm.Cond.fieldLink own index O nm dd).before a0 Z = true) (F : Sta Z h O nm dd v) (hd : decode bytes pc = .ok (.getstatic index, 3)) (hp : pc + 3 = pc')
    (K : ∀ T', own_S p l e R s m args below meth c n0 T' h k n → own_G p e below s n0 kc ks Q T' (mkF m pc' Ls (v :: st))) : own_G p e below s n0 kc ks Q T (mkF m pc Ls st) := by
  obtain ⟨locs, X, eT, N⟩ := S
  obtain ⟨hx, hby, hml, hown, -, -, -, hZ⟩ := A
  subst hp
  obtain ⟨T1, X1, e1, st1⟩ := getS (host := "") X hx hZ hown w Via.refl eT F (g := mkF m pc Ls st) rfl (hb hby hd)
  exact own_st (T' := T1) (g' := mkF m _ Ls (v :: st)) st1 (K T1 ⟨_, X1, e1, N⟩)
theorem s_getF (pc' : Nat) {O nm dd : String} {index : Nat} {v : Value} {a : Addr} (A : own_A p l e R s m args below meth c Z own name bytes maxL ret) (S : own_S p l e R s m args below meth c n0 T h k n)
    (w : (Jvm.Cond.fieldLink own index O nm dd).before a0 Z = true) (F : Fld Z h a O nm dd v) (hd : decode bytes pc = .ok (.getfield index, 3)) (hp : pc + 3 = pc')
    (K : ∀ T', own_S p l e R s m args below meth c n0 T' h k n → own_G p e below s n0 kc ks Q T' (mkF m pc' Ls (v :: st))) : own_G p e below s n0 kc ks Q T (mkF m pc Ls (.ref a :: st)) := by
  obtain ⟨locs, X, eT, N⟩ := S
  obtain ⟨hx, hby, hml, hown, -, -, -, hZ⟩ := A
  subst hp
  obtain ⟨T1, X1, e1, st1⟩ := getF X hx hZ hown (host := "") (Or.inl w) Via.refl eT F (g := mkF m pc Ls (.ref a :: st)) rfl rfl (hb hby hd)
  exact own_st (T' := T1) (g' := mkF m _ Ls (v :: st)) st1 (K T1 ⟨_, X1, e1, N⟩)
theorem s_putF (pc' : Nat) {O nm dd CC : String} {index kk : Nat} {v old : Value} {a : Addr} {ty : FieldType} (A : own_A p l e R s m args below meth c Z own name bytes maxL ret) (S : own_S p l e R s m args below meth c n0 T h k n)
    (w : (Jvm.Cond.fieldLink own index O nm dd).before a0 Z = true) (F : Fld Z h a O nm dd old) (E : Exa Z h a CC) (L : (Jvm.Cond.lays CC O nm dd).before a0 Z = true ∨ ((Jvm.Cond.laysFinal CC O nm dd).before a0 Z = true ∧ own = O ∧ name = "<init>")) (wi : (Jvm.Cond.instantiable CC kk).before a0 Z = true) (hge : n0 ≤ a)
    (hd : decode bytes pc = .ok (.putfield index, 3)) (hty : parseFieldDescriptor dd = some ty) (hn : narrow ty v = v) (hf : fits ty v = true) (hp : pc + 3 = pc')
    (K : ∀ T' h', Wr h h' a (RoadKit.slotOf Z O nm dd) v → own_S p l e R s m args below meth c n0 T' h' k n → own_G p e below s n0 kc ks Q T' (mkF m pc' Ls st)) : own_G p e below s n0 kc ks Q T (mkF m pc Ls (v :: .ref a :: st)) := by
  obtain ⟨locs, X, eT, N⟩ := S
  obtain ⟨hx, hby, hml, hown, hnm, -, -, hZ⟩ := A
  subst hp
  obtain ⟨T1, h1, X1, e1, W1, st1⟩ := putF X hx hZ hown (host := "") (Or.inl w) Via.refl eT F E (L.imp id fun q => ⟨q.1, q.2.1, hnm.trans q.2.2⟩) wi hty hn hf (g := mkF m pc Ls (v :: .ref a :: st)) rfl rfl (hb hby hd)
  exact own_st (T' := T1) (g' := mkF m _ Ls st) st1 (K T1 h1 W1 ⟨_, X1, e1, Fr.snoc X1 N hge⟩)
theorem s_new (pc' : Nat) {CC : String} {index nn : Nat} (A : own_A p l e R s m args below meth c Z own name bytes maxL ret) (S : own_S p l e R s m args below meth c n0 T h k n)
    (w : (Jvm.Cond.classLink own index CC).before a0 Z = true) (wi : (Jvm.Cond.instantiable CC nn).before a0 Z = true) (wz : (Jvm.Cond.initialized CC).before a0 Z = true) (hd : decode bytes pc = .ok (.new index, 3)) (hp : pc + 3 = pc') (hc : k + 1 ≤ R.cells) (hl : n + nn ≤ R.slots)
    (K : ∀ T' h' (a : Addr), a = h.size → Ext h h' → Exa Z h' a CC → (∀ {O nm dd : String} {ty : FieldType}, Laid Z a0 CC O nm dd → parseFieldDescriptor dd = some ty → Fld Z h' a O nm dd (defaultValue ty)) → own_S p l e R s m args below meth c n0 T' h' (k + 1) (n + nn) → own_G p e below s n0 kc ks Q T' (mkF m pc' Ls (.ref a :: st))) : own_G p e below s n0 kc ks Q T (mkF m pc Ls st) := by
  obtain ⟨locs, X, eT, N⟩ := S
  obtain ⟨hx, hby, hml, hown, -, -, -, hZ⟩ := A
  subst hp
  obtain ⟨T1, h1, X1, e1, E1, A1, D1, -, st1⟩ := newO X hx hZ hown w wi wz eT (g := mkF m pc Ls st) rfl (hb hby hd) hc hl
  exact own_st (T' := T1) (g' := mkF m _ Ls (.ref h.size :: st)) st1 (K T1 h1 h.size rfl E1 A1 D1 ⟨_, X1, e1, N⟩)
theorem s_initO (pc' : Nat) {idx : Nat} {a : Addr} (A : own_A p l e R s m args below meth c Z own name bytes maxL ret) (S : own_S p l e R s m args below meth c n0 T h k n)
    (w1 : (Jvm.Cond.methodLink own idx Lib.objectInit).before a0 Z = true) (w2 : (Jvm.Cond.instanceMethod Lib.objectInit).before a0 Z = true) (w3 : (Jvm.Cond.code Lib.objectInit ⟨#[0xb1]⟩ 1 none).before a0 Z = true) (hd : decode bytes pc = .ok (.invokespecial idx, 3)) (hp : pc + 3 = pc') (hsize : Ls.size = maxL) (hf : 1 ≤ R.frames) (hl : (st.map fun v => v.category).sum + 12 ≤ R.locals)
    (K : ∀ T', own_S p l e R s m args below meth c n0 T' h k n → own_G p e below s n0 kc ks Q T' (mkF m pc' Ls st)) : own_G p e below s n0 kc ks Q T (mkF m pc Ls (.ref a :: st)) := by
  obtain ⟨locs, X, eT, N⟩ := S
  obtain ⟨hx, hby, hml, hown, -, -, -, hZ⟩ := A
  subst hp
  obtain ⟨T1, X1, e1, st1⟩ := initO X hx hZ hown w1 w2 w3 eT (g := mkF m pc Ls (.ref a :: st)) rfl (by rw [hml]; exact hsize) rfl (hb hby hd) hf (W := (st.map fun v => v.category).sum) (by show 2 * 0 + _ ≤ _; omega) hl
  exact own_st (T' := T1) (g' := mkF m _ Ls st) st1 (K T1 ⟨_, X1, e1, N⟩)
theorem s_newP (pc' : Nat) {aty : ArrayType} {z : Int32} {cap : Nat} (A : own_A p l e R s m args below meth c Z own name bytes maxL ret) (S : own_S p l e R s m args below meth c n0 T h k n)
    (w : (Jvm.Cond.arrayClass (newarray.typeOf aty)).before a0 Z = true) (hd : decode bytes pc = .ok (.newarray aty, 2)) (hn : ¬ z < 0) (hcap : z.toNatClampNeg ≤ cap) (hbb : cap * 8 ≤ 536870912) (hp : pc + 2 = pc') (hc : k + 1 ≤ R.cells) (hl : n + cap ≤ R.slots)
    (K : ∀ T' h' (cA : ClassId) (a : Addr), a = h.size → Ext h h' → Arv Z h' a cA (newarray.typeOf aty) z [] (defaultValue (newarray.typeOf aty)) → own_S p l e R s m args below meth c n0 T' h' (k + 1) (n + cap) → own_G p e below s n0 kc ks Q T' (mkF m pc' Ls (.ref a :: st))) : own_G p e below s n0 kc ks Q T (mkF m pc Ls (.int z :: st)) := by
  obtain ⟨locs, X, eT, N⟩ := S
  obtain ⟨hx, hby, hml, hown, -, -, -, hZ⟩ := A
  subst hp
  obtain ⟨T1, h1, cA, X1, e1, E1, A1, st1⟩ := newP X hx hZ w eT (g := mkF m pc Ls (.int z :: st)) rfl (hb hby hd) rfl hn (cap := cap) hcap hbb hc hl
  exact own_st (T' := T1) (g' := mkF m _ Ls (.ref h.size :: st)) st1 (K T1 h1 cA h.size rfl E1 (Arv.new A1 hn) ⟨_, X1, e1, N⟩)
theorem s_alen (pc' : Nat) {a : Addr} {cA : ClassId} {ty : FieldType} {z : Int32} {vs : List Value} {dv : Value} (A : own_A p l e R s m args below meth c Z own name bytes maxL ret) (S : own_S p l e R s m args below meth c n0 T h k n)
    (V : Arv Z h a cA ty z vs dv) (hd : decode bytes pc = .ok (.arraylength, 1)) (hp : pc + 1 = pc') (K : own_G p e below s n0 kc ks Q T (mkF m pc' Ls (.int z :: st))) : own_G p e below s n0 kc ks Q T (mkF m pc Ls (.ref a :: st)) := by
  obtain ⟨locs, X, eT, N⟩ := S
  obtain ⟨hx, hby, hml, hown, -, -, -, hZ⟩ := A
  obtain ⟨cl, Ar, -, S1, N1, -, -⟩ := V
  subst hp
  rw [← len_of S1 N1] at K
  exact own_st (T' := T) (g' := mkF m _ Ls (.int cl.slots.size.toInt32 :: st)) (X.arraylength hx (by rw [eT]; exact Ar.1) (State.isArrayOf_alike hZ.alike Ar.2.1) (g := mkF m pc Ls (.ref a :: st)) rfl rfl (hb hby hd)) K
theorem s_instY (pc' : Nat) {KK : String} {index : Nat} {a : Addr} (A : own_A p l e R s m args below meth c Z own name bytes maxL ret) (S : own_S p l e R s m args below meth c n0 T h k n)
    (w : (Jvm.Cond.classLink own index KK).before a0 Z = true) (F : Ins Z h a KK true) (hd : decode bytes pc = .ok (.instanceof index, 3)) (hp : pc + 3 = pc')
    (K : ∀ T', own_S p l e R s m args below meth c n0 T' h k n → own_G p e below s n0 kc ks Q T' (mkF m pc' Ls (.int 1 :: st))) : own_G p e below s n0 kc ks Q T (mkF m pc Ls (.ref a :: st)) := by
  obtain ⟨locs, X, eT, N⟩ := S
  obtain ⟨hx, hby, hml, hown, -, -, -, hZ⟩ := A
  subst hp
  obtain ⟨T1, X1, e1, st1⟩ := instY X hx hZ hown w eT F (g := mkF m pc Ls (.ref a :: st)) rfl rfl (hb hby hd)
  exact own_st (T' := T1) (g' := mkF m _ Ls (.int 1 :: st)) st1 (K T1 ⟨_, X1, e1, N⟩)
theorem s_instNo (pc' : Nat) {KK CC : String} {index : Nat} {a : Addr} (A : own_A p l e R s m args below meth c Z own name bytes maxL ret) (S : own_S p l e R s m args below meth c n0 T h k n)
    (w : (Jvm.Cond.classLink own index KK).before a0 Z = true) (E : Exa Z h a CC) (F : ∃ c t, Z.vm.findClass CC = some c ∧ Z.vm.findClass KK = some t ∧ Z.vm.assignable c t = false) (hd : decode bytes pc = .ok (.instanceof index, 3)) (hp : pc + 3 = pc')
    (K : ∀ T', own_S p l e R s m args below meth c n0 T' h k n → own_G p e below s n0 kc ks Q T' (mkF m pc' Ls (.int 0 :: st))) : own_G p e below s n0 kc ks Q T (mkF m pc Ls (.ref a :: st)) := by
  obtain ⟨locs, X, eT, N⟩ := S
  obtain ⟨hx, hby, hml, hown, -, -, -, hZ⟩ := A
  subst hp
  obtain ⟨T1, X1, e1, st1⟩ := instNo X hx hZ hown w eT E F (g := mkF m pc Ls (.ref a :: st)) rfl rfl (hb hby hd)
  exact own_st (T' := T1) (g' := mkF m _ Ls (.int 0 :: st)) st1 (K T1 ⟨_, X1, e1, N⟩)
theorem s_instNull (pc' : Nat) {index : Nat} (A : own_A p l e R s m args below meth c Z own name bytes maxL ret) (S : own_S p l e R s m args below meth c n0 T h k n)
    (hd : decode bytes pc = .ok (.instanceof index, 3)) (hp : pc + 3 = pc') (K : own_G p e below s n0 kc ks Q T (mkF m pc' Ls (.int 0 :: st))) : own_G p e below s n0 kc ks Q T (mkF m pc Ls (.null :: st)) := by
  obtain ⟨locs, X, eT, N⟩ := S
  obtain ⟨hx, hby, hml, hown, -, -, -, hZ⟩ := A
  subst hp
  exact own_st (T' := T) (g' := mkF m _ Ls (.int 0 :: st)) (X.instanceofNull hx (g := mkF m pc Ls (.null :: st)) rfl rfl (hb hby hd)) K
theorem s_castY (pc' : Nat) {KK : String} {index : Nat} {a : Addr} (A : own_A p l e R s m args below meth c Z own name bytes maxL ret) (S : own_S p l e R s m args below meth c n0 T h k n)
    (w : (Jvm.Cond.classLink own index KK).before a0 Z = true) (F : Ins Z h a KK true) (hd : decode bytes pc = .ok (.checkcast index, 3)) (hp : pc + 3 = pc')
    (K : ∀ T', own_S p l e R s m args below meth c n0 T' h k n → own_G p e below s n0 kc ks Q T' (mkF m pc' Ls (.ref a :: st))) : own_G p e below s n0 kc ks Q T (mkF m pc Ls (.ref a :: st)) := by
  obtain ⟨locs, X, eT, N⟩ := S
  obtain ⟨hx, hby, hml, hown, -, -, -, hZ⟩ := A
  subst hp
  obtain ⟨T1, X1, e1, st1⟩ := castY X hx hZ hown w eT F (g := mkF m pc Ls (.ref a :: st)) rfl rfl (hb hby hd)
  exact own_st (T' := T1) (g' := mkF m _ Ls (.ref a :: st)) st1 (K T1 ⟨_, X1, e1, N⟩)
theorem s_aald (pc' : Nat) {a : Addr} {cl : Cell} {ty : FieldType} {j : Int32} {v : Value} (A : own_A p l e R s m args below meth c Z own name bytes maxL ret) (S : own_S p l e R s m args below meth c n0 T h k n)
    (Ar : Arr Z h a cl ty) (hty : ty.isReference = true) (hin : ¬ (j < 0 ∨ cl.slots.size ≤ j.toNatClampNeg)) (hv : cl.slots[j.toNatClampNeg]? = some v) (hd : decode bytes pc = .ok (.aaload, 1)) (hp : pc + 1 = pc') (K : own_G p e below s n0 kc ks Q T (mkF m pc' Ls (v :: st))) : own_G p e below s n0 kc ks Q T (mkF m pc Ls (.int j :: .ref a :: st)) := by
  obtain ⟨locs, X, eT, N⟩ := S
  obtain ⟨hx, hby, hml, hown, -, -, -, hZ⟩ := A
  subst hp
  exact own_st (T' := T) (g' := mkF m _ Ls (v :: st)) (X.aaload hx (by rw [eT]; exact Ar.1) (State.isArrayOf_alike hZ.alike Ar.2.1) hty Ar.2.2 hin hv (g := mkF m pc Ls (.int j :: .ref a :: st)) rfl rfl (hb hby hd)) K
theorem s_iald (pc' : Nat) {a : Addr} {cA : ClassId} {z j : Int32} {vs : List Value} {v dv : Value} (A : own_A p l e R s m args below meth c Z own name bytes maxL ret) (S : own_S p l e R s m args below meth c n0 T h k n)
    (V : Arv Z h a cA .int z vs dv) (hj : ¬ j < 0 ∧ j < z) (hv : vs.getD j.toNatClampNeg dv = v) (hd : decode bytes pc = .ok (.iaload, 1)) (hp : pc + 1 = pc') (K : own_G p e below s n0 kc ks Q T (mkF m pc' Ls (v :: st))) : own_G p e below s n0 kc ks Q T (mkF m pc Ls (.int j :: .ref a :: st)) := by
  obtain ⟨locs, X, eT, N⟩ := S
  obtain ⟨hx, hby, hml, hown, -, -, -, hZ⟩ := A
  obtain ⟨cl, Ar, -, S1, N1, H1, G1⟩ := V
  subst hp
  exact own_st (T' := T) (g' := mkF m _ Ls (v :: st)) (X.iaload hx (by rw [eT]; exact Ar.1) (State.isArrayOf_alike hZ.alike Ar.2.1) Ar.2.2 (inb_of S1 hj) (H1.at (inb_of S1 hj) hv) (g := mkF m pc Ls (.int j :: .ref a :: st)) rfl rfl (hb hby hd)) K
theorem s_lald (pc' : Nat) {a : Addr} {cA : ClassId} {z j : Int32} {vs : List Value} {v dv : Value} (A : own_A p l e R s m args below meth c Z own name bytes maxL ret) (S : own_S p l e R s m args below meth c n0 T h k n)
    (V : Arv Z h a cA .long z vs dv) (hj : ¬ j < 0 ∧ j < z) (hv : vs.getD j.toNatClampNeg dv = v) (hd : decode bytes pc = .ok (.laload, 1)) (hp : pc + 1 = pc') (K : own_G p e below s n0 kc ks Q T (mkF m pc' Ls (v :: st))) : own_G p e below s n0 kc ks Q T (mkF m pc Ls (.int j :: .ref a :: st)) := by
  obtain ⟨locs, X, eT, N⟩ := S
  obtain ⟨hx, hby, hml, hown, -, -, -, hZ⟩ := A
  obtain ⟨cl, Ar, -, S1, N1, H1, G1⟩ := V
  subst hp
  exact own_st (T' := T) (g' := mkF m _ Ls (v :: st)) (X.laload hx (by rw [eT]; exact Ar.1) (State.isArrayOf_alike hZ.alike Ar.2.1) Ar.2.2 (inb_of S1 hj) (H1.at (inb_of S1 hj) hv) (g := mkF m pc Ls (.int j :: .ref a :: st)) rfl rfl (hb hby hd)) K
theorem s_bald (pc' : Nat) {a : Addr} {cA : ClassId} {z j : Int32} {vs : List Value} {v dv : Value} (A : own_A p l e R s m args below meth c Z own name bytes maxL ret) (S : own_S p l e R s m args below meth c n0 T h k n)
    (V : Arv Z h a cA .byte z vs dv) (hj : ¬ j < 0 ∧ j < z) (hv : vs.getD j.toNatClampNeg dv = v) (hd : decode bytes pc = .ok (.baload, 1)) (hp : pc + 1 = pc') (K : own_G p e below s n0 kc ks Q T (mkF m pc' Ls (v :: st))) : own_G p e below s n0 kc ks Q T (mkF m pc Ls (.int j :: .ref a :: st)) := by
  obtain ⟨locs, X, eT, N⟩ := S
  obtain ⟨hx, hby, hml, hown, -, -, -, hZ⟩ := A
  obtain ⟨cl, Ar, -, S1, N1, H1, G1⟩ := V
  subst hp
  exact own_st (T' := T) (g' := mkF m _ Ls (v :: st)) (X.baloadBytes hx (by rw [eT]; exact Ar.1) (State.isArrayOf_alike hZ.alike Ar.2.1) Ar.2.2 (inb_of S1 hj) (H1.at (inb_of S1 hj) hv) (g := mkF m pc Ls (.int j :: .ref a :: st)) rfl rfl (hb hby hd)) K
theorem s_cald (pc' : Nat) {a : Addr} {cA : ClassId} {z j : Int32} {vs : List Value} {v dv : Value} (A : own_A p l e R s m args below meth c Z own name bytes maxL ret) (S : own_S p l e R s m args below meth c n0 T h k n)
    (V : Arv Z h a cA .char z vs dv) (hj : ¬ j < 0 ∧ j < z) (hv : vs.getD j.toNatClampNeg dv = v) (hd : decode bytes pc = .ok (.caload, 1)) (hp : pc + 1 = pc') (K : own_G p e below s n0 kc ks Q T (mkF m pc' Ls (v :: st))) : own_G p e below s n0 kc ks Q T (mkF m pc Ls (.int j :: .ref a :: st)) := by
  obtain ⟨locs, X, eT, N⟩ := S
  obtain ⟨hx, hby, hml, hown, -, -, -, hZ⟩ := A
  obtain ⟨cl, Ar, -, S1, N1, H1, G1⟩ := V
  subst hp
  exact own_st (T' := T) (g' := mkF m _ Ls (v :: st)) (X.caload hx (by rw [eT]; exact Ar.1) (State.isArrayOf_alike hZ.alike Ar.2.1) Ar.2.2 (inb_of S1 hj) (H1.at (inb_of S1 hj) hv) (g := mkF m pc Ls (.int j :: .ref a :: st)) rfl rfl (hb hby hd)) K
theorem s_iast (pc' : Nat) {a : Addr} {cA : ClassId} {z j : Int32} {x : Int32} {vs : List Value} {dv : Value} (A : own_A p l e R s m args below meth c Z own name bytes maxL ret) (S : own_S p l e R s m args below meth c n0 T h k n)
    (V : Arv Z h a cA .int z vs dv) (hj : ¬ j < 0 ∧ j < z) (i : Nat) (hi : j.toNatClampNeg = i) (hi' : i < vs.length) (hge : n0 ≤ a) (hd : decode bytes pc = .ok (.iastore, 1)) (hp : pc + 1 = pc')
    (K : ∀ T' h', Wr h h' a i (.int x) → Arv Z h' a cA .int z (vs.set i (.int x)) dv → own_S p l e R s m args below meth c n0 T' h' k n → own_G p e below s n0 kc ks Q T' (mkF m pc' Ls st)) : own_G p e below s n0 kc ks Q T (mkF m pc Ls (.int x :: .int j :: .ref a :: st)) := by
  obtain ⟨locs, X, eT, N⟩ := S
  obtain ⟨hx, hby, hml, hown, -, -, -, hZ⟩ := A
  obtain ⟨cl, Ar, q1, S1, N1, H1, G1⟩ := V
  subst hp
  obtain ⟨T1, h1, X1, e1, W1, st1⟩ := stI X hx hZ eT Ar (j := j) (inb_of S1 hj) (g := mkF m pc Ls (.int x :: .int j :: .ref a :: st)) rfl rfl (hb hby hd)
  have V1 := Arv.set Ar q1 S1 N1 H1 G1 rfl W1 i hi hi'
  rw [hi] at W1
  exact own_st (T' := T1) (g' := mkF m _ Ls st) st1 (K T1 h1 W1 V1 ⟨_, X1, e1, Fr.snoc X1 N hge⟩)
theorem s_last (pc' : Nat) {a : Addr} {cA : ClassId} {z j : Int32} {x : Int64} {vs : List Value} {dv : Value} (A : own_A p l e R s m args below meth c Z own name bytes maxL ret) (S : own_S p l e R s m args below meth c n0 T h k n)
    (V : Arv Z h a cA .long z vs dv) (hj : ¬ j < 0 ∧ j < z) (i : Nat) (hi : j.toNatClampNeg = i) (hi' : i < vs.length) (hge : n0 ≤ a) (hd : decode bytes pc = .ok (.lastore, 1)) (hp : pc + 1 = pc')
    (K : ∀ T' h', Wr h h' a i (.long x) → Arv Z h' a cA .long z (vs.set i (.long x)) dv → own_S p l e R s m args below meth c n0 T' h' k n → own_G p e below s n0 kc ks Q T' (mkF m pc' Ls st)) : own_G p e below s n0 kc ks Q T (mkF m pc Ls (.long x :: .int j :: .ref a :: st)) := by
  obtain ⟨locs, X, eT, N⟩ := S
  obtain ⟨hx, hby, hml, hown, -, -, -, hZ⟩ := A
  obtain ⟨cl, Ar, q1, S1, N1, H1, G1⟩ := V
  subst hp
  obtain ⟨T1, h1, X1, e1, W1, st1⟩ := stJ X hx hZ eT Ar (j := j) (inb_of S1 hj) (g := mkF m pc Ls (.long x :: .int j :: .ref a :: st)) rfl rfl (hb hby hd)
  have V1 := Arv.set Ar q1 S1 N1 H1 G1 rfl W1 i hi hi'
  rw [hi] at W1
  exact own_st (T' := T1) (g' := mkF m _ Ls st) st1 (K T1 h1 W1 V1 ⟨_, X1, e1, Fr.snoc X1 N hge⟩)
theorem s_bast (pc' : Nat) {a : Addr} {cA : ClassId} {z j : Int32} {x : Int32} {vs : List Value} {dv : Value} (A : own_A p l e R s m args below meth c Z own name bytes maxL ret) (S : own_S p l e R s m args below meth c n0 T h k n)
    (V : Arv Z h a cA .byte z vs dv) (hj : ¬ j < 0 ∧ j < z) (i : Nat) (hi : j.toNatClampNeg = i) (hi' : i < vs.length) (hge : n0 ≤ a) (hd : decode bytes pc = .ok (.bastore, 1)) (hp : pc + 1 = pc')
    (K : ∀ T' h', Wr h h' a i (.int (nar .byte x)) → Arv Z h' a cA .byte z (vs.set i (.int (nar .byte x))) dv → own_S p l e R s m args below meth c n0 T' h' k n → own_G p e below s n0 kc ks Q T' (mkF m pc' Ls st)) : own_G p e below s n0 kc ks Q T (mkF m pc Ls (.int x :: .int j :: .ref a :: st)) := by
  obtain ⟨locs, X, eT, N⟩ := S
  obtain ⟨hx, hby, hml, hown, -, -, -, hZ⟩ := A
  obtain ⟨cl, Ar, q1, S1, N1, H1, G1⟩ := V
  subst hp
  obtain ⟨T1, h1, X1, e1, W1, st1⟩ := stB X hx hZ eT Ar (j := j) (inb_of S1 hj) (g := mkF m pc Ls (.int x :: .int j :: .ref a :: st)) rfl rfl (hb hby hd)
  have V1 := Arv.set Ar q1 S1 N1 H1 G1 (fits_nar_byte _) W1 i hi hi'
  rw [hi] at W1
  exact own_st (T' := T1) (g' := mkF m _ Ls st) st1 (K T1 h1 W1 V1 ⟨_, X1, e1, Fr.snoc X1 N hge⟩)
theorem s_cast (pc' : Nat) {a : Addr} {cA : ClassId} {z j : Int32} {x : Int32} {vs : List Value} {dv : Value} (A : own_A p l e R s m args below meth c Z own name bytes maxL ret) (S : own_S p l e R s m args below meth c n0 T h k n)
    (V : Arv Z h a cA .char z vs dv) (hj : ¬ j < 0 ∧ j < z) (i : Nat) (hi : j.toNatClampNeg = i) (hi' : i < vs.length) (hge : n0 ≤ a) (hd : decode bytes pc = .ok (.castore, 1)) (hp : pc + 1 = pc')
    (K : ∀ T' h', Wr h h' a i (.int (nar .char x)) → Arv Z h' a cA .char z (vs.set i (.int (nar .char x))) dv → own_S p l e R s m args below meth c n0 T' h' k n → own_G p e below s n0 kc ks Q T' (mkF m pc' Ls st)) : own_G p e below s n0 kc ks Q T (mkF m pc Ls (.int x :: .int j :: .ref a :: st)) := by
  obtain ⟨locs, X, eT, N⟩ := S
  obtain ⟨hx, hby, hml, hown, -, -, -, hZ⟩ := A
  obtain ⟨cl, Ar, q1, S1, N1, H1, G1⟩ := V
  subst hp
  obtain ⟨T1, h1, X1, e1, W1, st1⟩ := stC X hx hZ eT Ar (j := j) (inb_of S1 hj) (g := mkF m pc Ls (.int x :: .int j :: .ref a :: st)) rfl rfl (hb hby hd)
  have V1 := Arv.set Ar q1 S1 N1 H1 G1 (fits_nar_char _) W1 i hi hi'
  rw [hi] at W1
  exact own_st (T' := T1) (g' := mkF m _ Ls st) st1 (K T1 h1 W1 V1 ⟨_, X1, e1, Fr.snoc X1 N hge⟩)
end OwnLayer
theorem own_iadd {x y : Int32} (h1 : -2147483648 ≤ x.toInt + y.toInt) (h2 : x.toInt + y.toInt < 2147483648) : (x + y).toInt = x.toInt + y.toInt := by
  have := c_iadd x y; have := (x + y).toInt_lt; have := (x + y).le_toInt; omega
theorem own_isub {x y : Int32} (h1 : -2147483648 ≤ x.toInt - y.toInt) (h2 : x.toInt - y.toInt < 2147483648) : (x - y).toInt = x.toInt - y.toInt := by
  have := c_isub x y; have := (x - y).toInt_lt; have := (x - y).le_toInt; omega
theorem own_iaddK {x y : Int32} {b : Int} (hb : y.toInt = b) (h1 : -2147483648 ≤ x.toInt + b) (h2 : x.toInt + b < 2147483648) : (x + y).toInt = x.toInt + b := by
  subst hb; exact own_iadd h1 h2
theorem own_isubK {x y : Int32} {b : Int} (hb : y.toInt = b) (h1 : -2147483648 ≤ x.toInt - b) (h2 : x.toInt - b < 2147483648) : (x - y).toInt = x.toInt - b := by
  subst hb; exact own_isub h1 h2
theorem own_isubL {x y : Int32} {a : Int} (ha : x.toInt = a) (h1 : -2147483648 ≤ a - y.toInt) (h2 : a - y.toInt < 2147483648) : (x - y).toInt = a - y.toInt := by
  subst ha; exact own_isub h1 h2
theorem own_imulK {x y : Int32} {b : Int} (hb : y.toInt = b) (h1 : -2147483648 ≤ x.toInt * b) (h2 : x.toInt * b < 2147483648) : (x * y).toInt = x.toInt * b := by
  subst hb; have := c_imul x y; have := (x * y).toInt_lt; have := (x * y).le_toInt; omega
theorem own_imulL {x y : Int32} {a : Int} (ha : x.toInt = a) (h1 : -2147483648 ≤ a * y.toInt) (h2 : a * y.toInt < 2147483648) : (x * y).toInt = a * y.toInt := by
  subst ha; have := c_imul x y; have := (x * y).toInt_lt; have := (x * y).le_toInt; omega
theorem own_ladd {x y : Int64} (h1 : -9223372036854775808 ≤ x.toInt + y.toInt) (h2 : x.toInt + y.toInt < 9223372036854775808) : (x + y).toInt = x.toInt + y.toInt := by
  have := c_ladd x y; have := (x + y).toInt_lt; have := (x + y).le_toInt; omega
theorem own_lsub {x y : Int64} (h1 : -9223372036854775808 ≤ x.toInt - y.toInt) (h2 : x.toInt - y.toInt < 9223372036854775808) : (x - y).toInt = x.toInt - y.toInt := by
  have := c_lsub x y; have := (x - y).toInt_lt; have := (x - y).le_toInt; omega
theorem own_lmulK {x y : Int64} {b : Int} (hb : y.toInt = b) (h1 : -9223372036854775808 ≤ x.toInt * b) (h2 : x.toInt * b < 9223372036854775808) : (x * y).toInt = x.toInt * b := by
  subst hb; have := c_lmul x y; have := (x * y).toInt_lt; have := (x * y).le_toInt; omega
theorem own_l2i {x : Int64} (h1 : -2147483648 ≤ x.toInt) (h2 : x.toInt < 2147483648) : x.toInt32.toInt = x.toInt := by
  have := c_l2i x; have := x.toInt32.toInt_lt; have := x.toInt32.le_toInt; omega

def own_x1 (q : Int64) : Int64 := q - ((own_ushrL q 1) &&& 6148914691236517205)
def own_x2 (q : Int64) : Int64 := (q &&& 3689348814741910323) + ((own_ushrL q 2) &&& 3689348814741910323)
def own_x3 (q : Int64) : Int64 := (q + (own_ushrL q 4)) &&& 1085102592571150095
def own_sh (q : Int64) (k : Int32) : Int64 := q + (own_ushrL q k)
def own_t (q : Int64) : Int64 := own_x3 (own_x2 (own_x1 q))
def own_pop (q : Int64) : Int32 := (own_ushrL (own_t q * 72340172838076673) 56).toInt32
def own_bc (q : Int64) : Int32 := (own_sh (own_sh (own_sh (own_t q) 8) 16) 32).toInt32 &&& 127
theorem own_bb (q : Int64) : 0 ≤ (own_bc q).toInt ∧ (own_bc q).toInt ≤ 127 := c_and _ 127 (by decide)
theorem own_and256 (a b : Nat) : a &&& b = 256 * ((a / 256) &&& (b / 256)) + ((a % 256) &&& (b % 256)) := by
  have h1 : (a &&& b) / 256 = (a / 256) &&& (b / 256) := by
    have := @Nat.and_div_two_pow a b 8
    simpa using this
  have h2 : (a &&& b) % 256 = (a % 256) &&& (b % 256) := by
    have := @Nat.and_mod_two_pow a b 8
    simpa using this
  omega
theorem own_nibN (y : Nat) : ∃ n0 n1 n2 n3 n4 n5 n6 n7 : Nat, y &&& 1085102592571150095 = n0 + 256 * (n1 + 256 * (n2 + 256 * (n3 + 256 * (n4 + 256 * (n5 + 256 * (n6 + 256 * n7)))))) ∧ n0 ≤ 15 ∧ n1 ≤ 15 ∧ n2 ≤ 15 ∧ n3 ≤ 15 ∧ n4 ≤ 15 ∧ n5 ≤ 15 ∧ n6 ≤ 15 ∧ n7 ≤ 15 := by
  have s0 : y &&& 1085102592571150095 = 256 * ((y / 256) &&& 4238682002231055) + ((y % 256) &&& 15) := own_and256 y 1085102592571150095
  have s1 : (y / 256) &&& 4238682002231055 = 256 * (((y / 256) / 256) &&& 16557351571215) + (((y / 256) % 256) &&& 15) := own_and256 (y / 256) 4238682002231055
  have s2 : ((y / 256) / 256) &&& 16557351571215 = 256 * ((((y / 256) / 256) / 256) &&& 64677154575) + ((((y / 256) / 256) % 256) &&& 15) := own_and256 ((y / 256) / 256) 16557351571215
  have s3 : (((y / 256) / 256) / 256) &&& 64677154575 = 256 * (((((y / 256) / 256) / 256) / 256) &&& 252645135) + (((((y / 256) / 256) / 256) % 256) &&& 15) := own_and256 (((y / 256) / 256) / 256) 64677154575
  have s4 : ((((y / 256) / 256) / 256) / 256) &&& 252645135 = 256 * ((((((y / 256) / 256) / 256) / 256) / 256) &&& 986895) + ((((((y / 256) / 256) / 256) / 256) % 256) &&& 15) := own_and256 ((((y / 256) / 256) / 256) / 256) 252645135
  have s5 : (((((y / 256) / 256) / 256) / 256) / 256) &&& 986895 = 256 * (((((((y / 256) / 256) / 256) / 256) / 256) / 256) &&& 3855) + (((((((y / 256) / 256) / 256) / 256) / 256) % 256) &&& 15) := own_and256 (((((y / 256) / 256) / 256) / 256) / 256) 986895
  have s6 : ((((((y / 256) / 256) / 256) / 256) / 256) / 256) &&& 3855 = 256 * ((((((((y / 256) / 256) / 256) / 256) / 256) / 256) / 256) &&& 15) + ((((((((y / 256) / 256) / 256) / 256) / 256) / 256) % 256) &&& 15) := own_and256 ((((((y / 256) / 256) / 256) / 256) / 256) / 256) 3855
  have s7 : (((((((y / 256) / 256) / 256) / 256) / 256) / 256) / 256) &&& 15 ≤ 15 := Nat.and_le_right
  refine ⟨(y % 256) &&& 15, ((y / 256) % 256) &&& 15, (((y / 256) / 256) % 256) &&& 15, ((((y / 256) / 256) / 256) % 256) &&& 15, (((((y / 256) / 256) / 256) / 256) % 256) &&& 15, ((((((y / 256) / 256) / 256) / 256) / 256) % 256) &&& 15, (((((((y / 256) / 256) / 256) / 256) / 256) / 256) % 256) &&& 15, (((((((y / 256) / 256) / 256) / 256) / 256) / 256) / 256) &&& 15, ?_, Nat.and_le_right, Nat.and_le_right, Nat.and_le_right, Nat.and_le_right, Nat.and_le_right, Nat.and_le_right, Nat.and_le_right, Nat.and_le_right⟩
  rw [s0, s1, s2, s3, s4, s5, s6]; omega
theorem own_nib (x : Int64) : ∃ n0 n1 n2 n3 n4 n5 n6 n7 : Int, (x &&& 1085102592571150095).toInt = n0 + 256 * n1 + 65536 * n2 + 16777216 * n3 + 4294967296 * n4 + 1099511627776 * n5 + 281474976710656 * n6 + 72057594037927936 * n7 ∧ (0 ≤ n0 ∧ n0 ≤ 15) ∧ (0 ≤ n1 ∧ n1 ≤ 15) ∧ (0 ≤ n2 ∧ n2 ≤ 15) ∧ (0 ≤ n3 ∧ n3 ≤ 15) ∧ (0 ≤ n4 ∧ n4 ≤ 15) ∧ (0 ≤ n5 ∧ n5 ≤ 15) ∧ (0 ≤ n6 ∧ n6 ≤ 15) ∧ (0 ≤ n7 ∧ n7 ≤ 15) := by
  obtain ⟨n0, n1, n2, n3, n4, n5, n6, n7, e, b0, b1, b2, b3, b4, b5, b6, b7⟩ := own_nibN x.toBitVec.toNat
  refine ⟨n0, n1, n2, n3, n4, n5, n6, n7, ?_, by omega, by omega, by omega, by omega, by omega, by omega, by omega, by omega⟩
  have q : (x &&& 1085102592571150095).toBitVec.toNat = x.toBitVec.toNat &&& 1085102592571150095 := by
    show (x.toBitVec &&& (1085102592571150095 : Int64).toBitVec).toNat = _
    rw [BitVec.toNat_and]; rfl
  show (x &&& 1085102592571150095).toBitVec.toInt = _
  rw [BitVec.toInt_eq_toNat_cond, q, e]
  split <;> omega
theorem own_u (x : Int64) (k : Int32) (j : Nat) (hk : k.toBitVec.toNat % 64 = j) (h0 : 0 < j) : (own_ushrL x k).toInt = (x.toInt % 18446744073709551616) / (2 ^ j : Nat) := c_lushr x k j hk h0
theorem own_shN {x : Int64} {k : Int32} {j : Nat} (hk : k.toBitVec.toNat % 64 = j) (h0 : 0 < j) (h1 : 0 ≤ x.toInt) (h2 : x.toInt < 4611686018427387904) : (own_sh x k).toInt = x.toInt + x.toInt / (2 ^ j : Nat) := by
  have q := own_u x k j hk h0
  have q1 : (x.toInt % 18446744073709551616) = x.toInt := Int.emod_eq_of_lt h1 (by omega)
  rw [q1] at q
  have q2 : x.toInt / ((2 ^ j : Nat) : Int) ≤ x.toInt := Int.ediv_le_self _ h1
  have q3 : 0 ≤ x.toInt / ((2 ^ j : Nat) : Int) := Int.ediv_nonneg h1 (Int.natCast_nonneg _)
  generalize x.toInt / ((2 ^ j : Nat) : Int) = D at *
  unfold own_sh
  rw [own_ladd (by rw [q]; omega) (by rw [q]; omega), q]
theorem own_dv {x k q r : Int} (h : x = k * q + r) (h1 : 0 ≤ r) (h2 : r < k) : x / k = q := by
  rw [h, Int.add_comm, Int.add_mul_ediv_left _ _ (by omega), Int.ediv_eq_zero_of_lt h1 h2, Int.zero_add]
theorem own_md {x k q r : Int} (h : x = k * q + r) (h1 : 0 ≤ r) (h2 : r < k) : x % k = r := by
  rw [h, Int.add_comm, Int.add_mul_emod_self_left, Int.emod_eq_of_lt h1 h2]
theorem own_bcsum (t : Int64) (n0 n1 n2 n3 n4 n5 n6 n7 : Int) (e : t.toInt = n0 + 256 * n1 + 65536 * n2 + 16777216 * n3 + 4294967296 * n4 + 1099511627776 * n5 + 281474976710656 * n6 + 72057594037927936 * n7) (b0 : 0 ≤ n0 ∧ n0 ≤ 15) (b1 : 0 ≤ n1 ∧ n1 ≤ 15) (b2 : 0 ≤ n2 ∧ n2 ≤ 15) (b3 : 0 ≤ n3 ∧ n3 ≤ 15) (b4 : 0 ≤ n4 ∧ n4 ≤ 15) (b5 : 0 ≤ n5 ∧ n5 ≤ 15) (b6 : 0 ≤ n6 ∧ n6 ≤ 15) (b7 : 0 ≤ n7 ∧ n7 ≤ 15) :
    ((own_sh (own_sh (own_sh t 8) 16) 32).toInt32 &&& 127).toInt = n0 + n1 + n2 + n3 + n4 + n5 + n6 + n7 := by
  have a1 : (own_sh t 8).toInt = t.toInt + t.toInt / 256 := own_shN (j := 8) (by decide) (by decide) (by omega) (by omega)
  have f1 : t.toInt / 256 = n1 + 256 * n2 + 65536 * n3 + 16777216 * n4 + 4294967296 * n5 + 1099511627776 * n6 + 281474976710656 * n7 := own_dv (r := n0) (by omega) (by omega) (by omega)
  rw [f1, e] at a1
  generalize own_sh t 8 = y1 at a1 ⊢
  have a2 : (own_sh y1 16).toInt = y1.toInt + y1.toInt / 65536 := own_shN (j := 16) (by decide) (by decide) (by omega) (by omega)
  have f2 : y1.toInt / 65536 = (n2 + n3) + 256 * (n3 + n4) + 65536 * (n4 + n5) + 16777216 * (n5 + n6) + 4294967296 * (n6 + n7) + 1099511627776 * n7 := own_dv (r := (n0 + n1) + 256 * (n1 + n2)) (by omega) (by omega) (by omega)
  rw [f2] at a2
  generalize own_sh y1 16 = y2 at a2 ⊢
  have a3 : (own_sh y2 32).toInt = y2.toInt + y2.toInt / 4294967296 := own_shN (j := 32) (by decide) (by decide) (by omega) (by omega)
  have f3 : y2.toInt / 4294967296 = (n4 + n5 + n6 + n7) + 256 * (n5 + n6 + n7) + 65536 * (n6 + n7) + 16777216 * n7 := own_dv (r := (n0 + n1 + n2 + n3) + 256 * (n1 + n2 + n3 + n4) + 65536 * (n2 + n3 + n4 + n5) + 16777216 * (n3 + n4 + n5 + n6)) (by omega) (by omega) (by omega)
  rw [f3] at a3
  generalize own_sh y2 32 = y3 at a3 ⊢
  have f4 : y3.toInt % 128 = n0 + n1 + n2 + n3 + n4 + n5 + n6 + n7 := own_md (q := 2 * (n1 + n2 + n3 + n4 + (n5 + n6 + n7)) + 512 * (n2 + n3 + n4 + n5 + (n6 + n7)) + 131072 * (n3 + n4 + n5 + n6 + n7) + 33554432 * (n4 + n5 + n6 + n7) + 8589934592 * (n5 + n6 + n7) + 2199023255552 * (n6 + n7) + 562949953421312 * n7) (by omega) (by omega) (by omega)
  have g1 := c_mask y3.toInt32 127 7 (by decide) (by decide)
  have g2 := c_l2i y3
  clear a1 a2 a3 f1 f2 f3
  rw [g1]
  show y3.toInt32.toInt % 128 = _
  omega
theorem own_mulI (x n0 n1 n2 n3 n4 n5 n6 n7 : Int) (e : x = n0 + 256 * n1 + 65536 * n2 + 16777216 * n3 + 4294967296 * n4 + 1099511627776 * n5 + 281474976710656 * n6 + 72057594037927936 * n7) (b0 : 0 ≤ n0 ∧ n0 ≤ 15) (b1 : 0 ≤ n1 ∧ n1 ≤ 15) (b2 : 0 ≤ n2 ∧ n2 ≤ 15) (b3 : 0 ≤ n3 ∧ n3 ≤ 15) (b4 : 0 ≤ n4 ∧ n4 ≤ 15) (b5 : 0 ≤ n5 ∧ n5 ≤ 15) (b6 : 0 ≤ n6 ∧ n6 ≤ 15) (b7 : 0 ≤ n7 ∧ n7 ≤ 15) :
    (x * 72340172838076673) % 18446744073709551616 / 72057594037927936 = n0 + n1 + n2 + n3 + n4 + n5 + n6 + n7 := by
  have m5 : (x * 72340172838076673) % 18446744073709551616 = 72057594037927936 * (n0 + n1 + n2 + n3 + n4 + n5 + n6 + n7) + (281474976710656 * (n0 + n1 + n2 + n3 + n4 + n5 + n6) + 1099511627776 * (n0 + n1 + n2 + n3 + n4 + n5) + 4294967296 * (n0 + n1 + n2 + n3 + n4) + 16777216 * (n0 + n1 + n2 + n3) + 65536 * (n0 + n1 + n2) + 256 * (n0 + n1) + n0) :=
    own_md (q := (n1 + n2 + n3 + n4 + n5 + n6 + n7) + 256 * (n2 + n3 + n4 + n5 + n6 + n7) + 65536 * (n3 + n4 + n5 + n6 + n7) + 16777216 * (n4 + n5 + n6 + n7) + 4294967296 * (n5 + n6 + n7) + 1099511627776 * (n6 + n7) + 281474976710656 * n7) (by subst e; omega) (by clear e; omega) (by clear e; omega)
  exact own_dv m5 (by clear e m5; omega) (by clear e m5; omega)
theorem own_pm (t : Int64) (S : Int) (hS : (t.toInt * 72340172838076673) % 18446744073709551616 / 72057594037927936 = S) (h0 : 0 ≤ S) (h1 : S ≤ 120) : (own_ushrL (t * 72340172838076673) 56).toInt32.toInt = S := by
  have m1 := c_lmul t 72340172838076673
  have m0 : (72340172838076673 : Int64).toInt = 72340172838076673 := by decide +kernel
  rw [m0] at m1
  have m2 := own_u (t * 72340172838076673) 56 56 (by decide) (by decide)
  rw [show ((2 ^ 56 : Nat) : Int) = 72057594037927936 by decide] at m2
  generalize t * 72340172838076673 = w at m1 m2 ⊢
  have m3 : w.toInt % 18446744073709551616 = (t.toInt * 72340172838076673) % 18446744073709551616 := by clear hS m2; omega
  rw [m3, hS] at m2
  rw [own_l2i (by rw [m2]; omega) (by rw [m2]; omega), m2]
theorem own_pe (q : Int64) : own_pop q = own_bc q := by
  obtain ⟨n0, n1, n2, n3, n4, n5, n6, n7, e, b0, b1, b2, b3, b4, b5, b6, b7⟩ := own_nib (own_x2 (own_x1 q) + (own_ushrL (own_x2 (own_x1 q)) 4))
  have e : (own_t q).toInt = _ := e
  apply Int32.toInt_inj.mp
  have g3 : (own_bc q).toInt = _ := own_bcsum (own_t q) n0 n1 n2 n3 n4 n5 n6 n7 e b0 b1 b2 b3 b4 b5 b6 b7
  have g4 : (own_pop q).toInt = _ := own_pm (own_t q) _ (own_mulI _ n0 n1 n2 n3 n4 n5 n6 n7 e b0 b1 b2 b3 b4 b5 b6 b7) (by omega) (by omega)
  rw [g3, g4]

theorem own_pb (q : Int64) : 0 ≤ (own_pop q).toInt ∧ (own_pop q).toInt ≤ 127 := by rw [own_pe]; exact own_bb q
theorem own_sum3 {x y z : Int32} (h1 : 0 ≤ x.toInt ∧ x.toInt ≤ 127) (h2 : 0 ≤ y.toInt ∧ y.toInt ≤ 127) (h3 : 0 ≤ z.toInt ∧ z.toInt ≤ 127) : 0 ≤ ((x + y) + z).toInt := by
  rw [own_iadd (by rw [own_iadd (by omega) (by omega)]; omega) (by rw [own_iadd (by omega) (by omega)]; omega), own_iadd (by omega) (by omega)]; omega
theorem own_bsum0 : 0 ≤ ((0 : Int32)).toInt := by decide
theorem own_bsum1 (x : Int64) : 0 ≤ ((0 : Int32) + own_bc x).toInt := by rw [Int32.zero_add]; exact (own_bb x).1
theorem own_bsum2 (x y : Int64) : 0 ≤ (((0 : Int32) + own_bc x) + own_bc y).toInt := own_sum3 (by decide) (own_bb x) (own_bb y)
theorem own_bsum3 (x y z : Int64) : 0 ≤ ((((0 : Int32) + own_bc x) + own_bc y) + own_bc z).toInt := by rw [Int32.zero_add]; exact own_sum3 (own_bb x) (own_bb y) (own_bb z)

theorem own_four (x z : Int32) (hz : x &&& 3 = z) : z = 0 ∨ z = 1 ∨ z = 2 ∨ z = 3 := by
  have h1 := c_and x 3 (by decide)
  rw [hz, show (3 : Int32).toInt = 3 from rfl] at h1
  have e : z = Int32.ofNat z.toInt.toNat := by
    apply Int32.toInt_inj.mp
    rw [Int32.toInt_ofNat_of_lt (by omega)]; omega
  have h2 : z.toInt.toNat = 0 ∨ z.toInt.toNat = 1 ∨ z.toInt.toNat = 2 ∨ z.toInt.toNat = 3 := by omega
  rcases h2 with h2 | h2 | h2 | h2 <;> rw [h2] at e <;> simp [e]
theorem pd__J_I : parseMethodDescriptor "(J)I" = some ⟨[.long], some .int⟩ := by decide +kernel
theorem pd___I : parseMethodDescriptor "()I" = some ⟨[], some .int⟩ := by decide +kernel
theorem pd___JII_V : parseMethodDescriptor "([JII)V" = some ⟨[(.array .long), .int, .int], none⟩ := by decide +kernel
theorem pd____J : parseMethodDescriptor "()[J" = some ⟨[], some (.array .long)⟩ := by decide +kernel
theorem d6_0 : decode jdk_35_method_50_code 0 = .ok (.lload_n 0, 1) := by decide +kernel
theorem d6_1 : decode jdk_35_method_50_code 1 = .ok (.lload_n 0, 1) := by decide +kernel
theorem d6_2 : decode jdk_35_method_50_code 2 = .ok (.iconst 1, 1) := by decide +kernel
theorem d6_3 : decode jdk_35_method_50_code 3 = .ok (.lushr, 1) := by decide +kernel
theorem d6_4 : decode jdk_35_method_50_code 4 = .ok (.ldc2_w 314, 3) := by decide +kernel
theorem d6_7 : decode jdk_35_method_50_code 7 = .ok (.land, 1) := by decide +kernel
theorem d6_8 : decode jdk_35_method_50_code 8 = .ok (.lsub, 1) := by decide +kernel
theorem d6_9 : decode jdk_35_method_50_code 9 = .ok (.lstore_n 0, 1) := by decide +kernel
theorem d6_10 : decode jdk_35_method_50_code 10 = .ok (.lload_n 0, 1) := by decide +kernel
theorem d6_11 : decode jdk_35_method_50_code 11 = .ok (.ldc2_w 316, 3) := by decide +kernel
theorem d6_14 : decode jdk_35_method_50_code 14 = .ok (.land, 1) := by decide +kernel
theorem d6_15 : decode jdk_35_method_50_code 15 = .ok (.lload_n 0, 1) := by decide +kernel
theorem d6_16 : decode jdk_35_method_50_code 16 = .ok (.iconst 2, 1) := by decide +kernel
theorem d6_17 : decode jdk_35_method_50_code 17 = .ok (.lushr, 1) := by decide +kernel
theorem d6_18 : decode jdk_35_method_50_code 18 = .ok (.ldc2_w 316, 3) := by decide +kernel
theorem d6_21 : decode jdk_35_method_50_code 21 = .ok (.land, 1) := by decide +kernel
theorem d6_22 : decode jdk_35_method_50_code 22 = .ok (.ladd, 1) := by decide +kernel
theorem d6_23 : decode jdk_35_method_50_code 23 = .ok (.lstore_n 0, 1) := by decide +kernel
theorem d6_24 : decode jdk_35_method_50_code 24 = .ok (.lload_n 0, 1) := by decide +kernel
theorem d6_25 : decode jdk_35_method_50_code 25 = .ok (.lload_n 0, 1) := by decide +kernel
theorem d6_26 : decode jdk_35_method_50_code 26 = .ok (.iconst 4, 1) := by decide +kernel
theorem d6_27 : decode jdk_35_method_50_code 27 = .ok (.lushr, 1) := by decide +kernel
theorem d6_28 : decode jdk_35_method_50_code 28 = .ok (.ladd, 1) := by decide +kernel
theorem d6_29 : decode jdk_35_method_50_code 29 = .ok (.ldc2_w 318, 3) := by decide +kernel
theorem d6_32 : decode jdk_35_method_50_code 32 = .ok (.land, 1) := by decide +kernel
theorem d6_33 : decode jdk_35_method_50_code 33 = .ok (.lstore_n 0, 1) := by decide +kernel
theorem d6_34 : decode jdk_35_method_50_code 34 = .ok (.lload_n 0, 1) := by decide +kernel
theorem d6_35 : decode jdk_35_method_50_code 35 = .ok (.lload_n 0, 1) := by decide +kernel
theorem d6_36 : decode jdk_35_method_50_code 36 = .ok (.bipush 8, 2) := by decide +kernel
theorem d6_38 : decode jdk_35_method_50_code 38 = .ok (.lushr, 1) := by decide +kernel
theorem d6_39 : decode jdk_35_method_50_code 39 = .ok (.ladd, 1) := by decide +kernel
theorem d6_40 : decode jdk_35_method_50_code 40 = .ok (.lstore_n 0, 1) := by decide +kernel
theorem d6_41 : decode jdk_35_method_50_code 41 = .ok (.lload_n 0, 1) := by decide +kernel
theorem d6_42 : decode jdk_35_method_50_code 42 = .ok (.lload_n 0, 1) := by decide +kernel
theorem d6_43 : decode jdk_35_method_50_code 43 = .ok (.bipush 16, 2) := by decide +kernel
theorem d6_45 : decode jdk_35_method_50_code 45 = .ok (.lushr, 1) := by decide +kernel
theorem d6_46 : decode jdk_35_method_50_code 46 = .ok (.ladd, 1) := by decide +kernel
theorem d6_47 : decode jdk_35_method_50_code 47 = .ok (.lstore_n 0, 1) := by decide +kernel
theorem d6_48 : decode jdk_35_method_50_code 48 = .ok (.lload_n 0, 1) := by decide +kernel
theorem d6_49 : decode jdk_35_method_50_code 49 = .ok (.lload_n 0, 1) := by decide +kernel
theorem d6_50 : decode jdk_35_method_50_code 50 = .ok (.bipush 32, 2) := by decide +kernel
theorem d6_52 : decode jdk_35_method_50_code 52 = .ok (.lushr, 1) := by decide +kernel
theorem d6_53 : decode jdk_35_method_50_code 53 = .ok (.ladd, 1) := by decide +kernel
theorem d6_54 : decode jdk_35_method_50_code 54 = .ok (.lstore_n 0, 1) := by decide +kernel
theorem d6_55 : decode jdk_35_method_50_code 55 = .ok (.lload_n 0, 1) := by decide +kernel
theorem d6_56 : decode jdk_35_method_50_code 56 = .ok (.l2i, 1) := by decide +kernel
theorem d6_57 : decode jdk_35_method_50_code 57 = .ok (.bipush 127, 2) := by decide +kernel
theorem d6_59 : decode jdk_35_method_50_code 59 = .ok (.iand, 1) := by decide +kernel
theorem d6_60 : decode jdk_35_method_50_code 60 = .ok (.ireturn, 1) := by decide +kernel
theorem pn_6 : plainFor (⟨"java/lang/Long", "bitCount", "(J)I"⟩ : MethodName) = true := plainFor_of_name (by first | (simp [plainName, overriddenIn]; done) | decide +kernel)
theorem ef_6 (m : MethodId) (x0 : Int64) : entryFrame m #[(.long x0)] 2 = mkF m 0 #[.val (.long x0), .second] [] := by first | (simp [entryFrame, mkF, argsToLocals, Value.category]; done) | rfl
set_option maxRecDepth 65536 in
set_option maxHeartbeats 40000000 in
theorem rm6 (l : Launch) (Z : State) (a0 : Array Value) (hw : ∀ d ∈ tables_1, d.before a0 Z = true) (ws : List Jvm.Cond) (q : Int64) (h0 : Heap) (n0 : Nat) (Z0 : n0 ≤ h0.size)  :
    own_C l Z (⟨"java/lang/Long", "bitCount", "(J)I"⟩ : MethodName) jdk_35_method_50_code 2 (some .int) ({ frames := 0, cells := 0, slots := 0, locals := 0 } : Room) n0 ws #[(.long q)] h0 (fun v h' => v = some (.int (own_bc q)) ∧ h' = h0) := by
  refine own_C.of pn_6 Z0 ?_
  intro p e s m below meth c T A S
  rw [ef_6]
  refine s_lloadN 1 A S d6_0 rfl rfl ?_
  refine s_lloadN 2 A S d6_1 rfl rfl ?_
  refine s_iconst (z := (1 : Int32)) 3 A S d6_2 rfl rfl ?_
  refine s_lushr (z := (own_ushrL q (1 : Int32))) 4 A S d6_3 rfl rfl ?_
  refine s_ldc2 7 A S (hw _ (List.mem_of_getElem? (i := 38) rfl)) d6_4 rfl ?_
  refine s_land (z := ((own_ushrL q (1 : Int32)) &&& (6148914691236517205 : Int64))) 8 A S d6_7 rfl rfl ?_
  obtain ⟨t1, h_t1⟩ : ∃ z_, (q - ((own_ushrL q (1 : Int32)) &&& (6148914691236517205 : Int64))) = z_ := ⟨_, rfl⟩
  refine s_lsub (z := t1) 9 A S d6_8 h_t1 rfl ?_
  refine s_lstoreN (Ls' := #[.val (.long t1), .second]) 10 A S d6_9 rfl rfl ?_
  refine s_lloadN 11 A S d6_10 rfl rfl ?_
  refine s_ldc2 14 A S (hw _ (List.mem_of_getElem? (i := 39) rfl)) d6_11 rfl ?_
  refine s_land (z := (t1 &&& (3689348814741910323 : Int64))) 15 A S d6_14 rfl rfl ?_
  refine s_lloadN 16 A S d6_15 rfl rfl ?_
  refine s_iconst (z := (2 : Int32)) 17 A S d6_16 rfl rfl ?_
  refine s_lushr (z := (own_ushrL t1 (2 : Int32))) 18 A S d6_17 rfl rfl ?_
  refine s_ldc2 21 A S (hw _ (List.mem_of_getElem? (i := 39) rfl)) d6_18 rfl ?_
  refine s_land (z := ((own_ushrL t1 (2 : Int32)) &&& (3689348814741910323 : Int64))) 22 A S d6_21 rfl rfl ?_
  obtain ⟨t2, h_t2⟩ : ∃ z_, ((t1 &&& (3689348814741910323 : Int64)) + ((own_ushrL t1 (2 : Int32)) &&& (3689348814741910323 : Int64))) = z_ := ⟨_, rfl⟩
  refine s_ladd (z := t2) 23 A S d6_22 h_t2 rfl ?_
  refine s_lstoreN (Ls' := #[.val (.long t2), .second]) 24 A S d6_23 rfl rfl ?_
  refine s_lloadN 25 A S d6_24 rfl rfl ?_
  refine s_lloadN 26 A S d6_25 rfl rfl ?_
  refine s_iconst (z := (4 : Int32)) 27 A S d6_26 rfl rfl ?_
  refine s_lushr (z := (own_ushrL t2 (4 : Int32))) 28 A S d6_27 rfl rfl ?_
  refine s_ladd (z := (t2 + (own_ushrL t2 (4 : Int32)))) 29 A S d6_28 rfl rfl ?_
  refine s_ldc2 32 A S (hw _ (List.mem_of_getElem? (i := 40) rfl)) d6_29 rfl ?_
  obtain ⟨t3, h_t3⟩ : ∃ z_, ((t2 + (own_ushrL t2 (4 : Int32))) &&& (1085102592571150095 : Int64)) = z_ := ⟨_, rfl⟩
  refine s_land (z := t3) 33 A S d6_32 h_t3 rfl ?_
  refine s_lstoreN (Ls' := #[.val (.long t3), .second]) 34 A S d6_33 rfl rfl ?_
  refine s_lloadN 35 A S d6_34 rfl rfl ?_
  refine s_lloadN 36 A S d6_35 rfl rfl ?_
  refine s_bipush (z := (8 : Int32)) 38 A S d6_36 rfl rfl ?_
  refine s_lushr (z := (own_ushrL t3 (8 : Int32))) 39 A S d6_38 rfl rfl ?_
  obtain ⟨t4, h_t4⟩ : ∃ z_, (t3 + (own_ushrL t3 (8 : Int32))) = z_ := ⟨_, rfl⟩
  refine s_ladd (z := t4) 40 A S d6_39 h_t4 rfl ?_
  refine s_lstoreN (Ls' := #[.val (.long t4), .second]) 41 A S d6_40 rfl rfl ?_
  refine s_lloadN 42 A S d6_41 rfl rfl ?_
  refine s_lloadN 43 A S d6_42 rfl rfl ?_
  refine s_bipush (z := (16 : Int32)) 45 A S d6_43 rfl rfl ?_
  refine s_lushr (z := (own_ushrL t4 (16 : Int32))) 46 A S d6_45 rfl rfl ?_
  obtain ⟨t5, h_t5⟩ : ∃ z_, (t4 + (own_ushrL t4 (16 : Int32))) = z_ := ⟨_, rfl⟩
  refine s_ladd (z := t5) 47 A S d6_46 h_t5 rfl ?_
  refine s_lstoreN (Ls' := #[.val (.long t5), .second]) 48 A S d6_47 rfl rfl ?_
  refine s_lloadN 49 A S d6_48 rfl rfl ?_
  refine s_lloadN 50 A S d6_49 rfl rfl ?_
  refine s_bipush (z := (32 : Int32)) 52 A S d6_50 rfl rfl ?_
  refine s_lushr (z := (own_ushrL t5 (32 : Int32))) 53 A S d6_52 rfl rfl ?_
  obtain ⟨t6, h_t6⟩ : ∃ z_, (t5 + (own_ushrL t5 (32 : Int32))) = z_ := ⟨_, rfl⟩
  refine s_ladd (z := t6) 54 A S d6_53 h_t6 rfl ?_
  refine s_lstoreN (Ls' := #[.val (.long t6), .second]) 55 A S d6_54 rfl rfl ?_
  refine s_lloadN 56 A S d6_55 rfl rfl ?_
  refine s_l2i (z := ((t6).toInt32)) 57 A S d6_56 rfl rfl ?_
  refine s_bipush (z := (127 : Int32)) 59 A S d6_57 rfl rfl ?_
  refine s_iand (z := (((t6).toInt32) &&& (127 : Int32))) 60 A S d6_59 rfl rfl ?_
  exact s_retI A S d6_60 (by decide) (by decide) ⟨by subst h_t6 h_t5 h_t4 h_t3 h_t2 h_t1; rfl, rfl⟩
theorem d1_0 : decode method_2_code 0 = .ok (.lload_n 0, 1) := by decide +kernel
theorem d1_1 : decode method_2_code 1 = .ok (.lload_n 0, 1) := by decide +kernel
theorem d1_2 : decode method_2_code 2 = .ok (.iconst 1, 1) := by decide +kernel
theorem d1_3 : decode method_2_code 3 = .ok (.lushr, 1) := by decide +kernel
theorem d1_4 : decode method_2_code 4 = .ok (.ldc2_w 7, 3) := by decide +kernel
theorem d1_7 : decode method_2_code 7 = .ok (.land, 1) := by decide +kernel
theorem d1_8 : decode method_2_code 8 = .ok (.lsub, 1) := by decide +kernel
theorem d1_9 : decode method_2_code 9 = .ok (.lstore_n 0, 1) := by decide +kernel
theorem d1_10 : decode method_2_code 10 = .ok (.lload_n 0, 1) := by decide +kernel
theorem d1_11 : decode method_2_code 11 = .ok (.ldc2_w 9, 3) := by decide +kernel
theorem d1_14 : decode method_2_code 14 = .ok (.land, 1) := by decide +kernel
theorem d1_15 : decode method_2_code 15 = .ok (.lload_n 0, 1) := by decide +kernel
theorem d1_16 : decode method_2_code 16 = .ok (.iconst 2, 1) := by decide +kernel
theorem d1_17 : decode method_2_code 17 = .ok (.lushr, 1) := by decide +kernel
theorem d1_18 : decode method_2_code 18 = .ok (.ldc2_w 9, 3) := by decide +kernel
theorem d1_21 : decode method_2_code 21 = .ok (.land, 1) := by decide +kernel
theorem d1_22 : decode method_2_code 22 = .ok (.ladd, 1) := by decide +kernel
theorem d1_23 : decode method_2_code 23 = .ok (.lstore_n 0, 1) := by decide +kernel
theorem d1_24 : decode method_2_code 24 = .ok (.lload_n 0, 1) := by decide +kernel
theorem d1_25 : decode method_2_code 25 = .ok (.lload_n 0, 1) := by decide +kernel
theorem d1_26 : decode method_2_code 26 = .ok (.iconst 4, 1) := by decide +kernel
theorem d1_27 : decode method_2_code 27 = .ok (.lushr, 1) := by decide +kernel
theorem d1_28 : decode method_2_code 28 = .ok (.ladd, 1) := by decide +kernel
theorem d1_29 : decode method_2_code 29 = .ok (.ldc2_w 11, 3) := by decide +kernel
theorem d1_32 : decode method_2_code 32 = .ok (.land, 1) := by decide +kernel
theorem d1_33 : decode method_2_code 33 = .ok (.lstore_n 0, 1) := by decide +kernel
theorem d1_34 : decode method_2_code 34 = .ok (.lload_n 0, 1) := by decide +kernel
theorem d1_35 : decode method_2_code 35 = .ok (.ldc2_w 13, 3) := by decide +kernel
theorem d1_38 : decode method_2_code 38 = .ok (.lmul, 1) := by decide +kernel
theorem d1_39 : decode method_2_code 39 = .ok (.bipush 56, 2) := by decide +kernel
theorem d1_41 : decode method_2_code 41 = .ok (.lushr, 1) := by decide +kernel
theorem d1_42 : decode method_2_code 42 = .ok (.l2i, 1) := by decide +kernel
theorem d1_43 : decode method_2_code 43 = .ok (.ireturn, 1) := by decide +kernel
theorem pn_1 : plainFor (⟨"com/example/orderly_sieve/orderlysieve/query/RowSetCountPinLaw", "pop", "(J)I"⟩ : MethodName) = true := plainFor_of_name (by first | (simp [plainName, overriddenIn]; done) | decide +kernel)
theorem ef_1 (m : MethodId) (x0 : Int64) : entryFrame m #[(.long x0)] 2 = mkF m 0 #[.val (.long x0), .second] [] := by first | (simp [entryFrame, mkF, argsToLocals, Value.category]; done) | rfl
set_option maxRecDepth 65536 in
set_option maxHeartbeats 40000000 in
theorem rm1 (l : Launch) (Z : State) (a0 : Array Value) (hw : ∀ d ∈ tables_1, d.before a0 Z = true) (ws : List Jvm.Cond) (q : Int64) (h0 : Heap) (n0 : Nat) (Z0 : n0 ≤ h0.size)  :
    own_C l Z (⟨"com/example/orderly_sieve/orderlysieve/query/RowSetCountPinLaw", "pop", "(J)I"⟩ : MethodName) method_2_code 2 (some .int) ({ frames := 0, cells := 0, slots := 0, locals := 0 } : Room) n0 ws #[(.long q)] h0 (fun v h' => v = some (.int (own_pop q)) ∧ h' = h0) := by
  refine own_C.of pn_1 Z0 ?_
  intro p e s m below meth c T A S
  rw [ef_1]
  refine s_lloadN 1 A S d1_0 rfl rfl ?_
  refine s_lloadN 2 A S d1_1 rfl rfl ?_
  refine s_iconst (z := (1 : Int32)) 3 A S d1_2 rfl rfl ?_
  refine s_lushr (z := (own_ushrL q (1 : Int32))) 4 A S d1_3 rfl rfl ?_
  refine s_ldc2 7 A S (hw _ (List.mem_of_getElem? (i := 5) rfl)) d1_4 rfl ?_
  refine s_land (z := ((own_ushrL q (1 : Int32)) &&& (6148914691236517205 : Int64))) 8 A S d1_7 rfl rfl ?_
  obtain ⟨t1, h_t1⟩ : ∃ z_, (q - ((own_ushrL q (1 : Int32)) &&& (6148914691236517205 : Int64))) = z_ := ⟨_, rfl⟩
  refine s_lsub (z := t1) 9 A S d1_8 h_t1 rfl ?_
  refine s_lstoreN (Ls' := #[.val (.long t1), .second]) 10 A S d1_9 rfl rfl ?_
  refine s_lloadN 11 A S d1_10 rfl rfl ?_
  refine s_ldc2 14 A S (hw _ (List.mem_of_getElem? (i := 6) rfl)) d1_11 rfl ?_
  refine s_land (z := (t1 &&& (3689348814741910323 : Int64))) 15 A S d1_14 rfl rfl ?_
  refine s_lloadN 16 A S d1_15 rfl rfl ?_
  refine s_iconst (z := (2 : Int32)) 17 A S d1_16 rfl rfl ?_
  refine s_lushr (z := (own_ushrL t1 (2 : Int32))) 18 A S d1_17 rfl rfl ?_
  refine s_ldc2 21 A S (hw _ (List.mem_of_getElem? (i := 6) rfl)) d1_18 rfl ?_
  refine s_land (z := ((own_ushrL t1 (2 : Int32)) &&& (3689348814741910323 : Int64))) 22 A S d1_21 rfl rfl ?_
  obtain ⟨t2, h_t2⟩ : ∃ z_, ((t1 &&& (3689348814741910323 : Int64)) + ((own_ushrL t1 (2 : Int32)) &&& (3689348814741910323 : Int64))) = z_ := ⟨_, rfl⟩
  refine s_ladd (z := t2) 23 A S d1_22 h_t2 rfl ?_
  refine s_lstoreN (Ls' := #[.val (.long t2), .second]) 24 A S d1_23 rfl rfl ?_
  refine s_lloadN 25 A S d1_24 rfl rfl ?_
  refine s_lloadN 26 A S d1_25 rfl rfl ?_
  refine s_iconst (z := (4 : Int32)) 27 A S d1_26 rfl rfl ?_
  refine s_lushr (z := (own_ushrL t2 (4 : Int32))) 28 A S d1_27 rfl rfl ?_
  refine s_ladd (z := (t2 + (own_ushrL t2 (4 : Int32)))) 29 A S d1_28 rfl rfl ?_
  refine s_ldc2 32 A S (hw _ (List.mem_of_getElem? (i := 7) rfl)) d1_29 rfl ?_
  obtain ⟨t3, h_t3⟩ : ∃ z_, ((t2 + (own_ushrL t2 (4 : Int32))) &&& (1085102592571150095 : Int64)) = z_ := ⟨_, rfl⟩
  refine s_land (z := t3) 33 A S d1_32 h_t3 rfl ?_
  refine s_lstoreN (Ls' := #[.val (.long t3), .second]) 34 A S d1_33 rfl rfl ?_
  refine s_lloadN 35 A S d1_34 rfl rfl ?_
  refine s_ldc2 38 A S (hw _ (List.mem_of_getElem? (i := 8) rfl)) d1_35 rfl ?_
  refine s_lmul (z := (t3 * (72340172838076673 : Int64))) 39 A S d1_38 rfl rfl ?_
  refine s_bipush (z := (56 : Int32)) 41 A S d1_39 rfl rfl ?_
  refine s_lushr (z := (own_ushrL (t3 * (72340172838076673 : Int64)) (56 : Int32))) 42 A S d1_41 rfl rfl ?_
  refine s_l2i (z := (((own_ushrL (t3 * (72340172838076673 : Int64)) (56 : Int32))).toInt32)) 43 A S d1_42 rfl rfl ?_
  exact s_retI A S d1_43 (by decide) (by decide) ⟨by subst h_t3 h_t2 h_t1; rfl, rfl⟩
theorem d2_0 : decode prog_20_method_1_code 0 = .ok (.aload_n 0, 1) := by decide +kernel
theorem d2_1 : decode prog_20_method_1_code 1 = .ok (.invokespecial 1, 3) := by decide +kernel
theorem d2_4 : decode prog_20_method_1_code 4 = .ok (.aload_n 0, 1) := by decide +kernel
theorem d2_5 : decode prog_20_method_1_code 5 = .ok (.aload_n 1, 1) := by decide +kernel
theorem d2_6 : decode prog_20_method_1_code 6 = .ok (.putfield 7, 3) := by decide +kernel
theorem d2_9 : decode prog_20_method_1_code 9 = .ok (.aload_n 0, 1) := by decide +kernel
theorem d2_10 : decode prog_20_method_1_code 10 = .ok (.iload_n 2, 1) := by decide +kernel
theorem d2_11 : decode prog_20_method_1_code 11 = .ok (.putfield 13, 3) := by decide +kernel
theorem d2_14 : decode prog_20_method_1_code 14 = .ok (.aload_n 0, 1) := by decide +kernel
theorem d2_15 : decode prog_20_method_1_code 15 = .ok (.iload_n 3, 1) := by decide +kernel
theorem d2_16 : decode prog_20_method_1_code 16 = .ok (.putfield 17, 3) := by decide +kernel
theorem d2_19 : decode prog_20_method_1_code 19 = .ok (.return_, 1) := by decide +kernel
theorem pn_2 : plainFor (⟨"com/example/orderly_sieve/orderlysieve/query/RowSet", "<init>", "([JII)V"⟩ : MethodName) = true := plainFor_of_name (by first | (simp [plainName, overriddenIn]; done) | decide +kernel)
theorem ef_2 (m : MethodId) (x0 : Addr) (x1 : Addr) (x2 : Int32) (x3 : Int32) : entryFrame m #[(.ref x0), (.ref x1), (.int x2), (.int x3)] 4 = mkF m 0 #[.val (.ref x0), .val (.ref x1), .val (.int x2), .val (.int x3)] [] := by first | (simp [entryFrame, mkF, argsToLocals, Value.category]; done) | rfl
set_option maxRecDepth 65536 in
set_option maxHeartbeats 40000000 in
theorem rm2 (l : Launch) (Z : State) (a0 : Array Value) (hw : ∀ d ∈ tables_1, d.before a0 Z = true) (ws : List Jvm.Cond) (b ar : Addr) (q r : Int32) (h0 : Heap) (n0 : Nat) (Z0 : n0 ≤ h0.size) (E0 : Exa Z h0 b "com/example/orderly_sieve/orderlysieve/query/RowSet") (F0 : Fld Z h0 b "com/example/orderly_sieve/orderlysieve/query/RowSet" "words" "[J" .null) (F1 : Fld Z h0 b "com/example/orderly_sieve/orderlysieve/query/RowSet" "size" "I" (.int (0 : Int32))) (F2 : Fld Z h0 b "com/example/orderly_sieve/orderlysieve/query/RowSet" "count" "I" (.int (0 : Int32))) (g0 : n0 ≤ b) :
    own_C l Z (⟨"com/example/orderly_sieve/orderlysieve/query/RowSet", "<init>", "([JII)V"⟩ : MethodName) prog_20_method_1_code 4 none ({ frames := 1, cells := 0, slots := 0, locals := 12 } : Room) n0 ws #[(.ref b), (.ref ar), (.int q), (.int r)] h0 (fun v h' => v = none ∧ Keep h0 h' [b] ∧ Exa Z h' b "com/example/orderly_sieve/orderlysieve/query/RowSet" ∧ Fld Z h' b "com/example/orderly_sieve/orderlysieve/query/RowSet" "words" "[J" (.ref ar) ∧ Fld Z h' b "com/example/orderly_sieve/orderlysieve/query/RowSet" "size" "I" (.int q) ∧ Fld Z h' b "com/example/orderly_sieve/orderlysieve/query/RowSet" "count" "I" (.int r)) := by
  refine own_C.of pn_2 Z0 ?_
  intro p e s m below meth c T A S
  rw [ef_2]
  refine s_aloadN 1 A S d2_0 rfl (by first | rfl | assumption) rfl ?_
  refine s_initO 4 A S (hw _ (List.mem_of_getElem? (i := 15) rfl)) (hw _ (List.mem_of_getElem? (i := 16) rfl)) (hw _ (List.mem_of_getElem? (i := 17) rfl)) d2_1 rfl rfl (by decide) (Nat.le_of_ble_eq_true rfl) fun T1 S2 => ?_
  refine s_aloadN 5 A S2 d2_4 rfl (by first | rfl | assumption) rfl ?_
  refine s_aloadN 6 A S2 d2_5 rfl (by first | rfl | assumption) rfl ?_
  refine s_putF (ty := (.array .long)) 9 A S2 (hw _ (List.mem_of_getElem? (i := 18) rfl)) F0 E0 (Or.inr ⟨(hw _ (List.mem_of_getElem? (i := 19) rfl)), rfl, rfl⟩) (hw _ (List.mem_of_getElem? (i := 10) rfl)) g0 d2_6 (by decide) rfl rfl rfl fun T3 h4 W6 S5 => ?_
  have F7 := Fld.same W6 F0
  have F9 := Fld.other W6 F1 (Or.inr (slot_ne (Or.inr (hw _ (List.mem_of_getElem? (i := 21) rfl))) (Or.inr (hw _ (List.mem_of_getElem? (i := 19) rfl))) (by decide) (t := .int) (t' := (.array .long)) (by decide) (by decide)))
  have F10 := Fld.other W6 F2 (Or.inr (slot_ne (Or.inl (hw _ (List.mem_of_getElem? (i := 23) rfl))) (Or.inr (hw _ (List.mem_of_getElem? (i := 19) rfl))) (by decide) (t := .int) (t' := (.array .long)) (by decide) (by decide)))
  have E11 := Exa.wr W6 E0
  have Z12 : n0 ≤ h4.size := by rw [W6.size]; exact Z0
  have K13 : Keep h0 h4 [b] := (Keep.refl h0 [b]).wr W6 (Or.inl (List.mem_of_getElem? (i := 0) rfl))
  refine s_aloadN 10 A S5 d2_9 rfl (by first | rfl | assumption) rfl ?_
  refine s_iloadN 11 A S5 d2_10 rfl rfl ?_
  refine s_putF (ty := .int) 14 A S5 (hw _ (List.mem_of_getElem? (i := 20) rfl)) F9 E11 (Or.inr ⟨(hw _ (List.mem_of_getElem? (i := 21) rfl)), rfl, rfl⟩) (hw _ (List.mem_of_getElem? (i := 10) rfl)) g0 d2_11 (by decide) rfl rfl rfl fun T14 h15 W17 S16 => ?_
  have F18 := Fld.same W17 F9
  have F19 := Fld.other W17 F7 (Or.inr (slot_ne (Or.inr (hw _ (List.mem_of_getElem? (i := 19) rfl))) (Or.inr (hw _ (List.mem_of_getElem? (i := 21) rfl))) (by decide) (t := (.array .long)) (t' := .int) (by decide) (by decide)))
  have F21 := Fld.other W17 F10 (Or.inr (slot_ne (Or.inl (hw _ (List.mem_of_getElem? (i := 23) rfl))) (Or.inr (hw _ (List.mem_of_getElem? (i := 21) rfl))) (by decide) (t := .int) (t' := .int) (by decide) (by decide)))
  have E22 := Exa.wr W17 E11
  have Z23 : n0 ≤ h15.size := by rw [W17.size]; exact Z12
  have K24 : Keep h0 h15 [b] := K13.wr W17 (Or.inl (List.mem_of_getElem? (i := 0) rfl))
  refine s_aloadN 15 A S16 d2_14 rfl (by first | rfl | assumption) rfl ?_
  refine s_iloadN 16 A S16 d2_15 rfl rfl ?_
  refine s_putF (ty := .int) 19 A S16 (hw _ (List.mem_of_getElem? (i := 22) rfl)) F21 E22 (Or.inl (hw _ (List.mem_of_getElem? (i := 23) rfl))) (hw _ (List.mem_of_getElem? (i := 10) rfl)) g0 d2_16 (by decide) rfl rfl rfl fun T25 h26 W28 S27 => ?_
  have F29 := Fld.same W28 F21
  have F30 := Fld.other W28 F19 (Or.inr (slot_ne (Or.inr (hw _ (List.mem_of_getElem? (i := 19) rfl))) (Or.inl (hw _ (List.mem_of_getElem? (i := 23) rfl))) (by decide) (t := (.array .long)) (t' := .int) (by decide) (by decide)))
  have F31 := Fld.other W28 F18 (Or.inr (slot_ne (Or.inr (hw _ (List.mem_of_getElem? (i := 21) rfl))) (Or.inl (hw _ (List.mem_of_getElem? (i := 23) rfl))) (by decide) (t := .int) (t' := .int) (by decide) (by decide)))
  have E33 := Exa.wr W28 E22
  have Z34 : n0 ≤ h26.size := by rw [W28.size]; exact Z23
  have K35 : Keep h0 h26 [b] := K24.wr W28 (Or.inl (List.mem_of_getElem? (i := 0) rfl))
  exact s_ret A S27 d2_19 (by decide) (by decide) ⟨rfl, K35, E33, F30, F31, F29⟩
theorem d4_0 : decode prog_20_method_8_code 0 = .ok (.aload_n 0, 1) := by decide +kernel
theorem d4_1 : decode prog_20_method_8_code 1 = .ok (.getfield 17, 3) := by decide +kernel
theorem d4_4 : decode prog_20_method_8_code 4 = .ok (.ifCond .ge 48, 3) := by decide +kernel
theorem d4_7 : decode prog_20_method_8_code 7 = .ok (.aload_n 0, 1) := by decide +kernel
theorem d4_8 : decode prog_20_method_8_code 8 = .ok (.iconst 0, 1) := by decide +kernel
theorem d4_9 : decode prog_20_method_8_code 9 = .ok (.putfield 17, 3) := by decide +kernel
theorem d4_12 : decode prog_20_method_8_code 12 = .ok (.aload_n 0, 1) := by decide +kernel
theorem d4_13 : decode prog_20_method_8_code 13 = .ok (.getfield 7, 3) := by decide +kernel
theorem d4_16 : decode prog_20_method_8_code 16 = .ok (.astore_n 1, 1) := by decide +kernel
theorem d4_17 : decode prog_20_method_8_code 17 = .ok (.aload_n 1, 1) := by decide +kernel
theorem d4_18 : decode prog_20_method_8_code 18 = .ok (.arraylength, 1) := by decide +kernel
theorem d4_19 : decode prog_20_method_8_code 19 = .ok (.istore_n 2, 1) := by decide +kernel
theorem d4_20 : decode prog_20_method_8_code 20 = .ok (.iconst 0, 1) := by decide +kernel
theorem d4_21 : decode prog_20_method_8_code 21 = .ok (.istore_n 3, 1) := by decide +kernel
theorem d4_22 : decode prog_20_method_8_code 22 = .ok (.iload_n 3, 1) := by decide +kernel
theorem d4_23 : decode prog_20_method_8_code 23 = .ok (.iload_n 2, 1) := by decide +kernel
theorem d4_24 : decode prog_20_method_8_code 24 = .ok (.if_icmp .ge 28, 3) := by decide +kernel
theorem d4_27 : decode prog_20_method_8_code 27 = .ok (.aload_n 1, 1) := by decide +kernel
theorem d4_28 : decode prog_20_method_8_code 28 = .ok (.iload_n 3, 1) := by decide +kernel
theorem d4_29 : decode prog_20_method_8_code 29 = .ok (.laload, 1) := by decide +kernel
theorem d4_30 : decode prog_20_method_8_code 30 = .ok (.lstore 4, 2) := by decide +kernel
theorem d4_32 : decode prog_20_method_8_code 32 = .ok (.aload_n 0, 1) := by decide +kernel
theorem d4_33 : decode prog_20_method_8_code 33 = .ok (.dup, 1) := by decide +kernel
theorem d4_34 : decode prog_20_method_8_code 34 = .ok (.getfield 17, 3) := by decide +kernel
theorem d4_37 : decode prog_20_method_8_code 37 = .ok (.lload 4, 2) := by decide +kernel
theorem d4_39 : decode prog_20_method_8_code 39 = .ok (.invokestatic 45, 3) := by decide +kernel
theorem d4_42 : decode prog_20_method_8_code 42 = .ok (.iadd, 1) := by decide +kernel
theorem d4_43 : decode prog_20_method_8_code 43 = .ok (.putfield 17, 3) := by decide +kernel
theorem d4_46 : decode prog_20_method_8_code 46 = .ok (.iinc 3 1, 3) := by decide +kernel
theorem d4_49 : decode prog_20_method_8_code 49 = .ok (.goto (-27), 3) := by decide +kernel
theorem d4_52 : decode prog_20_method_8_code 52 = .ok (.aload_n 0, 1) := by decide +kernel
theorem d4_53 : decode prog_20_method_8_code 53 = .ok (.getfield 17, 3) := by decide +kernel
theorem d4_56 : decode prog_20_method_8_code 56 = .ok (.ireturn, 1) := by decide +kernel
theorem pn_4 : plainFor (⟨"com/example/orderly_sieve/orderlysieve/query/RowSet", "count", "()I"⟩ : MethodName) = true := plainFor_of_name (by first | (simp [plainName, overriddenIn]; done) | decide +kernel)
theorem ef_4 (m : MethodId) (x0 : Addr) : entryFrame m #[(.ref x0)] 6 = mkF m 0 #[.val (.ref x0), .unset, .unset, .unset, .unset, .unset] [] := by first | (simp [entryFrame, mkF, argsToLocals, Value.category]; done) | rfl
set_option maxRecDepth 65536 in
set_option maxHeartbeats 40000000 in
theorem rmC3 (l : Launch) (Z : State) (a0 : Array Value) (hw : ∀ d ∈ tables_1, d.before a0 Z = true) (ws : List Jvm.Cond) (b ar : Addr) (k : ClassId) (r q : Int32) (x0 x1 x2 : Int64) (h0 : Heap) (n0 : Nat) (Z0 : n0 ≤ h0.size) (E0 : Exa Z h0 b "com/example/orderly_sieve/orderlysieve/query/RowSet") (F0 : Fld Z h0 b "com/example/orderly_sieve/orderlysieve/query/RowSet" "words" "[J" (.ref ar)) (F1 : Fld Z h0 b "com/example/orderly_sieve/orderlysieve/query/RowSet" "size" "I" (.int r)) (F2 : Fld Z h0 b "com/example/orderly_sieve/orderlysieve/query/RowSet" "count" "I" (.int q)) (V0 : Arv Z h0 ar k .long (3 : Int32) [(.long x0), (.long x1), (.long x2)] (.long 0)) (g0 : n0 ≤ b) (na : ar ≠ b) (hq : q.toInt < 0) :
    own_C l Z (⟨"com/example/orderly_sieve/orderlysieve/query/RowSet", "count", "()I"⟩ : MethodName) prog_20_method_8_code 6 (some .int) ({ frames := 1, cells := 0, slots := 0, locals := 15 } : Room) n0 ws #[(.ref b)] h0 (fun v h' => v = some (.int ((((0 : Int32) + (own_bc x0)) + (own_bc x1)) + (own_bc x2))) ∧ Keep h0 h' [b] ∧ Fld Z h' b "com/example/orderly_sieve/orderlysieve/query/RowSet" "words" "[J" (.ref ar) ∧ Fld Z h' b "com/example/orderly_sieve/orderlysieve/query/RowSet" "size" "I" (.int r) ∧ Fld Z h' b "com/example/orderly_sieve/orderlysieve/query/RowSet" "count" "I" (.int ((((0 : Int32) + (own_bc x0)) + (own_bc x1)) + (own_bc x2)))) := by
  refine own_C.of pn_4 Z0 ?_
  intro p e s m below meth c T A S
  rw [ef_4]
  refine s_aloadN 1 A S d4_0 rfl (by first | rfl | assumption) rfl ?_
  refine s_getF 4 A S (hw _ (List.mem_of_getElem? (i := 22) rfl)) F2 d4_1 rfl fun T1 S2 => ?_
  refine s_ifge 52 7 A S2 rfl d4_4 (by decide) (by decide) rfl (fun c3 => (by omega : False).elim) (fun c3 => ?_)
  refine s_aloadN 8 A S2 d4_7 rfl (by first | rfl | assumption) rfl ?_
  refine s_iconst (z := (0 : Int32)) 9 A S2 d4_8 rfl rfl ?_
  refine s_putF (ty := .int) 12 A S2 (hw _ (List.mem_of_getElem? (i := 22) rfl)) F2 E0 (Or.inl (hw _ (List.mem_of_getElem? (i := 23) rfl))) (hw _ (List.mem_of_getElem? (i := 10) rfl)) g0 d4_9 (by decide) rfl rfl rfl fun T4 h5 W7 S6 => ?_
  have F8 := Fld.same W7 F2
  have F9 := Fld.other W7 F0 (Or.inr (slot_ne (Or.inr (hw _ (List.mem_of_getElem? (i := 19) rfl))) (Or.inl (hw _ (List.mem_of_getElem? (i := 23) rfl))) (by decide) (t := (.array .long)) (t' := .int) (by decide) (by decide)))
  have F10 := Fld.other W7 F1 (Or.inr (slot_ne (Or.inr (hw _ (List.mem_of_getElem? (i := 21) rfl))) (Or.inl (hw _ (List.mem_of_getElem? (i := 23) rfl))) (by decide) (t := .int) (t' := .int) (by decide) (by decide)))
  have E12 := Exa.wr W7 E0
  have V13 := Arv.other V0 W7 na
  have Z14 : n0 ≤ h5.size := by rw [W7.size]; exact Z0
  have K15 : Keep h0 h5 [b] := (Keep.refl h0 [b]).wr W7 (Or.inl (List.mem_of_getElem? (i := 0) rfl))
  refine s_aloadN 13 A S6 d4_12 rfl (by first | rfl | assumption) rfl ?_
  refine s_getF 16 A S6 (hw _ (List.mem_of_getElem? (i := 18) rfl)) F9 d4_13 rfl fun T16 S17 => ?_
  refine s_astoreN (Ls' := #[.val (.ref b), .val (.ref ar), .unset, .unset, .unset, .unset]) 17 A S17 d4_16 (by first | rfl | assumption) rfl rfl ?_
  refine s_aloadN 18 A S17 d4_17 rfl (by first | rfl | assumption) rfl ?_
  refine s_alen 19 A S17 V13 d4_18 rfl ?_
  refine s_istoreN (Ls' := #[.val (.ref b), .val (.ref ar), .val (.int (3 : Int32)), .unset, .unset, .unset]) 20 A S17 d4_19 rfl rfl ?_
  refine s_iconst (z := (0 : Int32)) 21 A S17 d4_20 rfl rfl ?_
  refine s_istoreN (Ls' := #[.val (.ref b), .val (.ref ar), .val (.int (3 : Int32)), .val (.int (0 : Int32)), .unset, .unset]) 22 A S17 d4_21 rfl rfl ?_
  refine s_iloadN 23 A S17 d4_22 rfl rfl ?_
  refine s_iloadN 24 A S17 d4_23 rfl rfl ?_
  refine s_ige (xi := 0) (yi := 3) 52 27 A S17 rfl rfl d4_24 (by decide) (by decide) rfl (fun c18 => (by exact absurd c18 (by decide) : False).elim) (fun c18 => ?_)
  refine s_aloadN 28 A S17 d4_27 rfl (by first | rfl | assumption) rfl ?_
  refine s_iloadN 29 A S17 d4_28 rfl rfl ?_
  refine s_lald (v := (.long x0)) 30 A S17 V13 ⟨by decide, by decide⟩ rfl d4_29 rfl ?_
  refine s_lstore (Ls' := #[.val (.ref b), .val (.ref ar), .val (.int (3 : Int32)), .val (.int (0 : Int32)), .val (.long x0), .second]) 32 A S17 d4_30 rfl rfl ?_
  refine s_aloadN 33 A S17 d4_32 rfl (by first | rfl | assumption) rfl ?_
  refine s_dup 34 A S17 d4_33 rfl rfl ?_
  refine s_getF 37 A S17 (hw _ (List.mem_of_getElem? (i := 22) rfl)) F8 d4_34 rfl fun T19 S20 => ?_
  refine s_lload 39 A S20 d4_37 rfl rfl ?_
  refine s_callV (y := (⟨"java/lang/Long", "bitCount", "(J)I"⟩ : MethodName)) (argsL := [(.long x0)]) (rest := [(.int (0 : Int32)), (.ref b)]) 42 A S20 (hw _ (List.mem_of_getElem? (i := 34) rfl)) (hw _ (List.mem_of_getElem? (i := 35) rfl)) (hw _ (List.mem_of_getElem? (i := 36) rfl)) (hw _ (List.mem_of_getElem? (i := 37) rfl)) (rm6 l Z a0 hw [] x0 h5 n0 Z14) (lenOf pd__J_I rfl) d4_39 rfl rfl rfl (by decide) (by decide) (Nat.le_of_ble_eq_true rfl) (by decide) (by decide) fun T21 S22 => ?_
  refine s_iadd (z := ((0 : Int32) + (own_bc x0))) 43 A S22 d4_42 rfl rfl ?_
  refine s_putF (ty := .int) 46 A S22 (hw _ (List.mem_of_getElem? (i := 22) rfl)) F8 E12 (Or.inl (hw _ (List.mem_of_getElem? (i := 23) rfl))) (hw _ (List.mem_of_getElem? (i := 10) rfl)) g0 d4_43 (by decide) rfl rfl rfl fun T23 h24 W26 S25 => ?_
  have F27 := Fld.same W26 F8
  have F28 := Fld.other W26 F9 (Or.inr (slot_ne (Or.inr (hw _ (List.mem_of_getElem? (i := 19) rfl))) (Or.inl (hw _ (List.mem_of_getElem? (i := 23) rfl))) (by decide) (t := (.array .long)) (t' := .int) (by decide) (by decide)))
  have F29 := Fld.other W26 F10 (Or.inr (slot_ne (Or.inr (hw _ (List.mem_of_getElem? (i := 21) rfl))) (Or.inl (hw _ (List.mem_of_getElem? (i := 23) rfl))) (by decide) (t := .int) (t' := .int) (by decide) (by decide)))
  have E31 := Exa.wr W26 E12
  have V32 := Arv.other V13 W26 na
  have Z33 : n0 ≤ h24.size := by rw [W26.size]; exact Z14
  have K34 : Keep h0 h24 [b] := K15.wr W26 (Or.inl (List.mem_of_getElem? (i := 0) rfl))
  refine s_iinc (z := (1 : Int32)) (Ls' := #[.val (.ref b), .val (.ref ar), .val (.int (3 : Int32)), .val (.int (1 : Int32)), .val (.long x0), .second]) 49 A S25 d4_46 rfl (by decide) rfl rfl ?_
  refine s_goto 22 A S25 d4_49 (by decide) (by decide) ?_
  refine s_iloadN 23 A S25 d4_22 rfl rfl ?_
  refine s_iloadN 24 A S25 d4_23 rfl rfl ?_
  refine s_ige (xi := 1) (yi := 3) 52 27 A S25 rfl rfl d4_24 (by decide) (by decide) rfl (fun c35 => (by exact absurd c35 (by decide) : False).elim) (fun c35 => ?_)
  refine s_aloadN 28 A S25 d4_27 rfl (by first | rfl | assumption) rfl ?_
  refine s_iloadN 29 A S25 d4_28 rfl rfl ?_
  refine s_lald (v := (.long x1)) 30 A S25 V32 ⟨by decide, by decide⟩ rfl d4_29 rfl ?_
  refine s_lstore (Ls' := #[.val (.ref b), .val (.ref ar), .val (.int (3 : Int32)), .val (.int (1 : Int32)), .val (.long x1), .second]) 32 A S25 d4_30 rfl rfl ?_
  refine s_aloadN 33 A S25 d4_32 rfl (by first | rfl | assumption) rfl ?_
  refine s_dup 34 A S25 d4_33 rfl rfl ?_
  refine s_getF 37 A S25 (hw _ (List.mem_of_getElem? (i := 22) rfl)) F27 d4_34 rfl fun T36 S37 => ?_
  refine s_lload 39 A S37 d4_37 rfl rfl ?_
  refine s_callV (y := (⟨"java/lang/Long", "bitCount", "(J)I"⟩ : MethodName)) (argsL := [(.long x1)]) (rest := [(.int ((0 : Int32) + (own_bc x0))), (.ref b)]) 42 A S37 (hw _ (List.mem_of_getElem? (i := 34) rfl)) (hw _ (List.mem_of_getElem? (i := 35) rfl)) (hw _ (List.mem_of_getElem? (i := 36) rfl)) (hw _ (List.mem_of_getElem? (i := 37) rfl)) (rm6 l Z a0 hw [] x1 h24 n0 Z33) (lenOf pd__J_I rfl) d4_39 rfl rfl rfl (by decide) (by decide) (Nat.le_of_ble_eq_true rfl) (by decide) (by decide) fun T38 S39 => ?_
  refine s_iadd (z := (((0 : Int32) + (own_bc x0)) + (own_bc x1))) 43 A S39 d4_42 rfl rfl ?_
  refine s_putF (ty := .int) 46 A S39 (hw _ (List.mem_of_getElem? (i := 22) rfl)) F27 E31 (Or.inl (hw _ (List.mem_of_getElem? (i := 23) rfl))) (hw _ (List.mem_of_getElem? (i := 10) rfl)) g0 d4_43 (by decide) rfl rfl rfl fun T40 h41 W43 S42 => ?_
  have F44 := Fld.same W43 F27
  have F45 := Fld.other W43 F28 (Or.inr (slot_ne (Or.inr (hw _ (List.mem_of_getElem? (i := 19) rfl))) (Or.inl (hw _ (List.mem_of_getElem? (i := 23) rfl))) (by decide) (t := (.array .long)) (t' := .int) (by decide) (by decide)))
  have F46 := Fld.other W43 F29 (Or.inr (slot_ne (Or.inr (hw _ (List.mem_of_getElem? (i := 21) rfl))) (Or.inl (hw _ (List.mem_of_getElem? (i := 23) rfl))) (by decide) (t := .int) (t' := .int) (by decide) (by decide)))
  have E48 := Exa.wr W43 E31
  have V49 := Arv.other V32 W43 na
  have Z50 : n0 ≤ h41.size := by rw [W43.size]; exact Z33
  have K51 : Keep h0 h41 [b] := K34.wr W43 (Or.inl (List.mem_of_getElem? (i := 0) rfl))
  refine s_iinc (z := (2 : Int32)) (Ls' := #[.val (.ref b), .val (.ref ar), .val (.int (3 : Int32)), .val (.int (2 : Int32)), .val (.long x1), .second]) 49 A S42 d4_46 rfl (by decide) rfl rfl ?_
  refine s_goto 22 A S42 d4_49 (by decide) (by decide) ?_
  refine s_iloadN 23 A S42 d4_22 rfl rfl ?_
  refine s_iloadN 24 A S42 d4_23 rfl rfl ?_
  refine s_ige (xi := 2) (yi := 3) 52 27 A S42 rfl rfl d4_24 (by decide) (by decide) rfl (fun c52 => (by exact absurd c52 (by decide) : False).elim) (fun c52 => ?_)
  refine s_aloadN 28 A S42 d4_27 rfl (by first | rfl | assumption) rfl ?_
  refine s_iloadN 29 A S42 d4_28 rfl rfl ?_
  refine s_lald (v := (.long x2)) 30 A S42 V49 ⟨by decide, by decide⟩ rfl d4_29 rfl ?_
  refine s_lstore (Ls' := #[.val (.ref b), .val (.ref ar), .val (.int (3 : Int32)), .val (.int (2 : Int32)), .val (.long x2), .second]) 32 A S42 d4_30 rfl rfl ?_
  refine s_aloadN 33 A S42 d4_32 rfl (by first | rfl | assumption) rfl ?_
  refine s_dup 34 A S42 d4_33 rfl rfl ?_
  refine s_getF 37 A S42 (hw _ (List.mem_of_getElem? (i := 22) rfl)) F44 d4_34 rfl fun T53 S54 => ?_
  refine s_lload 39 A S54 d4_37 rfl rfl ?_
  refine s_callV (y := (⟨"java/lang/Long", "bitCount", "(J)I"⟩ : MethodName)) (argsL := [(.long x2)]) (rest := [(.int (((0 : Int32) + (own_bc x0)) + (own_bc x1))), (.ref b)]) 42 A S54 (hw _ (List.mem_of_getElem? (i := 34) rfl)) (hw _ (List.mem_of_getElem? (i := 35) rfl)) (hw _ (List.mem_of_getElem? (i := 36) rfl)) (hw _ (List.mem_of_getElem? (i := 37) rfl)) (rm6 l Z a0 hw [] x2 h41 n0 Z50) (lenOf pd__J_I rfl) d4_39 rfl rfl rfl (by decide) (by decide) (Nat.le_of_ble_eq_true rfl) (by decide) (by decide) fun T55 S56 => ?_
  refine s_iadd (z := ((((0 : Int32) + (own_bc x0)) + (own_bc x1)) + (own_bc x2))) 43 A S56 d4_42 rfl rfl ?_
  refine s_putF (ty := .int) 46 A S56 (hw _ (List.mem_of_getElem? (i := 22) rfl)) F44 E48 (Or.inl (hw _ (List.mem_of_getElem? (i := 23) rfl))) (hw _ (List.mem_of_getElem? (i := 10) rfl)) g0 d4_43 (by decide) rfl rfl rfl fun T57 h58 W60 S59 => ?_
  have F61 := Fld.same W60 F44
  have F62 := Fld.other W60 F45 (Or.inr (slot_ne (Or.inr (hw _ (List.mem_of_getElem? (i := 19) rfl))) (Or.inl (hw _ (List.mem_of_getElem? (i := 23) rfl))) (by decide) (t := (.array .long)) (t' := .int) (by decide) (by decide)))
  have F63 := Fld.other W60 F46 (Or.inr (slot_ne (Or.inr (hw _ (List.mem_of_getElem? (i := 21) rfl))) (Or.inl (hw _ (List.mem_of_getElem? (i := 23) rfl))) (by decide) (t := .int) (t' := .int) (by decide) (by decide)))
  have E65 := Exa.wr W60 E48
  have V66 := Arv.other V49 W60 na
  have Z67 : n0 ≤ h58.size := by rw [W60.size]; exact Z50
  have K68 : Keep h0 h58 [b] := K51.wr W60 (Or.inl (List.mem_of_getElem? (i := 0) rfl))
  refine s_iinc (z := (3 : Int32)) (Ls' := #[.val (.ref b), .val (.ref ar), .val (.int (3 : Int32)), .val (.int (3 : Int32)), .val (.long x2), .second]) 49 A S59 d4_46 rfl (by decide) rfl rfl ?_
  refine s_goto 22 A S59 d4_49 (by decide) (by decide) ?_
  refine s_iloadN 23 A S59 d4_22 rfl rfl ?_
  refine s_iloadN 24 A S59 d4_23 rfl rfl ?_
  refine s_ige (xi := 3) (yi := 3) 52 27 A S59 rfl rfl d4_24 (by decide) (by decide) rfl (fun c69 => ?_) (fun c69 => (by exact absurd c69 (by decide) : False).elim)
  refine s_aloadN 53 A S59 d4_52 rfl (by first | rfl | assumption) rfl ?_
  refine s_getF 56 A S59 (hw _ (List.mem_of_getElem? (i := 22) rfl)) F61 d4_53 rfl fun T70 S71 => ?_
  exact s_retI A S71 d4_56 (by decide) (by decide) ⟨rfl, K68, F62, F63, F61⟩
set_option maxRecDepth 65536 in
set_option maxHeartbeats 40000000 in
theorem rmC2 (l : Launch) (Z : State) (a0 : Array Value) (hw : ∀ d ∈ tables_1, d.before a0 Z = true) (ws : List Jvm.Cond) (b ar : Addr) (k : ClassId) (r q : Int32) (x0 x1 : Int64) (h0 : Heap) (n0 : Nat) (Z0 : n0 ≤ h0.size) (E0 : Exa Z h0 b "com/example/orderly_sieve/orderlysieve/query/RowSet") (F0 : Fld Z h0 b "com/example/orderly_sieve/orderlysieve/query/RowSet" "words" "[J" (.ref ar)) (F1 : Fld Z h0 b "com/example/orderly_sieve/orderlysieve/query/RowSet" "size" "I" (.int r)) (F2 : Fld Z h0 b "com/example/orderly_sieve/orderlysieve/query/RowSet" "count" "I" (.int q)) (V0 : Arv Z h0 ar k .long (2 : Int32) [(.long x0), (.long x1)] (.long 0)) (g0 : n0 ≤ b) (na : ar ≠ b) (hq : q.toInt < 0) :
    own_C l Z (⟨"com/example/orderly_sieve/orderlysieve/query/RowSet", "count", "()I"⟩ : MethodName) prog_20_method_8_code 6 (some .int) ({ frames := 1, cells := 0, slots := 0, locals := 15 } : Room) n0 ws #[(.ref b)] h0 (fun v h' => v = some (.int (((0 : Int32) + (own_bc x0)) + (own_bc x1))) ∧ Keep h0 h' [b] ∧ Fld Z h' b "com/example/orderly_sieve/orderlysieve/query/RowSet" "words" "[J" (.ref ar) ∧ Fld Z h' b "com/example/orderly_sieve/orderlysieve/query/RowSet" "size" "I" (.int r) ∧ Fld Z h' b "com/example/orderly_sieve/orderlysieve/query/RowSet" "count" "I" (.int (((0 : Int32) + (own_bc x0)) + (own_bc x1)))) := by
  refine own_C.of pn_4 Z0 ?_
  intro p e s m below meth c T A S
  rw [ef_4]
  refine s_aloadN 1 A S d4_0 rfl (by first | rfl | assumption) rfl ?_
  refine s_getF 4 A S (hw _ (List.mem_of_getElem? (i := 22) rfl)) F2 d4_1 rfl fun T1 S2 => ?_
  refine s_ifge 52 7 A S2 rfl d4_4 (by decide) (by decide) rfl (fun c3 => (by omega : False).elim) (fun c3 => ?_)
  refine s_aloadN 8 A S2 d4_7 rfl (by first | rfl | assumption) rfl ?_
  refine s_iconst (z := (0 : Int32)) 9 A S2 d4_8 rfl rfl ?_
  refine s_putF (ty := .int) 12 A S2 (hw _ (List.mem_of_getElem? (i := 22) rfl)) F2 E0 (Or.inl (hw _ (List.mem_of_getElem? (i := 23) rfl))) (hw _ (List.mem_of_getElem? (i := 10) rfl)) g0 d4_9 (by decide) rfl rfl rfl fun T4 h5 W7 S6 => ?_
  have F8 := Fld.same W7 F2
  have F9 := Fld.other W7 F0 (Or.inr (slot_ne (Or.inr (hw _ (List.mem_of_getElem? (i := 19) rfl))) (Or.inl (hw _ (List.mem_of_getElem? (i := 23) rfl))) (by decide) (t := (.array .long)) (t' := .int) (by decide) (by decide)))
  have F10 := Fld.other W7 F1 (Or.inr (slot_ne (Or.inr (hw _ (List.mem_of_getElem? (i := 21) rfl))) (Or.inl (hw _ (List.mem_of_getElem? (i := 23) rfl))) (by decide) (t := .int) (t' := .int) (by decide) (by decide)))
  have E12 := Exa.wr W7 E0
  have V13 := Arv.other V0 W7 na
  have Z14 : n0 ≤ h5.size := by rw [W7.size]; exact Z0
  have K15 : Keep h0 h5 [b] := (Keep.refl h0 [b]).wr W7 (Or.inl (List.mem_of_getElem? (i := 0) rfl))
  refine s_aloadN 13 A S6 d4_12 rfl (by first | rfl | assumption) rfl ?_
  refine s_getF 16 A S6 (hw _ (List.mem_of_getElem? (i := 18) rfl)) F9 d4_13 rfl fun T16 S17 => ?_
  refine s_astoreN (Ls' := #[.val (.ref b), .val (.ref ar), .unset, .unset, .unset, .unset]) 17 A S17 d4_16 (by first | rfl | assumption) rfl rfl ?_
  refine s_aloadN 18 A S17 d4_17 rfl (by first | rfl | assumption) rfl ?_
  refine s_alen 19 A S17 V13 d4_18 rfl ?_
  refine s_istoreN (Ls' := #[.val (.ref b), .val (.ref ar), .val (.int (2 : Int32)), .unset, .unset, .unset]) 20 A S17 d4_19 rfl rfl ?_
  refine s_iconst (z := (0 : Int32)) 21 A S17 d4_20 rfl rfl ?_
  refine s_istoreN (Ls' := #[.val (.ref b), .val (.ref ar), .val (.int (2 : Int32)), .val (.int (0 : Int32)), .unset, .unset]) 22 A S17 d4_21 rfl rfl ?_
  refine s_iloadN 23 A S17 d4_22 rfl rfl ?_
  refine s_iloadN 24 A S17 d4_23 rfl rfl ?_
  refine s_ige (xi := 0) (yi := 2) 52 27 A S17 rfl rfl d4_24 (by decide) (by decide) rfl (fun c18 => (by exact absurd c18 (by decide) : False).elim) (fun c18 => ?_)
  refine s_aloadN 28 A S17 d4_27 rfl (by first | rfl | assumption) rfl ?_
  refine s_iloadN 29 A S17 d4_28 rfl rfl ?_
  refine s_lald (v := (.long x0)) 30 A S17 V13 ⟨by decide, by decide⟩ rfl d4_29 rfl ?_
  refine s_lstore (Ls' := #[.val (.ref b), .val (.ref ar), .val (.int (2 : Int32)), .val (.int (0 : Int32)), .val (.long x0), .second]) 32 A S17 d4_30 rfl rfl ?_
  refine s_aloadN 33 A S17 d4_32 rfl (by first | rfl | assumption) rfl ?_
  refine s_dup 34 A S17 d4_33 rfl rfl ?_
  refine s_getF 37 A S17 (hw _ (List.mem_of_getElem? (i := 22) rfl)) F8 d4_34 rfl fun T19 S20 => ?_
  refine s_lload 39 A S20 d4_37 rfl rfl ?_
  refine s_callV (y := (⟨"java/lang/Long", "bitCount", "(J)I"⟩ : MethodName)) (argsL := [(.long x0)]) (rest := [(.int (0 : Int32)), (.ref b)]) 42 A S20 (hw _ (List.mem_of_getElem? (i := 34) rfl)) (hw _ (List.mem_of_getElem? (i := 35) rfl)) (hw _ (List.mem_of_getElem? (i := 36) rfl)) (hw _ (List.mem_of_getElem? (i := 37) rfl)) (rm6 l Z a0 hw [] x0 h5 n0 Z14) (lenOf pd__J_I rfl) d4_39 rfl rfl rfl (by decide) (by decide) (Nat.le_of_ble_eq_true rfl) (by decide) (by decide) fun T21 S22 => ?_
  refine s_iadd (z := ((0 : Int32) + (own_bc x0))) 43 A S22 d4_42 rfl rfl ?_
  refine s_putF (ty := .int) 46 A S22 (hw _ (List.mem_of_getElem? (i := 22) rfl)) F8 E12 (Or.inl (hw _ (List.mem_of_getElem? (i := 23) rfl))) (hw _ (List.mem_of_getElem? (i := 10) rfl)) g0 d4_43 (by decide) rfl rfl rfl fun T23 h24 W26 S25 => ?_
  have F27 := Fld.same W26 F8
  have F28 := Fld.other W26 F9 (Or.inr (slot_ne (Or.inr (hw _ (List.mem_of_getElem? (i := 19) rfl))) (Or.inl (hw _ (List.mem_of_getElem? (i := 23) rfl))) (by decide) (t := (.array .long)) (t' := .int) (by decide) (by decide)))
  have F29 := Fld.other W26 F10 (Or.inr (slot_ne (Or.inr (hw _ (List.mem_of_getElem? (i := 21) rfl))) (Or.inl (hw _ (List.mem_of_getElem? (i := 23) rfl))) (by decide) (t := .int) (t' := .int) (by decide) (by decide)))
  have E31 := Exa.wr W26 E12
  have V32 := Arv.other V13 W26 na
  have Z33 : n0 ≤ h24.size := by rw [W26.size]; exact Z14
  have K34 : Keep h0 h24 [b] := K15.wr W26 (Or.inl (List.mem_of_getElem? (i := 0) rfl))
  refine s_iinc (z := (1 : Int32)) (Ls' := #[.val (.ref b), .val (.ref ar), .val (.int (2 : Int32)), .val (.int (1 : Int32)), .val (.long x0), .second]) 49 A S25 d4_46 rfl (by decide) rfl rfl ?_
  refine s_goto 22 A S25 d4_49 (by decide) (by decide) ?_
  refine s_iloadN 23 A S25 d4_22 rfl rfl ?_
  refine s_iloadN 24 A S25 d4_23 rfl rfl ?_
  refine s_ige (xi := 1) (yi := 2) 52 27 A S25 rfl rfl d4_24 (by decide) (by decide) rfl (fun c35 => (by exact absurd c35 (by decide) : False).elim) (fun c35 => ?_)
  refine s_aloadN 28 A S25 d4_27 rfl (by first | rfl | assumption) rfl ?_
  refine s_iloadN 29 A S25 d4_28 rfl rfl ?_
  refine s_lald (v := (.long x1)) 30 A S25 V32 ⟨by decide, by decide⟩ rfl d4_29 rfl ?_
  refine s_lstore (Ls' := #[.val (.ref b), .val (.ref ar), .val (.int (2 : Int32)), .val (.int (1 : Int32)), .val (.long x1), .second]) 32 A S25 d4_30 rfl rfl ?_
  refine s_aloadN 33 A S25 d4_32 rfl (by first | rfl | assumption) rfl ?_
  refine s_dup 34 A S25 d4_33 rfl rfl ?_
  refine s_getF 37 A S25 (hw _ (List.mem_of_getElem? (i := 22) rfl)) F27 d4_34 rfl fun T36 S37 => ?_
  refine s_lload 39 A S37 d4_37 rfl rfl ?_
  refine s_callV (y := (⟨"java/lang/Long", "bitCount", "(J)I"⟩ : MethodName)) (argsL := [(.long x1)]) (rest := [(.int ((0 : Int32) + (own_bc x0))), (.ref b)]) 42 A S37 (hw _ (List.mem_of_getElem? (i := 34) rfl)) (hw _ (List.mem_of_getElem? (i := 35) rfl)) (hw _ (List.mem_of_getElem? (i := 36) rfl)) (hw _ (List.mem_of_getElem? (i := 37) rfl)) (rm6 l Z a0 hw [] x1 h24 n0 Z33) (lenOf pd__J_I rfl) d4_39 rfl rfl rfl (by decide) (by decide) (Nat.le_of_ble_eq_true rfl) (by decide) (by decide) fun T38 S39 => ?_
  refine s_iadd (z := (((0 : Int32) + (own_bc x0)) + (own_bc x1))) 43 A S39 d4_42 rfl rfl ?_
  refine s_putF (ty := .int) 46 A S39 (hw _ (List.mem_of_getElem? (i := 22) rfl)) F27 E31 (Or.inl (hw _ (List.mem_of_getElem? (i := 23) rfl))) (hw _ (List.mem_of_getElem? (i := 10) rfl)) g0 d4_43 (by decide) rfl rfl rfl fun T40 h41 W43 S42 => ?_
  have F44 := Fld.same W43 F27
  have F45 := Fld.other W43 F28 (Or.inr (slot_ne (Or.inr (hw _ (List.mem_of_getElem? (i := 19) rfl))) (Or.inl (hw _ (List.mem_of_getElem? (i := 23) rfl))) (by decide) (t := (.array .long)) (t' := .int) (by decide) (by decide)))
  have F46 := Fld.other W43 F29 (Or.inr (slot_ne (Or.inr (hw _ (List.mem_of_getElem? (i := 21) rfl))) (Or.inl (hw _ (List.mem_of_getElem? (i := 23) rfl))) (by decide) (t := .int) (t' := .int) (by decide) (by decide)))
  have E48 := Exa.wr W43 E31
  have V49 := Arv.other V32 W43 na
  have Z50 : n0 ≤ h41.size := by rw [W43.size]; exact Z33
  have K51 : Keep h0 h41 [b] := K34.wr W43 (Or.inl (List.mem_of_getElem? (i := 0) rfl))
  refine s_iinc (z := (2 : Int32)) (Ls' := #[.val (.ref b), .val (.ref ar), .val (.int (2 : Int32)), .val (.int (2 : Int32)), .val (.long x1), .second]) 49 A S42 d4_46 rfl (by decide) rfl rfl ?_
  refine s_goto 22 A S42 d4_49 (by decide) (by decide) ?_
  refine s_iloadN 23 A S42 d4_22 rfl rfl ?_
  refine s_iloadN 24 A S42 d4_23 rfl rfl ?_
  refine s_ige (xi := 2) (yi := 2) 52 27 A S42 rfl rfl d4_24 (by decide) (by decide) rfl (fun c52 => ?_) (fun c52 => (by exact absurd c52 (by decide) : False).elim)
  refine s_aloadN 53 A S42 d4_52 rfl (by first | rfl | assumption) rfl ?_
  refine s_getF 56 A S42 (hw _ (List.mem_of_getElem? (i := 22) rfl)) F44 d4_53 rfl fun T53 S54 => ?_
  exact s_retI A S54 d4_56 (by decide) (by decide) ⟨rfl, K51, F45, F46, F44⟩
set_option maxRecDepth 65536 in
set_option maxHeartbeats 40000000 in
theorem rmC1 (l : Launch) (Z : State) (a0 : Array Value) (hw : ∀ d ∈ tables_1, d.before a0 Z = true) (ws : List Jvm.Cond) (b ar : Addr) (k : ClassId) (r q : Int32) (x0 : Int64) (h0 : Heap) (n0 : Nat) (Z0 : n0 ≤ h0.size) (E0 : Exa Z h0 b "com/example/orderly_sieve/orderlysieve/query/RowSet") (F0 : Fld Z h0 b "com/example/orderly_sieve/orderlysieve/query/RowSet" "words" "[J" (.ref ar)) (F1 : Fld Z h0 b "com/example/orderly_sieve/orderlysieve/query/RowSet" "size" "I" (.int r)) (F2 : Fld Z h0 b "com/example/orderly_sieve/orderlysieve/query/RowSet" "count" "I" (.int q)) (V0 : Arv Z h0 ar k .long (1 : Int32) [(.long x0)] (.long 0)) (g0 : n0 ≤ b) (na : ar ≠ b) (hq : q.toInt < 0) :
    own_C l Z (⟨"com/example/orderly_sieve/orderlysieve/query/RowSet", "count", "()I"⟩ : MethodName) prog_20_method_8_code 6 (some .int) ({ frames := 1, cells := 0, slots := 0, locals := 15 } : Room) n0 ws #[(.ref b)] h0 (fun v h' => v = some (.int ((0 : Int32) + (own_bc x0))) ∧ Keep h0 h' [b] ∧ Fld Z h' b "com/example/orderly_sieve/orderlysieve/query/RowSet" "words" "[J" (.ref ar) ∧ Fld Z h' b "com/example/orderly_sieve/orderlysieve/query/RowSet" "size" "I" (.int r) ∧ Fld Z h' b "com/example/orderly_sieve/orderlysieve/query/RowSet" "count" "I" (.int ((0 : Int32) + (own_bc x0)))) := by
  refine own_C.of pn_4 Z0 ?_
  intro p e s m below meth c T A S
  rw [ef_4]
  refine s_aloadN 1 A S d4_0 rfl (by first | rfl | assumption) rfl ?_
  refine s_getF 4 A S (hw _ (List.mem_of_getElem? (i := 22) rfl)) F2 d4_1 rfl fun T1 S2 => ?_
  refine s_ifge 52 7 A S2 rfl d4_4 (by decide) (by decide) rfl (fun c3 => (by omega : False).elim) (fun c3 => ?_)
  refine s_aloadN 8 A S2 d4_7 rfl (by first | rfl | assumption) rfl ?_
  refine s_iconst (z := (0 : Int32)) 9 A S2 d4_8 rfl rfl ?_
  refine s_putF (ty := .int) 12 A S2 (hw _ (List.mem_of_getElem? (i := 22) rfl)) F2 E0 (Or.inl (hw _ (List.mem_of_getElem? (i := 23) rfl))) (hw _ (List.mem_of_getElem? (i := 10) rfl)) g0 d4_9 (by decide) rfl rfl rfl fun T4 h5 W7 S6 => ?_
  have F8 := Fld.same W7 F2
  have F9 := Fld.other W7 F0 (Or.inr (slot_ne (Or.inr (hw _ (List.mem_of_getElem? (i := 19) rfl))) (Or.inl (hw _ (List.mem_of_getElem? (i := 23) rfl))) (by decide) (t := (.array .long)) (t' := .int) (by decide) (by decide)))
  have F10 := Fld.other W7 F1 (Or.inr (slot_ne (Or.inr (hw _ (List.mem_of_getElem? (i := 21) rfl))) (Or.inl (hw _ (List.mem_of_getElem? (i := 23) rfl))) (by decide) (t := .int) (t' := .int) (by decide) (by decide)))
  have E12 := Exa.wr W7 E0
  have V13 := Arv.other V0 W7 na
  have Z14 : n0 ≤ h5.size := by rw [W7.size]; exact Z0
  have K15 : Keep h0 h5 [b] := (Keep.refl h0 [b]).wr W7 (Or.inl (List.mem_of_getElem? (i := 0) rfl))
  refine s_aloadN 13 A S6 d4_12 rfl (by first | rfl | assumption) rfl ?_
  refine s_getF 16 A S6 (hw _ (List.mem_of_getElem? (i := 18) rfl)) F9 d4_13 rfl fun T16 S17 => ?_
  refine s_astoreN (Ls' := #[.val (.ref b), .val (.ref ar), .unset, .unset, .unset, .unset]) 17 A S17 d4_16 (by first | rfl | assumption) rfl rfl ?_
  refine s_aloadN 18 A S17 d4_17 rfl (by first | rfl | assumption) rfl ?_
  refine s_alen 19 A S17 V13 d4_18 rfl ?_
  refine s_istoreN (Ls' := #[.val (.ref b), .val (.ref ar), .val (.int (1 : Int32)), .unset, .unset, .unset]) 20 A S17 d4_19 rfl rfl ?_
  refine s_iconst (z := (0 : Int32)) 21 A S17 d4_20 rfl rfl ?_
  refine s_istoreN (Ls' := #[.val (.ref b), .val (.ref ar), .val (.int (1 : Int32)), .val (.int (0 : Int32)), .unset, .unset]) 22 A S17 d4_21 rfl rfl ?_
  refine s_iloadN 23 A S17 d4_22 rfl rfl ?_
  refine s_iloadN 24 A S17 d4_23 rfl rfl ?_
  refine s_ige (xi := 0) (yi := 1) 52 27 A S17 rfl rfl d4_24 (by decide) (by decide) rfl (fun c18 => (by exact absurd c18 (by decide) : False).elim) (fun c18 => ?_)
  refine s_aloadN 28 A S17 d4_27 rfl (by first | rfl | assumption) rfl ?_
  refine s_iloadN 29 A S17 d4_28 rfl rfl ?_
  refine s_lald (v := (.long x0)) 30 A S17 V13 ⟨by decide, by decide⟩ rfl d4_29 rfl ?_
  refine s_lstore (Ls' := #[.val (.ref b), .val (.ref ar), .val (.int (1 : Int32)), .val (.int (0 : Int32)), .val (.long x0), .second]) 32 A S17 d4_30 rfl rfl ?_
  refine s_aloadN 33 A S17 d4_32 rfl (by first | rfl | assumption) rfl ?_
  refine s_dup 34 A S17 d4_33 rfl rfl ?_
  refine s_getF 37 A S17 (hw _ (List.mem_of_getElem? (i := 22) rfl)) F8 d4_34 rfl fun T19 S20 => ?_
  refine s_lload 39 A S20 d4_37 rfl rfl ?_
  refine s_callV (y := (⟨"java/lang/Long", "bitCount", "(J)I"⟩ : MethodName)) (argsL := [(.long x0)]) (rest := [(.int (0 : Int32)), (.ref b)]) 42 A S20 (hw _ (List.mem_of_getElem? (i := 34) rfl)) (hw _ (List.mem_of_getElem? (i := 35) rfl)) (hw _ (List.mem_of_getElem? (i := 36) rfl)) (hw _ (List.mem_of_getElem? (i := 37) rfl)) (rm6 l Z a0 hw [] x0 h5 n0 Z14) (lenOf pd__J_I rfl) d4_39 rfl rfl rfl (by decide) (by decide) (Nat.le_of_ble_eq_true rfl) (by decide) (by decide) fun T21 S22 => ?_
  refine s_iadd (z := ((0 : Int32) + (own_bc x0))) 43 A S22 d4_42 rfl rfl ?_
  refine s_putF (ty := .int) 46 A S22 (hw _ (List.mem_of_getElem? (i := 22) rfl)) F8 E12 (Or.inl (hw _ (List.mem_of_getElem? (i := 23) rfl))) (hw _ (List.mem_of_getElem? (i := 10) rfl)) g0 d4_43 (by decide) rfl rfl rfl fun T23 h24 W26 S25 => ?_
  have F27 := Fld.same W26 F8
  have F28 := Fld.other W26 F9 (Or.inr (slot_ne (Or.inr (hw _ (List.mem_of_getElem? (i := 19) rfl))) (Or.inl (hw _ (List.mem_of_getElem? (i := 23) rfl))) (by decide) (t := (.array .long)) (t' := .int) (by decide) (by decide)))
  have F29 := Fld.other W26 F10 (Or.inr (slot_ne (Or.inr (hw _ (List.mem_of_getElem? (i := 21) rfl))) (Or.inl (hw _ (List.mem_of_getElem? (i := 23) rfl))) (by decide) (t := .int) (t' := .int) (by decide) (by decide)))
  have E31 := Exa.wr W26 E12
  have V32 := Arv.other V13 W26 na
  have Z33 : n0 ≤ h24.size := by rw [W26.size]; exact Z14
  have K34 : Keep h0 h24 [b] := K15.wr W26 (Or.inl (List.mem_of_getElem? (i := 0) rfl))
  refine s_iinc (z := (1 : Int32)) (Ls' := #[.val (.ref b), .val (.ref ar), .val (.int (1 : Int32)), .val (.int (1 : Int32)), .val (.long x0), .second]) 49 A S25 d4_46 rfl (by decide) rfl rfl ?_
  refine s_goto 22 A S25 d4_49 (by decide) (by decide) ?_
  refine s_iloadN 23 A S25 d4_22 rfl rfl ?_
  refine s_iloadN 24 A S25 d4_23 rfl rfl ?_
  refine s_ige (xi := 1) (yi := 1) 52 27 A S25 rfl rfl d4_24 (by decide) (by decide) rfl (fun c35 => ?_) (fun c35 => (by exact absurd c35 (by decide) : False).elim)
  refine s_aloadN 53 A S25 d4_52 rfl (by first | rfl | assumption) rfl ?_
  refine s_getF 56 A S25 (hw _ (List.mem_of_getElem? (i := 22) rfl)) F27 d4_53 rfl fun T36 S37 => ?_
  exact s_retI A S37 d4_56 (by decide) (by decide) ⟨rfl, K34, F28, F29, F27⟩
set_option maxRecDepth 65536 in
set_option maxHeartbeats 40000000 in
theorem rmC0 (l : Launch) (Z : State) (a0 : Array Value) (hw : ∀ d ∈ tables_1, d.before a0 Z = true) (ws : List Jvm.Cond) (b ar : Addr) (k : ClassId) (r q : Int32) (h0 : Heap) (n0 : Nat) (Z0 : n0 ≤ h0.size) (E0 : Exa Z h0 b "com/example/orderly_sieve/orderlysieve/query/RowSet") (F0 : Fld Z h0 b "com/example/orderly_sieve/orderlysieve/query/RowSet" "words" "[J" (.ref ar)) (F1 : Fld Z h0 b "com/example/orderly_sieve/orderlysieve/query/RowSet" "size" "I" (.int r)) (F2 : Fld Z h0 b "com/example/orderly_sieve/orderlysieve/query/RowSet" "count" "I" (.int q)) (V0 : Arv Z h0 ar k .long (0 : Int32) [] (.long 0)) (g0 : n0 ≤ b) (na : ar ≠ b) (hq : q.toInt < 0) :
    own_C l Z (⟨"com/example/orderly_sieve/orderlysieve/query/RowSet", "count", "()I"⟩ : MethodName) prog_20_method_8_code 6 (some .int) ({ frames := 0, cells := 0, slots := 0, locals := 0 } : Room) n0 ws #[(.ref b)] h0 (fun v h' => v = some (.int (0 : Int32)) ∧ Keep h0 h' [b] ∧ Fld Z h' b "com/example/orderly_sieve/orderlysieve/query/RowSet" "words" "[J" (.ref ar) ∧ Fld Z h' b "com/example/orderly_sieve/orderlysieve/query/RowSet" "size" "I" (.int r) ∧ Fld Z h' b "com/example/orderly_sieve/orderlysieve/query/RowSet" "count" "I" (.int (0 : Int32))) := by
  refine own_C.of pn_4 Z0 ?_
  intro p e s m below meth c T A S
  rw [ef_4]
  refine s_aloadN 1 A S d4_0 rfl (by first | rfl | assumption) rfl ?_
  refine s_getF 4 A S (hw _ (List.mem_of_getElem? (i := 22) rfl)) F2 d4_1 rfl fun T1 S2 => ?_
  refine s_ifge 52 7 A S2 rfl d4_4 (by decide) (by decide) rfl (fun c3 => (by omega : False).elim) (fun c3 => ?_)
  refine s_aloadN 8 A S2 d4_7 rfl (by first | rfl | assumption) rfl ?_
  refine s_iconst (z := (0 : Int32)) 9 A S2 d4_8 rfl rfl ?_
  refine s_putF (ty := .int) 12 A S2 (hw _ (List.mem_of_getElem? (i := 22) rfl)) F2 E0 (Or.inl (hw _ (List.mem_of_getElem? (i := 23) rfl))) (hw _ (List.mem_of_getElem? (i := 10) rfl)) g0 d4_9 (by decide) rfl rfl rfl fun T4 h5 W7 S6 => ?_
  have F8 := Fld.same W7 F2
  have F9 := Fld.other W7 F0 (Or.inr (slot_ne (Or.inr (hw _ (List.mem_of_getElem? (i := 19) rfl))) (Or.inl (hw _ (List.mem_of_getElem? (i := 23) rfl))) (by decide) (t := (.array .long)) (t' := .int) (by decide) (by decide)))
  have F10 := Fld.other W7 F1 (Or.inr (slot_ne (Or.inr (hw _ (List.mem_of_getElem? (i := 21) rfl))) (Or.inl (hw _ (List.mem_of_getElem? (i := 23) rfl))) (by decide) (t := .int) (t' := .int) (by decide) (by decide)))
  have E12 := Exa.wr W7 E0
  have V13 := Arv.other V0 W7 na
  have Z14 : n0 ≤ h5.size := by rw [W7.size]; exact Z0
  have K15 : Keep h0 h5 [b] := (Keep.refl h0 [b]).wr W7 (Or.inl (List.mem_of_getElem? (i := 0) rfl))
  refine s_aloadN 13 A S6 d4_12 rfl (by first | rfl | assumption) rfl ?_
  refine s_getF 16 A S6 (hw _ (List.mem_of_getElem? (i := 18) rfl)) F9 d4_13 rfl fun T16 S17 => ?_
  refine s_astoreN (Ls' := #[.val (.ref b), .val (.ref ar), .unset, .unset, .unset, .unset]) 17 A S17 d4_16 (by first | rfl | assumption) rfl rfl ?_
  refine s_aloadN 18 A S17 d4_17 rfl (by first | rfl | assumption) rfl ?_
  refine s_alen 19 A S17 V13 d4_18 rfl ?_
  refine s_istoreN (Ls' := #[.val (.ref b), .val (.ref ar), .val (.int (0 : Int32)), .unset, .unset, .unset]) 20 A S17 d4_19 rfl rfl ?_
  refine s_iconst (z := (0 : Int32)) 21 A S17 d4_20 rfl rfl ?_
  refine s_istoreN (Ls' := #[.val (.ref b), .val (.ref ar), .val (.int (0 : Int32)), .val (.int (0 : Int32)), .unset, .unset]) 22 A S17 d4_21 rfl rfl ?_
  refine s_iloadN 23 A S17 d4_22 rfl rfl ?_
  refine s_iloadN 24 A S17 d4_23 rfl rfl ?_
  refine s_ige (xi := 0) (yi := 0) 52 27 A S17 rfl rfl d4_24 (by decide) (by decide) rfl (fun c18 => ?_) (fun c18 => (by exact absurd c18 (by decide) : False).elim)
  refine s_aloadN 53 A S17 d4_52 rfl (by first | rfl | assumption) rfl ?_
  refine s_getF 56 A S17 (hw _ (List.mem_of_getElem? (i := 22) rfl)) F8 d4_53 rfl fun T19 S20 => ?_
  exact s_retI A S20 d4_56 (by decide) (by decide) ⟨rfl, K15, F9, F10, F8⟩
set_option maxRecDepth 65536 in
set_option maxHeartbeats 40000000 in
theorem rmCpos (l : Launch) (Z : State) (a0 : Array Value) (hw : ∀ d ∈ tables_1, d.before a0 Z = true) (ws : List Jvm.Cond) (b : Addr) (q : Int32) (h0 : Heap) (n0 : Nat) (Z0 : n0 ≤ h0.size) (F2 : Fld Z h0 b "com/example/orderly_sieve/orderlysieve/query/RowSet" "count" "I" (.int q)) (hq : 0 ≤ q.toInt) :
    own_C l Z (⟨"com/example/orderly_sieve/orderlysieve/query/RowSet", "count", "()I"⟩ : MethodName) prog_20_method_8_code 6 (some .int) ({ frames := 0, cells := 0, slots := 0, locals := 0 } : Room) n0 ws #[(.ref b)] h0 (fun v h' => v = some (.int q) ∧ h' = h0) := by
  refine own_C.of pn_4 Z0 ?_
  intro p e s m below meth c T A S
  rw [ef_4]
  refine s_aloadN 1 A S d4_0 rfl (by first | rfl | assumption) rfl ?_
  refine s_getF 4 A S (hw _ (List.mem_of_getElem? (i := 22) rfl)) F2 d4_1 rfl fun T1 S2 => ?_
  refine s_ifge 52 7 A S2 rfl d4_4 (by decide) (by decide) rfl (fun c3 => ?_) (fun c3 => (by omega : False).elim)
  refine s_aloadN 53 A S2 d4_52 rfl (by first | rfl | assumption) rfl ?_
  refine s_getF 56 A S2 (hw _ (List.mem_of_getElem? (i := 22) rfl)) F2 d4_53 rfl fun T4 S5 => ?_
  exact s_retI A S5 d4_56 (by decide) (by decide) ⟨rfl, rfl⟩
theorem d5_0 : decode prog_20_method_6_code 0 = .ok (.aload_n 0, 1) := by decide +kernel
theorem d5_1 : decode prog_20_method_6_code 1 = .ok (.iconst (-1), 1) := by decide +kernel
theorem d5_2 : decode prog_20_method_6_code 2 = .ok (.putfield 17, 3) := by decide +kernel
theorem d5_5 : decode prog_20_method_6_code 5 = .ok (.aload_n 0, 1) := by decide +kernel
theorem d5_6 : decode prog_20_method_6_code 6 = .ok (.getfield 7, 3) := by decide +kernel
theorem d5_9 : decode prog_20_method_6_code 9 = .ok (.areturn, 1) := by decide +kernel
theorem pn_5 : plainFor (⟨"com/example/orderly_sieve/orderlysieve/query/RowSet", "words", "()[J"⟩ : MethodName) = true := plainFor_of_name (by first | (simp [plainName, overriddenIn]; done) | decide +kernel)
theorem ef_5 (m : MethodId) (x0 : Addr) : entryFrame m #[(.ref x0)] 1 = mkF m 0 #[.val (.ref x0)] [] := by first | (simp [entryFrame, mkF, argsToLocals, Value.category]; done) | rfl
set_option maxRecDepth 65536 in
set_option maxHeartbeats 40000000 in
theorem rm5 (l : Launch) (Z : State) (a0 : Array Value) (hw : ∀ d ∈ tables_1, d.before a0 Z = true) (ws : List Jvm.Cond) (b ar : Addr) (r q : Int32) (h0 : Heap) (n0 : Nat) (Z0 : n0 ≤ h0.size) (E0 : Exa Z h0 b "com/example/orderly_sieve/orderlysieve/query/RowSet") (F0 : Fld Z h0 b "com/example/orderly_sieve/orderlysieve/query/RowSet" "words" "[J" (.ref ar)) (F1 : Fld Z h0 b "com/example/orderly_sieve/orderlysieve/query/RowSet" "size" "I" (.int r)) (F2 : Fld Z h0 b "com/example/orderly_sieve/orderlysieve/query/RowSet" "count" "I" (.int q)) (g0 : n0 ≤ b) :
    own_C l Z (⟨"com/example/orderly_sieve/orderlysieve/query/RowSet", "words", "()[J"⟩ : MethodName) prog_20_method_6_code 1 (some (.array .long)) ({ frames := 0, cells := 0, slots := 0, locals := 0 } : Room) n0 ws #[(.ref b)] h0 (fun v h' => v = some (.ref ar) ∧ Keep h0 h' [b] ∧ Fld Z h' b "com/example/orderly_sieve/orderlysieve/query/RowSet" "words" "[J" (.ref ar) ∧ Fld Z h' b "com/example/orderly_sieve/orderlysieve/query/RowSet" "size" "I" (.int r) ∧ Fld Z h' b "com/example/orderly_sieve/orderlysieve/query/RowSet" "count" "I" (.int (-1 : Int32))) := by
  refine own_C.of pn_5 Z0 ?_
  intro p e s m below meth c T A S
  rw [ef_5]
  refine s_aloadN 1 A S d5_0 rfl (by first | rfl | assumption) rfl ?_
  refine s_iconst (z := (-1 : Int32)) 2 A S d5_1 rfl rfl ?_
  refine s_putF (ty := .int) 5 A S (hw _ (List.mem_of_getElem? (i := 22) rfl)) F2 E0 (Or.inl (hw _ (List.mem_of_getElem? (i := 23) rfl))) (hw _ (List.mem_of_getElem? (i := 10) rfl)) g0 d5_2 (by decide) rfl rfl rfl fun T1 h2 W4 S3 => ?_
  have F5 := Fld.same W4 F2
  have F6 := Fld.other W4 F0 (Or.inr (slot_ne (Or.inr (hw _ (List.mem_of_getElem? (i := 19) rfl))) (Or.inl (hw _ (List.mem_of_getElem? (i := 23) rfl))) (by decide) (t := (.array .long)) (t' := .int) (by decide) (by decide)))
  have F7 := Fld.other W4 F1 (Or.inr (slot_ne (Or.inr (hw _ (List.mem_of_getElem? (i := 21) rfl))) (Or.inl (hw _ (List.mem_of_getElem? (i := 23) rfl))) (by decide) (t := .int) (t' := .int) (by decide) (by decide)))
  have E9 := Exa.wr W4 E0
  have Z10 : n0 ≤ h2.size := by rw [W4.size]; exact Z0
  have K11 : Keep h0 h2 [b] := (Keep.refl h0 [b]).wr W4 (Or.inl (List.mem_of_getElem? (i := 0) rfl))
  refine s_aloadN 6 A S3 d5_5 rfl (by first | rfl | assumption) rfl ?_
  refine s_getF 9 A S3 (hw _ (List.mem_of_getElem? (i := 18) rfl)) F6 d5_6 rfl fun T12 S13 => ?_
  exact s_retA A S13 d5_9 rfl rfl (by first | rfl | assumption) (by decide) (by decide) ⟨rfl, K11, F6, F7, F5⟩
theorem pn_0 : plainFor (⟨"com/example/orderly_sieve/orderlysieve/query/RowSetCountPinLaw", "law", "(JJJII)Z"⟩ : MethodName) = true := plainFor_of_name (by first | (simp [plainName, overriddenIn]; done) | decide +kernel)
theorem ef_0 (m : MethodId) (x0 : Int64) (x1 : Int64) (x2 : Int64) (x3 : Int32) (x4 : Int32) : entryFrame m #[(.long x0), (.long x1), (.long x2), (.int x3), (.int x4)] maxLocals = mkF m 0 #[.val (.long x0), .second, .val (.long x1), .second, .val (.long x2), .second, .val (.int x3), .val (.int x4), .unset, .unset, .unset, .unset, .unset, .unset, .unset, .unset, .unset, .unset] [] := by first | (simp [entryFrame, mkF, argsToLocals, Value.category, maxLocals]; done) | rfl
set_option maxRecDepth 65536 in
set_option maxHeartbeats 40000000 in
theorem rm0 (l : Launch) (Z : State) (a0 : Array Value) (hw : ∀ d ∈ tables_1, d.before a0 Z = true) (ws : List Jvm.Cond) (i0 i1 i2 : Int64) (i3 i4 : Int32) (h0 : Heap) (n0 : Nat) (Z0 : n0 ≤ h0.size)  :
    own_C l Z x code maxLocals ret room_1 n0 ws #[(.long i0), (.long i1), (.long i2), (.int i3), (.int i4)] h0 (fun v h' => v = some (.int 1)) := by
  refine own_C.of pn_0 Z0 ?_
  intro p e s m below meth c T A S
  rw [ef_0]
  refine s_iload 2 A S at_0 rfl rfl ?_
  refine s_iconst (z := (3 : Int32)) 3 A S at_2 rfl rfl ?_
  obtain ⟨ln, h_ln⟩ : ∃ z_, (i3 &&& (3 : Int32)) = z_ := ⟨_, rfl⟩
  refine s_iand (z := ln) 4 A S at_3 h_ln rfl ?_
  refine s_istore (Ls' := #[.val (.long i0), .second, .val (.long i1), .second, .val (.long i2), .second, .val (.int i3), .val (.int i4), .val (.int ln), .unset, .unset, .unset, .unset, .unset, .unset, .unset, .unset, .unset]) 6 A S at_4 rfl rfl ?_
  have hln : ln = 0 ∨ ln = 1 ∨ ln = 2 ∨ ln = 3 := own_four i3 ln h_ln
  rcases hln with rfl | rfl | rfl | rfl
  · refine s_iload 8 A S at_6 rfl rfl ?_
    refine s_iconst (z := (1 : Int32)) 9 A S at_8 rfl rfl ?_
    refine s_iand (z := (i4 &&& (1 : Int32))) 10 A S at_9 rfl rfl ?_
    refine s_ifeq 17 13 A S rfl at_10 (by decide) (by decide) rfl (fun c1 tc1 => ?_) (fun c1 tc1 => ?_)
    · refine s_iconst (z := (0 : Int32)) 18 A S at_17 rfl rfl ?_
      refine s_istore (Ls' := #[.val (.long i0), .second, .val (.long i1), .second, .val (.long i2), .second, .val (.int i3), .val (.int i4), .val (.int (0 : Int32)), .val (.int (0 : Int32)), .unset, .unset, .unset, .unset, .unset, .unset, .unset, .unset]) 20 A S at_18 rfl rfl ?_
      refine s_iload 22 A S at_20 rfl rfl ?_
      refine s_newP (cap := 0) 24 A S (hw _ (List.mem_of_getElem? (i := 0) rfl)) at_22 (by decide) (by decide) (by decide) rfl (by decide) (by decide) fun T2 h3 k5 a6 ha_a6 E_a6 V_a6 S4 => ?_
      have ge_a6 : n0 ≤ a6 := by rw [ha_a6]; exact Z0
      have Z7 : n0 ≤ h3.size := Nat.le_trans Z0 E_a6.1
      have V8 : Arv Z h3 a6 k5 .long (0 : Int32) [] (.long 0) := Arv.pad V_a6 (fun i => by simpa using pad_rep [] (.long 0) 0 i)
      refine s_astore (Ls' := #[.val (.long i0), .second, .val (.long i1), .second, .val (.long i2), .second, .val (.int i3), .val (.int i4), .val (.int (0 : Int32)), .val (.int (0 : Int32)), .val (.ref a6), .unset, .unset, .unset, .unset, .unset, .unset, .unset]) 26 A S4 at_24 (by first | rfl | assumption) rfl rfl ?_
      refine s_iload 28 A S4 at_26 rfl rfl ?_
      refine s_ifle (xi := 0) 36 31 A S4 rfl at_28 (by decide) (by decide) rfl (fun c9 => ?_) (fun c9 => (by exact absurd c9 (by decide) : False).elim)
      refine s_iload 38 A S4 at_36 rfl rfl ?_
      refine s_iconst (z := (1 : Int32)) 39 A S4 at_38 rfl rfl ?_
      refine s_ile (xi := 0) (yi := 1) 47 42 A S4 rfl rfl at_39 (by decide) (by decide) rfl (fun c10 => ?_) (fun c10 => (by exact absurd c10 (by decide) : False).elim)
      refine s_iload 49 A S4 at_47 rfl rfl ?_
      refine s_iconst (z := (2 : Int32)) 50 A S4 at_49 rfl rfl ?_
      refine s_ile (xi := 0) (yi := 2) 59 53 A S4 rfl rfl at_50 (by decide) (by decide) rfl (fun c11 => ?_) (fun c11 => (by exact absurd c11 (by decide) : False).elim)
      refine s_iload 61 A S4 at_59 rfl rfl ?_
      refine s_ifle (xi := 0) 71 64 A S4 rfl at_61 (by decide) (by decide) rfl (fun c12 => ?_) (fun c12 => (by exact absurd c12 (by decide) : False).elim)
      refine s_iconst (z := (0 : Int32)) 72 A S4 at_71 rfl rfl ?_
      refine s_iload 74 A S4 at_72 rfl rfl ?_
      refine s_iconst (z := (1 : Int32)) 75 A S4 at_74 rfl rfl ?_
      refine s_ile (xi := 0) (yi := 1) 85 78 A S4 rfl rfl at_75 (by decide) (by decide) rfl (fun c13 => ?_) (fun c13 => (by exact absurd c13 (by decide) : False).elim)
      refine s_iconst (z := (0 : Int32)) 86 A S4 at_85 rfl rfl ?_
      refine s_iadd (z := (0 : Int32)) 87 A S4 at_86 (by decide) rfl ?_
      refine s_iload 89 A S4 at_87 rfl rfl ?_
      refine s_iconst (z := (2 : Int32)) 90 A S4 at_89 rfl rfl ?_
      refine s_ile (xi := 0) (yi := 2) 101 93 A S4 rfl rfl at_90 (by decide) (by decide) rfl (fun c14 => ?_) (fun c14 => (by exact absurd c14 (by decide) : False).elim)
      refine s_iconst (z := (0 : Int32)) 102 A S4 at_101 rfl rfl ?_
      refine s_iadd (z := (0 : Int32)) 103 A S4 at_102 (by decide) rfl ?_
      refine s_istore (Ls' := #[.val (.long i0), .second, .val (.long i1), .second, .val (.long i2), .second, .val (.int i3), .val (.int i4), .val (.int (0 : Int32)), .val (.int (0 : Int32)), .val (.ref a6), .val (.int (0 : Int32)), .unset, .unset, .unset, .unset, .unset, .unset]) 105 A S4 at_103 rfl rfl ?_
      refine s_new 108 A S4 (hw _ (List.mem_of_getElem? (i := 9) rfl)) (hw _ (List.mem_of_getElem? (i := 10) rfl)) (hw _ (List.mem_of_getElem? (i := 11) rfl)) at_105 rfl (by decide) (by decide) fun T15 h16 a18 ha_a18 E_a18 X_a18 D_a18 S17 => ?_
      have ne_a6_a18 : a6 ≠ a18 := by rw [ha_a18]; exact Nat.ne_of_lt V8.lt
      have ge_a18 : n0 ≤ a18 := by rw [ha_a18]; exact Z7
      have V19 := Arv.ext V8 E_a18
      have Z20 : n0 ≤ h16.size := Nat.le_trans Z7 E_a18.1
      have F_a18_words : Fld Z h16 a18 "com/example/orderly_sieve/orderlysieve/query/RowSet" "words" "[J" .null := D_a18 (Or.inr (hw _ (List.mem_of_getElem? (i := 19) rfl))) (ty := (.array .long)) (by decide)
      have F_a18_size : Fld Z h16 a18 "com/example/orderly_sieve/orderlysieve/query/RowSet" "size" "I" (.int (0 : Int32)) := D_a18 (Or.inr (hw _ (List.mem_of_getElem? (i := 21) rfl))) (ty := .int) (by decide)
      have F_a18_count : Fld Z h16 a18 "com/example/orderly_sieve/orderlysieve/query/RowSet" "count" "I" (.int (0 : Int32)) := D_a18 (Or.inl (hw _ (List.mem_of_getElem? (i := 23) rfl))) (ty := .int) (by decide)
      refine s_dup 109 A S17 at_108 rfl rfl ?_
      refine s_aload 111 A S17 at_109 rfl (by first | rfl | assumption) rfl ?_
      refine s_bipush (z := (64 : Int32)) 113 A S17 at_111 rfl rfl ?_
      refine s_iload 115 A S17 at_113 rfl rfl ?_
      refine s_imul (z := (0 : Int32)) 116 A S17 at_115 (by decide) rfl ?_
      refine s_iload 118 A S17 at_116 rfl rfl ?_
      refine s_ifeq (xi := 0) 126 121 A S17 rfl at_118 (by decide) (by decide) rfl (fun c21 tc21 => ?_) (fun c21 tc21 => (by exact absurd tc21 (by decide) : False).elim)
      refine s_iconst (z := (-1 : Int32)) 127 A S17 at_126 rfl rfl ?_
      refine s_spec (y := (⟨"com/example/orderly_sieve/orderlysieve/query/RowSet", "<init>", "([JII)V"⟩ : MethodName)) (argsL := [(.ref a6), (.int (0 : Int32)), (.int (-1 : Int32))]) (rest := [(.ref a18)]) (b := a18) 130 A S17 (hw _ (List.mem_of_getElem? (i := 12) rfl)) (hw _ (List.mem_of_getElem? (i := 13) rfl)) (hw _ (List.mem_of_getElem? (i := 11) rfl)) (hw _ (List.mem_of_getElem? (i := 14) rfl)) (rm2 l Z a0 hw [] a18 a6 (0 : Int32) (-1 : Int32) h16 n0 Z20 X_a18 F_a18_words F_a18_size F_a18_count ge_a18) (lenOf pd___JII_V rfl) at_127 rfl rfl rfl rfl (by decide) (by decide) (Nat.le_of_ble_eq_true rfl) (by decide) (by decide) fun T22 h24 v25 q26 S23 => ?_
      obtain ⟨rfl, K27, E31, F28, F29, F30⟩ := q26
      show own_G _ _ _ _ _ _ _ _ _ (mkF m 130 #[.val (.long i0), .second, .val (.long i1), .second, .val (.long i2), .second, .val (.int i3), .val (.int i4), .val (.int (0 : Int32)), .val (.int (0 : Int32)), .val (.ref a6), .val (.int (0 : Int32)), .unset, .unset, .unset, .unset, .unset, .unset] [(.ref a18)])
      have E35 := Exa.keep X_a18 K27
      have V36 := Arv.keep V19 K27 (ninS ne_a6_a18 nin0)
      have Z37 : n0 ≤ h24.size := Nat.le_trans Z20 K27.1
      refine s_astore (Ls' := #[.val (.long i0), .second, .val (.long i1), .second, .val (.long i2), .second, .val (.int i3), .val (.int i4), .val (.int (0 : Int32)), .val (.int (0 : Int32)), .val (.ref a6), .val (.int (0 : Int32)), .val (.ref a18), .unset, .unset, .unset, .unset, .unset]) 132 A S23 at_130 (by first | rfl | assumption) rfl rfl ?_
      refine s_aload 134 A S23 at_132 rfl (by first | rfl | assumption) rfl ?_
      refine s_virt (y := (⟨"com/example/orderly_sieve/orderlysieve/query/RowSet", "count", "()I"⟩ : MethodName)) (z := (⟨"com/example/orderly_sieve/orderlysieve/query/RowSet", "count", "()I"⟩ : MethodName)) (argsL := []) (rest := []) (b := a18) 137 A S23 E35 (hw _ (List.mem_of_getElem? (i := 24) rfl)) (hw _ (List.mem_of_getElem? (i := 25) rfl)) (notFace_of_selects (args := #[]) (mvT A.2.2.2.2.2.2.2 (hw _ (List.mem_of_getElem? (i := 27) rfl)))) (hw _ (List.mem_of_getElem? (i := 27) rfl)) (hw _ (List.mem_of_getElem? (i := 26) rfl)) (hw _ (List.mem_of_getElem? (i := 11) rfl)) (hw _ (List.mem_of_getElem? (i := 28) rfl)) (rmC0 l Z a0 hw [] a18 a6 k5 (0 : Int32) (-1 : Int32)  h24 n0 Z37 E35 F28 F29 F30 V36 ge_a18 ne_a6_a18 (by decide)) (lenOf pd___I rfl) at_134 rfl rfl rfl (by decide) (by decide) (Nat.le_of_ble_eq_true rfl) (by decide) (by decide) fun T38 h40 v41 q42 S39 => ?_
      obtain ⟨rfl, K43, F44, F45, F46⟩ := q42
      show own_G _ _ _ _ _ _ _ _ _ (mkF m 137 #[.val (.long i0), .second, .val (.long i1), .second, .val (.long i2), .second, .val (.int i3), .val (.int i4), .val (.int (0 : Int32)), .val (.int (0 : Int32)), .val (.ref a6), .val (.int (0 : Int32)), .val (.ref a18), .unset, .unset, .unset, .unset, .unset] [(.int (0 : Int32))])
      have E50 := Exa.keep E35 K43
      have V51 := Arv.keep V36 K43 (ninS ne_a6_a18 nin0)
      have Z52 : n0 ≤ h40.size := Nat.le_trans Z37 K43.1
      refine s_istore (Ls' := #[.val (.long i0), .second, .val (.long i1), .second, .val (.long i2), .second, .val (.int i3), .val (.int i4), .val (.int (0 : Int32)), .val (.int (0 : Int32)), .val (.ref a6), .val (.int (0 : Int32)), .val (.ref a18), .val (.int (0 : Int32)), .unset, .unset, .unset, .unset]) 139 A S39 at_137 rfl rfl ?_
      refine s_aload 141 A S39 at_139 rfl (by first | rfl | assumption) rfl ?_
      refine s_virtV (y := (⟨"com/example/orderly_sieve/orderlysieve/query/RowSet", "count", "()I"⟩ : MethodName)) (z := (⟨"com/example/orderly_sieve/orderlysieve/query/RowSet", "count", "()I"⟩ : MethodName)) (argsL := []) (rest := []) (b := a18) 144 A S39 E50 (hw _ (List.mem_of_getElem? (i := 24) rfl)) (hw _ (List.mem_of_getElem? (i := 25) rfl)) (notFace_of_selects (args := #[]) (mvT A.2.2.2.2.2.2.2 (hw _ (List.mem_of_getElem? (i := 27) rfl)))) (hw _ (List.mem_of_getElem? (i := 27) rfl)) (hw _ (List.mem_of_getElem? (i := 26) rfl)) (hw _ (List.mem_of_getElem? (i := 11) rfl)) (hw _ (List.mem_of_getElem? (i := 28) rfl)) (rmCpos l Z a0 hw [] a18 (0 : Int32) h40 n0 Z52 F46 (by decide)) (lenOf pd___I rfl) at_141 rfl rfl rfl (by decide) (by decide) (Nat.le_of_ble_eq_true rfl) (by decide) (by decide) fun T53 S54 => ?_
      refine s_istore (Ls' := #[.val (.long i0), .second, .val (.long i1), .second, .val (.long i2), .second, .val (.int i3), .val (.int i4), .val (.int (0 : Int32)), .val (.int (0 : Int32)), .val (.ref a6), .val (.int (0 : Int32)), .val (.ref a18), .val (.int (0 : Int32)), .val (.int (0 : Int32)), .unset, .unset, .unset]) 146 A S54 at_144 rfl rfl ?_
      refine s_aload 148 A S54 at_146 rfl (by first | rfl | assumption) rfl ?_
      refine s_virt (y := (⟨"com/example/orderly_sieve/orderlysieve/query/RowSet", "words", "()[J"⟩ : MethodName)) (z := (⟨"com/example/orderly_sieve/orderlysieve/query/RowSet", "words", "()[J"⟩ : MethodName)) (argsL := []) (rest := []) (b := a18) 151 A S54 E50 (hw _ (List.mem_of_getElem? (i := 29) rfl)) (hw _ (List.mem_of_getElem? (i := 30) rfl)) (notFace_of_selects (args := #[]) (mvT A.2.2.2.2.2.2.2 (hw _ (List.mem_of_getElem? (i := 32) rfl)))) (hw _ (List.mem_of_getElem? (i := 32) rfl)) (hw _ (List.mem_of_getElem? (i := 31) rfl)) (hw _ (List.mem_of_getElem? (i := 11) rfl)) (hw _ (List.mem_of_getElem? (i := 33) rfl)) (rm5 l Z a0 hw [] a18 a6 (0 : Int32) (0 : Int32) h40 n0 Z52 E50 F44 F45 F46 ge_a18) (lenOf pd____J rfl) at_148 rfl rfl rfl (by decide) (by decide) (Nat.le_of_ble_eq_true rfl) (by decide) (by decide) fun T55 h57 v58 q59 S56 => ?_
      obtain ⟨rfl, K60, F61, F62, F63⟩ := q59
      show own_G _ _ _ _ _ _ _ _ _ (mkF m 151 #[.val (.long i0), .second, .val (.long i1), .second, .val (.long i2), .second, .val (.int i3), .val (.int i4), .val (.int (0 : Int32)), .val (.int (0 : Int32)), .val (.ref a6), .val (.int (0 : Int32)), .val (.ref a18), .val (.int (0 : Int32)), .val (.int (0 : Int32)), .unset, .unset, .unset] [(.ref a6)])
      have E67 := Exa.keep E50 K60
      have V68 := Arv.keep V51 K60 (ninS ne_a6_a18 nin0)
      have Z69 : n0 ≤ h57.size := Nat.le_trans Z52 K60.1
      refine s_astore (Ls' := #[.val (.long i0), .second, .val (.long i1), .second, .val (.long i2), .second, .val (.int i3), .val (.int i4), .val (.int (0 : Int32)), .val (.int (0 : Int32)), .val (.ref a6), .val (.int (0 : Int32)), .val (.ref a18), .val (.int (0 : Int32)), .val (.int (0 : Int32)), .val (.ref a6), .unset, .unset]) 153 A S56 at_151 (by first | rfl | assumption) rfl rfl ?_
      refine s_aload 155 A S56 at_153 rfl (by first | rfl | assumption) rfl ?_
      refine s_alen 156 A S56 V68 at_155 rfl ?_
      refine s_iload 158 A S56 at_156 rfl rfl ?_
      refine s_ine (xi := 0) (yi := 0) 211 161 A S56 rfl rfl at_158 (by decide) (by decide) rfl (fun c70 tc70 => (by exact absurd tc70 (by decide) : False).elim) (fun c70 tc70 => ?_)
      refine s_iload 163 A S56 at_161 rfl rfl ?_
      refine s_iconst (z := (1 : Int32)) 164 A S56 at_163 rfl rfl ?_
      refine s_ilt (xi := 0) (yi := 1) 176 167 A S56 rfl rfl at_164 (by decide) (by decide) rfl (fun c71 => ?_) (fun c71 => (by exact absurd c71 (by decide) : False).elim)
      refine s_iload 178 A S56 at_176 rfl rfl ?_
      refine s_iconst (z := (2 : Int32)) 179 A S56 at_178 rfl rfl ?_
      refine s_ilt (xi := 0) (yi := 2) 191 182 A S56 rfl rfl at_179 (by decide) (by decide) rfl (fun c72 => ?_) (fun c72 => (by exact absurd c72 (by decide) : False).elim)
      refine s_iload 193 A S56 at_191 rfl rfl ?_
      refine s_iconst (z := (3 : Int32)) 194 A S56 at_193 rfl rfl ?_
      refine s_ilt (xi := 0) (yi := 3) 207 197 A S56 rfl rfl at_194 (by decide) (by decide) rfl (fun c73 => ?_) (fun c73 => (by exact absurd c73 (by decide) : False).elim)
      refine s_iconst (z := (1 : Int32)) 208 A S56 at_207 rfl rfl ?_
      refine s_goto 212 A S56 at_208 (by decide) (by decide) ?_
      refine s_istore (Ls' := #[.val (.long i0), .second, .val (.long i1), .second, .val (.long i2), .second, .val (.int i3), .val (.int i4), .val (.int (0 : Int32)), .val (.int (0 : Int32)), .val (.ref a6), .val (.int (0 : Int32)), .val (.ref a18), .val (.int (0 : Int32)), .val (.int (0 : Int32)), .val (.ref a6), .val (.int (1 : Int32)), .unset]) 214 A S56 at_212 rfl rfl ?_
      refine s_aload 216 A S56 at_214 rfl (by first | rfl | assumption) rfl ?_
      refine s_virt (y := (⟨"com/example/orderly_sieve/orderlysieve/query/RowSet", "count", "()I"⟩ : MethodName)) (z := (⟨"com/example/orderly_sieve/orderlysieve/query/RowSet", "count", "()I"⟩ : MethodName)) (argsL := []) (rest := []) (b := a18) 219 A S56 E67 (hw _ (List.mem_of_getElem? (i := 24) rfl)) (hw _ (List.mem_of_getElem? (i := 25) rfl)) (notFace_of_selects (args := #[]) (mvT A.2.2.2.2.2.2.2 (hw _ (List.mem_of_getElem? (i := 27) rfl)))) (hw _ (List.mem_of_getElem? (i := 27) rfl)) (hw _ (List.mem_of_getElem? (i := 26) rfl)) (hw _ (List.mem_of_getElem? (i := 11) rfl)) (hw _ (List.mem_of_getElem? (i := 28) rfl)) (rmC0 l Z a0 hw [] a18 a6 k5 (0 : Int32) (-1 : Int32)  h57 n0 Z69 E67 F61 F62 F63 V68 ge_a18 ne_a6_a18 (by decide)) (lenOf pd___I rfl) at_216 rfl rfl rfl (by decide) (by decide) (Nat.le_of_ble_eq_true rfl) (by decide) (by decide) fun T74 h76 v77 q78 S75 => ?_
      obtain ⟨rfl, K79, F80, F81, F82⟩ := q78
      show own_G _ _ _ _ _ _ _ _ _ (mkF m 219 #[.val (.long i0), .second, .val (.long i1), .second, .val (.long i2), .second, .val (.int i3), .val (.int i4), .val (.int (0 : Int32)), .val (.int (0 : Int32)), .val (.ref a6), .val (.int (0 : Int32)), .val (.ref a18), .val (.int (0 : Int32)), .val (.int (0 : Int32)), .val (.ref a6), .val (.int (1 : Int32)), .unset] [(.int (0 : Int32))])
      have E86 := Exa.keep E67 K79
      have V87 := Arv.keep V68 K79 (ninS ne_a6_a18 nin0)
      have Z88 : n0 ≤ h76.size := Nat.le_trans Z69 K79.1
      refine s_istore (Ls' := #[.val (.long i0), .second, .val (.long i1), .second, .val (.long i2), .second, .val (.int i3), .val (.int i4), .val (.int (0 : Int32)), .val (.int (0 : Int32)), .val (.ref a6), .val (.int (0 : Int32)), .val (.ref a18), .val (.int (0 : Int32)), .val (.int (0 : Int32)), .val (.ref a6), .val (.int (1 : Int32)), .val (.int (0 : Int32))]) 221 A S75 at_219 rfl rfl ?_
      refine s_iload 223 A S75 at_221 rfl rfl ?_
      refine s_iload 225 A S75 at_223 rfl rfl ?_
      refine s_ine (xi := 0) (yi := 0) 251 228 A S75 rfl rfl at_225 (by decide) (by decide) rfl (fun c89 tc89 => (by exact c89 (by simp only [own_pe, Int32.zero_add, Int32.add_zero]) : False).elim) (fun c89 tc89 => ?_)
      refine s_iload 230 A S75 at_228 rfl rfl ?_
      refine s_iload 232 A S75 at_230 rfl rfl ?_
      refine s_ine (xi := 0) (yi := 0) 251 235 A S75 rfl rfl at_232 (by decide) (by decide) rfl (fun c90 tc90 => (by exact c90 (by simp only [own_pe, Int32.zero_add, Int32.add_zero]) : False).elim) (fun c90 tc90 => ?_)
      refine s_iload 237 A S75 at_235 rfl rfl ?_
      refine s_iload 239 A S75 at_237 rfl rfl ?_
      refine s_ine (xi := 0) (yi := 0) 251 242 A S75 rfl rfl at_239 (by decide) (by decide) rfl (fun c91 tc91 => (by exact c91 (by simp only [own_pe, Int32.zero_add, Int32.add_zero]) : False).elim) (fun c91 tc91 => ?_)
      refine s_iload 244 A S75 at_242 rfl rfl ?_
      refine s_ifeq (xi := 1) 251 247 A S75 rfl at_244 (by decide) (by decide) rfl (fun c92 tc92 => (by exact absurd tc92 (by decide) : False).elim) (fun c92 tc92 => ?_)
      refine s_iconst (z := (1 : Int32)) 248 A S75 at_247 rfl rfl ?_
      refine s_goto 252 A S75 at_248 (by decide) (by decide) ?_
      exact s_retZ A S75 at_252 rfl (by decide) (by decide) rfl
    · refine s_iconst (z := (1 : Int32)) 14 A S at_13 rfl rfl ?_
      refine s_goto 18 A S at_14 (by decide) (by decide) ?_
      refine s_istore (Ls' := #[.val (.long i0), .second, .val (.long i1), .second, .val (.long i2), .second, .val (.int i3), .val (.int i4), .val (.int (0 : Int32)), .val (.int (1 : Int32)), .unset, .unset, .unset, .unset, .unset, .unset, .unset, .unset]) 20 A S at_18 rfl rfl ?_
      refine s_iload 22 A S at_20 rfl rfl ?_
      refine s_newP (cap := 0) 24 A S (hw _ (List.mem_of_getElem? (i := 0) rfl)) at_22 (by decide) (by decide) (by decide) rfl (by decide) (by decide) fun T93 h94 k96 a97 ha_a97 E_a97 V_a97 S95 => ?_
      have ge_a97 : n0 ≤ a97 := by rw [ha_a97]; exact Z0
      have Z98 : n0 ≤ h94.size := Nat.le_trans Z0 E_a97.1
      have V99 : Arv Z h94 a97 k96 .long (0 : Int32) [] (.long 0) := Arv.pad V_a97 (fun i => by simpa using pad_rep [] (.long 0) 0 i)
      refine s_astore (Ls' := #[.val (.long i0), .second, .val (.long i1), .second, .val (.long i2), .second, .val (.int i3), .val (.int i4), .val (.int (0 : Int32)), .val (.int (1 : Int32)), .val (.ref a97), .unset, .unset, .unset, .unset, .unset, .unset, .unset]) 26 A S95 at_24 (by first | rfl | assumption) rfl rfl ?_
      refine s_iload 28 A S95 at_26 rfl rfl ?_
      refine s_ifle (xi := 0) 36 31 A S95 rfl at_28 (by decide) (by decide) rfl (fun c100 => ?_) (fun c100 => (by exact absurd c100 (by decide) : False).elim)
      refine s_iload 38 A S95 at_36 rfl rfl ?_
      refine s_iconst (z := (1 : Int32)) 39 A S95 at_38 rfl rfl ?_
      refine s_ile (xi := 0) (yi := 1) 47 42 A S95 rfl rfl at_39 (by decide) (by decide) rfl (fun c101 => ?_) (fun c101 => (by exact absurd c101 (by decide) : False).elim)
      refine s_iload 49 A S95 at_47 rfl rfl ?_
      refine s_iconst (z := (2 : Int32)) 50 A S95 at_49 rfl rfl ?_
      refine s_ile (xi := 0) (yi := 2) 59 53 A S95 rfl rfl at_50 (by decide) (by decide) rfl (fun c102 => ?_) (fun c102 => (by exact absurd c102 (by decide) : False).elim)
      refine s_iload 61 A S95 at_59 rfl rfl ?_
      refine s_ifle (xi := 0) 71 64 A S95 rfl at_61 (by decide) (by decide) rfl (fun c103 => ?_) (fun c103 => (by exact absurd c103 (by decide) : False).elim)
      refine s_iconst (z := (0 : Int32)) 72 A S95 at_71 rfl rfl ?_
      refine s_iload 74 A S95 at_72 rfl rfl ?_
      refine s_iconst (z := (1 : Int32)) 75 A S95 at_74 rfl rfl ?_
      refine s_ile (xi := 0) (yi := 1) 85 78 A S95 rfl rfl at_75 (by decide) (by decide) rfl (fun c104 => ?_) (fun c104 => (by exact absurd c104 (by decide) : False).elim)
      refine s_iconst (z := (0 : Int32)) 86 A S95 at_85 rfl rfl ?_
      refine s_iadd (z := (0 : Int32)) 87 A S95 at_86 (by decide) rfl ?_
      refine s_iload 89 A S95 at_87 rfl rfl ?_
      refine s_iconst (z := (2 : Int32)) 90 A S95 at_89 rfl rfl ?_
      refine s_ile (xi := 0) (yi := 2) 101 93 A S95 rfl rfl at_90 (by decide) (by decide) rfl (fun c105 => ?_) (fun c105 => (by exact absurd c105 (by decide) : False).elim)
      refine s_iconst (z := (0 : Int32)) 102 A S95 at_101 rfl rfl ?_
      refine s_iadd (z := (0 : Int32)) 103 A S95 at_102 (by decide) rfl ?_
      refine s_istore (Ls' := #[.val (.long i0), .second, .val (.long i1), .second, .val (.long i2), .second, .val (.int i3), .val (.int i4), .val (.int (0 : Int32)), .val (.int (1 : Int32)), .val (.ref a97), .val (.int (0 : Int32)), .unset, .unset, .unset, .unset, .unset, .unset]) 105 A S95 at_103 rfl rfl ?_
      refine s_new 108 A S95 (hw _ (List.mem_of_getElem? (i := 9) rfl)) (hw _ (List.mem_of_getElem? (i := 10) rfl)) (hw _ (List.mem_of_getElem? (i := 11) rfl)) at_105 rfl (by decide) (by decide) fun T106 h107 a109 ha_a109 E_a109 X_a109 D_a109 S108 => ?_
      have ne_a97_a109 : a97 ≠ a109 := by rw [ha_a109]; exact Nat.ne_of_lt V99.lt
      have ge_a109 : n0 ≤ a109 := by rw [ha_a109]; exact Z98
      have V110 := Arv.ext V99 E_a109
      have Z111 : n0 ≤ h107.size := Nat.le_trans Z98 E_a109.1
      have F_a109_words : Fld Z h107 a109 "com/example/orderly_sieve/orderlysieve/query/RowSet" "words" "[J" .null := D_a109 (Or.inr (hw _ (List.mem_of_getElem? (i := 19) rfl))) (ty := (.array .long)) (by decide)
      have F_a109_size : Fld Z h107 a109 "com/example/orderly_sieve/orderlysieve/query/RowSet" "size" "I" (.int (0 : Int32)) := D_a109 (Or.inr (hw _ (List.mem_of_getElem? (i := 21) rfl))) (ty := .int) (by decide)
      have F_a109_count : Fld Z h107 a109 "com/example/orderly_sieve/orderlysieve/query/RowSet" "count" "I" (.int (0 : Int32)) := D_a109 (Or.inl (hw _ (List.mem_of_getElem? (i := 23) rfl))) (ty := .int) (by decide)
      refine s_dup 109 A S108 at_108 rfl rfl ?_
      refine s_aload 111 A S108 at_109 rfl (by first | rfl | assumption) rfl ?_
      refine s_bipush (z := (64 : Int32)) 113 A S108 at_111 rfl rfl ?_
      refine s_iload 115 A S108 at_113 rfl rfl ?_
      refine s_imul (z := (0 : Int32)) 116 A S108 at_115 (by decide) rfl ?_
      refine s_iload 118 A S108 at_116 rfl rfl ?_
      refine s_ifeq (xi := 1) 126 121 A S108 rfl at_118 (by decide) (by decide) rfl (fun c112 tc112 => (by exact absurd tc112 (by decide) : False).elim) (fun c112 tc112 => ?_)
      refine s_iload 123 A S108 at_121 rfl rfl ?_
      refine s_goto 127 A S108 at_123 (by decide) (by decide) ?_
      refine s_spec (y := (⟨"com/example/orderly_sieve/orderlysieve/query/RowSet", "<init>", "([JII)V"⟩ : MethodName)) (argsL := [(.ref a97), (.int (0 : Int32)), (.int (0 : Int32))]) (rest := [(.ref a109)]) (b := a109) 130 A S108 (hw _ (List.mem_of_getElem? (i := 12) rfl)) (hw _ (List.mem_of_getElem? (i := 13) rfl)) (hw _ (List.mem_of_getElem? (i := 11) rfl)) (hw _ (List.mem_of_getElem? (i := 14) rfl)) (rm2 l Z a0 hw [] a109 a97 (0 : Int32) (0 : Int32) h107 n0 Z111 X_a109 F_a109_words F_a109_size F_a109_count ge_a109) (lenOf pd___JII_V rfl) at_127 rfl rfl rfl rfl (by decide) (by decide) (Nat.le_of_ble_eq_true rfl) (by decide) (by decide) fun T113 h115 v116 q117 S114 => ?_
      obtain ⟨rfl, K118, E122, F119, F120, F121⟩ := q117
      show own_G _ _ _ _ _ _ _ _ _ (mkF m 130 #[.val (.long i0), .second, .val (.long i1), .second, .val (.long i2), .second, .val (.int i3), .val (.int i4), .val (.int (0 : Int32)), .val (.int (1 : Int32)), .val (.ref a97), .val (.int (0 : Int32)), .unset, .unset, .unset, .unset, .unset, .unset] [(.ref a109)])
      have E126 := Exa.keep X_a109 K118
      have V127 := Arv.keep V110 K118 (ninS ne_a97_a109 nin0)
      have Z128 : n0 ≤ h115.size := Nat.le_trans Z111 K118.1
      refine s_astore (Ls' := #[.val (.long i0), .second, .val (.long i1), .second, .val (.long i2), .second, .val (.int i3), .val (.int i4), .val (.int (0 : Int32)), .val (.int (1 : Int32)), .val (.ref a97), .val (.int (0 : Int32)), .val (.ref a109), .unset, .unset, .unset, .unset, .unset]) 132 A S114 at_130 (by first | rfl | assumption) rfl rfl ?_
      refine s_aload 134 A S114 at_132 rfl (by first | rfl | assumption) rfl ?_
      refine s_virtV (y := (⟨"com/example/orderly_sieve/orderlysieve/query/RowSet", "count", "()I"⟩ : MethodName)) (z := (⟨"com/example/orderly_sieve/orderlysieve/query/RowSet", "count", "()I"⟩ : MethodName)) (argsL := []) (rest := []) (b := a109) 137 A S114 E126 (hw _ (List.mem_of_getElem? (i := 24) rfl)) (hw _ (List.mem_of_getElem? (i := 25) rfl)) (notFace_of_selects (args := #[]) (mvT A.2.2.2.2.2.2.2 (hw _ (List.mem_of_getElem? (i := 27) rfl)))) (hw _ (List.mem_of_getElem? (i := 27) rfl)) (hw _ (List.mem_of_getElem? (i := 26) rfl)) (hw _ (List.mem_of_getElem? (i := 11) rfl)) (hw _ (List.mem_of_getElem? (i := 28) rfl)) (rmCpos l Z a0 hw [] a109 (0 : Int32) h115 n0 Z128 F121 (by decide)) (lenOf pd___I rfl) at_134 rfl rfl rfl (by decide) (by decide) (Nat.le_of_ble_eq_true rfl) (by decide) (by decide) fun T129 S130 => ?_
      refine s_istore (Ls' := #[.val (.long i0), .second, .val (.long i1), .second, .val (.long i2), .second, .val (.int i3), .val (.int i4), .val (.int (0 : Int32)), .val (.int (1 : Int32)), .val (.ref a97), .val (.int (0 : Int32)), .val (.ref a109), .val (.int (0 : Int32)), .unset, .unset, .unset, .unset]) 139 A S130 at_137 rfl rfl ?_
      refine s_aload 141 A S130 at_139 rfl (by first | rfl | assumption) rfl ?_
      refine s_virtV (y := (⟨"com/example/orderly_sieve/orderlysieve/query/RowSet", "count", "()I"⟩ : MethodName)) (z := (⟨"com/example/orderly_sieve/orderlysieve/query/RowSet", "count", "()I"⟩ : MethodName)) (argsL := []) (rest := []) (b := a109) 144 A S130 E126 (hw _ (List.mem_of_getElem? (i := 24) rfl)) (hw _ (List.mem_of_getElem? (i := 25) rfl)) (notFace_of_selects (args := #[]) (mvT A.2.2.2.2.2.2.2 (hw _ (List.mem_of_getElem? (i := 27) rfl)))) (hw _ (List.mem_of_getElem? (i := 27) rfl)) (hw _ (List.mem_of_getElem? (i := 26) rfl)) (hw _ (List.mem_of_getElem? (i := 11) rfl)) (hw _ (List.mem_of_getElem? (i := 28) rfl)) (rmCpos l Z a0 hw [] a109 (0 : Int32) h115 n0 Z128 F121 (by decide)) (lenOf pd___I rfl) at_141 rfl rfl rfl (by decide) (by decide) (Nat.le_of_ble_eq_true rfl) (by decide) (by decide) fun T131 S132 => ?_
      refine s_istore (Ls' := #[.val (.long i0), .second, .val (.long i1), .second, .val (.long i2), .second, .val (.int i3), .val (.int i4), .val (.int (0 : Int32)), .val (.int (1 : Int32)), .val (.ref a97), .val (.int (0 : Int32)), .val (.ref a109), .val (.int (0 : Int32)), .val (.int (0 : Int32)), .unset, .unset, .unset]) 146 A S132 at_144 rfl rfl ?_
      refine s_aload 148 A S132 at_146 rfl (by first | rfl | assumption) rfl ?_
      refine s_virt (y := (⟨"com/example/orderly_sieve/orderlysieve/query/RowSet", "words", "()[J"⟩ : MethodName)) (z := (⟨"com/example/orderly_sieve/orderlysieve/query/RowSet", "words", "()[J"⟩ : MethodName)) (argsL := []) (rest := []) (b := a109) 151 A S132 E126 (hw _ (List.mem_of_getElem? (i := 29) rfl)) (hw _ (List.mem_of_getElem? (i := 30) rfl)) (notFace_of_selects (args := #[]) (mvT A.2.2.2.2.2.2.2 (hw _ (List.mem_of_getElem? (i := 32) rfl)))) (hw _ (List.mem_of_getElem? (i := 32) rfl)) (hw _ (List.mem_of_getElem? (i := 31) rfl)) (hw _ (List.mem_of_getElem? (i := 11) rfl)) (hw _ (List.mem_of_getElem? (i := 33) rfl)) (rm5 l Z a0 hw [] a109 a97 (0 : Int32) (0 : Int32) h115 n0 Z128 E126 F119 F120 F121 ge_a109) (lenOf pd____J rfl) at_148 rfl rfl rfl (by decide) (by decide) (Nat.le_of_ble_eq_true rfl) (by decide) (by decide) fun T133 h135 v136 q137 S134 => ?_
      obtain ⟨rfl, K138, F139, F140, F141⟩ := q137
      show own_G _ _ _ _ _ _ _ _ _ (mkF m 151 #[.val (.long i0), .second, .val (.long i1), .second, .val (.long i2), .second, .val (.int i3), .val (.int i4), .val (.int (0 : Int32)), .val (.int (1 : Int32)), .val (.ref a97), .val (.int (0 : Int32)), .val (.ref a109), .val (.int (0 : Int32)), .val (.int (0 : Int32)), .unset, .unset, .unset] [(.ref a97)])
      have E145 := Exa.keep E126 K138
      have V146 := Arv.keep V127 K138 (ninS ne_a97_a109 nin0)
      have Z147 : n0 ≤ h135.size := Nat.le_trans Z128 K138.1
      refine s_astore (Ls' := #[.val (.long i0), .second, .val (.long i1), .second, .val (.long i2), .second, .val (.int i3), .val (.int i4), .val (.int (0 : Int32)), .val (.int (1 : Int32)), .val (.ref a97), .val (.int (0 : Int32)), .val (.ref a109), .val (.int (0 : Int32)), .val (.int (0 : Int32)), .val (.ref a97), .unset, .unset]) 153 A S134 at_151 (by first | rfl | assumption) rfl rfl ?_
      refine s_aload 155 A S134 at_153 rfl (by first | rfl | assumption) rfl ?_
      refine s_alen 156 A S134 V146 at_155 rfl ?_
      refine s_iload 158 A S134 at_156 rfl rfl ?_
      refine s_ine (xi := 0) (yi := 0) 211 161 A S134 rfl rfl at_158 (by decide) (by decide) rfl (fun c148 tc148 => (by exact absurd tc148 (by decide) : False).elim) (fun c148 tc148 => ?_)
      refine s_iload 163 A S134 at_161 rfl rfl ?_
      refine s_iconst (z := (1 : Int32)) 164 A S134 at_163 rfl rfl ?_
      refine s_ilt (xi := 0) (yi := 1) 176 167 A S134 rfl rfl at_164 (by decide) (by decide) rfl (fun c149 => ?_) (fun c149 => (by exact absurd c149 (by decide) : False).elim)
      refine s_iload 178 A S134 at_176 rfl rfl ?_
      refine s_iconst (z := (2 : Int32)) 179 A S134 at_178 rfl rfl ?_
      refine s_ilt (xi := 0) (yi := 2) 191 182 A S134 rfl rfl at_179 (by decide) (by decide) rfl (fun c150 => ?_) (fun c150 => (by exact absurd c150 (by decide) : False).elim)
      refine s_iload 193 A S134 at_191 rfl rfl ?_
      refine s_iconst (z := (3 : Int32)) 194 A S134 at_193 rfl rfl ?_
      refine s_ilt (xi := 0) (yi := 3) 207 197 A S134 rfl rfl at_194 (by decide) (by decide) rfl (fun c151 => ?_) (fun c151 => (by exact absurd c151 (by decide) : False).elim)
      refine s_iconst (z := (1 : Int32)) 208 A S134 at_207 rfl rfl ?_
      refine s_goto 212 A S134 at_208 (by decide) (by decide) ?_
      refine s_istore (Ls' := #[.val (.long i0), .second, .val (.long i1), .second, .val (.long i2), .second, .val (.int i3), .val (.int i4), .val (.int (0 : Int32)), .val (.int (1 : Int32)), .val (.ref a97), .val (.int (0 : Int32)), .val (.ref a109), .val (.int (0 : Int32)), .val (.int (0 : Int32)), .val (.ref a97), .val (.int (1 : Int32)), .unset]) 214 A S134 at_212 rfl rfl ?_
      refine s_aload 216 A S134 at_214 rfl (by first | rfl | assumption) rfl ?_
      refine s_virt (y := (⟨"com/example/orderly_sieve/orderlysieve/query/RowSet", "count", "()I"⟩ : MethodName)) (z := (⟨"com/example/orderly_sieve/orderlysieve/query/RowSet", "count", "()I"⟩ : MethodName)) (argsL := []) (rest := []) (b := a109) 219 A S134 E145 (hw _ (List.mem_of_getElem? (i := 24) rfl)) (hw _ (List.mem_of_getElem? (i := 25) rfl)) (notFace_of_selects (args := #[]) (mvT A.2.2.2.2.2.2.2 (hw _ (List.mem_of_getElem? (i := 27) rfl)))) (hw _ (List.mem_of_getElem? (i := 27) rfl)) (hw _ (List.mem_of_getElem? (i := 26) rfl)) (hw _ (List.mem_of_getElem? (i := 11) rfl)) (hw _ (List.mem_of_getElem? (i := 28) rfl)) (rmC0 l Z a0 hw [] a109 a97 k96 (0 : Int32) (-1 : Int32)  h135 n0 Z147 E145 F139 F140 F141 V146 ge_a109 ne_a97_a109 (by decide)) (lenOf pd___I rfl) at_216 rfl rfl rfl (by decide) (by decide) (Nat.le_of_ble_eq_true rfl) (by decide) (by decide) fun T152 h154 v155 q156 S153 => ?_
      obtain ⟨rfl, K157, F158, F159, F160⟩ := q156
      show own_G _ _ _ _ _ _ _ _ _ (mkF m 219 #[.val (.long i0), .second, .val (.long i1), .second, .val (.long i2), .second, .val (.int i3), .val (.int i4), .val (.int (0 : Int32)), .val (.int (1 : Int32)), .val (.ref a97), .val (.int (0 : Int32)), .val (.ref a109), .val (.int (0 : Int32)), .val (.int (0 : Int32)), .val (.ref a97), .val (.int (1 : Int32)), .unset] [(.int (0 : Int32))])
      have E164 := Exa.keep E145 K157
      have V165 := Arv.keep V146 K157 (ninS ne_a97_a109 nin0)
      have Z166 : n0 ≤ h154.size := Nat.le_trans Z147 K157.1
      refine s_istore (Ls' := #[.val (.long i0), .second, .val (.long i1), .second, .val (.long i2), .second, .val (.int i3), .val (.int i4), .val (.int (0 : Int32)), .val (.int (1 : Int32)), .val (.ref a97), .val (.int (0 : Int32)), .val (.ref a109), .val (.int (0 : Int32)), .val (.int (0 : Int32)), .val (.ref a97), .val (.int (1 : Int32)), .val (.int (0 : Int32))]) 221 A S153 at_219 rfl rfl ?_
      refine s_iload 223 A S153 at_221 rfl rfl ?_
      refine s_iload 225 A S153 at_223 rfl rfl ?_
      refine s_ine (xi := 0) (yi := 0) 251 228 A S153 rfl rfl at_225 (by decide) (by decide) rfl (fun c167 tc167 => (by exact c167 (by simp only [own_pe, Int32.zero_add, Int32.add_zero]) : False).elim) (fun c167 tc167 => ?_)
      refine s_iload 230 A S153 at_228 rfl rfl ?_
      refine s_iload 232 A S153 at_230 rfl rfl ?_
      refine s_ine (xi := 0) (yi := 0) 251 235 A S153 rfl rfl at_232 (by decide) (by decide) rfl (fun c168 tc168 => (by exact c168 (by simp only [own_pe, Int32.zero_add, Int32.add_zero]) : False).elim) (fun c168 tc168 => ?_)
      refine s_iload 237 A S153 at_235 rfl rfl ?_
      refine s_iload 239 A S153 at_237 rfl rfl ?_
      refine s_ine (xi := 0) (yi := 0) 251 242 A S153 rfl rfl at_239 (by decide) (by decide) rfl (fun c169 tc169 => (by exact c169 (by simp only [own_pe, Int32.zero_add, Int32.add_zero]) : False).elim) (fun c169 tc169 => ?_)
      refine s_iload 244 A S153 at_242 rfl rfl ?_
      refine s_ifeq (xi := 1) 251 247 A S153 rfl at_244 (by decide) (by decide) rfl (fun c170 tc170 => (by exact absurd tc170 (by decide) : False).elim) (fun c170 tc170 => ?_)
      refine s_iconst (z := (1 : Int32)) 248 A S153 at_247 rfl rfl ?_
      refine s_goto 252 A S153 at_248 (by decide) (by decide) ?_
      exact s_retZ A S153 at_252 rfl (by decide) (by decide) rfl
  · refine s_iload 8 A S at_6 rfl rfl ?_
    refine s_iconst (z := (1 : Int32)) 9 A S at_8 rfl rfl ?_
    refine s_iand (z := (i4 &&& (1 : Int32))) 10 A S at_9 rfl rfl ?_
    refine s_ifeq 17 13 A S rfl at_10 (by decide) (by decide) rfl (fun c171 tc171 => ?_) (fun c171 tc171 => ?_)
    · refine s_iconst (z := (0 : Int32)) 18 A S at_17 rfl rfl ?_
      refine s_istore (Ls' := #[.val (.long i0), .second, .val (.long i1), .second, .val (.long i2), .second, .val (.int i3), .val (.int i4), .val (.int (1 : Int32)), .val (.int (0 : Int32)), .unset, .unset, .unset, .unset, .unset, .unset, .unset, .unset]) 20 A S at_18 rfl rfl ?_
      refine s_iload 22 A S at_20 rfl rfl ?_
      refine s_newP (cap := 1) 24 A S (hw _ (List.mem_of_getElem? (i := 0) rfl)) at_22 (by decide) (by decide) (by decide) rfl (by decide) (by decide) fun T172 h173 k175 a176 ha_a176 E_a176 V_a176 S174 => ?_
      have ge_a176 : n0 ≤ a176 := by rw [ha_a176]; exact Z0
      have Z177 : n0 ≤ h173.size := Nat.le_trans Z0 E_a176.1
      have V178 : Arv Z h173 a176 k175 .long (1 : Int32) [(.long 0)] (.long 0) := Arv.pad V_a176 (fun i => by simpa using pad_rep [] (.long 0) 1 i)
      refine s_astore (Ls' := #[.val (.long i0), .second, .val (.long i1), .second, .val (.long i2), .second, .val (.int i3), .val (.int i4), .val (.int (1 : Int32)), .val (.int (0 : Int32)), .val (.ref a176), .unset, .unset, .unset, .unset, .unset, .unset, .unset]) 26 A S174 at_24 (by first | rfl | assumption) rfl rfl ?_
      refine s_iload 28 A S174 at_26 rfl rfl ?_
      refine s_ifle (xi := 1) 36 31 A S174 rfl at_28 (by decide) (by decide) rfl (fun c179 => (by exact absurd c179 (by decide) : False).elim) (fun c179 => ?_)
      refine s_aload 33 A S174 at_31 rfl (by first | rfl | assumption) rfl ?_
      refine s_iconst (z := (0 : Int32)) 34 A S174 at_33 rfl rfl ?_
      refine s_lloadN 35 A S174 at_34 rfl rfl ?_
      refine s_last 36 A S174 V178 ⟨by decide, by decide⟩ 0 rfl (Nat.le_of_ble_eq_true rfl) ge_a176 at_35 rfl fun T180 h181 W183 V184 S182 => ?_
      have Z186 : n0 ≤ h181.size := by rw [W183.size]; exact Z177
      have V187 : Arv Z h181 a176 k175 .long (1 : Int32) [(.long i0)] (.long 0) := V184
      refine s_iload 38 A S182 at_36 rfl rfl ?_
      refine s_iconst (z := (1 : Int32)) 39 A S182 at_38 rfl rfl ?_
      refine s_ile (xi := 1) (yi := 1) 47 42 A S182 rfl rfl at_39 (by decide) (by decide) rfl (fun c188 => ?_) (fun c188 => (by exact absurd c188 (by decide) : False).elim)
      refine s_iload 49 A S182 at_47 rfl rfl ?_
      refine s_iconst (z := (2 : Int32)) 50 A S182 at_49 rfl rfl ?_
      refine s_ile (xi := 1) (yi := 2) 59 53 A S182 rfl rfl at_50 (by decide) (by decide) rfl (fun c189 => ?_) (fun c189 => (by exact absurd c189 (by decide) : False).elim)
      refine s_iload 61 A S182 at_59 rfl rfl ?_
      refine s_ifle (xi := 1) 71 64 A S182 rfl at_61 (by decide) (by decide) rfl (fun c190 => (by exact absurd c190 (by decide) : False).elim) (fun c190 => ?_)
      refine s_lloadN 65 A S182 at_64 rfl rfl ?_
      refine s_callV (y := (⟨"com/example/orderly_sieve/orderlysieve/query/RowSetCountPinLaw", "pop", "(J)I"⟩ : MethodName)) (argsL := [(.long i0)]) (rest := []) 68 A S182 (hw _ (List.mem_of_getElem? (i := 1) rfl)) (hw _ (List.mem_of_getElem? (i := 2) rfl)) (hw _ (List.mem_of_getElem? (i := 3) rfl)) (hw _ (List.mem_of_getElem? (i := 4) rfl)) (rm1 l Z a0 hw [] i0 h181 n0 Z186) (lenOf pd__J_I rfl) at_65 rfl rfl rfl (by decide) (by decide) (Nat.le_of_ble_eq_true rfl) (by decide) (by decide) fun T191 S192 => ?_
      refine s_goto 72 A S192 at_68 (by decide) (by decide) ?_
      refine s_iload 74 A S192 at_72 rfl rfl ?_
      refine s_iconst (z := (1 : Int32)) 75 A S192 at_74 rfl rfl ?_
      refine s_ile (xi := 1) (yi := 1) 85 78 A S192 rfl rfl at_75 (by decide) (by decide) rfl (fun c193 => ?_) (fun c193 => (by exact absurd c193 (by decide) : False).elim)
      refine s_iconst (z := (0 : Int32)) 86 A S192 at_85 rfl rfl ?_
      refine s_iadd (z := ((own_pop i0) + (0 : Int32))) 87 A S192 at_86 rfl rfl ?_
      refine s_iload 89 A S192 at_87 rfl rfl ?_
      refine s_iconst (z := (2 : Int32)) 90 A S192 at_89 rfl rfl ?_
      refine s_ile (xi := 1) (yi := 2) 101 93 A S192 rfl rfl at_90 (by decide) (by decide) rfl (fun c194 => ?_) (fun c194 => (by exact absurd c194 (by decide) : False).elim)
      refine s_iconst (z := (0 : Int32)) 102 A S192 at_101 rfl rfl ?_
      refine s_iadd (z := (((own_pop i0) + (0 : Int32)) + (0 : Int32))) 103 A S192 at_102 rfl rfl ?_
      refine s_istore (Ls' := #[.val (.long i0), .second, .val (.long i1), .second, .val (.long i2), .second, .val (.int i3), .val (.int i4), .val (.int (1 : Int32)), .val (.int (0 : Int32)), .val (.ref a176), .val (.int (((own_pop i0) + (0 : Int32)) + (0 : Int32))), .unset, .unset, .unset, .unset, .unset, .unset]) 105 A S192 at_103 rfl rfl ?_
      refine s_new 108 A S192 (hw _ (List.mem_of_getElem? (i := 9) rfl)) (hw _ (List.mem_of_getElem? (i := 10) rfl)) (hw _ (List.mem_of_getElem? (i := 11) rfl)) at_105 rfl (by decide) (by decide) fun T195 h196 a198 ha_a198 E_a198 X_a198 D_a198 S197 => ?_
      have ne_a176_a198 : a176 ≠ a198 := by rw [ha_a198]; exact Nat.ne_of_lt V187.lt
      have ge_a198 : n0 ≤ a198 := by rw [ha_a198]; exact Z186
      have V199 := Arv.ext V187 E_a198
      have Z200 : n0 ≤ h196.size := Nat.le_trans Z186 E_a198.1
      have F_a198_words : Fld Z h196 a198 "com/example/orderly_sieve/orderlysieve/query/RowSet" "words" "[J" .null := D_a198 (Or.inr (hw _ (List.mem_of_getElem? (i := 19) rfl))) (ty := (.array .long)) (by decide)
      have F_a198_size : Fld Z h196 a198 "com/example/orderly_sieve/orderlysieve/query/RowSet" "size" "I" (.int (0 : Int32)) := D_a198 (Or.inr (hw _ (List.mem_of_getElem? (i := 21) rfl))) (ty := .int) (by decide)
      have F_a198_count : Fld Z h196 a198 "com/example/orderly_sieve/orderlysieve/query/RowSet" "count" "I" (.int (0 : Int32)) := D_a198 (Or.inl (hw _ (List.mem_of_getElem? (i := 23) rfl))) (ty := .int) (by decide)
      refine s_dup 109 A S197 at_108 rfl rfl ?_
      refine s_aload 111 A S197 at_109 rfl (by first | rfl | assumption) rfl ?_
      refine s_bipush (z := (64 : Int32)) 113 A S197 at_111 rfl rfl ?_
      refine s_iload 115 A S197 at_113 rfl rfl ?_
      refine s_imul (z := (64 : Int32)) 116 A S197 at_115 (by decide) rfl ?_
      refine s_iload 118 A S197 at_116 rfl rfl ?_
      refine s_ifeq (xi := 0) 126 121 A S197 rfl at_118 (by decide) (by decide) rfl (fun c201 tc201 => ?_) (fun c201 tc201 => (by exact absurd tc201 (by decide) : False).elim)
      refine s_iconst (z := (-1 : Int32)) 127 A S197 at_126 rfl rfl ?_
      refine s_spec (y := (⟨"com/example/orderly_sieve/orderlysieve/query/RowSet", "<init>", "([JII)V"⟩ : MethodName)) (argsL := [(.ref a176), (.int (64 : Int32)), (.int (-1 : Int32))]) (rest := [(.ref a198)]) (b := a198) 130 A S197 (hw _ (List.mem_of_getElem? (i := 12) rfl)) (hw _ (List.mem_of_getElem? (i := 13) rfl)) (hw _ (List.mem_of_getElem? (i := 11) rfl)) (hw _ (List.mem_of_getElem? (i := 14) rfl)) (rm2 l Z a0 hw [] a198 a176 (64 : Int32) (-1 : Int32) h196 n0 Z200 X_a198 F_a198_words F_a198_size F_a198_count ge_a198) (lenOf pd___JII_V rfl) at_127 rfl rfl rfl rfl (by decide) (by decide) (Nat.le_of_ble_eq_true rfl) (by decide) (by decide) fun T202 h204 v205 q206 S203 => ?_
      obtain ⟨rfl, K207, E211, F208, F209, F210⟩ := q206
      show own_G _ _ _ _ _ _ _ _ _ (mkF m 130 #[.val (.long i0), .second, .val (.long i1), .second, .val (.long i2), .second, .val (.int i3), .val (.int i4), .val (.int (1 : Int32)), .val (.int (0 : Int32)), .val (.ref a176), .val (.int (((own_pop i0) + (0 : Int32)) + (0 : Int32))), .unset, .unset, .unset, .unset, .unset, .unset] [(.ref a198)])
      have E215 := Exa.keep X_a198 K207
      have V216 := Arv.keep V199 K207 (ninS ne_a176_a198 nin0)
      have Z217 : n0 ≤ h204.size := Nat.le_trans Z200 K207.1
      refine s_astore (Ls' := #[.val (.long i0), .second, .val (.long i1), .second, .val (.long i2), .second, .val (.int i3), .val (.int i4), .val (.int (1 : Int32)), .val (.int (0 : Int32)), .val (.ref a176), .val (.int (((own_pop i0) + (0 : Int32)) + (0 : Int32))), .val (.ref a198), .unset, .unset, .unset, .unset, .unset]) 132 A S203 at_130 (by first | rfl | assumption) rfl rfl ?_
      refine s_aload 134 A S203 at_132 rfl (by first | rfl | assumption) rfl ?_
      refine s_virt (y := (⟨"com/example/orderly_sieve/orderlysieve/query/RowSet", "count", "()I"⟩ : MethodName)) (z := (⟨"com/example/orderly_sieve/orderlysieve/query/RowSet", "count", "()I"⟩ : MethodName)) (argsL := []) (rest := []) (b := a198) 137 A S203 E215 (hw _ (List.mem_of_getElem? (i := 24) rfl)) (hw _ (List.mem_of_getElem? (i := 25) rfl)) (notFace_of_selects (args := #[]) (mvT A.2.2.2.2.2.2.2 (hw _ (List.mem_of_getElem? (i := 27) rfl)))) (hw _ (List.mem_of_getElem? (i := 27) rfl)) (hw _ (List.mem_of_getElem? (i := 26) rfl)) (hw _ (List.mem_of_getElem? (i := 11) rfl)) (hw _ (List.mem_of_getElem? (i := 28) rfl)) (rmC1 l Z a0 hw [] a198 a176 k175 (64 : Int32) (-1 : Int32) i0 h204 n0 Z217 E215 F208 F209 F210 V216 ge_a198 ne_a176_a198 (by decide)) (lenOf pd___I rfl) at_134 rfl rfl rfl (by decide) (by decide) (Nat.le_of_ble_eq_true rfl) (by decide) (by decide) fun T218 h220 v221 q222 S219 => ?_
      obtain ⟨rfl, K223, F224, F225, F226⟩ := q222
      show own_G _ _ _ _ _ _ _ _ _ (mkF m 137 #[.val (.long i0), .second, .val (.long i1), .second, .val (.long i2), .second, .val (.int i3), .val (.int i4), .val (.int (1 : Int32)), .val (.int (0 : Int32)), .val (.ref a176), .val (.int (((own_pop i0) + (0 : Int32)) + (0 : Int32))), .val (.ref a198), .unset, .unset, .unset, .unset, .unset] [(.int ((0 : Int32) + (own_bc i0)))])
      have E230 := Exa.keep E215 K223
      have V231 := Arv.keep V216 K223 (ninS ne_a176_a198 nin0)
      have Z232 : n0 ≤ h220.size := Nat.le_trans Z217 K223.1
      refine s_istore (Ls' := #[.val (.long i0), .second, .val (.long i1), .second, .val (.long i2), .second, .val (.int i3), .val (.int i4), .val (.int (1 : Int32)), .val (.int (0 : Int32)), .val (.ref a176), .val (.int (((own_pop i0) + (0 : Int32)) + (0 : Int32))), .val (.ref a198), .val (.int ((0 : Int32) + (own_bc i0))), .unset, .unset, .unset, .unset]) 139 A S219 at_137 rfl rfl ?_
      refine s_aload 141 A S219 at_139 rfl (by first | rfl | assumption) rfl ?_
      refine s_virtV (y := (⟨"com/example/orderly_sieve/orderlysieve/query/RowSet", "count", "()I"⟩ : MethodName)) (z := (⟨"com/example/orderly_sieve/orderlysieve/query/RowSet", "count", "()I"⟩ : MethodName)) (argsL := []) (rest := []) (b := a198) 144 A S219 E230 (hw _ (List.mem_of_getElem? (i := 24) rfl)) (hw _ (List.mem_of_getElem? (i := 25) rfl)) (notFace_of_selects (args := #[]) (mvT A.2.2.2.2.2.2.2 (hw _ (List.mem_of_getElem? (i := 27) rfl)))) (hw _ (List.mem_of_getElem? (i := 27) rfl)) (hw _ (List.mem_of_getElem? (i := 26) rfl)) (hw _ (List.mem_of_getElem? (i := 11) rfl)) (hw _ (List.mem_of_getElem? (i := 28) rfl)) (rmCpos l Z a0 hw [] a198 ((0 : Int32) + (own_bc i0)) h220 n0 Z232 F226 (own_bsum1 i0)) (lenOf pd___I rfl) at_141 rfl rfl rfl (by decide) (by decide) (Nat.le_of_ble_eq_true rfl) (by decide) (by decide) fun T233 S234 => ?_
      refine s_istore (Ls' := #[.val (.long i0), .second, .val (.long i1), .second, .val (.long i2), .second, .val (.int i3), .val (.int i4), .val (.int (1 : Int32)), .val (.int (0 : Int32)), .val (.ref a176), .val (.int (((own_pop i0) + (0 : Int32)) + (0 : Int32))), .val (.ref a198), .val (.int ((0 : Int32) + (own_bc i0))), .val (.int ((0 : Int32) + (own_bc i0))), .unset, .unset, .unset]) 146 A S234 at_144 rfl rfl ?_
      refine s_aload 148 A S234 at_146 rfl (by first | rfl | assumption) rfl ?_
      refine s_virt (y := (⟨"com/example/orderly_sieve/orderlysieve/query/RowSet", "words", "()[J"⟩ : MethodName)) (z := (⟨"com/example/orderly_sieve/orderlysieve/query/RowSet", "words", "()[J"⟩ : MethodName)) (argsL := []) (rest := []) (b := a198) 151 A S234 E230 (hw _ (List.mem_of_getElem? (i := 29) rfl)) (hw _ (List.mem_of_getElem? (i := 30) rfl)) (notFace_of_selects (args := #[]) (mvT A.2.2.2.2.2.2.2 (hw _ (List.mem_of_getElem? (i := 32) rfl)))) (hw _ (List.mem_of_getElem? (i := 32) rfl)) (hw _ (List.mem_of_getElem? (i := 31) rfl)) (hw _ (List.mem_of_getElem? (i := 11) rfl)) (hw _ (List.mem_of_getElem? (i := 33) rfl)) (rm5 l Z a0 hw [] a198 a176 (64 : Int32) ((0 : Int32) + (own_bc i0)) h220 n0 Z232 E230 F224 F225 F226 ge_a198) (lenOf pd____J rfl) at_148 rfl rfl rfl (by decide) (by decide) (Nat.le_of_ble_eq_true rfl) (by decide) (by decide) fun T235 h237 v238 q239 S236 => ?_
      obtain ⟨rfl, K240, F241, F242, F243⟩ := q239
      show own_G _ _ _ _ _ _ _ _ _ (mkF m 151 #[.val (.long i0), .second, .val (.long i1), .second, .val (.long i2), .second, .val (.int i3), .val (.int i4), .val (.int (1 : Int32)), .val (.int (0 : Int32)), .val (.ref a176), .val (.int (((own_pop i0) + (0 : Int32)) + (0 : Int32))), .val (.ref a198), .val (.int ((0 : Int32) + (own_bc i0))), .val (.int ((0 : Int32) + (own_bc i0))), .unset, .unset, .unset] [(.ref a176)])
      have E247 := Exa.keep E230 K240
      have V248 := Arv.keep V231 K240 (ninS ne_a176_a198 nin0)
      have Z249 : n0 ≤ h237.size := Nat.le_trans Z232 K240.1
      refine s_astore (Ls' := #[.val (.long i0), .second, .val (.long i1), .second, .val (.long i2), .second, .val (.int i3), .val (.int i4), .val (.int (1 : Int32)), .val (.int (0 : Int32)), .val (.ref a176), .val (.int (((own_pop i0) + (0 : Int32)) + (0 : Int32))), .val (.ref a198), .val (.int ((0 : Int32) + (own_bc i0))), .val (.int ((0 : Int32) + (own_bc i0))), .val (.ref a176), .unset, .unset]) 153 A S236 at_151 (by first | rfl | assumption) rfl rfl ?_
      refine s_aload 155 A S236 at_153 rfl (by first | rfl | assumption) rfl ?_
      refine s_alen 156 A S236 V248 at_155 rfl ?_
      refine s_iload 158 A S236 at_156 rfl rfl ?_
      refine s_ine (xi := 1) (yi := 1) 211 161 A S236 rfl rfl at_158 (by decide) (by decide) rfl (fun c250 tc250 => (by exact absurd tc250 (by decide) : False).elim) (fun c250 tc250 => ?_)
      refine s_iload 163 A S236 at_161 rfl rfl ?_
      refine s_iconst (z := (1 : Int32)) 164 A S236 at_163 rfl rfl ?_
      refine s_ilt (xi := 1) (yi := 1) 176 167 A S236 rfl rfl at_164 (by decide) (by decide) rfl (fun c251 => (by exact absurd c251 (by decide) : False).elim) (fun c251 => ?_)
      refine s_aload 169 A S236 at_167 rfl (by first | rfl | assumption) rfl ?_
      refine s_iconst (z := (0 : Int32)) 170 A S236 at_169 rfl rfl ?_
      refine s_lald (v := (.long i0)) 171 A S236 V248 ⟨by decide, by decide⟩ rfl at_170 rfl ?_
      refine s_lloadN 172 A S236 at_171 rfl rfl ?_
      refine s_lifne 211 176 173 A S236 rfl rfl at_172 rfl at_173 (by decide) (by decide) rfl (fun c252 tc252 => (by exact c252 rfl : False).elim) (fun c252 tc252 => ?_)
      refine s_iload 178 A S236 at_176 rfl rfl ?_
      refine s_iconst (z := (2 : Int32)) 179 A S236 at_178 rfl rfl ?_
      refine s_ilt (xi := 1) (yi := 2) 191 182 A S236 rfl rfl at_179 (by decide) (by decide) rfl (fun c253 => ?_) (fun c253 => (by exact absurd c253 (by decide) : False).elim)
      refine s_iload 193 A S236 at_191 rfl rfl ?_
      refine s_iconst (z := (3 : Int32)) 194 A S236 at_193 rfl rfl ?_
      refine s_ilt (xi := 1) (yi := 3) 207 197 A S236 rfl rfl at_194 (by decide) (by decide) rfl (fun c254 => ?_) (fun c254 => (by exact absurd c254 (by decide) : False).elim)
      refine s_iconst (z := (1 : Int32)) 208 A S236 at_207 rfl rfl ?_
      refine s_goto 212 A S236 at_208 (by decide) (by decide) ?_
      refine s_istore (Ls' := #[.val (.long i0), .second, .val (.long i1), .second, .val (.long i2), .second, .val (.int i3), .val (.int i4), .val (.int (1 : Int32)), .val (.int (0 : Int32)), .val (.ref a176), .val (.int (((own_pop i0) + (0 : Int32)) + (0 : Int32))), .val (.ref a198), .val (.int ((0 : Int32) + (own_bc i0))), .val (.int ((0 : Int32) + (own_bc i0))), .val (.ref a176), .val (.int (1 : Int32)), .unset]) 214 A S236 at_212 rfl rfl ?_
      refine s_aload 216 A S236 at_214 rfl (by first | rfl | assumption) rfl ?_
      refine s_virt (y := (⟨"com/example/orderly_sieve/orderlysieve/query/RowSet", "count", "()I"⟩ : MethodName)) (z := (⟨"com/example/orderly_sieve/orderlysieve/query/RowSet", "count", "()I"⟩ : MethodName)) (argsL := []) (rest := []) (b := a198) 219 A S236 E247 (hw _ (List.mem_of_getElem? (i := 24) rfl)) (hw _ (List.mem_of_getElem? (i := 25) rfl)) (notFace_of_selects (args := #[]) (mvT A.2.2.2.2.2.2.2 (hw _ (List.mem_of_getElem? (i := 27) rfl)))) (hw _ (List.mem_of_getElem? (i := 27) rfl)) (hw _ (List.mem_of_getElem? (i := 26) rfl)) (hw _ (List.mem_of_getElem? (i := 11) rfl)) (hw _ (List.mem_of_getElem? (i := 28) rfl)) (rmC1 l Z a0 hw [] a198 a176 k175 (64 : Int32) (-1 : Int32) i0 h237 n0 Z249 E247 F241 F242 F243 V248 ge_a198 ne_a176_a198 (by decide)) (lenOf pd___I rfl) at_216 rfl rfl rfl (by decide) (by decide) (Nat.le_of_ble_eq_true rfl) (by decide) (by decide) fun T255 h257 v258 q259 S256 => ?_
      obtain ⟨rfl, K260, F261, F262, F263⟩ := q259
      show own_G _ _ _ _ _ _ _ _ _ (mkF m 219 #[.val (.long i0), .second, .val (.long i1), .second, .val (.long i2), .second, .val (.int i3), .val (.int i4), .val (.int (1 : Int32)), .val (.int (0 : Int32)), .val (.ref a176), .val (.int (((own_pop i0) + (0 : Int32)) + (0 : Int32))), .val (.ref a198), .val (.int ((0 : Int32) + (own_bc i0))), .val (.int ((0 : Int32) + (own_bc i0))), .val (.ref a176), .val (.int (1 : Int32)), .unset] [(.int ((0 : Int32) + (own_bc i0)))])
      have E267 := Exa.keep E247 K260
      have V268 := Arv.keep V248 K260 (ninS ne_a176_a198 nin0)
      have Z269 : n0 ≤ h257.size := Nat.le_trans Z249 K260.1
      refine s_istore (Ls' := #[.val (.long i0), .second, .val (.long i1), .second, .val (.long i2), .second, .val (.int i3), .val (.int i4), .val (.int (1 : Int32)), .val (.int (0 : Int32)), .val (.ref a176), .val (.int (((own_pop i0) + (0 : Int32)) + (0 : Int32))), .val (.ref a198), .val (.int ((0 : Int32) + (own_bc i0))), .val (.int ((0 : Int32) + (own_bc i0))), .val (.ref a176), .val (.int (1 : Int32)), .val (.int ((0 : Int32) + (own_bc i0)))]) 221 A S256 at_219 rfl rfl ?_
      refine s_iload 223 A S256 at_221 rfl rfl ?_
      refine s_iload 225 A S256 at_223 rfl rfl ?_
      refine s_ine 251 228 A S256 rfl rfl at_225 (by decide) (by decide) rfl (fun c270 tc270 => (by exact c270 (by simp only [own_pe, Int32.zero_add, Int32.add_zero]) : False).elim) (fun c270 tc270 => ?_)
      refine s_iload 230 A S256 at_228 rfl rfl ?_
      refine s_iload 232 A S256 at_230 rfl rfl ?_
      refine s_ine 251 235 A S256 rfl rfl at_232 (by decide) (by decide) rfl (fun c271 tc271 => (by exact c271 (by simp only [own_pe, Int32.zero_add, Int32.add_zero]) : False).elim) (fun c271 tc271 => ?_)
      refine s_iload 237 A S256 at_235 rfl rfl ?_
      refine s_iload 239 A S256 at_237 rfl rfl ?_
      refine s_ine 251 242 A S256 rfl rfl at_239 (by decide) (by decide) rfl (fun c272 tc272 => (by exact c272 (by simp only [own_pe, Int32.zero_add, Int32.add_zero]) : False).elim) (fun c272 tc272 => ?_)
      refine s_iload 244 A S256 at_242 rfl rfl ?_
      refine s_ifeq (xi := 1) 251 247 A S256 rfl at_244 (by decide) (by decide) rfl (fun c273 tc273 => (by exact absurd tc273 (by decide) : False).elim) (fun c273 tc273 => ?_)
      refine s_iconst (z := (1 : Int32)) 248 A S256 at_247 rfl rfl ?_
      refine s_goto 252 A S256 at_248 (by decide) (by decide) ?_
      exact s_retZ A S256 at_252 rfl (by decide) (by decide) rfl
    · refine s_iconst (z := (1 : Int32)) 14 A S at_13 rfl rfl ?_
      refine s_goto 18 A S at_14 (by decide) (by decide) ?_
      refine s_istore (Ls' := #[.val (.long i0), .second, .val (.long i1), .second, .val (.long i2), .second, .val (.int i3), .val (.int i4), .val (.int (1 : Int32)), .val (.int (1 : Int32)), .unset, .unset, .unset, .unset, .unset, .unset, .unset, .unset]) 20 A S at_18 rfl rfl ?_
      refine s_iload 22 A S at_20 rfl rfl ?_
      refine s_newP (cap := 1) 24 A S (hw _ (List.mem_of_getElem? (i := 0) rfl)) at_22 (by decide) (by decide) (by decide) rfl (by decide) (by decide) fun T274 h275 k277 a278 ha_a278 E_a278 V_a278 S276 => ?_
      have ge_a278 : n0 ≤ a278 := by rw [ha_a278]; exact Z0
      have Z279 : n0 ≤ h275.size := Nat.le_trans Z0 E_a278.1
      have V280 : Arv Z h275 a278 k277 .long (1 : Int32) [(.long 0)] (.long 0) := Arv.pad V_a278 (fun i => by simpa using pad_rep [] (.long 0) 1 i)
      refine s_astore (Ls' := #[.val (.long i0), .second, .val (.long i1), .second, .val (.long i2), .second, .val (.int i3), .val (.int i4), .val (.int (1 : Int32)), .val (.int (1 : Int32)), .val (.ref a278), .unset, .unset, .unset, .unset, .unset, .unset, .unset]) 26 A S276 at_24 (by first | rfl | assumption) rfl rfl ?_
      refine s_iload 28 A S276 at_26 rfl rfl ?_
      refine s_ifle (xi := 1) 36 31 A S276 rfl at_28 (by decide) (by decide) rfl (fun c281 => (by exact absurd c281 (by decide) : False).elim) (fun c281 => ?_)
      refine s_aload 33 A S276 at_31 rfl (by first | rfl | assumption) rfl ?_
      refine s_iconst (z := (0 : Int32)) 34 A S276 at_33 rfl rfl ?_
      refine s_lloadN 35 A S276 at_34 rfl rfl ?_
      refine s_last 36 A S276 V280 ⟨by decide, by decide⟩ 0 rfl (Nat.le_of_ble_eq_true rfl) ge_a278 at_35 rfl fun T282 h283 W285 V286 S284 => ?_
      have Z288 : n0 ≤ h283.size := by rw [W285.size]; exact Z279
      have V289 : Arv Z h283 a278 k277 .long (1 : Int32) [(.long i0)] (.long 0) := V286
      refine s_iload 38 A S284 at_36 rfl rfl ?_
      refine s_iconst (z := (1 : Int32)) 39 A S284 at_38 rfl rfl ?_
      refine s_ile (xi := 1) (yi := 1) 47 42 A S284 rfl rfl at_39 (by decide) (by decide) rfl (fun c290 => ?_) (fun c290 => (by exact absurd c290 (by decide) : False).elim)
      refine s_iload 49 A S284 at_47 rfl rfl ?_
      refine s_iconst (z := (2 : Int32)) 50 A S284 at_49 rfl rfl ?_
      refine s_ile (xi := 1) (yi := 2) 59 53 A S284 rfl rfl at_50 (by decide) (by decide) rfl (fun c291 => ?_) (fun c291 => (by exact absurd c291 (by decide) : False).elim)
      refine s_iload 61 A S284 at_59 rfl rfl ?_
      refine s_ifle (xi := 1) 71 64 A S284 rfl at_61 (by decide) (by decide) rfl (fun c292 => (by exact absurd c292 (by decide) : False).elim) (fun c292 => ?_)
      refine s_lloadN 65 A S284 at_64 rfl rfl ?_
      refine s_callV (y := (⟨"com/example/orderly_sieve/orderlysieve/query/RowSetCountPinLaw", "pop", "(J)I"⟩ : MethodName)) (argsL := [(.long i0)]) (rest := []) 68 A S284 (hw _ (List.mem_of_getElem? (i := 1) rfl)) (hw _ (List.mem_of_getElem? (i := 2) rfl)) (hw _ (List.mem_of_getElem? (i := 3) rfl)) (hw _ (List.mem_of_getElem? (i := 4) rfl)) (rm1 l Z a0 hw [] i0 h283 n0 Z288) (lenOf pd__J_I rfl) at_65 rfl rfl rfl (by decide) (by decide) (Nat.le_of_ble_eq_true rfl) (by decide) (by decide) fun T293 S294 => ?_
      refine s_goto 72 A S294 at_68 (by decide) (by decide) ?_
      refine s_iload 74 A S294 at_72 rfl rfl ?_
      refine s_iconst (z := (1 : Int32)) 75 A S294 at_74 rfl rfl ?_
      refine s_ile (xi := 1) (yi := 1) 85 78 A S294 rfl rfl at_75 (by decide) (by decide) rfl (fun c295 => ?_) (fun c295 => (by exact absurd c295 (by decide) : False).elim)
      refine s_iconst (z := (0 : Int32)) 86 A S294 at_85 rfl rfl ?_
      refine s_iadd (z := ((own_pop i0) + (0 : Int32))) 87 A S294 at_86 rfl rfl ?_
      refine s_iload 89 A S294 at_87 rfl rfl ?_
      refine s_iconst (z := (2 : Int32)) 90 A S294 at_89 rfl rfl ?_
      refine s_ile (xi := 1) (yi := 2) 101 93 A S294 rfl rfl at_90 (by decide) (by decide) rfl (fun c296 => ?_) (fun c296 => (by exact absurd c296 (by decide) : False).elim)
      refine s_iconst (z := (0 : Int32)) 102 A S294 at_101 rfl rfl ?_
      refine s_iadd (z := (((own_pop i0) + (0 : Int32)) + (0 : Int32))) 103 A S294 at_102 rfl rfl ?_
      refine s_istore (Ls' := #[.val (.long i0), .second, .val (.long i1), .second, .val (.long i2), .second, .val (.int i3), .val (.int i4), .val (.int (1 : Int32)), .val (.int (1 : Int32)), .val (.ref a278), .val (.int (((own_pop i0) + (0 : Int32)) + (0 : Int32))), .unset, .unset, .unset, .unset, .unset, .unset]) 105 A S294 at_103 rfl rfl ?_
      refine s_new 108 A S294 (hw _ (List.mem_of_getElem? (i := 9) rfl)) (hw _ (List.mem_of_getElem? (i := 10) rfl)) (hw _ (List.mem_of_getElem? (i := 11) rfl)) at_105 rfl (by decide) (by decide) fun T297 h298 a300 ha_a300 E_a300 X_a300 D_a300 S299 => ?_
      have ne_a278_a300 : a278 ≠ a300 := by rw [ha_a300]; exact Nat.ne_of_lt V289.lt
      have ge_a300 : n0 ≤ a300 := by rw [ha_a300]; exact Z288
      have V301 := Arv.ext V289 E_a300
      have Z302 : n0 ≤ h298.size := Nat.le_trans Z288 E_a300.1
      have F_a300_words : Fld Z h298 a300 "com/example/orderly_sieve/orderlysieve/query/RowSet" "words" "[J" .null := D_a300 (Or.inr (hw _ (List.mem_of_getElem? (i := 19) rfl))) (ty := (.array .long)) (by decide)
      have F_a300_size : Fld Z h298 a300 "com/example/orderly_sieve/orderlysieve/query/RowSet" "size" "I" (.int (0 : Int32)) := D_a300 (Or.inr (hw _ (List.mem_of_getElem? (i := 21) rfl))) (ty := .int) (by decide)
      have F_a300_count : Fld Z h298 a300 "com/example/orderly_sieve/orderlysieve/query/RowSet" "count" "I" (.int (0 : Int32)) := D_a300 (Or.inl (hw _ (List.mem_of_getElem? (i := 23) rfl))) (ty := .int) (by decide)
      refine s_dup 109 A S299 at_108 rfl rfl ?_
      refine s_aload 111 A S299 at_109 rfl (by first | rfl | assumption) rfl ?_
      refine s_bipush (z := (64 : Int32)) 113 A S299 at_111 rfl rfl ?_
      refine s_iload 115 A S299 at_113 rfl rfl ?_
      refine s_imul (z := (64 : Int32)) 116 A S299 at_115 (by decide) rfl ?_
      refine s_iload 118 A S299 at_116 rfl rfl ?_
      refine s_ifeq (xi := 1) 126 121 A S299 rfl at_118 (by decide) (by decide) rfl (fun c303 tc303 => (by exact absurd tc303 (by decide) : False).elim) (fun c303 tc303 => ?_)
      refine s_iload 123 A S299 at_121 rfl rfl ?_
      refine s_goto 127 A S299 at_123 (by decide) (by decide) ?_
      refine s_spec (y := (⟨"com/example/orderly_sieve/orderlysieve/query/RowSet", "<init>", "([JII)V"⟩ : MethodName)) (argsL := [(.ref a278), (.int (64 : Int32)), (.int (((own_pop i0) + (0 : Int32)) + (0 : Int32)))]) (rest := [(.ref a300)]) (b := a300) 130 A S299 (hw _ (List.mem_of_getElem? (i := 12) rfl)) (hw _ (List.mem_of_getElem? (i := 13) rfl)) (hw _ (List.mem_of_getElem? (i := 11) rfl)) (hw _ (List.mem_of_getElem? (i := 14) rfl)) (rm2 l Z a0 hw [] a300 a278 (64 : Int32) (((own_pop i0) + (0 : Int32)) + (0 : Int32)) h298 n0 Z302 X_a300 F_a300_words F_a300_size F_a300_count ge_a300) (lenOf pd___JII_V rfl) at_127 rfl rfl rfl rfl (by decide) (by decide) (Nat.le_of_ble_eq_true rfl) (by decide) (by decide) fun T304 h306 v307 q308 S305 => ?_
      obtain ⟨rfl, K309, E313, F310, F311, F312⟩ := q308
      show own_G _ _ _ _ _ _ _ _ _ (mkF m 130 #[.val (.long i0), .second, .val (.long i1), .second, .val (.long i2), .second, .val (.int i3), .val (.int i4), .val (.int (1 : Int32)), .val (.int (1 : Int32)), .val (.ref a278), .val (.int (((own_pop i0) + (0 : Int32)) + (0 : Int32))), .unset, .unset, .unset, .unset, .unset, .unset] [(.ref a300)])
      have E317 := Exa.keep X_a300 K309
      have V318 := Arv.keep V301 K309 (ninS ne_a278_a300 nin0)
      have Z319 : n0 ≤ h306.size := Nat.le_trans Z302 K309.1
      refine s_astore (Ls' := #[.val (.long i0), .second, .val (.long i1), .second, .val (.long i2), .second, .val (.int i3), .val (.int i4), .val (.int (1 : Int32)), .val (.int (1 : Int32)), .val (.ref a278), .val (.int (((own_pop i0) + (0 : Int32)) + (0 : Int32))), .val (.ref a300), .unset, .unset, .unset, .unset, .unset]) 132 A S305 at_130 (by first | rfl | assumption) rfl rfl ?_
      refine s_aload 134 A S305 at_132 rfl (by first | rfl | assumption) rfl ?_
      refine s_virtV (y := (⟨"com/example/orderly_sieve/orderlysieve/query/RowSet", "count", "()I"⟩ : MethodName)) (z := (⟨"com/example/orderly_sieve/orderlysieve/query/RowSet", "count", "()I"⟩ : MethodName)) (argsL := []) (rest := []) (b := a300) 137 A S305 E317 (hw _ (List.mem_of_getElem? (i := 24) rfl)) (hw _ (List.mem_of_getElem? (i := 25) rfl)) (notFace_of_selects (args := #[]) (mvT A.2.2.2.2.2.2.2 (hw _ (List.mem_of_getElem? (i := 27) rfl)))) (hw _ (List.mem_of_getElem? (i := 27) rfl)) (hw _ (List.mem_of_getElem? (i := 26) rfl)) (hw _ (List.mem_of_getElem? (i := 11) rfl)) (hw _ (List.mem_of_getElem? (i := 28) rfl)) (rmCpos l Z a0 hw [] a300 (((own_pop i0) + (0 : Int32)) + (0 : Int32)) h306 n0 Z319 F312 (own_sum3 (own_pb i0) (by decide) (by decide))) (lenOf pd___I rfl) at_134 rfl rfl rfl (by decide) (by decide) (Nat.le_of_ble_eq_true rfl) (by decide) (by decide) fun T320 S321 => ?_
      refine s_istore (Ls' := #[.val (.long i0), .second, .val (.long i1), .second, .val (.long i2), .second, .val (.int i3), .val (.int i4), .val (.int (1 : Int32)), .val (.int (1 : Int32)), .val (.ref a278), .val (.int (((own_pop i0) + (0 : Int32)) + (0 : Int32))), .val (.ref a300), .val (.int (((own_pop i0) + (0 : Int32)) + (0 : Int32))), .unset, .unset, .unset, .unset]) 139 A S321 at_137 rfl rfl ?_
      refine s_aload 141 A S321 at_139 rfl (by first | rfl | assumption) rfl ?_
      refine s_virtV (y := (⟨"com/example/orderly_sieve/orderlysieve/query/RowSet", "count", "()I"⟩ : MethodName)) (z := (⟨"com/example/orderly_sieve/orderlysieve/query/RowSet", "count", "()I"⟩ : MethodName)) (argsL := []) (rest := []) (b := a300) 144 A S321 E317 (hw _ (List.mem_of_getElem? (i := 24) rfl)) (hw _ (List.mem_of_getElem? (i := 25) rfl)) (notFace_of_selects (args := #[]) (mvT A.2.2.2.2.2.2.2 (hw _ (List.mem_of_getElem? (i := 27) rfl)))) (hw _ (List.mem_of_getElem? (i := 27) rfl)) (hw _ (List.mem_of_getElem? (i := 26) rfl)) (hw _ (List.mem_of_getElem? (i := 11) rfl)) (hw _ (List.mem_of_getElem? (i := 28) rfl)) (rmCpos l Z a0 hw [] a300 (((own_pop i0) + (0 : Int32)) + (0 : Int32)) h306 n0 Z319 F312 (own_sum3 (own_pb i0) (by decide) (by decide))) (lenOf pd___I rfl) at_141 rfl rfl rfl (by decide) (by decide) (Nat.le_of_ble_eq_true rfl) (by decide) (by decide) fun T322 S323 => ?_
      refine s_istore (Ls' := #[.val (.long i0), .second, .val (.long i1), .second, .val (.long i2), .second, .val (.int i3), .val (.int i4), .val (.int (1 : Int32)), .val (.int (1 : Int32)), .val (.ref a278), .val (.int (((own_pop i0) + (0 : Int32)) + (0 : Int32))), .val (.ref a300), .val (.int (((own_pop i0) + (0 : Int32)) + (0 : Int32))), .val (.int (((own_pop i0) + (0 : Int32)) + (0 : Int32))), .unset, .unset, .unset]) 146 A S323 at_144 rfl rfl ?_
      refine s_aload 148 A S323 at_146 rfl (by first | rfl | assumption) rfl ?_
      refine s_virt (y := (⟨"com/example/orderly_sieve/orderlysieve/query/RowSet", "words", "()[J"⟩ : MethodName)) (z := (⟨"com/example/orderly_sieve/orderlysieve/query/RowSet", "words", "()[J"⟩ : MethodName)) (argsL := []) (rest := []) (b := a300) 151 A S323 E317 (hw _ (List.mem_of_getElem? (i := 29) rfl)) (hw _ (List.mem_of_getElem? (i := 30) rfl)) (notFace_of_selects (args := #[]) (mvT A.2.2.2.2.2.2.2 (hw _ (List.mem_of_getElem? (i := 32) rfl)))) (hw _ (List.mem_of_getElem? (i := 32) rfl)) (hw _ (List.mem_of_getElem? (i := 31) rfl)) (hw _ (List.mem_of_getElem? (i := 11) rfl)) (hw _ (List.mem_of_getElem? (i := 33) rfl)) (rm5 l Z a0 hw [] a300 a278 (64 : Int32) (((own_pop i0) + (0 : Int32)) + (0 : Int32)) h306 n0 Z319 E317 F310 F311 F312 ge_a300) (lenOf pd____J rfl) at_148 rfl rfl rfl (by decide) (by decide) (Nat.le_of_ble_eq_true rfl) (by decide) (by decide) fun T324 h326 v327 q328 S325 => ?_
      obtain ⟨rfl, K329, F330, F331, F332⟩ := q328
      show own_G _ _ _ _ _ _ _ _ _ (mkF m 151 #[.val (.long i0), .second, .val (.long i1), .second, .val (.long i2), .second, .val (.int i3), .val (.int i4), .val (.int (1 : Int32)), .val (.int (1 : Int32)), .val (.ref a278), .val (.int (((own_pop i0) + (0 : Int32)) + (0 : Int32))), .val (.ref a300), .val (.int (((own_pop i0) + (0 : Int32)) + (0 : Int32))), .val (.int (((own_pop i0) + (0 : Int32)) + (0 : Int32))), .unset, .unset, .unset] [(.ref a278)])
      have E336 := Exa.keep E317 K329
      have V337 := Arv.keep V318 K329 (ninS ne_a278_a300 nin0)
      have Z338 : n0 ≤ h326.size := Nat.le_trans Z319 K329.1
      refine s_astore (Ls' := #[.val (.long i0), .second, .val (.long i1), .second, .val (.long i2), .second, .val (.int i3), .val (.int i4), .val (.int (1 : Int32)), .val (.int (1 : Int32)), .val (.ref a278), .val (.int (((own_pop i0) + (0 : Int32)) + (0 : Int32))), .val (.ref a300), .val (.int (((own_pop i0) + (0 : Int32)) + (0 : Int32))), .val (.int (((own_pop i0) + (0 : Int32)) + (0 : Int32))), .val (.ref a278), .unset, .unset]) 153 A S325 at_151 (by first | rfl | assumption) rfl rfl ?_
      refine s_aload 155 A S325 at_153 rfl (by first | rfl | assumption) rfl ?_
      refine s_alen 156 A S325 V337 at_155 rfl ?_
      refine s_iload 158 A S325 at_156 rfl rfl ?_
      refine s_ine (xi := 1) (yi := 1) 211 161 A S325 rfl rfl at_158 (by decide) (by decide) rfl (fun c339 tc339 => (by exact absurd tc339 (by decide) : False).elim) (fun c339 tc339 => ?_)
      refine s_iload 163 A S325 at_161 rfl rfl ?_
      refine s_iconst (z := (1 : Int32)) 164 A S325 at_163 rfl rfl ?_
      refine s_ilt (xi := 1) (yi := 1) 176 167 A S325 rfl rfl at_164 (by decide) (by decide) rfl (fun c340 => (by exact absurd c340 (by decide) : False).elim) (fun c340 => ?_)
      refine s_aload 169 A S325 at_167 rfl (by first | rfl | assumption) rfl ?_
      refine s_iconst (z := (0 : Int32)) 170 A S325 at_169 rfl rfl ?_
      refine s_lald (v := (.long i0)) 171 A S325 V337 ⟨by decide, by decide⟩ rfl at_170 rfl ?_
      refine s_lloadN 172 A S325 at_171 rfl rfl ?_
      refine s_lifne 211 176 173 A S325 rfl rfl at_172 rfl at_173 (by decide) (by decide) rfl (fun c341 tc341 => (by exact c341 rfl : False).elim) (fun c341 tc341 => ?_)
      refine s_iload 178 A S325 at_176 rfl rfl ?_
      refine s_iconst (z := (2 : Int32)) 179 A S325 at_178 rfl rfl ?_
      refine s_ilt (xi := 1) (yi := 2) 191 182 A S325 rfl rfl at_179 (by decide) (by decide) rfl (fun c342 => ?_) (fun c342 => (by exact absurd c342 (by decide) : False).elim)
      refine s_iload 193 A S325 at_191 rfl rfl ?_
      refine s_iconst (z := (3 : Int32)) 194 A S325 at_193 rfl rfl ?_
      refine s_ilt (xi := 1) (yi := 3) 207 197 A S325 rfl rfl at_194 (by decide) (by decide) rfl (fun c343 => ?_) (fun c343 => (by exact absurd c343 (by decide) : False).elim)
      refine s_iconst (z := (1 : Int32)) 208 A S325 at_207 rfl rfl ?_
      refine s_goto 212 A S325 at_208 (by decide) (by decide) ?_
      refine s_istore (Ls' := #[.val (.long i0), .second, .val (.long i1), .second, .val (.long i2), .second, .val (.int i3), .val (.int i4), .val (.int (1 : Int32)), .val (.int (1 : Int32)), .val (.ref a278), .val (.int (((own_pop i0) + (0 : Int32)) + (0 : Int32))), .val (.ref a300), .val (.int (((own_pop i0) + (0 : Int32)) + (0 : Int32))), .val (.int (((own_pop i0) + (0 : Int32)) + (0 : Int32))), .val (.ref a278), .val (.int (1 : Int32)), .unset]) 214 A S325 at_212 rfl rfl ?_
      refine s_aload 216 A S325 at_214 rfl (by first | rfl | assumption) rfl ?_
      refine s_virt (y := (⟨"com/example/orderly_sieve/orderlysieve/query/RowSet", "count", "()I"⟩ : MethodName)) (z := (⟨"com/example/orderly_sieve/orderlysieve/query/RowSet", "count", "()I"⟩ : MethodName)) (argsL := []) (rest := []) (b := a300) 219 A S325 E336 (hw _ (List.mem_of_getElem? (i := 24) rfl)) (hw _ (List.mem_of_getElem? (i := 25) rfl)) (notFace_of_selects (args := #[]) (mvT A.2.2.2.2.2.2.2 (hw _ (List.mem_of_getElem? (i := 27) rfl)))) (hw _ (List.mem_of_getElem? (i := 27) rfl)) (hw _ (List.mem_of_getElem? (i := 26) rfl)) (hw _ (List.mem_of_getElem? (i := 11) rfl)) (hw _ (List.mem_of_getElem? (i := 28) rfl)) (rmC1 l Z a0 hw [] a300 a278 k277 (64 : Int32) (-1 : Int32) i0 h326 n0 Z338 E336 F330 F331 F332 V337 ge_a300 ne_a278_a300 (by decide)) (lenOf pd___I rfl) at_216 rfl rfl rfl (by decide) (by decide) (Nat.le_of_ble_eq_true rfl) (by decide) (by decide) fun T344 h346 v347 q348 S345 => ?_
      obtain ⟨rfl, K349, F350, F351, F352⟩ := q348
      show own_G _ _ _ _ _ _ _ _ _ (mkF m 219 #[.val (.long i0), .second, .val (.long i1), .second, .val (.long i2), .second, .val (.int i3), .val (.int i4), .val (.int (1 : Int32)), .val (.int (1 : Int32)), .val (.ref a278), .val (.int (((own_pop i0) + (0 : Int32)) + (0 : Int32))), .val (.ref a300), .val (.int (((own_pop i0) + (0 : Int32)) + (0 : Int32))), .val (.int (((own_pop i0) + (0 : Int32)) + (0 : Int32))), .val (.ref a278), .val (.int (1 : Int32)), .unset] [(.int ((0 : Int32) + (own_bc i0)))])
      have E356 := Exa.keep E336 K349
      have V357 := Arv.keep V337 K349 (ninS ne_a278_a300 nin0)
      have Z358 : n0 ≤ h346.size := Nat.le_trans Z338 K349.1
      refine s_istore (Ls' := #[.val (.long i0), .second, .val (.long i1), .second, .val (.long i2), .second, .val (.int i3), .val (.int i4), .val (.int (1 : Int32)), .val (.int (1 : Int32)), .val (.ref a278), .val (.int (((own_pop i0) + (0 : Int32)) + (0 : Int32))), .val (.ref a300), .val (.int (((own_pop i0) + (0 : Int32)) + (0 : Int32))), .val (.int (((own_pop i0) + (0 : Int32)) + (0 : Int32))), .val (.ref a278), .val (.int (1 : Int32)), .val (.int ((0 : Int32) + (own_bc i0)))]) 221 A S345 at_219 rfl rfl ?_
      refine s_iload 223 A S345 at_221 rfl rfl ?_
      refine s_iload 225 A S345 at_223 rfl rfl ?_
      refine s_ine 251 228 A S345 rfl rfl at_225 (by decide) (by decide) rfl (fun c359 tc359 => (by exact c359 (by simp only [own_pe, Int32.zero_add, Int32.add_zero]) : False).elim) (fun c359 tc359 => ?_)
      refine s_iload 230 A S345 at_228 rfl rfl ?_
      refine s_iload 232 A S345 at_230 rfl rfl ?_
      refine s_ine 251 235 A S345 rfl rfl at_232 (by decide) (by decide) rfl (fun c360 tc360 => (by exact c360 (by simp only [own_pe, Int32.zero_add, Int32.add_zero]) : False).elim) (fun c360 tc360 => ?_)
      refine s_iload 237 A S345 at_235 rfl rfl ?_
      refine s_iload 239 A S345 at_237 rfl rfl ?_
      refine s_ine 251 242 A S345 rfl rfl at_239 (by decide) (by decide) rfl (fun c361 tc361 => (by exact c361 (by simp only [own_pe, Int32.zero_add, Int32.add_zero]) : False).elim) (fun c361 tc361 => ?_)
      refine s_iload 244 A S345 at_242 rfl rfl ?_
      refine s_ifeq (xi := 1) 251 247 A S345 rfl at_244 (by decide) (by decide) rfl (fun c362 tc362 => (by exact absurd tc362 (by decide) : False).elim) (fun c362 tc362 => ?_)
      refine s_iconst (z := (1 : Int32)) 248 A S345 at_247 rfl rfl ?_
      refine s_goto 252 A S345 at_248 (by decide) (by decide) ?_
      exact s_retZ A S345 at_252 rfl (by decide) (by decide) rfl
  · refine s_iload 8 A S at_6 rfl rfl ?_
    refine s_iconst (z := (1 : Int32)) 9 A S at_8 rfl rfl ?_
    refine s_iand (z := (i4 &&& (1 : Int32))) 10 A S at_9 rfl rfl ?_
    refine s_ifeq 17 13 A S rfl at_10 (by decide) (by decide) rfl (fun c363 tc363 => ?_) (fun c363 tc363 => ?_)
    · refine s_iconst (z := (0 : Int32)) 18 A S at_17 rfl rfl ?_
      refine s_istore (Ls' := #[.val (.long i0), .second, .val (.long i1), .second, .val (.long i2), .second, .val (.int i3), .val (.int i4), .val (.int (2 : Int32)), .val (.int (0 : Int32)), .unset, .unset, .unset, .unset, .unset, .unset, .unset, .unset]) 20 A S at_18 rfl rfl ?_
      refine s_iload 22 A S at_20 rfl rfl ?_
      refine s_newP (cap := 2) 24 A S (hw _ (List.mem_of_getElem? (i := 0) rfl)) at_22 (by decide) (by decide) (by decide) rfl (by decide) (by decide) fun T364 h365 k367 a368 ha_a368 E_a368 V_a368 S366 => ?_
      have ge_a368 : n0 ≤ a368 := by rw [ha_a368]; exact Z0
      have Z369 : n0 ≤ h365.size := Nat.le_trans Z0 E_a368.1
      have V370 : Arv Z h365 a368 k367 .long (2 : Int32) [(.long 0), (.long 0)] (.long 0) := Arv.pad V_a368 (fun i => by simpa using pad_rep [] (.long 0) 2 i)
      refine s_astore (Ls' := #[.val (.long i0), .second, .val (.long i1), .second, .val (.long i2), .second, .val (.int i3), .val (.int i4), .val (.int (2 : Int32)), .val (.int (0 : Int32)), .val (.ref a368), .unset, .unset, .unset, .unset, .unset, .unset, .unset]) 26 A S366 at_24 (by first | rfl | assumption) rfl rfl ?_
      refine s_iload 28 A S366 at_26 rfl rfl ?_
      refine s_ifle (xi := 2) 36 31 A S366 rfl at_28 (by decide) (by decide) rfl (fun c371 => (by exact absurd c371 (by decide) : False).elim) (fun c371 => ?_)
      refine s_aload 33 A S366 at_31 rfl (by first | rfl | assumption) rfl ?_
      refine s_iconst (z := (0 : Int32)) 34 A S366 at_33 rfl rfl ?_
      refine s_lloadN 35 A S366 at_34 rfl rfl ?_
      refine s_last 36 A S366 V370 ⟨by decide, by decide⟩ 0 rfl (Nat.le_of_ble_eq_true rfl) ge_a368 at_35 rfl fun T372 h373 W375 V376 S374 => ?_
      have Z378 : n0 ≤ h373.size := by rw [W375.size]; exact Z369
      have V379 : Arv Z h373 a368 k367 .long (2 : Int32) [(.long i0), (.long 0)] (.long 0) := V376
      refine s_iload 38 A S374 at_36 rfl rfl ?_
      refine s_iconst (z := (1 : Int32)) 39 A S374 at_38 rfl rfl ?_
      refine s_ile (xi := 2) (yi := 1) 47 42 A S374 rfl rfl at_39 (by decide) (by decide) rfl (fun c380 => (by exact absurd c380 (by decide) : False).elim) (fun c380 => ?_)
      refine s_aload 44 A S374 at_42 rfl (by first | rfl | assumption) rfl ?_
      refine s_iconst (z := (1 : Int32)) 45 A S374 at_44 rfl rfl ?_
      refine s_lloadN 46 A S374 at_45 rfl rfl ?_
      refine s_last 47 A S374 V379 ⟨by decide, by decide⟩ 1 rfl (Nat.le_of_ble_eq_true rfl) ge_a368 at_46 rfl fun T381 h382 W384 V385 S383 => ?_
      have Z387 : n0 ≤ h382.size := by rw [W384.size]; exact Z378
      have V388 : Arv Z h382 a368 k367 .long (2 : Int32) [(.long i0), (.long i1)] (.long 0) := V385
      refine s_iload 49 A S383 at_47 rfl rfl ?_
      refine s_iconst (z := (2 : Int32)) 50 A S383 at_49 rfl rfl ?_
      refine s_ile (xi := 2) (yi := 2) 59 53 A S383 rfl rfl at_50 (by decide) (by decide) rfl (fun c389 => ?_) (fun c389 => (by exact absurd c389 (by decide) : False).elim)
      refine s_iload 61 A S383 at_59 rfl rfl ?_
      refine s_ifle (xi := 2) 71 64 A S383 rfl at_61 (by decide) (by decide) rfl (fun c390 => (by exact absurd c390 (by decide) : False).elim) (fun c390 => ?_)
      refine s_lloadN 65 A S383 at_64 rfl rfl ?_
      refine s_callV (y := (⟨"com/example/orderly_sieve/orderlysieve/query/RowSetCountPinLaw", "pop", "(J)I"⟩ : MethodName)) (argsL := [(.long i0)]) (rest := []) 68 A S383 (hw _ (List.mem_of_getElem? (i := 1) rfl)) (hw _ (List.mem_of_getElem? (i := 2) rfl)) (hw _ (List.mem_of_getElem? (i := 3) rfl)) (hw _ (List.mem_of_getElem? (i := 4) rfl)) (rm1 l Z a0 hw [] i0 h382 n0 Z387) (lenOf pd__J_I rfl) at_65 rfl rfl rfl (by decide) (by decide) (Nat.le_of_ble_eq_true rfl) (by decide) (by decide) fun T391 S392 => ?_
      refine s_goto 72 A S392 at_68 (by decide) (by decide) ?_
      refine s_iload 74 A S392 at_72 rfl rfl ?_
      refine s_iconst (z := (1 : Int32)) 75 A S392 at_74 rfl rfl ?_
      refine s_ile (xi := 2) (yi := 1) 85 78 A S392 rfl rfl at_75 (by decide) (by decide) rfl (fun c393 => (by exact absurd c393 (by decide) : False).elim) (fun c393 => ?_)
      refine s_lloadN 79 A S392 at_78 rfl rfl ?_
      refine s_callV (y := (⟨"com/example/orderly_sieve/orderlysieve/query/RowSetCountPinLaw", "pop", "(J)I"⟩ : MethodName)) (argsL := [(.long i1)]) (rest := [(.int (own_pop i0))]) 82 A S392 (hw _ (List.mem_of_getElem? (i := 1) rfl)) (hw _ (List.mem_of_getElem? (i := 2) rfl)) (hw _ (List.mem_of_getElem? (i := 3) rfl)) (hw _ (List.mem_of_getElem? (i := 4) rfl)) (rm1 l Z a0 hw [] i1 h382 n0 Z387) (lenOf pd__J_I rfl) at_79 rfl rfl rfl (by decide) (by decide) (Nat.le_of_ble_eq_true rfl) (by decide) (by decide) fun T394 S395 => ?_
      refine s_goto 86 A S395 at_82 (by decide) (by decide) ?_
      refine s_iadd (z := ((own_pop i0) + (own_pop i1))) 87 A S395 at_86 rfl rfl ?_
      refine s_iload 89 A S395 at_87 rfl rfl ?_
      refine s_iconst (z := (2 : Int32)) 90 A S395 at_89 rfl rfl ?_
      refine s_ile (xi := 2) (yi := 2) 101 93 A S395 rfl rfl at_90 (by decide) (by decide) rfl (fun c396 => ?_) (fun c396 => (by exact absurd c396 (by decide) : False).elim)
      refine s_iconst (z := (0 : Int32)) 102 A S395 at_101 rfl rfl ?_
      refine s_iadd (z := (((own_pop i0) + (own_pop i1)) + (0 : Int32))) 103 A S395 at_102 rfl rfl ?_
      refine s_istore (Ls' := #[.val (.long i0), .second, .val (.long i1), .second, .val (.long i2), .second, .val (.int i3), .val (.int i4), .val (.int (2 : Int32)), .val (.int (0 : Int32)), .val (.ref a368), .val (.int (((own_pop i0) + (own_pop i1)) + (0 : Int32))), .unset, .unset, .unset, .unset, .unset, .unset]) 105 A S395 at_103 rfl rfl ?_
      refine s_new 108 A S395 (hw _ (List.mem_of_getElem? (i := 9) rfl)) (hw _ (List.mem_of_getElem? (i := 10) rfl)) (hw _ (List.mem_of_getElem? (i := 11) rfl)) at_105 rfl (by decide) (by decide) fun T397 h398 a400 ha_a400 E_a400 X_a400 D_a400 S399 => ?_
      have ne_a368_a400 : a368 ≠ a400 := by rw [ha_a400]; exact Nat.ne_of_lt V388.lt
      have ge_a400 : n0 ≤ a400 := by rw [ha_a400]; exact Z387
      have V401 := Arv.ext V388 E_a400
      have Z402 : n0 ≤ h398.size := Nat.le_trans Z387 E_a400.1
      have F_a400_words : Fld Z h398 a400 "com/example/orderly_sieve/orderlysieve/query/RowSet" "words" "[J" .null := D_a400 (Or.inr (hw _ (List.mem_of_getElem? (i := 19) rfl))) (ty := (.array .long)) (by decide)
      have F_a400_size : Fld Z h398 a400 "com/example/orderly_sieve/orderlysieve/query/RowSet" "size" "I" (.int (0 : Int32)) := D_a400 (Or.inr (hw _ (List.mem_of_getElem? (i := 21) rfl))) (ty := .int) (by decide)
      have F_a400_count : Fld Z h398 a400 "com/example/orderly_sieve/orderlysieve/query/RowSet" "count" "I" (.int (0 : Int32)) := D_a400 (Or.inl (hw _ (List.mem_of_getElem? (i := 23) rfl))) (ty := .int) (by decide)
      refine s_dup 109 A S399 at_108 rfl rfl ?_
      refine s_aload 111 A S399 at_109 rfl (by first | rfl | assumption) rfl ?_
      refine s_bipush (z := (64 : Int32)) 113 A S399 at_111 rfl rfl ?_
      refine s_iload 115 A S399 at_113 rfl rfl ?_
      refine s_imul (z := (128 : Int32)) 116 A S399 at_115 (by decide) rfl ?_
      refine s_iload 118 A S399 at_116 rfl rfl ?_
      refine s_ifeq (xi := 0) 126 121 A S399 rfl at_118 (by decide) (by decide) rfl (fun c403 tc403 => ?_) (fun c403 tc403 => (by exact absurd tc403 (by decide) : False).elim)
      refine s_iconst (z := (-1 : Int32)) 127 A S399 at_126 rfl rfl ?_
      refine s_spec (y := (⟨"com/example/orderly_sieve/orderlysieve/query/RowSet", "<init>", "([JII)V"⟩ : MethodName)) (argsL := [(.ref a368), (.int (128 : Int32)), (.int (-1 : Int32))]) (rest := [(.ref a400)]) (b := a400) 130 A S399 (hw _ (List.mem_of_getElem? (i := 12) rfl)) (hw _ (List.mem_of_getElem? (i := 13) rfl)) (hw _ (List.mem_of_getElem? (i := 11) rfl)) (hw _ (List.mem_of_getElem? (i := 14) rfl)) (rm2 l Z a0 hw [] a400 a368 (128 : Int32) (-1 : Int32) h398 n0 Z402 X_a400 F_a400_words F_a400_size F_a400_count ge_a400) (lenOf pd___JII_V rfl) at_127 rfl rfl rfl rfl (by decide) (by decide) (Nat.le_of_ble_eq_true rfl) (by decide) (by decide) fun T404 h406 v407 q408 S405 => ?_
      obtain ⟨rfl, K409, E413, F410, F411, F412⟩ := q408
      show own_G _ _ _ _ _ _ _ _ _ (mkF m 130 #[.val (.long i0), .second, .val (.long i1), .second, .val (.long i2), .second, .val (.int i3), .val (.int i4), .val (.int (2 : Int32)), .val (.int (0 : Int32)), .val (.ref a368), .val (.int (((own_pop i0) + (own_pop i1)) + (0 : Int32))), .unset, .unset, .unset, .unset, .unset, .unset] [(.ref a400)])
      have E417 := Exa.keep X_a400 K409
      have V418 := Arv.keep V401 K409 (ninS ne_a368_a400 nin0)
      have Z419 : n0 ≤ h406.size := Nat.le_trans Z402 K409.1
      refine s_astore (Ls' := #[.val (.long i0), .second, .val (.long i1), .second, .val (.long i2), .second, .val (.int i3), .val (.int i4), .val (.int (2 : Int32)), .val (.int (0 : Int32)), .val (.ref a368), .val (.int (((own_pop i0) + (own_pop i1)) + (0 : Int32))), .val (.ref a400), .unset, .unset, .unset, .unset, .unset]) 132 A S405 at_130 (by first | rfl | assumption) rfl rfl ?_
      refine s_aload 134 A S405 at_132 rfl (by first | rfl | assumption) rfl ?_
      refine s_virt (y := (⟨"com/example/orderly_sieve/orderlysieve/query/RowSet", "count", "()I"⟩ : MethodName)) (z := (⟨"com/example/orderly_sieve/orderlysieve/query/RowSet", "count", "()I"⟩ : MethodName)) (argsL := []) (rest := []) (b := a400) 137 A S405 E417 (hw _ (List.mem_of_getElem? (i := 24) rfl)) (hw _ (List.mem_of_getElem? (i := 25) rfl)) (notFace_of_selects (args := #[]) (mvT A.2.2.2.2.2.2.2 (hw _ (List.mem_of_getElem? (i := 27) rfl)))) (hw _ (List.mem_of_getElem? (i := 27) rfl)) (hw _ (List.mem_of_getElem? (i := 26) rfl)) (hw _ (List.mem_of_getElem? (i := 11) rfl)) (hw _ (List.mem_of_getElem? (i := 28) rfl)) (rmC2 l Z a0 hw [] a400 a368 k367 (128 : Int32) (-1 : Int32) i0 i1 h406 n0 Z419 E417 F410 F411 F412 V418 ge_a400 ne_a368_a400 (by decide)) (lenOf pd___I rfl) at_134 rfl rfl rfl (by decide) (by decide) (Nat.le_of_ble_eq_true rfl) (by decide) (by decide) fun T420 h422 v423 q424 S421 => ?_
      obtain ⟨rfl, K425, F426, F427, F428⟩ := q424
      show own_G _ _ _ _ _ _ _ _ _ (mkF m 137 #[.val (.long i0), .second, .val (.long i1), .second, .val (.long i2), .second, .val (.int i3), .val (.int i4), .val (.int (2 : Int32)), .val (.int (0 : Int32)), .val (.ref a368), .val (.int (((own_pop i0) + (own_pop i1)) + (0 : Int32))), .val (.ref a400), .unset, .unset, .unset, .unset, .unset] [(.int (((0 : Int32) + (own_bc i0)) + (own_bc i1)))])
      have E432 := Exa.keep E417 K425
      have V433 := Arv.keep V418 K425 (ninS ne_a368_a400 nin0)
      have Z434 : n0 ≤ h422.size := Nat.le_trans Z419 K425.1
      refine s_istore (Ls' := #[.val (.long i0), .second, .val (.long i1), .second, .val (.long i2), .second, .val (.int i3), .val (.int i4), .val (.int (2 : Int32)), .val (.int (0 : Int32)), .val (.ref a368), .val (.int (((own_pop i0) + (own_pop i1)) + (0 : Int32))), .val (.ref a400), .val (.int (((0 : Int32) + (own_bc i0)) + (own_bc i1))), .unset, .unset, .unset, .unset]) 139 A S421 at_137 rfl rfl ?_
      refine s_aload 141 A S421 at_139 rfl (by first | rfl | assumption) rfl ?_
      refine s_virtV (y := (⟨"com/example/orderly_sieve/orderlysieve/query/RowSet", "count", "()I"⟩ : MethodName)) (z := (⟨"com/example/orderly_sieve/orderlysieve/query/RowSet", "count", "()I"⟩ : MethodName)) (argsL := []) (rest := []) (b := a400) 144 A S421 E432 (hw _ (List.mem_of_getElem? (i := 24) rfl)) (hw _ (List.mem_of_getElem? (i := 25) rfl)) (notFace_of_selects (args := #[]) (mvT A.2.2.2.2.2.2.2 (hw _ (List.mem_of_getElem? (i := 27) rfl)))) (hw _ (List.mem_of_getElem? (i := 27) rfl)) (hw _ (List.mem_of_getElem? (i := 26) rfl)) (hw _ (List.mem_of_getElem? (i := 11) rfl)) (hw _ (List.mem_of_getElem? (i := 28) rfl)) (rmCpos l Z a0 hw [] a400 (((0 : Int32) + (own_bc i0)) + (own_bc i1)) h422 n0 Z434 F428 (own_bsum2 i0 i1)) (lenOf pd___I rfl) at_141 rfl rfl rfl (by decide) (by decide) (Nat.le_of_ble_eq_true rfl) (by decide) (by decide) fun T435 S436 => ?_
      refine s_istore (Ls' := #[.val (.long i0), .second, .val (.long i1), .second, .val (.long i2), .second, .val (.int i3), .val (.int i4), .val (.int (2 : Int32)), .val (.int (0 : Int32)), .val (.ref a368), .val (.int (((own_pop i0) + (own_pop i1)) + (0 : Int32))), .val (.ref a400), .val (.int (((0 : Int32) + (own_bc i0)) + (own_bc i1))), .val (.int (((0 : Int32) + (own_bc i0)) + (own_bc i1))), .unset, .unset, .unset]) 146 A S436 at_144 rfl rfl ?_
      refine s_aload 148 A S436 at_146 rfl (by first | rfl | assumption) rfl ?_
      refine s_virt (y := (⟨"com/example/orderly_sieve/orderlysieve/query/RowSet", "words", "()[J"⟩ : MethodName)) (z := (⟨"com/example/orderly_sieve/orderlysieve/query/RowSet", "words", "()[J"⟩ : MethodName)) (argsL := []) (rest := []) (b := a400) 151 A S436 E432 (hw _ (List.mem_of_getElem? (i := 29) rfl)) (hw _ (List.mem_of_getElem? (i := 30) rfl)) (notFace_of_selects (args := #[]) (mvT A.2.2.2.2.2.2.2 (hw _ (List.mem_of_getElem? (i := 32) rfl)))) (hw _ (List.mem_of_getElem? (i := 32) rfl)) (hw _ (List.mem_of_getElem? (i := 31) rfl)) (hw _ (List.mem_of_getElem? (i := 11) rfl)) (hw _ (List.mem_of_getElem? (i := 33) rfl)) (rm5 l Z a0 hw [] a400 a368 (128 : Int32) (((0 : Int32) + (own_bc i0)) + (own_bc i1)) h422 n0 Z434 E432 F426 F427 F428 ge_a400) (lenOf pd____J rfl) at_148 rfl rfl rfl (by decide) (by decide) (Nat.le_of_ble_eq_true rfl) (by decide) (by decide) fun T437 h439 v440 q441 S438 => ?_
      obtain ⟨rfl, K442, F443, F444, F445⟩ := q441
      show own_G _ _ _ _ _ _ _ _ _ (mkF m 151 #[.val (.long i0), .second, .val (.long i1), .second, .val (.long i2), .second, .val (.int i3), .val (.int i4), .val (.int (2 : Int32)), .val (.int (0 : Int32)), .val (.ref a368), .val (.int (((own_pop i0) + (own_pop i1)) + (0 : Int32))), .val (.ref a400), .val (.int (((0 : Int32) + (own_bc i0)) + (own_bc i1))), .val (.int (((0 : Int32) + (own_bc i0)) + (own_bc i1))), .unset, .unset, .unset] [(.ref a368)])
      have E449 := Exa.keep E432 K442
      have V450 := Arv.keep V433 K442 (ninS ne_a368_a400 nin0)
      have Z451 : n0 ≤ h439.size := Nat.le_trans Z434 K442.1
      refine s_astore (Ls' := #[.val (.long i0), .second, .val (.long i1), .second, .val (.long i2), .second, .val (.int i3), .val (.int i4), .val (.int (2 : Int32)), .val (.int (0 : Int32)), .val (.ref a368), .val (.int (((own_pop i0) + (own_pop i1)) + (0 : Int32))), .val (.ref a400), .val (.int (((0 : Int32) + (own_bc i0)) + (own_bc i1))), .val (.int (((0 : Int32) + (own_bc i0)) + (own_bc i1))), .val (.ref a368), .unset, .unset]) 153 A S438 at_151 (by first | rfl | assumption) rfl rfl ?_
      refine s_aload 155 A S438 at_153 rfl (by first | rfl | assumption) rfl ?_
      refine s_alen 156 A S438 V450 at_155 rfl ?_
      refine s_iload 158 A S438 at_156 rfl rfl ?_
      refine s_ine (xi := 2) (yi := 2) 211 161 A S438 rfl rfl at_158 (by decide) (by decide) rfl (fun c452 tc452 => (by exact absurd tc452 (by decide) : False).elim) (fun c452 tc452 => ?_)
      refine s_iload 163 A S438 at_161 rfl rfl ?_
      refine s_iconst (z := (1 : Int32)) 164 A S438 at_163 rfl rfl ?_
      refine s_ilt (xi := 2) (yi := 1) 176 167 A S438 rfl rfl at_164 (by decide) (by decide) rfl (fun c453 => (by exact absurd c453 (by decide) : False).elim) (fun c453 => ?_)
      refine s_aload 169 A S438 at_167 rfl (by first | rfl | assumption) rfl ?_
      refine s_iconst (z := (0 : Int32)) 170 A S438 at_169 rfl rfl ?_
      refine s_lald (v := (.long i0)) 171 A S438 V450 ⟨by decide, by decide⟩ rfl at_170 rfl ?_
      refine s_lloadN 172 A S438 at_171 rfl rfl ?_
      refine s_lifne 211 176 173 A S438 rfl rfl at_172 rfl at_173 (by decide) (by decide) rfl (fun c454 tc454 => (by exact c454 rfl : False).elim) (fun c454 tc454 => ?_)
      refine s_iload 178 A S438 at_176 rfl rfl ?_
      refine s_iconst (z := (2 : Int32)) 179 A S438 at_178 rfl rfl ?_
      refine s_ilt (xi := 2) (yi := 2) 191 182 A S438 rfl rfl at_179 (by decide) (by decide) rfl (fun c455 => (by exact absurd c455 (by decide) : False).elim) (fun c455 => ?_)
      refine s_aload 184 A S438 at_182 rfl (by first | rfl | assumption) rfl ?_
      refine s_iconst (z := (1 : Int32)) 185 A S438 at_184 rfl rfl ?_
      refine s_lald (v := (.long i1)) 186 A S438 V450 ⟨by decide, by decide⟩ rfl at_185 rfl ?_
      refine s_lloadN 187 A S438 at_186 rfl rfl ?_
      refine s_lifne 211 191 188 A S438 rfl rfl at_187 rfl at_188 (by decide) (by decide) rfl (fun c456 tc456 => (by exact c456 rfl : False).elim) (fun c456 tc456 => ?_)
      refine s_iload 193 A S438 at_191 rfl rfl ?_
      refine s_iconst (z := (3 : Int32)) 194 A S438 at_193 rfl rfl ?_
      refine s_ilt (xi := 2) (yi := 3) 207 197 A S438 rfl rfl at_194 (by decide) (by decide) rfl (fun c457 => ?_) (fun c457 => (by exact absurd c457 (by decide) : False).elim)
      refine s_iconst (z := (1 : Int32)) 208 A S438 at_207 rfl rfl ?_
      refine s_goto 212 A S438 at_208 (by decide) (by decide) ?_
      refine s_istore (Ls' := #[.val (.long i0), .second, .val (.long i1), .second, .val (.long i2), .second, .val (.int i3), .val (.int i4), .val (.int (2 : Int32)), .val (.int (0 : Int32)), .val (.ref a368), .val (.int (((own_pop i0) + (own_pop i1)) + (0 : Int32))), .val (.ref a400), .val (.int (((0 : Int32) + (own_bc i0)) + (own_bc i1))), .val (.int (((0 : Int32) + (own_bc i0)) + (own_bc i1))), .val (.ref a368), .val (.int (1 : Int32)), .unset]) 214 A S438 at_212 rfl rfl ?_
      refine s_aload 216 A S438 at_214 rfl (by first | rfl | assumption) rfl ?_
      refine s_virt (y := (⟨"com/example/orderly_sieve/orderlysieve/query/RowSet", "count", "()I"⟩ : MethodName)) (z := (⟨"com/example/orderly_sieve/orderlysieve/query/RowSet", "count", "()I"⟩ : MethodName)) (argsL := []) (rest := []) (b := a400) 219 A S438 E449 (hw _ (List.mem_of_getElem? (i := 24) rfl)) (hw _ (List.mem_of_getElem? (i := 25) rfl)) (notFace_of_selects (args := #[]) (mvT A.2.2.2.2.2.2.2 (hw _ (List.mem_of_getElem? (i := 27) rfl)))) (hw _ (List.mem_of_getElem? (i := 27) rfl)) (hw _ (List.mem_of_getElem? (i := 26) rfl)) (hw _ (List.mem_of_getElem? (i := 11) rfl)) (hw _ (List.mem_of_getElem? (i := 28) rfl)) (rmC2 l Z a0 hw [] a400 a368 k367 (128 : Int32) (-1 : Int32) i0 i1 h439 n0 Z451 E449 F443 F444 F445 V450 ge_a400 ne_a368_a400 (by decide)) (lenOf pd___I rfl) at_216 rfl rfl rfl (by decide) (by decide) (Nat.le_of_ble_eq_true rfl) (by decide) (by decide) fun T458 h460 v461 q462 S459 => ?_
      obtain ⟨rfl, K463, F464, F465, F466⟩ := q462
      show own_G _ _ _ _ _ _ _ _ _ (mkF m 219 #[.val (.long i0), .second, .val (.long i1), .second, .val (.long i2), .second, .val (.int i3), .val (.int i4), .val (.int (2 : Int32)), .val (.int (0 : Int32)), .val (.ref a368), .val (.int (((own_pop i0) + (own_pop i1)) + (0 : Int32))), .val (.ref a400), .val (.int (((0 : Int32) + (own_bc i0)) + (own_bc i1))), .val (.int (((0 : Int32) + (own_bc i0)) + (own_bc i1))), .val (.ref a368), .val (.int (1 : Int32)), .unset] [(.int (((0 : Int32) + (own_bc i0)) + (own_bc i1)))])
      have E470 := Exa.keep E449 K463
      have V471 := Arv.keep V450 K463 (ninS ne_a368_a400 nin0)
      have Z472 : n0 ≤ h460.size := Nat.le_trans Z451 K463.1
      refine s_istore (Ls' := #[.val (.long i0), .second, .val (.long i1), .second, .val (.long i2), .second, .val (.int i3), .val (.int i4), .val (.int (2 : Int32)), .val (.int (0 : Int32)), .val (.ref a368), .val (.int (((own_pop i0) + (own_pop i1)) + (0 : Int32))), .val (.ref a400), .val (.int (((0 : Int32) + (own_bc i0)) + (own_bc i1))), .val (.int (((0 : Int32) + (own_bc i0)) + (own_bc i1))), .val (.ref a368), .val (.int (1 : Int32)), .val (.int (((0 : Int32) + (own_bc i0)) + (own_bc i1)))]) 221 A S459 at_219 rfl rfl ?_
      refine s_iload 223 A S459 at_221 rfl rfl ?_
      refine s_iload 225 A S459 at_223 rfl rfl ?_
      refine s_ine 251 228 A S459 rfl rfl at_225 (by decide) (by decide) rfl (fun c473 tc473 => (by exact c473 (by simp only [own_pe, Int32.zero_add, Int32.add_zero]) : False).elim) (fun c473 tc473 => ?_)
      refine s_iload 230 A S459 at_228 rfl rfl ?_
      refine s_iload 232 A S459 at_230 rfl rfl ?_
      refine s_ine 251 235 A S459 rfl rfl at_232 (by decide) (by decide) rfl (fun c474 tc474 => (by exact c474 (by simp only [own_pe, Int32.zero_add, Int32.add_zero]) : False).elim) (fun c474 tc474 => ?_)
      refine s_iload 237 A S459 at_235 rfl rfl ?_
      refine s_iload 239 A S459 at_237 rfl rfl ?_
      refine s_ine 251 242 A S459 rfl rfl at_239 (by decide) (by decide) rfl (fun c475 tc475 => (by exact c475 (by simp only [own_pe, Int32.zero_add, Int32.add_zero]) : False).elim) (fun c475 tc475 => ?_)
      refine s_iload 244 A S459 at_242 rfl rfl ?_
      refine s_ifeq (xi := 1) 251 247 A S459 rfl at_244 (by decide) (by decide) rfl (fun c476 tc476 => (by exact absurd tc476 (by decide) : False).elim) (fun c476 tc476 => ?_)
      refine s_iconst (z := (1 : Int32)) 248 A S459 at_247 rfl rfl ?_
      refine s_goto 252 A S459 at_248 (by decide) (by decide) ?_
      exact s_retZ A S459 at_252 rfl (by decide) (by decide) rfl
    · refine s_iconst (z := (1 : Int32)) 14 A S at_13 rfl rfl ?_
      refine s_goto 18 A S at_14 (by decide) (by decide) ?_
      refine s_istore (Ls' := #[.val (.long i0), .second, .val (.long i1), .second, .val (.long i2), .second, .val (.int i3), .val (.int i4), .val (.int (2 : Int32)), .val (.int (1 : Int32)), .unset, .unset, .unset, .unset, .unset, .unset, .unset, .unset]) 20 A S at_18 rfl rfl ?_
      refine s_iload 22 A S at_20 rfl rfl ?_
      refine s_newP (cap := 2) 24 A S (hw _ (List.mem_of_getElem? (i := 0) rfl)) at_22 (by decide) (by decide) (by decide) rfl (by decide) (by decide) fun T477 h478 k480 a481 ha_a481 E_a481 V_a481 S479 => ?_
      have ge_a481 : n0 ≤ a481 := by rw [ha_a481]; exact Z0
      have Z482 : n0 ≤ h478.size := Nat.le_trans Z0 E_a481.1
      have V483 : Arv Z h478 a481 k480 .long (2 : Int32) [(.long 0), (.long 0)] (.long 0) := Arv.pad V_a481 (fun i => by simpa using pad_rep [] (.long 0) 2 i)
      refine s_astore (Ls' := #[.val (.long i0), .second, .val (.long i1), .second, .val (.long i2), .second, .val (.int i3), .val (.int i4), .val (.int (2 : Int32)), .val (.int (1 : Int32)), .val (.ref a481), .unset, .unset, .unset, .unset, .unset, .unset, .unset]) 26 A S479 at_24 (by first | rfl | assumption) rfl rfl ?_
      refine s_iload 28 A S479 at_26 rfl rfl ?_
      refine s_ifle (xi := 2) 36 31 A S479 rfl at_28 (by decide) (by decide) rfl (fun c484 => (by exact absurd c484 (by decide) : False).elim) (fun c484 => ?_)
      refine s_aload 33 A S479 at_31 rfl (by first | rfl | assumption) rfl ?_
      refine s_iconst (z := (0 : Int32)) 34 A S479 at_33 rfl rfl ?_
      refine s_lloadN 35 A S479 at_34 rfl rfl ?_
      refine s_last 36 A S479 V483 ⟨by decide, by decide⟩ 0 rfl (Nat.le_of_ble_eq_true rfl) ge_a481 at_35 rfl fun T485 h486 W488 V489 S487 => ?_
      have Z491 : n0 ≤ h486.size := by rw [W488.size]; exact Z482
      have V492 : Arv Z h486 a481 k480 .long (2 : Int32) [(.long i0), (.long 0)] (.long 0) := V489
      refine s_iload 38 A S487 at_36 rfl rfl ?_
      refine s_iconst (z := (1 : Int32)) 39 A S487 at_38 rfl rfl ?_
      refine s_ile (xi := 2) (yi := 1) 47 42 A S487 rfl rfl at_39 (by decide) (by decide) rfl (fun c493 => (by exact absurd c493 (by decide) : False).elim) (fun c493 => ?_)
      refine s_aload 44 A S487 at_42 rfl (by first | rfl | assumption) rfl ?_
      refine s_iconst (z := (1 : Int32)) 45 A S487 at_44 rfl rfl ?_
      refine s_lloadN 46 A S487 at_45 rfl rfl ?_
      refine s_last 47 A S487 V492 ⟨by decide, by decide⟩ 1 rfl (Nat.le_of_ble_eq_true rfl) ge_a481 at_46 rfl fun T494 h495 W497 V498 S496 => ?_
      have Z500 : n0 ≤ h495.size := by rw [W497.size]; exact Z491
      have V501 : Arv Z h495 a481 k480 .long (2 : Int32) [(.long i0), (.long i1)] (.long 0) := V498
      refine s_iload 49 A S496 at_47 rfl rfl ?_
      refine s_iconst (z := (2 : Int32)) 50 A S496 at_49 rfl rfl ?_
      refine s_ile (xi := 2) (yi := 2) 59 53 A S496 rfl rfl at_50 (by decide) (by decide) rfl (fun c502 => ?_) (fun c502 => (by exact absurd c502 (by decide) : False).elim)
      refine s_iload 61 A S496 at_59 rfl rfl ?_
      refine s_ifle (xi := 2) 71 64 A S496 rfl at_61 (by decide) (by decide) rfl (fun c503 => (by exact absurd c503 (by decide) : False).elim) (fun c503 => ?_)
      refine s_lloadN 65 A S496 at_64 rfl rfl ?_
      refine s_callV (y := (⟨"com/example/orderly_sieve/orderlysieve/query/RowSetCountPinLaw", "pop", "(J)I"⟩ : MethodName)) (argsL := [(.long i0)]) (rest := []) 68 A S496 (hw _ (List.mem_of_getElem? (i := 1) rfl)) (hw _ (List.mem_of_getElem? (i := 2) rfl)) (hw _ (List.mem_of_getElem? (i := 3) rfl)) (hw _ (List.mem_of_getElem? (i := 4) rfl)) (rm1 l Z a0 hw [] i0 h495 n0 Z500) (lenOf pd__J_I rfl) at_65 rfl rfl rfl (by decide) (by decide) (Nat.le_of_ble_eq_true rfl) (by decide) (by decide) fun T504 S505 => ?_
      refine s_goto 72 A S505 at_68 (by decide) (by decide) ?_
      refine s_iload 74 A S505 at_72 rfl rfl ?_
      refine s_iconst (z := (1 : Int32)) 75 A S505 at_74 rfl rfl ?_
      refine s_ile (xi := 2) (yi := 1) 85 78 A S505 rfl rfl at_75 (by decide) (by decide) rfl (fun c506 => (by exact absurd c506 (by decide) : False).elim) (fun c506 => ?_)
      refine s_lloadN 79 A S505 at_78 rfl rfl ?_
      refine s_callV (y := (⟨"com/example/orderly_sieve/orderlysieve/query/RowSetCountPinLaw", "pop", "(J)I"⟩ : MethodName)) (argsL := [(.long i1)]) (rest := [(.int (own_pop i0))]) 82 A S505 (hw _ (List.mem_of_getElem? (i := 1) rfl)) (hw _ (List.mem_of_getElem? (i := 2) rfl)) (hw _ (List.mem_of_getElem? (i := 3) rfl)) (hw _ (List.mem_of_getElem? (i := 4) rfl)) (rm1 l Z a0 hw [] i1 h495 n0 Z500) (lenOf pd__J_I rfl) at_79 rfl rfl rfl (by decide) (by decide) (Nat.le_of_ble_eq_true rfl) (by decide) (by decide) fun T507 S508 => ?_
      refine s_goto 86 A S508 at_82 (by decide) (by decide) ?_
      refine s_iadd (z := ((own_pop i0) + (own_pop i1))) 87 A S508 at_86 rfl rfl ?_
      refine s_iload 89 A S508 at_87 rfl rfl ?_
      refine s_iconst (z := (2 : Int32)) 90 A S508 at_89 rfl rfl ?_
      refine s_ile (xi := 2) (yi := 2) 101 93 A S508 rfl rfl at_90 (by decide) (by decide) rfl (fun c509 => ?_) (fun c509 => (by exact absurd c509 (by decide) : False).elim)
      refine s_iconst (z := (0 : Int32)) 102 A S508 at_101 rfl rfl ?_
      refine s_iadd (z := (((own_pop i0) + (own_pop i1)) + (0 : Int32))) 103 A S508 at_102 rfl rfl ?_
      refine s_istore (Ls' := #[.val (.long i0), .second, .val (.long i1), .second, .val (.long i2), .second, .val (.int i3), .val (.int i4), .val (.int (2 : Int32)), .val (.int (1 : Int32)), .val (.ref a481), .val (.int (((own_pop i0) + (own_pop i1)) + (0 : Int32))), .unset, .unset, .unset, .unset, .unset, .unset]) 105 A S508 at_103 rfl rfl ?_
      refine s_new 108 A S508 (hw _ (List.mem_of_getElem? (i := 9) rfl)) (hw _ (List.mem_of_getElem? (i := 10) rfl)) (hw _ (List.mem_of_getElem? (i := 11) rfl)) at_105 rfl (by decide) (by decide) fun T510 h511 a513 ha_a513 E_a513 X_a513 D_a513 S512 => ?_
      have ne_a481_a513 : a481 ≠ a513 := by rw [ha_a513]; exact Nat.ne_of_lt V501.lt
      have ge_a513 : n0 ≤ a513 := by rw [ha_a513]; exact Z500
      have V514 := Arv.ext V501 E_a513
      have Z515 : n0 ≤ h511.size := Nat.le_trans Z500 E_a513.1
      have F_a513_words : Fld Z h511 a513 "com/example/orderly_sieve/orderlysieve/query/RowSet" "words" "[J" .null := D_a513 (Or.inr (hw _ (List.mem_of_getElem? (i := 19) rfl))) (ty := (.array .long)) (by decide)
      have F_a513_size : Fld Z h511 a513 "com/example/orderly_sieve/orderlysieve/query/RowSet" "size" "I" (.int (0 : Int32)) := D_a513 (Or.inr (hw _ (List.mem_of_getElem? (i := 21) rfl))) (ty := .int) (by decide)
      have F_a513_count : Fld Z h511 a513 "com/example/orderly_sieve/orderlysieve/query/RowSet" "count" "I" (.int (0 : Int32)) := D_a513 (Or.inl (hw _ (List.mem_of_getElem? (i := 23) rfl))) (ty := .int) (by decide)
      refine s_dup 109 A S512 at_108 rfl rfl ?_
      refine s_aload 111 A S512 at_109 rfl (by first | rfl | assumption) rfl ?_
      refine s_bipush (z := (64 : Int32)) 113 A S512 at_111 rfl rfl ?_
      refine s_iload 115 A S512 at_113 rfl rfl ?_
      refine s_imul (z := (128 : Int32)) 116 A S512 at_115 (by decide) rfl ?_
      refine s_iload 118 A S512 at_116 rfl rfl ?_
      refine s_ifeq (xi := 1) 126 121 A S512 rfl at_118 (by decide) (by decide) rfl (fun c516 tc516 => (by exact absurd tc516 (by decide) : False).elim) (fun c516 tc516 => ?_)
      refine s_iload 123 A S512 at_121 rfl rfl ?_
      refine s_goto 127 A S512 at_123 (by decide) (by decide) ?_
      refine s_spec (y := (⟨"com/example/orderly_sieve/orderlysieve/query/RowSet", "<init>", "([JII)V"⟩ : MethodName)) (argsL := [(.ref a481), (.int (128 : Int32)), (.int (((own_pop i0) + (own_pop i1)) + (0 : Int32)))]) (rest := [(.ref a513)]) (b := a513) 130 A S512 (hw _ (List.mem_of_getElem? (i := 12) rfl)) (hw _ (List.mem_of_getElem? (i := 13) rfl)) (hw _ (List.mem_of_getElem? (i := 11) rfl)) (hw _ (List.mem_of_getElem? (i := 14) rfl)) (rm2 l Z a0 hw [] a513 a481 (128 : Int32) (((own_pop i0) + (own_pop i1)) + (0 : Int32)) h511 n0 Z515 X_a513 F_a513_words F_a513_size F_a513_count ge_a513) (lenOf pd___JII_V rfl) at_127 rfl rfl rfl rfl (by decide) (by decide) (Nat.le_of_ble_eq_true rfl) (by decide) (by decide) fun T517 h519 v520 q521 S518 => ?_
      obtain ⟨rfl, K522, E526, F523, F524, F525⟩ := q521
      show own_G _ _ _ _ _ _ _ _ _ (mkF m 130 #[.val (.long i0), .second, .val (.long i1), .second, .val (.long i2), .second, .val (.int i3), .val (.int i4), .val (.int (2 : Int32)), .val (.int (1 : Int32)), .val (.ref a481), .val (.int (((own_pop i0) + (own_pop i1)) + (0 : Int32))), .unset, .unset, .unset, .unset, .unset, .unset] [(.ref a513)])
      have E530 := Exa.keep X_a513 K522
      have V531 := Arv.keep V514 K522 (ninS ne_a481_a513 nin0)
      have Z532 : n0 ≤ h519.size := Nat.le_trans Z515 K522.1
      refine s_astore (Ls' := #[.val (.long i0), .second, .val (.long i1), .second, .val (.long i2), .second, .val (.int i3), .val (.int i4), .val (.int (2 : Int32)), .val (.int (1 : Int32)), .val (.ref a481), .val (.int (((own_pop i0) + (own_pop i1)) + (0 : Int32))), .val (.ref a513), .unset, .unset, .unset, .unset, .unset]) 132 A S518 at_130 (by first | rfl | assumption) rfl rfl ?_
      refine s_aload 134 A S518 at_132 rfl (by first | rfl | assumption) rfl ?_
      refine s_virtV (y := (⟨"com/example/orderly_sieve/orderlysieve/query/RowSet", "count", "()I"⟩ : MethodName)) (z := (⟨"com/example/orderly_sieve/orderlysieve/query/RowSet", "count", "()I"⟩ : MethodName)) (argsL := []) (rest := []) (b := a513) 137 A S518 E530 (hw _ (List.mem_of_getElem? (i := 24) rfl)) (hw _ (List.mem_of_getElem? (i := 25) rfl)) (notFace_of_selects (args := #[]) (mvT A.2.2.2.2.2.2.2 (hw _ (List.mem_of_getElem? (i := 27) rfl)))) (hw _ (List.mem_of_getElem? (i := 27) rfl)) (hw _ (List.mem_of_getElem? (i := 26) rfl)) (hw _ (List.mem_of_getElem? (i := 11) rfl)) (hw _ (List.mem_of_getElem? (i := 28) rfl)) (rmCpos l Z a0 hw [] a513 (((own_pop i0) + (own_pop i1)) + (0 : Int32)) h519 n0 Z532 F525 (own_sum3 (own_pb i0) (own_pb i1) (by decide))) (lenOf pd___I rfl) at_134 rfl rfl rfl (by decide) (by decide) (Nat.le_of_ble_eq_true rfl) (by decide) (by decide) fun T533 S534 => ?_
      refine s_istore (Ls' := #[.val (.long i0), .second, .val (.long i1), .second, .val (.long i2), .second, .val (.int i3), .val (.int i4), .val (.int (2 : Int32)), .val (.int (1 : Int32)), .val (.ref a481), .val (.int (((own_pop i0) + (own_pop i1)) + (0 : Int32))), .val (.ref a513), .val (.int (((own_pop i0) + (own_pop i1)) + (0 : Int32))), .unset, .unset, .unset, .unset]) 139 A S534 at_137 rfl rfl ?_
      refine s_aload 141 A S534 at_139 rfl (by first | rfl | assumption) rfl ?_
      refine s_virtV (y := (⟨"com/example/orderly_sieve/orderlysieve/query/RowSet", "count", "()I"⟩ : MethodName)) (z := (⟨"com/example/orderly_sieve/orderlysieve/query/RowSet", "count", "()I"⟩ : MethodName)) (argsL := []) (rest := []) (b := a513) 144 A S534 E530 (hw _ (List.mem_of_getElem? (i := 24) rfl)) (hw _ (List.mem_of_getElem? (i := 25) rfl)) (notFace_of_selects (args := #[]) (mvT A.2.2.2.2.2.2.2 (hw _ (List.mem_of_getElem? (i := 27) rfl)))) (hw _ (List.mem_of_getElem? (i := 27) rfl)) (hw _ (List.mem_of_getElem? (i := 26) rfl)) (hw _ (List.mem_of_getElem? (i := 11) rfl)) (hw _ (List.mem_of_getElem? (i := 28) rfl)) (rmCpos l Z a0 hw [] a513 (((own_pop i0) + (own_pop i1)) + (0 : Int32)) h519 n0 Z532 F525 (own_sum3 (own_pb i0) (own_pb i1) (by decide))) (lenOf pd___I rfl) at_141 rfl rfl rfl (by decide) (by decide) (Nat.le_of_ble_eq_true rfl) (by decide) (by decide) fun T535 S536 => ?_
      refine s_istore (Ls' := #[.val (.long i0), .second, .val (.long i1), .second, .val (.long i2), .second, .val (.int i3), .val (.int i4), .val (.int (2 : Int32)), .val (.int (1 : Int32)), .val (.ref a481), .val (.int (((own_pop i0) + (own_pop i1)) + (0 : Int32))), .val (.ref a513), .val (.int (((own_pop i0) + (own_pop i1)) + (0 : Int32))), .val (.int (((own_pop i0) + (own_pop i1)) + (0 : Int32))), .unset, .unset, .unset]) 146 A S536 at_144 rfl rfl ?_
      refine s_aload 148 A S536 at_146 rfl (by first | rfl | assumption) rfl ?_
      refine s_virt (y := (⟨"com/example/orderly_sieve/orderlysieve/query/RowSet", "words", "()[J"⟩ : MethodName)) (z := (⟨"com/example/orderly_sieve/orderlysieve/query/RowSet", "words", "()[J"⟩ : MethodName)) (argsL := []) (rest := []) (b := a513) 151 A S536 E530 (hw _ (List.mem_of_getElem? (i := 29) rfl)) (hw _ (List.mem_of_getElem? (i := 30) rfl)) (notFace_of_selects (args := #[]) (mvT A.2.2.2.2.2.2.2 (hw _ (List.mem_of_getElem? (i := 32) rfl)))) (hw _ (List.mem_of_getElem? (i := 32) rfl)) (hw _ (List.mem_of_getElem? (i := 31) rfl)) (hw _ (List.mem_of_getElem? (i := 11) rfl)) (hw _ (List.mem_of_getElem? (i := 33) rfl)) (rm5 l Z a0 hw [] a513 a481 (128 : Int32) (((own_pop i0) + (own_pop i1)) + (0 : Int32)) h519 n0 Z532 E530 F523 F524 F525 ge_a513) (lenOf pd____J rfl) at_148 rfl rfl rfl (by decide) (by decide) (Nat.le_of_ble_eq_true rfl) (by decide) (by decide) fun T537 h539 v540 q541 S538 => ?_
      obtain ⟨rfl, K542, F543, F544, F545⟩ := q541
      show own_G _ _ _ _ _ _ _ _ _ (mkF m 151 #[.val (.long i0), .second, .val (.long i1), .second, .val (.long i2), .second, .val (.int i3), .val (.int i4), .val (.int (2 : Int32)), .val (.int (1 : Int32)), .val (.ref a481), .val (.int (((own_pop i0) + (own_pop i1)) + (0 : Int32))), .val (.ref a513), .val (.int (((own_pop i0) + (own_pop i1)) + (0 : Int32))), .val (.int (((own_pop i0) + (own_pop i1)) + (0 : Int32))), .unset, .unset, .unset] [(.ref a481)])
      have E549 := Exa.keep E530 K542
      have V550 := Arv.keep V531 K542 (ninS ne_a481_a513 nin0)
      have Z551 : n0 ≤ h539.size := Nat.le_trans Z532 K542.1
      refine s_astore (Ls' := #[.val (.long i0), .second, .val (.long i1), .second, .val (.long i2), .second, .val (.int i3), .val (.int i4), .val (.int (2 : Int32)), .val (.int (1 : Int32)), .val (.ref a481), .val (.int (((own_pop i0) + (own_pop i1)) + (0 : Int32))), .val (.ref a513), .val (.int (((own_pop i0) + (own_pop i1)) + (0 : Int32))), .val (.int (((own_pop i0) + (own_pop i1)) + (0 : Int32))), .val (.ref a481), .unset, .unset]) 153 A S538 at_151 (by first | rfl | assumption) rfl rfl ?_
      refine s_aload 155 A S538 at_153 rfl (by first | rfl | assumption) rfl ?_
      refine s_alen 156 A S538 V550 at_155 rfl ?_
      refine s_iload 158 A S538 at_156 rfl rfl ?_
      refine s_ine (xi := 2) (yi := 2) 211 161 A S538 rfl rfl at_158 (by decide) (by decide) rfl (fun c552 tc552 => (by exact absurd tc552 (by decide) : False).elim) (fun c552 tc552 => ?_)
      refine s_iload 163 A S538 at_161 rfl rfl ?_
      refine s_iconst (z := (1 : Int32)) 164 A S538 at_163 rfl rfl ?_
      refine s_ilt (xi := 2) (yi := 1) 176 167 A S538 rfl rfl at_164 (by decide) (by decide) rfl (fun c553 => (by exact absurd c553 (by decide) : False).elim) (fun c553 => ?_)
      refine s_aload 169 A S538 at_167 rfl (by first | rfl | assumption) rfl ?_
      refine s_iconst (z := (0 : Int32)) 170 A S538 at_169 rfl rfl ?_
      refine s_lald (v := (.long i0)) 171 A S538 V550 ⟨by decide, by decide⟩ rfl at_170 rfl ?_
      refine s_lloadN 172 A S538 at_171 rfl rfl ?_
      refine s_lifne 211 176 173 A S538 rfl rfl at_172 rfl at_173 (by decide) (by decide) rfl (fun c554 tc554 => (by exact c554 rfl : False).elim) (fun c554 tc554 => ?_)
      refine s_iload 178 A S538 at_176 rfl rfl ?_
      refine s_iconst (z := (2 : Int32)) 179 A S538 at_178 rfl rfl ?_
      refine s_ilt (xi := 2) (yi := 2) 191 182 A S538 rfl rfl at_179 (by decide) (by decide) rfl (fun c555 => (by exact absurd c555 (by decide) : False).elim) (fun c555 => ?_)
      refine s_aload 184 A S538 at_182 rfl (by first | rfl | assumption) rfl ?_
      refine s_iconst (z := (1 : Int32)) 185 A S538 at_184 rfl rfl ?_
      refine s_lald (v := (.long i1)) 186 A S538 V550 ⟨by decide, by decide⟩ rfl at_185 rfl ?_
      refine s_lloadN 187 A S538 at_186 rfl rfl ?_
      refine s_lifne 211 191 188 A S538 rfl rfl at_187 rfl at_188 (by decide) (by decide) rfl (fun c556 tc556 => (by exact c556 rfl : False).elim) (fun c556 tc556 => ?_)
      refine s_iload 193 A S538 at_191 rfl rfl ?_
      refine s_iconst (z := (3 : Int32)) 194 A S538 at_193 rfl rfl ?_
      refine s_ilt (xi := 2) (yi := 3) 207 197 A S538 rfl rfl at_194 (by decide) (by decide) rfl (fun c557 => ?_) (fun c557 => (by exact absurd c557 (by decide) : False).elim)
      refine s_iconst (z := (1 : Int32)) 208 A S538 at_207 rfl rfl ?_
      refine s_goto 212 A S538 at_208 (by decide) (by decide) ?_
      refine s_istore (Ls' := #[.val (.long i0), .second, .val (.long i1), .second, .val (.long i2), .second, .val (.int i3), .val (.int i4), .val (.int (2 : Int32)), .val (.int (1 : Int32)), .val (.ref a481), .val (.int (((own_pop i0) + (own_pop i1)) + (0 : Int32))), .val (.ref a513), .val (.int (((own_pop i0) + (own_pop i1)) + (0 : Int32))), .val (.int (((own_pop i0) + (own_pop i1)) + (0 : Int32))), .val (.ref a481), .val (.int (1 : Int32)), .unset]) 214 A S538 at_212 rfl rfl ?_
      refine s_aload 216 A S538 at_214 rfl (by first | rfl | assumption) rfl ?_
      refine s_virt (y := (⟨"com/example/orderly_sieve/orderlysieve/query/RowSet", "count", "()I"⟩ : MethodName)) (z := (⟨"com/example/orderly_sieve/orderlysieve/query/RowSet", "count", "()I"⟩ : MethodName)) (argsL := []) (rest := []) (b := a513) 219 A S538 E549 (hw _ (List.mem_of_getElem? (i := 24) rfl)) (hw _ (List.mem_of_getElem? (i := 25) rfl)) (notFace_of_selects (args := #[]) (mvT A.2.2.2.2.2.2.2 (hw _ (List.mem_of_getElem? (i := 27) rfl)))) (hw _ (List.mem_of_getElem? (i := 27) rfl)) (hw _ (List.mem_of_getElem? (i := 26) rfl)) (hw _ (List.mem_of_getElem? (i := 11) rfl)) (hw _ (List.mem_of_getElem? (i := 28) rfl)) (rmC2 l Z a0 hw [] a513 a481 k480 (128 : Int32) (-1 : Int32) i0 i1 h539 n0 Z551 E549 F543 F544 F545 V550 ge_a513 ne_a481_a513 (by decide)) (lenOf pd___I rfl) at_216 rfl rfl rfl (by decide) (by decide) (Nat.le_of_ble_eq_true rfl) (by decide) (by decide) fun T558 h560 v561 q562 S559 => ?_
      obtain ⟨rfl, K563, F564, F565, F566⟩ := q562
      show own_G _ _ _ _ _ _ _ _ _ (mkF m 219 #[.val (.long i0), .second, .val (.long i1), .second, .val (.long i2), .second, .val (.int i3), .val (.int i4), .val (.int (2 : Int32)), .val (.int (1 : Int32)), .val (.ref a481), .val (.int (((own_pop i0) + (own_pop i1)) + (0 : Int32))), .val (.ref a513), .val (.int (((own_pop i0) + (own_pop i1)) + (0 : Int32))), .val (.int (((own_pop i0) + (own_pop i1)) + (0 : Int32))), .val (.ref a481), .val (.int (1 : Int32)), .unset] [(.int (((0 : Int32) + (own_bc i0)) + (own_bc i1)))])
      have E570 := Exa.keep E549 K563
      have V571 := Arv.keep V550 K563 (ninS ne_a481_a513 nin0)
      have Z572 : n0 ≤ h560.size := Nat.le_trans Z551 K563.1
      refine s_istore (Ls' := #[.val (.long i0), .second, .val (.long i1), .second, .val (.long i2), .second, .val (.int i3), .val (.int i4), .val (.int (2 : Int32)), .val (.int (1 : Int32)), .val (.ref a481), .val (.int (((own_pop i0) + (own_pop i1)) + (0 : Int32))), .val (.ref a513), .val (.int (((own_pop i0) + (own_pop i1)) + (0 : Int32))), .val (.int (((own_pop i0) + (own_pop i1)) + (0 : Int32))), .val (.ref a481), .val (.int (1 : Int32)), .val (.int (((0 : Int32) + (own_bc i0)) + (own_bc i1)))]) 221 A S559 at_219 rfl rfl ?_
      refine s_iload 223 A S559 at_221 rfl rfl ?_
      refine s_iload 225 A S559 at_223 rfl rfl ?_
      refine s_ine 251 228 A S559 rfl rfl at_225 (by decide) (by decide) rfl (fun c573 tc573 => (by exact c573 (by simp only [own_pe, Int32.zero_add, Int32.add_zero]) : False).elim) (fun c573 tc573 => ?_)
      refine s_iload 230 A S559 at_228 rfl rfl ?_
      refine s_iload 232 A S559 at_230 rfl rfl ?_
      refine s_ine 251 235 A S559 rfl rfl at_232 (by decide) (by decide) rfl (fun c574 tc574 => (by exact c574 (by simp only [own_pe, Int32.zero_add, Int32.add_zero]) : False).elim) (fun c574 tc574 => ?_)
      refine s_iload 237 A S559 at_235 rfl rfl ?_
      refine s_iload 239 A S559 at_237 rfl rfl ?_
      refine s_ine 251 242 A S559 rfl rfl at_239 (by decide) (by decide) rfl (fun c575 tc575 => (by exact c575 (by simp only [own_pe, Int32.zero_add, Int32.add_zero]) : False).elim) (fun c575 tc575 => ?_)
      refine s_iload 244 A S559 at_242 rfl rfl ?_
      refine s_ifeq (xi := 1) 251 247 A S559 rfl at_244 (by decide) (by decide) rfl (fun c576 tc576 => (by exact absurd tc576 (by decide) : False).elim) (fun c576 tc576 => ?_)
      refine s_iconst (z := (1 : Int32)) 248 A S559 at_247 rfl rfl ?_
      refine s_goto 252 A S559 at_248 (by decide) (by decide) ?_
      exact s_retZ A S559 at_252 rfl (by decide) (by decide) rfl
  · refine s_iload 8 A S at_6 rfl rfl ?_
    refine s_iconst (z := (1 : Int32)) 9 A S at_8 rfl rfl ?_
    refine s_iand (z := (i4 &&& (1 : Int32))) 10 A S at_9 rfl rfl ?_
    refine s_ifeq 17 13 A S rfl at_10 (by decide) (by decide) rfl (fun c577 tc577 => ?_) (fun c577 tc577 => ?_)
    · refine s_iconst (z := (0 : Int32)) 18 A S at_17 rfl rfl ?_
      refine s_istore (Ls' := #[.val (.long i0), .second, .val (.long i1), .second, .val (.long i2), .second, .val (.int i3), .val (.int i4), .val (.int (3 : Int32)), .val (.int (0 : Int32)), .unset, .unset, .unset, .unset, .unset, .unset, .unset, .unset]) 20 A S at_18 rfl rfl ?_
      refine s_iload 22 A S at_20 rfl rfl ?_
      refine s_newP (cap := 3) 24 A S (hw _ (List.mem_of_getElem? (i := 0) rfl)) at_22 (by decide) (by decide) (by decide) rfl (by decide) (by decide) fun T578 h579 k581 a582 ha_a582 E_a582 V_a582 S580 => ?_
      have ge_a582 : n0 ≤ a582 := by rw [ha_a582]; exact Z0
      have Z583 : n0 ≤ h579.size := Nat.le_trans Z0 E_a582.1
      have V584 : Arv Z h579 a582 k581 .long (3 : Int32) [(.long 0), (.long 0), (.long 0)] (.long 0) := Arv.pad V_a582 (fun i => by simpa using pad_rep [] (.long 0) 3 i)
      refine s_astore (Ls' := #[.val (.long i0), .second, .val (.long i1), .second, .val (.long i2), .second, .val (.int i3), .val (.int i4), .val (.int (3 : Int32)), .val (.int (0 : Int32)), .val (.ref a582), .unset, .unset, .unset, .unset, .unset, .unset, .unset]) 26 A S580 at_24 (by first | rfl | assumption) rfl rfl ?_
      refine s_iload 28 A S580 at_26 rfl rfl ?_
      refine s_ifle (xi := 3) 36 31 A S580 rfl at_28 (by decide) (by decide) rfl (fun c585 => (by exact absurd c585 (by decide) : False).elim) (fun c585 => ?_)
      refine s_aload 33 A S580 at_31 rfl (by first | rfl | assumption) rfl ?_
      refine s_iconst (z := (0 : Int32)) 34 A S580 at_33 rfl rfl ?_
      refine s_lloadN 35 A S580 at_34 rfl rfl ?_
      refine s_last 36 A S580 V584 ⟨by decide, by decide⟩ 0 rfl (Nat.le_of_ble_eq_true rfl) ge_a582 at_35 rfl fun T586 h587 W589 V590 S588 => ?_
      have Z592 : n0 ≤ h587.size := by rw [W589.size]; exact Z583
      have V593 : Arv Z h587 a582 k581 .long (3 : Int32) [(.long i0), (.long 0), (.long 0)] (.long 0) := V590
      refine s_iload 38 A S588 at_36 rfl rfl ?_
      refine s_iconst (z := (1 : Int32)) 39 A S588 at_38 rfl rfl ?_
      refine s_ile (xi := 3) (yi := 1) 47 42 A S588 rfl rfl at_39 (by decide) (by decide) rfl (fun c594 => (by exact absurd c594 (by decide) : False).elim) (fun c594 => ?_)
      refine s_aload 44 A S588 at_42 rfl (by first | rfl | assumption) rfl ?_
      refine s_iconst (z := (1 : Int32)) 45 A S588 at_44 rfl rfl ?_
      refine s_lloadN 46 A S588 at_45 rfl rfl ?_
      refine s_last 47 A S588 V593 ⟨by decide, by decide⟩ 1 rfl (Nat.le_of_ble_eq_true rfl) ge_a582 at_46 rfl fun T595 h596 W598 V599 S597 => ?_
      have Z601 : n0 ≤ h596.size := by rw [W598.size]; exact Z592
      have V602 : Arv Z h596 a582 k581 .long (3 : Int32) [(.long i0), (.long i1), (.long 0)] (.long 0) := V599
      refine s_iload 49 A S597 at_47 rfl rfl ?_
      refine s_iconst (z := (2 : Int32)) 50 A S597 at_49 rfl rfl ?_
      refine s_ile (xi := 3) (yi := 2) 59 53 A S597 rfl rfl at_50 (by decide) (by decide) rfl (fun c603 => (by exact absurd c603 (by decide) : False).elim) (fun c603 => ?_)
      refine s_aload 55 A S597 at_53 rfl (by first | rfl | assumption) rfl ?_
      refine s_iconst (z := (2 : Int32)) 56 A S597 at_55 rfl rfl ?_
      refine s_lload 58 A S597 at_56 rfl rfl ?_
      refine s_last 59 A S597 V602 ⟨by decide, by decide⟩ 2 rfl (Nat.le_of_ble_eq_true rfl) ge_a582 at_58 rfl fun T604 h605 W607 V608 S606 => ?_
      have Z610 : n0 ≤ h605.size := by rw [W607.size]; exact Z601
      have V611 : Arv Z h605 a582 k581 .long (3 : Int32) [(.long i0), (.long i1), (.long i2)] (.long 0) := V608
      refine s_iload 61 A S606 at_59 rfl rfl ?_
      refine s_ifle (xi := 3) 71 64 A S606 rfl at_61 (by decide) (by decide) rfl (fun c612 => (by exact absurd c612 (by decide) : False).elim) (fun c612 => ?_)
      refine s_lloadN 65 A S606 at_64 rfl rfl ?_
      refine s_callV (y := (⟨"com/example/orderly_sieve/orderlysieve/query/RowSetCountPinLaw", "pop", "(J)I"⟩ : MethodName)) (argsL := [(.long i0)]) (rest := []) 68 A S606 (hw _ (List.mem_of_getElem? (i := 1) rfl)) (hw _ (List.mem_of_getElem? (i := 2) rfl)) (hw _ (List.mem_of_getElem? (i := 3) rfl)) (hw _ (List.mem_of_getElem? (i := 4) rfl)) (rm1 l Z a0 hw [] i0 h605 n0 Z610) (lenOf pd__J_I rfl) at_65 rfl rfl rfl (by decide) (by decide) (Nat.le_of_ble_eq_true rfl) (by decide) (by decide) fun T613 S614 => ?_
      refine s_goto 72 A S614 at_68 (by decide) (by decide) ?_
      refine s_iload 74 A S614 at_72 rfl rfl ?_
      refine s_iconst (z := (1 : Int32)) 75 A S614 at_74 rfl rfl ?_
      refine s_ile (xi := 3) (yi := 1) 85 78 A S614 rfl rfl at_75 (by decide) (by decide) rfl (fun c615 => (by exact absurd c615 (by decide) : False).elim) (fun c615 => ?_)
      refine s_lloadN 79 A S614 at_78 rfl rfl ?_
      refine s_callV (y := (⟨"com/example/orderly_sieve/orderlysieve/query/RowSetCountPinLaw", "pop", "(J)I"⟩ : MethodName)) (argsL := [(.long i1)]) (rest := [(.int (own_pop i0))]) 82 A S614 (hw _ (List.mem_of_getElem? (i := 1) rfl)) (hw _ (List.mem_of_getElem? (i := 2) rfl)) (hw _ (List.mem_of_getElem? (i := 3) rfl)) (hw _ (List.mem_of_getElem? (i := 4) rfl)) (rm1 l Z a0 hw [] i1 h605 n0 Z610) (lenOf pd__J_I rfl) at_79 rfl rfl rfl (by decide) (by decide) (Nat.le_of_ble_eq_true rfl) (by decide) (by decide) fun T616 S617 => ?_
      refine s_goto 86 A S617 at_82 (by decide) (by decide) ?_
      refine s_iadd (z := ((own_pop i0) + (own_pop i1))) 87 A S617 at_86 rfl rfl ?_
      refine s_iload 89 A S617 at_87 rfl rfl ?_
      refine s_iconst (z := (2 : Int32)) 90 A S617 at_89 rfl rfl ?_
      refine s_ile (xi := 3) (yi := 2) 101 93 A S617 rfl rfl at_90 (by decide) (by decide) rfl (fun c618 => (by exact absurd c618 (by decide) : False).elim) (fun c618 => ?_)
      refine s_lload 95 A S617 at_93 rfl rfl ?_
      refine s_callV (y := (⟨"com/example/orderly_sieve/orderlysieve/query/RowSetCountPinLaw", "pop", "(J)I"⟩ : MethodName)) (argsL := [(.long i2)]) (rest := [(.int ((own_pop i0) + (own_pop i1)))]) 98 A S617 (hw _ (List.mem_of_getElem? (i := 1) rfl)) (hw _ (List.mem_of_getElem? (i := 2) rfl)) (hw _ (List.mem_of_getElem? (i := 3) rfl)) (hw _ (List.mem_of_getElem? (i := 4) rfl)) (rm1 l Z a0 hw [] i2 h605 n0 Z610) (lenOf pd__J_I rfl) at_95 rfl rfl rfl (by decide) (by decide) (Nat.le_of_ble_eq_true rfl) (by decide) (by decide) fun T619 S620 => ?_
      refine s_goto 102 A S620 at_98 (by decide) (by decide) ?_
      refine s_iadd (z := (((own_pop i0) + (own_pop i1)) + (own_pop i2))) 103 A S620 at_102 rfl rfl ?_
      refine s_istore (Ls' := #[.val (.long i0), .second, .val (.long i1), .second, .val (.long i2), .second, .val (.int i3), .val (.int i4), .val (.int (3 : Int32)), .val (.int (0 : Int32)), .val (.ref a582), .val (.int (((own_pop i0) + (own_pop i1)) + (own_pop i2))), .unset, .unset, .unset, .unset, .unset, .unset]) 105 A S620 at_103 rfl rfl ?_
      refine s_new 108 A S620 (hw _ (List.mem_of_getElem? (i := 9) rfl)) (hw _ (List.mem_of_getElem? (i := 10) rfl)) (hw _ (List.mem_of_getElem? (i := 11) rfl)) at_105 rfl (by decide) (by decide) fun T621 h622 a624 ha_a624 E_a624 X_a624 D_a624 S623 => ?_
      have ne_a582_a624 : a582 ≠ a624 := by rw [ha_a624]; exact Nat.ne_of_lt V611.lt
      have ge_a624 : n0 ≤ a624 := by rw [ha_a624]; exact Z610
      have V625 := Arv.ext V611 E_a624
      have Z626 : n0 ≤ h622.size := Nat.le_trans Z610 E_a624.1
      have F_a624_words : Fld Z h622 a624 "com/example/orderly_sieve/orderlysieve/query/RowSet" "words" "[J" .null := D_a624 (Or.inr (hw _ (List.mem_of_getElem? (i := 19) rfl))) (ty := (.array .long)) (by decide)
      have F_a624_size : Fld Z h622 a624 "com/example/orderly_sieve/orderlysieve/query/RowSet" "size" "I" (.int (0 : Int32)) := D_a624 (Or.inr (hw _ (List.mem_of_getElem? (i := 21) rfl))) (ty := .int) (by decide)
      have F_a624_count : Fld Z h622 a624 "com/example/orderly_sieve/orderlysieve/query/RowSet" "count" "I" (.int (0 : Int32)) := D_a624 (Or.inl (hw _ (List.mem_of_getElem? (i := 23) rfl))) (ty := .int) (by decide)
      refine s_dup 109 A S623 at_108 rfl rfl ?_
      refine s_aload 111 A S623 at_109 rfl (by first | rfl | assumption) rfl ?_
      refine s_bipush (z := (64 : Int32)) 113 A S623 at_111 rfl rfl ?_
      refine s_iload 115 A S623 at_113 rfl rfl ?_
      refine s_imul (z := (192 : Int32)) 116 A S623 at_115 (by decide) rfl ?_
      refine s_iload 118 A S623 at_116 rfl rfl ?_
      refine s_ifeq (xi := 0) 126 121 A S623 rfl at_118 (by decide) (by decide) rfl (fun c627 tc627 => ?_) (fun c627 tc627 => (by exact absurd tc627 (by decide) : False).elim)
      refine s_iconst (z := (-1 : Int32)) 127 A S623 at_126 rfl rfl ?_
      refine s_spec (y := (⟨"com/example/orderly_sieve/orderlysieve/query/RowSet", "<init>", "([JII)V"⟩ : MethodName)) (argsL := [(.ref a582), (.int (192 : Int32)), (.int (-1 : Int32))]) (rest := [(.ref a624)]) (b := a624) 130 A S623 (hw _ (List.mem_of_getElem? (i := 12) rfl)) (hw _ (List.mem_of_getElem? (i := 13) rfl)) (hw _ (List.mem_of_getElem? (i := 11) rfl)) (hw _ (List.mem_of_getElem? (i := 14) rfl)) (rm2 l Z a0 hw [] a624 a582 (192 : Int32) (-1 : Int32) h622 n0 Z626 X_a624 F_a624_words F_a624_size F_a624_count ge_a624) (lenOf pd___JII_V rfl) at_127 rfl rfl rfl rfl (by decide) (by decide) (Nat.le_of_ble_eq_true rfl) (by decide) (by decide) fun T628 h630 v631 q632 S629 => ?_
      obtain ⟨rfl, K633, E637, F634, F635, F636⟩ := q632
      show own_G _ _ _ _ _ _ _ _ _ (mkF m 130 #[.val (.long i0), .second, .val (.long i1), .second, .val (.long i2), .second, .val (.int i3), .val (.int i4), .val (.int (3 : Int32)), .val (.int (0 : Int32)), .val (.ref a582), .val (.int (((own_pop i0) + (own_pop i1)) + (own_pop i2))), .unset, .unset, .unset, .unset, .unset, .unset] [(.ref a624)])
      have E641 := Exa.keep X_a624 K633
      have V642 := Arv.keep V625 K633 (ninS ne_a582_a624 nin0)
      have Z643 : n0 ≤ h630.size := Nat.le_trans Z626 K633.1
      refine s_astore (Ls' := #[.val (.long i0), .second, .val (.long i1), .second, .val (.long i2), .second, .val (.int i3), .val (.int i4), .val (.int (3 : Int32)), .val (.int (0 : Int32)), .val (.ref a582), .val (.int (((own_pop i0) + (own_pop i1)) + (own_pop i2))), .val (.ref a624), .unset, .unset, .unset, .unset, .unset]) 132 A S629 at_130 (by first | rfl | assumption) rfl rfl ?_
      refine s_aload 134 A S629 at_132 rfl (by first | rfl | assumption) rfl ?_
      refine s_virt (y := (⟨"com/example/orderly_sieve/orderlysieve/query/RowSet", "count", "()I"⟩ : MethodName)) (z := (⟨"com/example/orderly_sieve/orderlysieve/query/RowSet", "count", "()I"⟩ : MethodName)) (argsL := []) (rest := []) (b := a624) 137 A S629 E641 (hw _ (List.mem_of_getElem? (i := 24) rfl)) (hw _ (List.mem_of_getElem? (i := 25) rfl)) (notFace_of_selects (args := #[]) (mvT A.2.2.2.2.2.2.2 (hw _ (List.mem_of_getElem? (i := 27) rfl)))) (hw _ (List.mem_of_getElem? (i := 27) rfl)) (hw _ (List.mem_of_getElem? (i := 26) rfl)) (hw _ (List.mem_of_getElem? (i := 11) rfl)) (hw _ (List.mem_of_getElem? (i := 28) rfl)) (rmC3 l Z a0 hw [] a624 a582 k581 (192 : Int32) (-1 : Int32) i0 i1 i2 h630 n0 Z643 E641 F634 F635 F636 V642 ge_a624 ne_a582_a624 (by decide)) (lenOf pd___I rfl) at_134 rfl rfl rfl (by decide) (by decide) (Nat.le_of_ble_eq_true rfl) (by decide) (by decide) fun T644 h646 v647 q648 S645 => ?_
      obtain ⟨rfl, K649, F650, F651, F652⟩ := q648
      show own_G _ _ _ _ _ _ _ _ _ (mkF m 137 #[.val (.long i0), .second, .val (.long i1), .second, .val (.long i2), .second, .val (.int i3), .val (.int i4), .val (.int (3 : Int32)), .val (.int (0 : Int32)), .val (.ref a582), .val (.int (((own_pop i0) + (own_pop i1)) + (own_pop i2))), .val (.ref a624), .unset, .unset, .unset, .unset, .unset] [(.int ((((0 : Int32) + (own_bc i0)) + (own_bc i1)) + (own_bc i2)))])
      have E656 := Exa.keep E641 K649
      have V657 := Arv.keep V642 K649 (ninS ne_a582_a624 nin0)
      have Z658 : n0 ≤ h646.size := Nat.le_trans Z643 K649.1
      refine s_istore (Ls' := #[.val (.long i0), .second, .val (.long i1), .second, .val (.long i2), .second, .val (.int i3), .val (.int i4), .val (.int (3 : Int32)), .val (.int (0 : Int32)), .val (.ref a582), .val (.int (((own_pop i0) + (own_pop i1)) + (own_pop i2))), .val (.ref a624), .val (.int ((((0 : Int32) + (own_bc i0)) + (own_bc i1)) + (own_bc i2))), .unset, .unset, .unset, .unset]) 139 A S645 at_137 rfl rfl ?_
      refine s_aload 141 A S645 at_139 rfl (by first | rfl | assumption) rfl ?_
      refine s_virtV (y := (⟨"com/example/orderly_sieve/orderlysieve/query/RowSet", "count", "()I"⟩ : MethodName)) (z := (⟨"com/example/orderly_sieve/orderlysieve/query/RowSet", "count", "()I"⟩ : MethodName)) (argsL := []) (rest := []) (b := a624) 144 A S645 E656 (hw _ (List.mem_of_getElem? (i := 24) rfl)) (hw _ (List.mem_of_getElem? (i := 25) rfl)) (notFace_of_selects (args := #[]) (mvT A.2.2.2.2.2.2.2 (hw _ (List.mem_of_getElem? (i := 27) rfl)))) (hw _ (List.mem_of_getElem? (i := 27) rfl)) (hw _ (List.mem_of_getElem? (i := 26) rfl)) (hw _ (List.mem_of_getElem? (i := 11) rfl)) (hw _ (List.mem_of_getElem? (i := 28) rfl)) (rmCpos l Z a0 hw [] a624 ((((0 : Int32) + (own_bc i0)) + (own_bc i1)) + (own_bc i2)) h646 n0 Z658 F652 (own_bsum3 i0 i1 i2)) (lenOf pd___I rfl) at_141 rfl rfl rfl (by decide) (by decide) (Nat.le_of_ble_eq_true rfl) (by decide) (by decide) fun T659 S660 => ?_
      refine s_istore (Ls' := #[.val (.long i0), .second, .val (.long i1), .second, .val (.long i2), .second, .val (.int i3), .val (.int i4), .val (.int (3 : Int32)), .val (.int (0 : Int32)), .val (.ref a582), .val (.int (((own_pop i0) + (own_pop i1)) + (own_pop i2))), .val (.ref a624), .val (.int ((((0 : Int32) + (own_bc i0)) + (own_bc i1)) + (own_bc i2))), .val (.int ((((0 : Int32) + (own_bc i0)) + (own_bc i1)) + (own_bc i2))), .unset, .unset, .unset]) 146 A S660 at_144 rfl rfl ?_
      refine s_aload 148 A S660 at_146 rfl (by first | rfl | assumption) rfl ?_
      refine s_virt (y := (⟨"com/example/orderly_sieve/orderlysieve/query/RowSet", "words", "()[J"⟩ : MethodName)) (z := (⟨"com/example/orderly_sieve/orderlysieve/query/RowSet", "words", "()[J"⟩ : MethodName)) (argsL := []) (rest := []) (b := a624) 151 A S660 E656 (hw _ (List.mem_of_getElem? (i := 29) rfl)) (hw _ (List.mem_of_getElem? (i := 30) rfl)) (notFace_of_selects (args := #[]) (mvT A.2.2.2.2.2.2.2 (hw _ (List.mem_of_getElem? (i := 32) rfl)))) (hw _ (List.mem_of_getElem? (i := 32) rfl)) (hw _ (List.mem_of_getElem? (i := 31) rfl)) (hw _ (List.mem_of_getElem? (i := 11) rfl)) (hw _ (List.mem_of_getElem? (i := 33) rfl)) (rm5 l Z a0 hw [] a624 a582 (192 : Int32) ((((0 : Int32) + (own_bc i0)) + (own_bc i1)) + (own_bc i2)) h646 n0 Z658 E656 F650 F651 F652 ge_a624) (lenOf pd____J rfl) at_148 rfl rfl rfl (by decide) (by decide) (Nat.le_of_ble_eq_true rfl) (by decide) (by decide) fun T661 h663 v664 q665 S662 => ?_
      obtain ⟨rfl, K666, F667, F668, F669⟩ := q665
      show own_G _ _ _ _ _ _ _ _ _ (mkF m 151 #[.val (.long i0), .second, .val (.long i1), .second, .val (.long i2), .second, .val (.int i3), .val (.int i4), .val (.int (3 : Int32)), .val (.int (0 : Int32)), .val (.ref a582), .val (.int (((own_pop i0) + (own_pop i1)) + (own_pop i2))), .val (.ref a624), .val (.int ((((0 : Int32) + (own_bc i0)) + (own_bc i1)) + (own_bc i2))), .val (.int ((((0 : Int32) + (own_bc i0)) + (own_bc i1)) + (own_bc i2))), .unset, .unset, .unset] [(.ref a582)])
      have E673 := Exa.keep E656 K666
      have V674 := Arv.keep V657 K666 (ninS ne_a582_a624 nin0)
      have Z675 : n0 ≤ h663.size := Nat.le_trans Z658 K666.1
      refine s_astore (Ls' := #[.val (.long i0), .second, .val (.long i1), .second, .val (.long i2), .second, .val (.int i3), .val (.int i4), .val (.int (3 : Int32)), .val (.int (0 : Int32)), .val (.ref a582), .val (.int (((own_pop i0) + (own_pop i1)) + (own_pop i2))), .val (.ref a624), .val (.int ((((0 : Int32) + (own_bc i0)) + (own_bc i1)) + (own_bc i2))), .val (.int ((((0 : Int32) + (own_bc i0)) + (own_bc i1)) + (own_bc i2))), .val (.ref a582), .unset, .unset]) 153 A S662 at_151 (by first | rfl | assumption) rfl rfl ?_
      refine s_aload 155 A S662 at_153 rfl (by first | rfl | assumption) rfl ?_
      refine s_alen 156 A S662 V674 at_155 rfl ?_
      refine s_iload 158 A S662 at_156 rfl rfl ?_
      refine s_ine (xi := 3) (yi := 3) 211 161 A S662 rfl rfl at_158 (by decide) (by decide) rfl (fun c676 tc676 => (by exact absurd tc676 (by decide) : False).elim) (fun c676 tc676 => ?_)
      refine s_iload 163 A S662 at_161 rfl rfl ?_
      refine s_iconst (z := (1 : Int32)) 164 A S662 at_163 rfl rfl ?_
      refine s_ilt (xi := 3) (yi := 1) 176 167 A S662 rfl rfl at_164 (by decide) (by decide) rfl (fun c677 => (by exact absurd c677 (by decide) : False).elim) (fun c677 => ?_)
      refine s_aload 169 A S662 at_167 rfl (by first | rfl | assumption) rfl ?_
      refine s_iconst (z := (0 : Int32)) 170 A S662 at_169 rfl rfl ?_
      refine s_lald (v := (.long i0)) 171 A S662 V674 ⟨by decide, by decide⟩ rfl at_170 rfl ?_
      refine s_lloadN 172 A S662 at_171 rfl rfl ?_
      refine s_lifne 211 176 173 A S662 rfl rfl at_172 rfl at_173 (by decide) (by decide) rfl (fun c678 tc678 => (by exact c678 rfl : False).elim) (fun c678 tc678 => ?_)
      refine s_iload 178 A S662 at_176 rfl rfl ?_
      refine s_iconst (z := (2 : Int32)) 179 A S662 at_178 rfl rfl ?_
      refine s_ilt (xi := 3) (yi := 2) 191 182 A S662 rfl rfl at_179 (by decide) (by decide) rfl (fun c679 => (by exact absurd c679 (by decide) : False).elim) (fun c679 => ?_)
      refine s_aload 184 A S662 at_182 rfl (by first | rfl | assumption) rfl ?_
      refine s_iconst (z := (1 : Int32)) 185 A S662 at_184 rfl rfl ?_
      refine s_lald (v := (.long i1)) 186 A S662 V674 ⟨by decide, by decide⟩ rfl at_185 rfl ?_
      refine s_lloadN 187 A S662 at_186 rfl rfl ?_
      refine s_lifne 211 191 188 A S662 rfl rfl at_187 rfl at_188 (by decide) (by decide) rfl (fun c680 tc680 => (by exact c680 rfl : False).elim) (fun c680 tc680 => ?_)
      refine s_iload 193 A S662 at_191 rfl rfl ?_
      refine s_iconst (z := (3 : Int32)) 194 A S662 at_193 rfl rfl ?_
      refine s_ilt (xi := 3) (yi := 3) 207 197 A S662 rfl rfl at_194 (by decide) (by decide) rfl (fun c681 => (by exact absurd c681 (by decide) : False).elim) (fun c681 => ?_)
      refine s_aload 199 A S662 at_197 rfl (by first | rfl | assumption) rfl ?_
      refine s_iconst (z := (2 : Int32)) 200 A S662 at_199 rfl rfl ?_
      refine s_lald (v := (.long i2)) 201 A S662 V674 ⟨by decide, by decide⟩ rfl at_200 rfl ?_
      refine s_lload 203 A S662 at_201 rfl rfl ?_
      refine s_lifne 211 207 204 A S662 rfl rfl at_203 rfl at_204 (by decide) (by decide) rfl (fun c682 tc682 => (by exact c682 rfl : False).elim) (fun c682 tc682 => ?_)
      refine s_iconst (z := (1 : Int32)) 208 A S662 at_207 rfl rfl ?_
      refine s_goto 212 A S662 at_208 (by decide) (by decide) ?_
      refine s_istore (Ls' := #[.val (.long i0), .second, .val (.long i1), .second, .val (.long i2), .second, .val (.int i3), .val (.int i4), .val (.int (3 : Int32)), .val (.int (0 : Int32)), .val (.ref a582), .val (.int (((own_pop i0) + (own_pop i1)) + (own_pop i2))), .val (.ref a624), .val (.int ((((0 : Int32) + (own_bc i0)) + (own_bc i1)) + (own_bc i2))), .val (.int ((((0 : Int32) + (own_bc i0)) + (own_bc i1)) + (own_bc i2))), .val (.ref a582), .val (.int (1 : Int32)), .unset]) 214 A S662 at_212 rfl rfl ?_
      refine s_aload 216 A S662 at_214 rfl (by first | rfl | assumption) rfl ?_
      refine s_virt (y := (⟨"com/example/orderly_sieve/orderlysieve/query/RowSet", "count", "()I"⟩ : MethodName)) (z := (⟨"com/example/orderly_sieve/orderlysieve/query/RowSet", "count", "()I"⟩ : MethodName)) (argsL := []) (rest := []) (b := a624) 219 A S662 E673 (hw _ (List.mem_of_getElem? (i := 24) rfl)) (hw _ (List.mem_of_getElem? (i := 25) rfl)) (notFace_of_selects (args := #[]) (mvT A.2.2.2.2.2.2.2 (hw _ (List.mem_of_getElem? (i := 27) rfl)))) (hw _ (List.mem_of_getElem? (i := 27) rfl)) (hw _ (List.mem_of_getElem? (i := 26) rfl)) (hw _ (List.mem_of_getElem? (i := 11) rfl)) (hw _ (List.mem_of_getElem? (i := 28) rfl)) (rmC3 l Z a0 hw [] a624 a582 k581 (192 : Int32) (-1 : Int32) i0 i1 i2 h663 n0 Z675 E673 F667 F668 F669 V674 ge_a624 ne_a582_a624 (by decide)) (lenOf pd___I rfl) at_216 rfl rfl rfl (by decide) (by decide) (Nat.le_of_ble_eq_true rfl) (by decide) (by decide) fun T683 h685 v686 q687 S684 => ?_
      obtain ⟨rfl, K688, F689, F690, F691⟩ := q687
      show own_G _ _ _ _ _ _ _ _ _ (mkF m 219 #[.val (.long i0), .second, .val (.long i1), .second, .val (.long i2), .second, .val (.int i3), .val (.int i4), .val (.int (3 : Int32)), .val (.int (0 : Int32)), .val (.ref a582), .val (.int (((own_pop i0) + (own_pop i1)) + (own_pop i2))), .val (.ref a624), .val (.int ((((0 : Int32) + (own_bc i0)) + (own_bc i1)) + (own_bc i2))), .val (.int ((((0 : Int32) + (own_bc i0)) + (own_bc i1)) + (own_bc i2))), .val (.ref a582), .val (.int (1 : Int32)), .unset] [(.int ((((0 : Int32) + (own_bc i0)) + (own_bc i1)) + (own_bc i2)))])
      have E695 := Exa.keep E673 K688
      have V696 := Arv.keep V674 K688 (ninS ne_a582_a624 nin0)
      have Z697 : n0 ≤ h685.size := Nat.le_trans Z675 K688.1
      refine s_istore (Ls' := #[.val (.long i0), .second, .val (.long i1), .second, .val (.long i2), .second, .val (.int i3), .val (.int i4), .val (.int (3 : Int32)), .val (.int (0 : Int32)), .val (.ref a582), .val (.int (((own_pop i0) + (own_pop i1)) + (own_pop i2))), .val (.ref a624), .val (.int ((((0 : Int32) + (own_bc i0)) + (own_bc i1)) + (own_bc i2))), .val (.int ((((0 : Int32) + (own_bc i0)) + (own_bc i1)) + (own_bc i2))), .val (.ref a582), .val (.int (1 : Int32)), .val (.int ((((0 : Int32) + (own_bc i0)) + (own_bc i1)) + (own_bc i2)))]) 221 A S684 at_219 rfl rfl ?_
      refine s_iload 223 A S684 at_221 rfl rfl ?_
      refine s_iload 225 A S684 at_223 rfl rfl ?_
      refine s_ine 251 228 A S684 rfl rfl at_225 (by decide) (by decide) rfl (fun c698 tc698 => (by exact c698 (by simp only [own_pe, Int32.zero_add, Int32.add_zero]) : False).elim) (fun c698 tc698 => ?_)
      refine s_iload 230 A S684 at_228 rfl rfl ?_
      refine s_iload 232 A S684 at_230 rfl rfl ?_
      refine s_ine 251 235 A S684 rfl rfl at_232 (by decide) (by decide) rfl (fun c699 tc699 => (by exact c699 (by simp only [own_pe, Int32.zero_add, Int32.add_zero]) : False).elim) (fun c699 tc699 => ?_)
      refine s_iload 237 A S684 at_235 rfl rfl ?_
      refine s_iload 239 A S684 at_237 rfl rfl ?_
      refine s_ine 251 242 A S684 rfl rfl at_239 (by decide) (by decide) rfl (fun c700 tc700 => (by exact c700 (by simp only [own_pe, Int32.zero_add, Int32.add_zero]) : False).elim) (fun c700 tc700 => ?_)
      refine s_iload 244 A S684 at_242 rfl rfl ?_
      refine s_ifeq (xi := 1) 251 247 A S684 rfl at_244 (by decide) (by decide) rfl (fun c701 tc701 => (by exact absurd tc701 (by decide) : False).elim) (fun c701 tc701 => ?_)
      refine s_iconst (z := (1 : Int32)) 248 A S684 at_247 rfl rfl ?_
      refine s_goto 252 A S684 at_248 (by decide) (by decide) ?_
      exact s_retZ A S684 at_252 rfl (by decide) (by decide) rfl
    · refine s_iconst (z := (1 : Int32)) 14 A S at_13 rfl rfl ?_
      refine s_goto 18 A S at_14 (by decide) (by decide) ?_
      refine s_istore (Ls' := #[.val (.long i0), .second, .val (.long i1), .second, .val (.long i2), .second, .val (.int i3), .val (.int i4), .val (.int (3 : Int32)), .val (.int (1 : Int32)), .unset, .unset, .unset, .unset, .unset, .unset, .unset, .unset]) 20 A S at_18 rfl rfl ?_
      refine s_iload 22 A S at_20 rfl rfl ?_
      refine s_newP (cap := 3) 24 A S (hw _ (List.mem_of_getElem? (i := 0) rfl)) at_22 (by decide) (by decide) (by decide) rfl (by decide) (by decide) fun T702 h703 k705 a706 ha_a706 E_a706 V_a706 S704 => ?_
      have ge_a706 : n0 ≤ a706 := by rw [ha_a706]; exact Z0
      have Z707 : n0 ≤ h703.size := Nat.le_trans Z0 E_a706.1
      have V708 : Arv Z h703 a706 k705 .long (3 : Int32) [(.long 0), (.long 0), (.long 0)] (.long 0) := Arv.pad V_a706 (fun i => by simpa using pad_rep [] (.long 0) 3 i)
      refine s_astore (Ls' := #[.val (.long i0), .second, .val (.long i1), .second, .val (.long i2), .second, .val (.int i3), .val (.int i4), .val (.int (3 : Int32)), .val (.int (1 : Int32)), .val (.ref a706), .unset, .unset, .unset, .unset, .unset, .unset, .unset]) 26 A S704 at_24 (by first | rfl | assumption) rfl rfl ?_
      refine s_iload 28 A S704 at_26 rfl rfl ?_
      refine s_ifle (xi := 3) 36 31 A S704 rfl at_28 (by decide) (by decide) rfl (fun c709 => (by exact absurd c709 (by decide) : False).elim) (fun c709 => ?_)
      refine s_aload 33 A S704 at_31 rfl (by first | rfl | assumption) rfl ?_
      refine s_iconst (z := (0 : Int32)) 34 A S704 at_33 rfl rfl ?_
      refine s_lloadN 35 A S704 at_34 rfl rfl ?_
      refine s_last 36 A S704 V708 ⟨by decide, by decide⟩ 0 rfl (Nat.le_of_ble_eq_true rfl) ge_a706 at_35 rfl fun T710 h711 W713 V714 S712 => ?_
      have Z716 : n0 ≤ h711.size := by rw [W713.size]; exact Z707
      have V717 : Arv Z h711 a706 k705 .long (3 : Int32) [(.long i0), (.long 0), (.long 0)] (.long 0) := V714
      refine s_iload 38 A S712 at_36 rfl rfl ?_
      refine s_iconst (z := (1 : Int32)) 39 A S712 at_38 rfl rfl ?_
      refine s_ile (xi := 3) (yi := 1) 47 42 A S712 rfl rfl at_39 (by decide) (by decide) rfl (fun c718 => (by exact absurd c718 (by decide) : False).elim) (fun c718 => ?_)
      refine s_aload 44 A S712 at_42 rfl (by first | rfl | assumption) rfl ?_
      refine s_iconst (z := (1 : Int32)) 45 A S712 at_44 rfl rfl ?_
      refine s_lloadN 46 A S712 at_45 rfl rfl ?_
      refine s_last 47 A S712 V717 ⟨by decide, by decide⟩ 1 rfl (Nat.le_of_ble_eq_true rfl) ge_a706 at_46 rfl fun T719 h720 W722 V723 S721 => ?_
      have Z725 : n0 ≤ h720.size := by rw [W722.size]; exact Z716
      have V726 : Arv Z h720 a706 k705 .long (3 : Int32) [(.long i0), (.long i1), (.long 0)] (.long 0) := V723
      refine s_iload 49 A S721 at_47 rfl rfl ?_
      refine s_iconst (z := (2 : Int32)) 50 A S721 at_49 rfl rfl ?_
      refine s_ile (xi := 3) (yi := 2) 59 53 A S721 rfl rfl at_50 (by decide) (by decide) rfl (fun c727 => (by exact absurd c727 (by decide) : False).elim) (fun c727 => ?_)
      refine s_aload 55 A S721 at_53 rfl (by first | rfl | assumption) rfl ?_
      refine s_iconst (z := (2 : Int32)) 56 A S721 at_55 rfl rfl ?_
      refine s_lload 58 A S721 at_56 rfl rfl ?_
      refine s_last 59 A S721 V726 ⟨by decide, by decide⟩ 2 rfl (Nat.le_of_ble_eq_true rfl) ge_a706 at_58 rfl fun T728 h729 W731 V732 S730 => ?_
      have Z734 : n0 ≤ h729.size := by rw [W731.size]; exact Z725
      have V735 : Arv Z h729 a706 k705 .long (3 : Int32) [(.long i0), (.long i1), (.long i2)] (.long 0) := V732
      refine s_iload 61 A S730 at_59 rfl rfl ?_
      refine s_ifle (xi := 3) 71 64 A S730 rfl at_61 (by decide) (by decide) rfl (fun c736 => (by exact absurd c736 (by decide) : False).elim) (fun c736 => ?_)
      refine s_lloadN 65 A S730 at_64 rfl rfl ?_
      refine s_callV (y := (⟨"com/example/orderly_sieve/orderlysieve/query/RowSetCountPinLaw", "pop", "(J)I"⟩ : MethodName)) (argsL := [(.long i0)]) (rest := []) 68 A S730 (hw _ (List.mem_of_getElem? (i := 1) rfl)) (hw _ (List.mem_of_getElem? (i := 2) rfl)) (hw _ (List.mem_of_getElem? (i := 3) rfl)) (hw _ (List.mem_of_getElem? (i := 4) rfl)) (rm1 l Z a0 hw [] i0 h729 n0 Z734) (lenOf pd__J_I rfl) at_65 rfl rfl rfl (by decide) (by decide) (Nat.le_of_ble_eq_true rfl) (by decide) (by decide) fun T737 S738 => ?_
      refine s_goto 72 A S738 at_68 (by decide) (by decide) ?_
      refine s_iload 74 A S738 at_72 rfl rfl ?_
      refine s_iconst (z := (1 : Int32)) 75 A S738 at_74 rfl rfl ?_
      refine s_ile (xi := 3) (yi := 1) 85 78 A S738 rfl rfl at_75 (by decide) (by decide) rfl (fun c739 => (by exact absurd c739 (by decide) : False).elim) (fun c739 => ?_)
      refine s_lloadN 79 A S738 at_78 rfl rfl ?_
      refine s_callV (y := (⟨"com/example/orderly_sieve/orderlysieve/query/RowSetCountPinLaw", "pop", "(J)I"⟩ : MethodName)) (argsL := [(.long i1)]) (rest := [(.int (own_pop i0))]) 82 A S738 (hw _ (List.mem_of_getElem? (i := 1) rfl)) (hw _ (List.mem_of_getElem? (i := 2) rfl)) (hw _ (List.mem_of_getElem? (i := 3) rfl)) (hw _ (List.mem_of_getElem? (i := 4) rfl)) (rm1 l Z a0 hw [] i1 h729 n0 Z734) (lenOf pd__J_I rfl) at_79 rfl rfl rfl (by decide) (by decide) (Nat.le_of_ble_eq_true rfl) (by decide) (by decide) fun T740 S741 => ?_
      refine s_goto 86 A S741 at_82 (by decide) (by decide) ?_
      refine s_iadd (z := ((own_pop i0) + (own_pop i1))) 87 A S741 at_86 rfl rfl ?_
      refine s_iload 89 A S741 at_87 rfl rfl ?_
      refine s_iconst (z := (2 : Int32)) 90 A S741 at_89 rfl rfl ?_
      refine s_ile (xi := 3) (yi := 2) 101 93 A S741 rfl rfl at_90 (by decide) (by decide) rfl (fun c742 => (by exact absurd c742 (by decide) : False).elim) (fun c742 => ?_)
      refine s_lload 95 A S741 at_93 rfl rfl ?_
      refine s_callV (y := (⟨"com/example/orderly_sieve/orderlysieve/query/RowSetCountPinLaw", "pop", "(J)I"⟩ : MethodName)) (argsL := [(.long i2)]) (rest := [(.int ((own_pop i0) + (own_pop i1)))]) 98 A S741 (hw _ (List.mem_of_getElem? (i := 1) rfl)) (hw _ (List.mem_of_getElem? (i := 2) rfl)) (hw _ (List.mem_of_getElem? (i := 3) rfl)) (hw _ (List.mem_of_getElem? (i := 4) rfl)) (rm1 l Z a0 hw [] i2 h729 n0 Z734) (lenOf pd__J_I rfl) at_95 rfl rfl rfl (by decide) (by decide) (Nat.le_of_ble_eq_true rfl) (by decide) (by decide) fun T743 S744 => ?_
      refine s_goto 102 A S744 at_98 (by decide) (by decide) ?_
      refine s_iadd (z := (((own_pop i0) + (own_pop i1)) + (own_pop i2))) 103 A S744 at_102 rfl rfl ?_
      refine s_istore (Ls' := #[.val (.long i0), .second, .val (.long i1), .second, .val (.long i2), .second, .val (.int i3), .val (.int i4), .val (.int (3 : Int32)), .val (.int (1 : Int32)), .val (.ref a706), .val (.int (((own_pop i0) + (own_pop i1)) + (own_pop i2))), .unset, .unset, .unset, .unset, .unset, .unset]) 105 A S744 at_103 rfl rfl ?_
      refine s_new 108 A S744 (hw _ (List.mem_of_getElem? (i := 9) rfl)) (hw _ (List.mem_of_getElem? (i := 10) rfl)) (hw _ (List.mem_of_getElem? (i := 11) rfl)) at_105 rfl (by decide) (by decide) fun T745 h746 a748 ha_a748 E_a748 X_a748 D_a748 S747 => ?_
      have ne_a706_a748 : a706 ≠ a748 := by rw [ha_a748]; exact Nat.ne_of_lt V735.lt
      have ge_a748 : n0 ≤ a748 := by rw [ha_a748]; exact Z734
      have V749 := Arv.ext V735 E_a748
      have Z750 : n0 ≤ h746.size := Nat.le_trans Z734 E_a748.1
      have F_a748_words : Fld Z h746 a748 "com/example/orderly_sieve/orderlysieve/query/RowSet" "words" "[J" .null := D_a748 (Or.inr (hw _ (List.mem_of_getElem? (i := 19) rfl))) (ty := (.array .long)) (by decide)
      have F_a748_size : Fld Z h746 a748 "com/example/orderly_sieve/orderlysieve/query/RowSet" "size" "I" (.int (0 : Int32)) := D_a748 (Or.inr (hw _ (List.mem_of_getElem? (i := 21) rfl))) (ty := .int) (by decide)
      have F_a748_count : Fld Z h746 a748 "com/example/orderly_sieve/orderlysieve/query/RowSet" "count" "I" (.int (0 : Int32)) := D_a748 (Or.inl (hw _ (List.mem_of_getElem? (i := 23) rfl))) (ty := .int) (by decide)
      refine s_dup 109 A S747 at_108 rfl rfl ?_
      refine s_aload 111 A S747 at_109 rfl (by first | rfl | assumption) rfl ?_
      refine s_bipush (z := (64 : Int32)) 113 A S747 at_111 rfl rfl ?_
      refine s_iload 115 A S747 at_113 rfl rfl ?_
      refine s_imul (z := (192 : Int32)) 116 A S747 at_115 (by decide) rfl ?_
      refine s_iload 118 A S747 at_116 rfl rfl ?_
      refine s_ifeq (xi := 1) 126 121 A S747 rfl at_118 (by decide) (by decide) rfl (fun c751 tc751 => (by exact absurd tc751 (by decide) : False).elim) (fun c751 tc751 => ?_)
      refine s_iload 123 A S747 at_121 rfl rfl ?_
      refine s_goto 127 A S747 at_123 (by decide) (by decide) ?_
      refine s_spec (y := (⟨"com/example/orderly_sieve/orderlysieve/query/RowSet", "<init>", "([JII)V"⟩ : MethodName)) (argsL := [(.ref a706), (.int (192 : Int32)), (.int (((own_pop i0) + (own_pop i1)) + (own_pop i2)))]) (rest := [(.ref a748)]) (b := a748) 130 A S747 (hw _ (List.mem_of_getElem? (i := 12) rfl)) (hw _ (List.mem_of_getElem? (i := 13) rfl)) (hw _ (List.mem_of_getElem? (i := 11) rfl)) (hw _ (List.mem_of_getElem? (i := 14) rfl)) (rm2 l Z a0 hw [] a748 a706 (192 : Int32) (((own_pop i0) + (own_pop i1)) + (own_pop i2)) h746 n0 Z750 X_a748 F_a748_words F_a748_size F_a748_count ge_a748) (lenOf pd___JII_V rfl) at_127 rfl rfl rfl rfl (by decide) (by decide) (Nat.le_of_ble_eq_true rfl) (by decide) (by decide) fun T752 h754 v755 q756 S753 => ?_
      obtain ⟨rfl, K757, E761, F758, F759, F760⟩ := q756
      show own_G _ _ _ _ _ _ _ _ _ (mkF m 130 #[.val (.long i0), .second, .val (.long i1), .second, .val (.long i2), .second, .val (.int i3), .val (.int i4), .val (.int (3 : Int32)), .val (.int (1 : Int32)), .val (.ref a706), .val (.int (((own_pop i0) + (own_pop i1)) + (own_pop i2))), .unset, .unset, .unset, .unset, .unset, .unset] [(.ref a748)])
      have E765 := Exa.keep X_a748 K757
      have V766 := Arv.keep V749 K757 (ninS ne_a706_a748 nin0)
      have Z767 : n0 ≤ h754.size := Nat.le_trans Z750 K757.1
      refine s_astore (Ls' := #[.val (.long i0), .second, .val (.long i1), .second, .val (.long i2), .second, .val (.int i3), .val (.int i4), .val (.int (3 : Int32)), .val (.int (1 : Int32)), .val (.ref a706), .val (.int (((own_pop i0) + (own_pop i1)) + (own_pop i2))), .val (.ref a748), .unset, .unset, .unset, .unset, .unset]) 132 A S753 at_130 (by first | rfl | assumption) rfl rfl ?_
      refine s_aload 134 A S753 at_132 rfl (by first | rfl | assumption) rfl ?_
      refine s_virtV (y := (⟨"com/example/orderly_sieve/orderlysieve/query/RowSet", "count", "()I"⟩ : MethodName)) (z := (⟨"com/example/orderly_sieve/orderlysieve/query/RowSet", "count", "()I"⟩ : MethodName)) (argsL := []) (rest := []) (b := a748) 137 A S753 E765 (hw _ (List.mem_of_getElem? (i := 24) rfl)) (hw _ (List.mem_of_getElem? (i := 25) rfl)) (notFace_of_selects (args := #[]) (mvT A.2.2.2.2.2.2.2 (hw _ (List.mem_of_getElem? (i := 27) rfl)))) (hw _ (List.mem_of_getElem? (i := 27) rfl)) (hw _ (List.mem_of_getElem? (i := 26) rfl)) (hw _ (List.mem_of_getElem? (i := 11) rfl)) (hw _ (List.mem_of_getElem? (i := 28) rfl)) (rmCpos l Z a0 hw [] a748 (((own_pop i0) + (own_pop i1)) + (own_pop i2)) h754 n0 Z767 F760 (own_sum3 (own_pb i0) (own_pb i1) (own_pb i2))) (lenOf pd___I rfl) at_134 rfl rfl rfl (by decide) (by decide) (Nat.le_of_ble_eq_true rfl) (by decide) (by decide) fun T768 S769 => ?_
      refine s_istore (Ls' := #[.val (.long i0), .second, .val (.long i1), .second, .val (.long i2), .second, .val (.int i3), .val (.int i4), .val (.int (3 : Int32)), .val (.int (1 : Int32)), .val (.ref a706), .val (.int (((own_pop i0) + (own_pop i1)) + (own_pop i2))), .val (.ref a748), .val (.int (((own_pop i0) + (own_pop i1)) + (own_pop i2))), .unset, .unset, .unset, .unset]) 139 A S769 at_137 rfl rfl ?_
      refine s_aload 141 A S769 at_139 rfl (by first | rfl | assumption) rfl ?_
      refine s_virtV (y := (⟨"com/example/orderly_sieve/orderlysieve/query/RowSet", "count", "()I"⟩ : MethodName)) (z := (⟨"com/example/orderly_sieve/orderlysieve/query/RowSet", "count", "()I"⟩ : MethodName)) (argsL := []) (rest := []) (b := a748) 144 A S769 E765 (hw _ (List.mem_of_getElem? (i := 24) rfl)) (hw _ (List.mem_of_getElem? (i := 25) rfl)) (notFace_of_selects (args := #[]) (mvT A.2.2.2.2.2.2.2 (hw _ (List.mem_of_getElem? (i := 27) rfl)))) (hw _ (List.mem_of_getElem? (i := 27) rfl)) (hw _ (List.mem_of_getElem? (i := 26) rfl)) (hw _ (List.mem_of_getElem? (i := 11) rfl)) (hw _ (List.mem_of_getElem? (i := 28) rfl)) (rmCpos l Z a0 hw [] a748 (((own_pop i0) + (own_pop i1)) + (own_pop i2)) h754 n0 Z767 F760 (own_sum3 (own_pb i0) (own_pb i1) (own_pb i2))) (lenOf pd___I rfl) at_141 rfl rfl rfl (by decide) (by decide) (Nat.le_of_ble_eq_true rfl) (by decide) (by decide) fun T770 S771 => ?_
      refine s_istore (Ls' := #[.val (.long i0), .second, .val (.long i1), .second, .val (.long i2), .second, .val (.int i3), .val (.int i4), .val (.int (3 : Int32)), .val (.int (1 : Int32)), .val (.ref a706), .val (.int (((own_pop i0) + (own_pop i1)) + (own_pop i2))), .val (.ref a748), .val (.int (((own_pop i0) + (own_pop i1)) + (own_pop i2))), .val (.int (((own_pop i0) + (own_pop i1)) + (own_pop i2))), .unset, .unset, .unset]) 146 A S771 at_144 rfl rfl ?_
      refine s_aload 148 A S771 at_146 rfl (by first | rfl | assumption) rfl ?_
      refine s_virt (y := (⟨"com/example/orderly_sieve/orderlysieve/query/RowSet", "words", "()[J"⟩ : MethodName)) (z := (⟨"com/example/orderly_sieve/orderlysieve/query/RowSet", "words", "()[J"⟩ : MethodName)) (argsL := []) (rest := []) (b := a748) 151 A S771 E765 (hw _ (List.mem_of_getElem? (i := 29) rfl)) (hw _ (List.mem_of_getElem? (i := 30) rfl)) (notFace_of_selects (args := #[]) (mvT A.2.2.2.2.2.2.2 (hw _ (List.mem_of_getElem? (i := 32) rfl)))) (hw _ (List.mem_of_getElem? (i := 32) rfl)) (hw _ (List.mem_of_getElem? (i := 31) rfl)) (hw _ (List.mem_of_getElem? (i := 11) rfl)) (hw _ (List.mem_of_getElem? (i := 33) rfl)) (rm5 l Z a0 hw [] a748 a706 (192 : Int32) (((own_pop i0) + (own_pop i1)) + (own_pop i2)) h754 n0 Z767 E765 F758 F759 F760 ge_a748) (lenOf pd____J rfl) at_148 rfl rfl rfl (by decide) (by decide) (Nat.le_of_ble_eq_true rfl) (by decide) (by decide) fun T772 h774 v775 q776 S773 => ?_
      obtain ⟨rfl, K777, F778, F779, F780⟩ := q776
      show own_G _ _ _ _ _ _ _ _ _ (mkF m 151 #[.val (.long i0), .second, .val (.long i1), .second, .val (.long i2), .second, .val (.int i3), .val (.int i4), .val (.int (3 : Int32)), .val (.int (1 : Int32)), .val (.ref a706), .val (.int (((own_pop i0) + (own_pop i1)) + (own_pop i2))), .val (.ref a748), .val (.int (((own_pop i0) + (own_pop i1)) + (own_pop i2))), .val (.int (((own_pop i0) + (own_pop i1)) + (own_pop i2))), .unset, .unset, .unset] [(.ref a706)])
      have E784 := Exa.keep E765 K777
      have V785 := Arv.keep V766 K777 (ninS ne_a706_a748 nin0)
      have Z786 : n0 ≤ h774.size := Nat.le_trans Z767 K777.1
      refine s_astore (Ls' := #[.val (.long i0), .second, .val (.long i1), .second, .val (.long i2), .second, .val (.int i3), .val (.int i4), .val (.int (3 : Int32)), .val (.int (1 : Int32)), .val (.ref a706), .val (.int (((own_pop i0) + (own_pop i1)) + (own_pop i2))), .val (.ref a748), .val (.int (((own_pop i0) + (own_pop i1)) + (own_pop i2))), .val (.int (((own_pop i0) + (own_pop i1)) + (own_pop i2))), .val (.ref a706), .unset, .unset]) 153 A S773 at_151 (by first | rfl | assumption) rfl rfl ?_
      refine s_aload 155 A S773 at_153 rfl (by first | rfl | assumption) rfl ?_
      refine s_alen 156 A S773 V785 at_155 rfl ?_
      refine s_iload 158 A S773 at_156 rfl rfl ?_
      refine s_ine (xi := 3) (yi := 3) 211 161 A S773 rfl rfl at_158 (by decide) (by decide) rfl (fun c787 tc787 => (by exact absurd tc787 (by decide) : False).elim) (fun c787 tc787 => ?_)
      refine s_iload 163 A S773 at_161 rfl rfl ?_
      refine s_iconst (z := (1 : Int32)) 164 A S773 at_163 rfl rfl ?_
      refine s_ilt (xi := 3) (yi := 1) 176 167 A S773 rfl rfl at_164 (by decide) (by decide) rfl (fun c788 => (by exact absurd c788 (by decide) : False).elim) (fun c788 => ?_)
      refine s_aload 169 A S773 at_167 rfl (by first | rfl | assumption) rfl ?_
      refine s_iconst (z := (0 : Int32)) 170 A S773 at_169 rfl rfl ?_
      refine s_lald (v := (.long i0)) 171 A S773 V785 ⟨by decide, by decide⟩ rfl at_170 rfl ?_
      refine s_lloadN 172 A S773 at_171 rfl rfl ?_
      refine s_lifne 211 176 173 A S773 rfl rfl at_172 rfl at_173 (by decide) (by decide) rfl (fun c789 tc789 => (by exact c789 rfl : False).elim) (fun c789 tc789 => ?_)
      refine s_iload 178 A S773 at_176 rfl rfl ?_
      refine s_iconst (z := (2 : Int32)) 179 A S773 at_178 rfl rfl ?_
      refine s_ilt (xi := 3) (yi := 2) 191 182 A S773 rfl rfl at_179 (by decide) (by decide) rfl (fun c790 => (by exact absurd c790 (by decide) : False).elim) (fun c790 => ?_)
      refine s_aload 184 A S773 at_182 rfl (by first | rfl | assumption) rfl ?_
      refine s_iconst (z := (1 : Int32)) 185 A S773 at_184 rfl rfl ?_
      refine s_lald (v := (.long i1)) 186 A S773 V785 ⟨by decide, by decide⟩ rfl at_185 rfl ?_
      refine s_lloadN 187 A S773 at_186 rfl rfl ?_
      refine s_lifne 211 191 188 A S773 rfl rfl at_187 rfl at_188 (by decide) (by decide) rfl (fun c791 tc791 => (by exact c791 rfl : False).elim) (fun c791 tc791 => ?_)
      refine s_iload 193 A S773 at_191 rfl rfl ?_
      refine s_iconst (z := (3 : Int32)) 194 A S773 at_193 rfl rfl ?_
      refine s_ilt (xi := 3) (yi := 3) 207 197 A S773 rfl rfl at_194 (by decide) (by decide) rfl (fun c792 => (by exact absurd c792 (by decide) : False).elim) (fun c792 => ?_)
      refine s_aload 199 A S773 at_197 rfl (by first | rfl | assumption) rfl ?_
      refine s_iconst (z := (2 : Int32)) 200 A S773 at_199 rfl rfl ?_
      refine s_lald (v := (.long i2)) 201 A S773 V785 ⟨by decide, by decide⟩ rfl at_200 rfl ?_
      refine s_lload 203 A S773 at_201 rfl rfl ?_
      refine s_lifne 211 207 204 A S773 rfl rfl at_203 rfl at_204 (by decide) (by decide) rfl (fun c793 tc793 => (by exact c793 rfl : False).elim) (fun c793 tc793 => ?_)
      refine s_iconst (z := (1 : Int32)) 208 A S773 at_207 rfl rfl ?_
      refine s_goto 212 A S773 at_208 (by decide) (by decide) ?_
      refine s_istore (Ls' := #[.val (.long i0), .second, .val (.long i1), .second, .val (.long i2), .second, .val (.int i3), .val (.int i4), .val (.int (3 : Int32)), .val (.int (1 : Int32)), .val (.ref a706), .val (.int (((own_pop i0) + (own_pop i1)) + (own_pop i2))), .val (.ref a748), .val (.int (((own_pop i0) + (own_pop i1)) + (own_pop i2))), .val (.int (((own_pop i0) + (own_pop i1)) + (own_pop i2))), .val (.ref a706), .val (.int (1 : Int32)), .unset]) 214 A S773 at_212 rfl rfl ?_
      refine s_aload 216 A S773 at_214 rfl (by first | rfl | assumption) rfl ?_
      refine s_virt (y := (⟨"com/example/orderly_sieve/orderlysieve/query/RowSet", "count", "()I"⟩ : MethodName)) (z := (⟨"com/example/orderly_sieve/orderlysieve/query/RowSet", "count", "()I"⟩ : MethodName)) (argsL := []) (rest := []) (b := a748) 219 A S773 E784 (hw _ (List.mem_of_getElem? (i := 24) rfl)) (hw _ (List.mem_of_getElem? (i := 25) rfl)) (notFace_of_selects (args := #[]) (mvT A.2.2.2.2.2.2.2 (hw _ (List.mem_of_getElem? (i := 27) rfl)))) (hw _ (List.mem_of_getElem? (i := 27) rfl)) (hw _ (List.mem_of_getElem? (i := 26) rfl)) (hw _ (List.mem_of_getElem? (i := 11) rfl)) (hw _ (List.mem_of_getElem? (i := 28) rfl)) (rmC3 l Z a0 hw [] a748 a706 k705 (192 : Int32) (-1 : Int32) i0 i1 i2 h774 n0 Z786 E784 F778 F779 F780 V785 ge_a748 ne_a706_a748 (by decide)) (lenOf pd___I rfl) at_216 rfl rfl rfl (by decide) (by decide) (Nat.le_of_ble_eq_true rfl) (by decide) (by decide) fun T794 h796 v797 q798 S795 => ?_
      obtain ⟨rfl, K799, F800, F801, F802⟩ := q798
      show own_G _ _ _ _ _ _ _ _ _ (mkF m 219 #[.val (.long i0), .second, .val (.long i1), .second, .val (.long i2), .second, .val (.int i3), .val (.int i4), .val (.int (3 : Int32)), .val (.int (1 : Int32)), .val (.ref a706), .val (.int (((own_pop i0) + (own_pop i1)) + (own_pop i2))), .val (.ref a748), .val (.int (((own_pop i0) + (own_pop i1)) + (own_pop i2))), .val (.int (((own_pop i0) + (own_pop i1)) + (own_pop i2))), .val (.ref a706), .val (.int (1 : Int32)), .unset] [(.int ((((0 : Int32) + (own_bc i0)) + (own_bc i1)) + (own_bc i2)))])
      have E806 := Exa.keep E784 K799
      have V807 := Arv.keep V785 K799 (ninS ne_a706_a748 nin0)
      have Z808 : n0 ≤ h796.size := Nat.le_trans Z786 K799.1
      refine s_istore (Ls' := #[.val (.long i0), .second, .val (.long i1), .second, .val (.long i2), .second, .val (.int i3), .val (.int i4), .val (.int (3 : Int32)), .val (.int (1 : Int32)), .val (.ref a706), .val (.int (((own_pop i0) + (own_pop i1)) + (own_pop i2))), .val (.ref a748), .val (.int (((own_pop i0) + (own_pop i1)) + (own_pop i2))), .val (.int (((own_pop i0) + (own_pop i1)) + (own_pop i2))), .val (.ref a706), .val (.int (1 : Int32)), .val (.int ((((0 : Int32) + (own_bc i0)) + (own_bc i1)) + (own_bc i2)))]) 221 A S795 at_219 rfl rfl ?_
      refine s_iload 223 A S795 at_221 rfl rfl ?_
      refine s_iload 225 A S795 at_223 rfl rfl ?_
      refine s_ine 251 228 A S795 rfl rfl at_225 (by decide) (by decide) rfl (fun c809 tc809 => (by exact c809 (by simp only [own_pe, Int32.zero_add, Int32.add_zero]) : False).elim) (fun c809 tc809 => ?_)
      refine s_iload 230 A S795 at_228 rfl rfl ?_
      refine s_iload 232 A S795 at_230 rfl rfl ?_
      refine s_ine 251 235 A S795 rfl rfl at_232 (by decide) (by decide) rfl (fun c810 tc810 => (by exact c810 (by simp only [own_pe, Int32.zero_add, Int32.add_zero]) : False).elim) (fun c810 tc810 => ?_)
      refine s_iload 237 A S795 at_235 rfl rfl ?_
      refine s_iload 239 A S795 at_237 rfl rfl ?_
      refine s_ine 251 242 A S795 rfl rfl at_239 (by decide) (by decide) rfl (fun c811 tc811 => (by exact c811 (by simp only [own_pe, Int32.zero_add, Int32.add_zero]) : False).elim) (fun c811 tc811 => ?_)
      refine s_iload 244 A S795 at_242 rfl rfl ?_
      refine s_ifeq (xi := 1) 251 247 A S795 rfl at_244 (by decide) (by decide) rfl (fun c812 tc812 => (by exact absurd tc812 (by decide) : False).elim) (fun c812 tc812 => ?_)
      refine s_iconst (z := (1 : Int32)) 248 A S795 at_247 rfl rfl ?_
      refine s_goto 252 A S795 at_248 (by decide) (by decide) ?_
      exact s_retZ A S795 at_252 rfl (by decide) (by decide) rfl
set_option maxRecDepth 65536 in
set_option maxHeartbeats 40000000 in
theorem comes_1 {Post : Tables → Env → Array Value → State → Outcome → State → Prop} (hpost : ∀ tb e args s v u, (limb_1_1.after args s (.returned v) u = true ∧ limb_1_2.after args s (.returned v) u = true ∧ True) → FrameEnd s (.returned v) u (Jvm.fieldLocs frame_1_writes args s ++ Jvm.arrayLocs frame_1_arrays args s ++ Jvm.staticLocs frame_1_statics s) 16 128 → Post tb e args s (.returned v) u) :
    ArmFor flags0 classFile x code maxLocals ret World_1 tables_1 room_1 Calls_1 rest_1 Pre_1 Post := by
  intro l hfl _ _ p e ha hc hk s m args below hf hA hF happ hP
  obtain ⟨hcalls, hrest, hpre⟩ := hP
  obtain ⟨-, -, -, hnamed, -, -, -, hat⟩ := (Spec.applies_iff hf).mp happ
  obtain ⟨hg, hn⟩ := and_e (Cond.before_iff.mp (show (Jvm.Cond.and given_1 narrow_1).before args s = true from hpre))
  obtain ⟨g0, k0⟩ := and_e hg
  obtain ⟨j0, k1⟩ := and_e k0
  obtain ⟨j1, k2⟩ := and_e k1
  obtain ⟨j2, k3⟩ := and_e k2
  obtain ⟨j3, k4⟩ := and_e k3
  obtain ⟨w0, w1, w2, w3, w4, rfl⟩ : ∃ w0 w1 w2 w3 w4 : Value, args = #[w0, w1, w2, w3, w4] := by
    have hs : args.size = 5 := by simpa [Cond.value, given_1] using g0
    obtain ⟨L⟩ := args
    match L, hs with
    | [w0, w1, w2, w3, w4], _ => exact ⟨w0, w1, w2, w3, w4, rfl⟩
  have hw := fun d (hd : d ∈ tables_1) => atoms_spec (ws := Jvm.Cond.code x code maxLocals ret :: tables_1) hat d (List.mem_cons_of_mem _ hd)
  have hfit : Fit s := fun {y c} hc i hi => by
    obtain ⟨ha, rfl⟩ := Array.getElem?_eq_some_iff.mp hc
    have q := List.all_eq_true.mp ((Array.all_eq_true_iff_forall_mem.mp hF) _ (Array.getElem_mem ha)) i (List.mem_range.mpr hi)
    simpa [Array.getElem?_eq_getElem hi] using q
  obtain ⟨i0, ei0⟩ := isL_v j0
  obtain rfl : w0 = (.long i0) := Option.some.inj ei0
  obtain ⟨i1, ei1⟩ := isL_v j1
  obtain rfl : w1 = (.long i1) := Option.some.inj ei1
  obtain ⟨i2, ei2⟩ := isL_v j2
  obtain rfl : w2 = (.long i2) := Option.some.inj ei2
  obtain ⟨i3, ei3⟩ := is_v j3
  obtain rfl : w3 = (.int i3) := Option.some.inj ei3
  obtain ⟨i4, ei4⟩ := is_v k4
  obtain rfl : w4 = (.int i4) := Option.some.inj ei4
  obtain ⟨n, o, h1, h2, h3, _, L, rfl, ⟨rfl, N⟩, hq⟩ := rm0 l s _ hw tables_1 i0 i1 i2 i3 i4 s.heap s.heap.size (Nat.le_refl _)  p e ha hc hk s m _ below hf ((Spec.applies_iff_loose hf).mp happ).1 ⟨rfl, State.Warmed39.refl s, rfl⟩ trivial
  refine ⟨n, _, h1, h2, h3, hpost _ _ _ _ _ _ ⟨Cond.after_iff.mpr rfl, Cond.after_iff.mpr (eq_i res_at (Term.int_eval (1)) rfl), trivial⟩ ⟨hq.1, hq.2.1, (hq.2.2.sift fun y hy => Or.inr (N y hy)).mono (by decide) (by decide)⟩⟩
theorem main_1_1 : Claimed_1_1 := comes_1 fun _ _ _ _ _ _ h hF => ⟨h.1, hF⟩
theorem main_1_2 : Claimed_1_2 := comes_1 fun _ _ _ _ _ _ h hF => ⟨h.2.1, hF⟩
end Jvm.Pilot.@@N@@
namespace Jvm.Pilot.@@N@@
open Jvm Jvm.ClassFile Sem Op Lib Jvm.Free Jvm.Stand Jvm.Pilot.@@N@@.Jvm.D
/-! MADE BY PROGRAM (witnessworld.py) out of the Statement's table words and the real class files: 16 classes; the members and pool entries that the words name. The judged class is class 1, her method 2. -/
namespace start1
open Jvm.ClassFile
def u (s : String) : CpInfo := .utf8 (stringToUtf16 s)
/-- a pool by its gaps: so many unusable entries, then the entry; so many at the end -/
def gap : Nat → List CpInfo → List CpInfo
  | 0, r => r
  | n + 1, r => .unusable :: gap n r
def poolList (es : List (Nat × CpInfo)) (last : Nat) : List CpInfo := es.foldr (fun e r => gap e.1 (e.2 :: r)) (gap last [])
def pool (es : List (Nat × CpInfo)) (last : Nat) : Array CpInfo := ⟨poolList es last⟩
def fileOf (pool : Array CpInfo) (this : Nat) (attrs : Array Attribute := #[]) (ms : Array MethodInfo := #[]) (fl : Nat := 33) (sup : Nat := 0) (ifs : Array Nat := #[]) (fds : Array FieldInfo := #[]) : ClassFile where
  minorVersion := 0
  majorVersion := 65
  constantPool := pool
  accessFlags := fl
  thisClass := this
  superClass := sup
  interfaces := ifs
  fields := fds
  methods := ms
  attributes := attrs
def plain (name : String) (sup : Option ClassId) : Class where
  name := name
  kind := .ordinary
  loader := none
  accessFlags := 33
  super := sup
  interfaces := #[]
  cf := none
  fields := #[]
  methods := #[]
  instanceTypes := #[]
  staticTypes := #[]
  resolved := #[]
  callSites := []
  init := .initialized
  statics := none
  mirror := none

def pool0 : Array CpInfo := pool [(5, u "<init>"), (0, u "()V"), (1, .class_ 10), (1, u "java/lang/Object")] 113

def k0c0 : Code := { maxStack := 0, maxLocals := 1, code := object_method_1_code, exceptionTable := #[], attributes := #[] }
def k0m0 : Method := { name := "<init>", desc := "()V", sig := { parameters := [], returnType := none }, accessFlags := 1, code := some k0c0 }
/-- java/lang/Object -/
def k0 : Class := { plain "java/lang/Object" none with
  accessFlags := 33
  interfaces := #[]
  cf := some (fileOf pool0 8 #[] #[{ accessFlags := 1, nameIndex := 5, descriptorIndex := 6, attributes := #[] }] 33 0 #[] #[])
  fields := #[]
  methods := #[k0m0]
  instanceTypes := #[]
  staticTypes := #[]
  resolved := Array.replicate 124 none
  statics := none }

def pool1 : Array CpInfo := pool [(2, .class_ 4), (1, u "java/lang/Object"), (0, u "<init>"), (0, u "()V"), (0, .long 6148914691236517205), (1, .long 3689348814741910323), (1, .long 1085102592571150095), (1, .long 72340172838076673), (1, .methodref 16 17), (0, .class_ 18), (0, .nameAndType 19 20), (0, u "com/example/orderly_sieve/orderlysieve/query/RowSetCountPinLaw"), (0, u "pop"), (0, u "(J)I"), (0, .class_ 22), (0, u "com/example/orderly_sieve/orderlysieve/query/RowSet"), (0, .methodref 21 24), (0, .nameAndType 5 25), (0, u "([JII)V"), (0, .methodref 21 27), (0, .nameAndType 28 29), (0, u "count"), (0, u "()I"), (0, .methodref 21 31), (0, .nameAndType 32 33), (0, u "words"), (0, u "()[J"), (2, u "law"), (0, u "(JJJII)Z")] 5

def k1m0 : Method := { name := "<init>", desc := "()V", sig := { parameters := [], returnType := none }, accessFlags := 1, code := none }
def k1c1 : Code := { maxStack := 6, maxLocals := 2, code := method_2_code, exceptionTable := #[], attributes := #[] }
def k1m1 : Method := { name := "pop", desc := "(J)I", sig := { parameters := [.long], returnType := some .int }, accessFlags := 10, code := some k1c1 }
def k1c2 : Code := { maxStack := 5, maxLocals := 18, code := code, exceptionTable := #[], attributes := #[] }
def k1m2 : Method := { name := "law", desc := "(JJJII)Z", sig := { parameters := [.long, .long, .long, .int, .int], returnType := some .boolean }, accessFlags := 9, code := some k1c2 }
/-- com/example/orderly_sieve/orderlysieve/query/RowSetCountPinLaw -/
def k1 : Class := { plain "com/example/orderly_sieve/orderlysieve/query/RowSetCountPinLaw" (some 0) with
  accessFlags := 49
  interfaces := #[]
  cf := some (fileOf pool1 16 #[] #[{ accessFlags := 1, nameIndex := 5, descriptorIndex := 6, attributes := #[] }, { accessFlags := 10, nameIndex := 19, descriptorIndex := 20, attributes := #[] }, { accessFlags := 9, nameIndex := 36, descriptorIndex := 37, attributes := #[] }] 49 2 #[] #[])
  fields := #[]
  methods := #[k1m0, k1m1, k1m2]
  instanceTypes := #[]
  staticTypes := #[]
  resolved := Array.replicate 43 none
  statics := none }

def pool2 : Array CpInfo := pool [(1, .methodref 2 3), (0, .class_ 4), (0, .nameAndType 5 6), (0, u "java/lang/Object"), (0, u "<init>"), (0, u "()V"), (0, .fieldref 8 9), (0, .class_ 10), (0, .nameAndType 11 12), (0, u "com/example/orderly_sieve/orderlysieve/query/RowSet"), (0, u "words"), (0, u "[J"), (0, .fieldref 8 14), (0, .nameAndType 15 16), (0, u "size"), (0, u "I"), (0, .fieldref 8 18), (0, .nameAndType 19 16), (0, u "count"), (5, u "([JII)V"), (11, .class_ 38), (0, u "java/lang/Long"), (5, u "(J)I"), (0, .methodref 37 46), (0, .nameAndType 47 44), (0, u "bitCount"), (8, u "()I"), (38, u "()[J")] 13

def k2c0 : Code := { maxStack := 2, maxLocals := 4, code := prog_20_method_1_code, exceptionTable := #[], attributes := #[] }
def k2m0 : Method := { name := "<init>", desc := "([JII)V", sig := { parameters := [(.array .long), .int, .int], returnType := none }, accessFlags := 0, code := some k2c0 }
def k2c1 : Code := { maxStack := 2, maxLocals := 1, code := prog_20_method_6_code, exceptionTable := #[], attributes := #[] }
def k2m1 : Method := { name := "words", desc := "()[J", sig := { parameters := [], returnType := some (.array .long) }, accessFlags := 0, code := some k2c1 }
def k2c2 : Code := { maxStack := 4, maxLocals := 6, code := prog_20_method_8_code, exceptionTable := #[], attributes := #[] }
def k2m2 : Method := { name := "count", desc := "()I", sig := { parameters := [], returnType := some .int }, accessFlags := 0, code := some k2c2 }
/-- com/example/orderly_sieve/orderlysieve/query/RowSet -/
def k2 : Class := { plain "com/example/orderly_sieve/orderlysieve/query/RowSet" (some 0) with
  accessFlags := 32
  interfaces := #[]
  cf := some (fileOf pool2 8 #[] #[{ accessFlags := 0, nameIndex := 5, descriptorIndex := 25, attributes := #[] }, { accessFlags := 0, nameIndex := 11, descriptorIndex := 95, attributes := #[] }, { accessFlags := 0, nameIndex := 19, descriptorIndex := 56, attributes := #[] }] 32 2 #[] #[{ accessFlags := 18, nameIndex := 11, descriptorIndex := 12, attributes := #[] }, { accessFlags := 18, nameIndex := 15, descriptorIndex := 16, attributes := #[] }, { accessFlags := 2, nameIndex := 19, descriptorIndex := 16, attributes := #[] }])
  fields := #[{ name := "words", type := (.array .long), accessFlags := 18, slot := 0, constantValue := 0 }, { name := "size", type := .int, accessFlags := 18, slot := 1, constantValue := 0 }, { name := "count", type := .int, accessFlags := 2, slot := 2, constantValue := 0 }]
  methods := #[k2m0, k2m1, k2m2]
  instanceTypes := #[(.array .long), .int, .int]
  staticTypes := #[]
  resolved := Array.replicate 109 none
  statics := none }

def pool3 : Array CpInfo := pool [(1, .class_ 2), (0, u "java/io/Serializable"), (0, .class_ 4), (0, u "java/lang/Object")] 2

/-- java/io/Serializable -/
def k3 : Class := { plain "java/io/Serializable" (some 0) with
  accessFlags := 1537
  interfaces := #[]
  cf := some (fileOf pool3 1 #[] #[] 1537 3 #[] #[])
  fields := #[]
  methods := #[]
  instanceTypes := #[]
  staticTypes := #[]
  resolved := Array.replicate 7 none
  statics := none }

def pool4 : Array CpInfo := pool [(2, .class_ 4), (1, u "java/lang/Object"), (0, u "<init>"), (0, u "()V"), (1, .class_ 10), (1, u "java/lang/Number"), (2, .class_ 14), (0, u "java/io/Serializable"), (0, u "serialVersionUID"), (0, u "J")] 20

def k4m0 : Method := { name := "<init>", desc := "()V", sig := { parameters := [], returnType := none }, accessFlags := 1, code := none }
/-- java/lang/Number -/
def k4 : Class := { plain "java/lang/Number" (some 0) with
  accessFlags := 1057
  interfaces := #[3]
  cf := some (fileOf pool4 8 #[] #[{ accessFlags := 1, nameIndex := 5, descriptorIndex := 6, attributes := #[] }] 1057 2 #[13] #[{ accessFlags := 26, nameIndex := 15, descriptorIndex := 16, attributes := #[] }])
  fields := #[{ name := "serialVersionUID", type := .long, accessFlags := 26, slot := 0, constantValue := 0 }]
  methods := #[k4m0]
  instanceTypes := #[]
  staticTypes := #[.long]
  resolved := Array.replicate 37 none
  statics := none }

def pool5 : Array CpInfo := pool [(1, .class_ 2), (0, u "java/lang/Comparable"), (0, .class_ 4), (0, u "java/lang/Object")] 7

/-- java/lang/Comparable -/
def k5 : Class := { plain "java/lang/Comparable" (some 0) with
  accessFlags := 1537
  interfaces := #[]
  cf := some (fileOf pool5 1 #[] #[] 1537 3 #[] #[])
  fields := #[]
  methods := #[]
  instanceTypes := #[]
  staticTypes := #[]
  resolved := Array.replicate 12 none
  statics := none }

def pool6 : Array CpInfo := pool [(1, .class_ 2), (0, u "java/lang/constant/Constable"), (0, .class_ 4), (0, u "java/lang/Object")] 6

/-- java/lang/constant/Constable -/
def k6 : Class := { plain "java/lang/constant/Constable" (some 0) with
  accessFlags := 1537
  interfaces := #[]
  cf := some (fileOf pool6 1 #[] #[] 1537 3 #[] #[])
  fields := #[]
  methods := #[]
  instanceTypes := #[]
  staticTypes := #[]
  resolved := Array.replicate 11 none
  statics := none }

def pool7 : Array CpInfo := pool [(1, .class_ 2), (0, u "java/lang/constant/ConstantDesc"), (0, .class_ 4), (0, u "java/lang/Object")] 32

/-- java/lang/constant/ConstantDesc -/
def k7 : Class := { plain "java/lang/constant/ConstantDesc" (some 0) with
  accessFlags := 1537
  interfaces := #[]
  cf := some (fileOf pool7 1 #[] #[] 1537 3 #[] #[])
  fields := #[]
  methods := #[]
  instanceTypes := #[]
  staticTypes := #[]
  resolved := Array.replicate 37 none
  statics := none }

def pool8 : Array CpInfo := pool [(1, .class_ 2), (0, u "java/lang/Long"), (98, u "(J)I"), (133, .class_ 237), (1, u "java/lang/Long$LongCache"), (33, .class_ 272), (0, u "java/lang/Number"), (2, u "value"), (0, u "J"), (37, .long 6148914691236517205), (1, .long 3689348814741910323), (1, .long 1085102592571150095), (42, u "TYPE"), (0, u "Ljava/lang/Class;"), (0, .class_ 364), (0, u "java/lang/Comparable"), (0, .class_ 366), (0, u "java/lang/constant/Constable"), (0, .class_ 368), (0, u "java/lang/constant/ConstantDesc"), (0, u "MIN_VALUE"), (1, u "MAX_VALUE"), (4, u "SIZE"), (0, u "I"), (1, u "BYTES"), (1, u "serialVersionUID"), (94, u "bitCount")] 47

def k8c0 : Code := { maxStack := 6, maxLocals := 2, code := jdk_35_method_50_code, exceptionTable := #[], attributes := #[] }
def k8m0 : Method := { name := "bitCount", desc := "(J)I", sig := { parameters := [.long], returnType := some .int }, accessFlags := 9, code := some k8c0 }
/-- java/lang/Long -/
def k8 : Class := { plain "java/lang/Long" (some 4) with
  accessFlags := 49
  interfaces := #[5, 6, 7]
  cf := some (fileOf pool8 1 #[.nestMembers #[235]] #[{ accessFlags := 9, nameIndex := 476, descriptorIndex := 101, attributes := #[] }] 49 271 #[363, 365, 367] #[{ accessFlags := 25, nameIndex := 369, descriptorIndex := 276, attributes := #[] }, { accessFlags := 25, nameIndex := 371, descriptorIndex := 276, attributes := #[] }, { accessFlags := 25, nameIndex := 361, descriptorIndex := 362, attributes := #[] }, { accessFlags := 18, nameIndex := 275, descriptorIndex := 276, attributes := #[] }, { accessFlags := 25, nameIndex := 376, descriptorIndex := 377, attributes := #[] }, { accessFlags := 25, nameIndex := 379, descriptorIndex := 377, attributes := #[] }, { accessFlags := 26, nameIndex := 381, descriptorIndex := 276, attributes := #[] }])
  fields := #[{ name := "MIN_VALUE", type := .long, accessFlags := 25, slot := 0, constantValue := 0 }, { name := "MAX_VALUE", type := .long, accessFlags := 25, slot := 1, constantValue := 0 }, { name := "TYPE", type := (.object "java/lang/Class"), accessFlags := 25, slot := 2, constantValue := 0 }, { name := "value", type := .long, accessFlags := 18, slot := 0, constantValue := 0 }, { name := "SIZE", type := .int, accessFlags := 25, slot := 3, constantValue := 0 }, { name := "BYTES", type := .int, accessFlags := 25, slot := 4, constantValue := 0 }, { name := "serialVersionUID", type := .long, accessFlags := 26, slot := 5, constantValue := 0 }]
  methods := #[k8m0]
  instanceTypes := #[.long]
  staticTypes := #[.long, .long, (.object "java/lang/Class"), .int, .int, .long]
  resolved := Array.replicate 524 none
  statics := none }

def pool9 : Array CpInfo := pool [(1, u "java/lang/Cloneable"), (0, .class_ 1), (0, u "java/lang/Object"), (0, .class_ 3)] 3

/-- java/lang/Cloneable -/
def k9 : Class := { plain "java/lang/Cloneable" (some 0) with
  accessFlags := 1537
  interfaces := #[]
  cf := some (fileOf pool9 2 #[] #[] 1537 4 #[] #[])
  fields := #[]
  methods := #[]
  instanceTypes := #[]
  staticTypes := #[]
  resolved := Array.replicate 8 none
  statics := none }

/-- the primitive byte -/
def k10 : Class := { plain "byte" none with kind := .primitive 'B', accessFlags := 0x411 }
/-- [B -/
def k11 : Class := { plain "[B" (some 0) with kind := .array 10 .byte, interfaces := #[9, 3], accessFlags := 1041 }

/-- the primitive int -/
def k12 : Class := { plain "int" none with kind := .primitive 'I', accessFlags := 0x411 }
/-- [I -/
def k13 : Class := { plain "[I" (some 0) with kind := .array 12 .int, interfaces := #[9, 3], accessFlags := 1041 }

/-- the primitive long -/
def k14 : Class := { plain "long" none with kind := .primitive 'J', accessFlags := 0x411 }
/-- [J -/
def k15 : Class := { plain "[J" (some 0) with kind := .array 14 .long, interfaces := #[9, 3], accessFlags := 1041 }

def heap : Heap := #[]
def classes : Array Class := #[k0, k1, k2, k3, k4, k5, k6, k7, k8, k9, k10, k11, k12, k13, k14, k15]
def interned : List (Array UInt16 × Addr) := []
def slotsUsed : Nat := 0
def theMethod : MethodId := ⟨1, 2⟩
def args0 : Array Value := #[.long 5, .long 7, .long 6, .int 2, .int 1]
def aboutOver (below : List Frame) : State where
  vm := { classes := classes, interned := interned.toArray }
  heap := heap
  slotsUsed := slotsUsed
  threads := #[{ frames := .invoking theMethod args0 :: below }]
def below0 : List Frame := [.native { method := ⟨0, 0⟩, args := #[] }]
def about1 : State := aboutOver below0
def p0 : Program := .bare "" "" ""
def e0 : Env := launch0.env 0 0 0
theorem w_frames : about1.frames = Frame.invoking theMethod args0 :: below0 := rfl
set_option maxRecDepth 65536 in
theorem w_args : argsFit about1.vm theMethod args0 = true := by decide +kernel
set_option maxRecDepth 65536 in
theorem w_heap : heapFits about1 = true := by decide +kernel
set_option maxRecDepth 65536 in
theorem w_runnable : about1.curStatus? = some .runnable := by decide +kernel
set_option maxRecDepth 65536 in
theorem w_alone : about1.alone = true := by decide +kernel
set_option maxRecDepth 65536 in
theorem w_named : about1.methodNamed? x = some theMethod := by decide +kernel
set_option maxRecDepth 65536 in
theorem w_hears : about1.hears theMethod below0 = true := by decide +kernel
set_option maxRecDepth 65536 in
theorem w_ripe : about1.ripe theMethod args0 below0 = true := by decide +kernel
theorem w_running : about1.status = .running := rfl
set_option maxRecDepth 65536 in
theorem w_room : about1.hasRoom e0.platform room_1 = true :=
  launch0.hasRoom_least _ room_1 (by decide +kernel) (by decide +kernel) (by decide +kernel) (by decide +kernel) (by decide +kernel) (by decide +kernel)
theorem allAtoms_all (ts : List Jvm.Cond) (a : Array Jvm.Value) (st : Jvm.State) : (allAtoms ts).before a st = ts.all (fun c => c.before a st) := by
  induction ts with
  | nil => rfl
  | cons c t ih =>
    show (Jvm.Cond.and c (allAtoms t)).before a st = _
    rw [Jvm.Cond.before_and, ih, List.all_cons]
def words1 : List Jvm.Cond := Jvm.Cond.code x code maxLocals ret :: tables_1
/-- a 'code' word, met by the world's own term for the bytes: nothing is compared byte by byte -/
theorem code_word {y : MethodName} {bytes : ByteArray} {mx : Nat} {rt : Option FieldType} {a : Array Value} {s : State} {m : MethodId} {meth : Method} {c : Code} (h1 : s.methodNamed? y = some m) (h2 : s.vm.method? m = some meth) (h3 : meth.code = some c) (h4 : c.code = bytes)
    (h5 : (c.maxLocals == mx && c.exceptionTable.isEmpty && decide (c.maxStack ≤ mostOperands) && decide (meth.sig.returnType = rt) && !meth.locks && decide (parseMethodDescriptor y.desc = some meth.sig)) = true) : (Jvm.Cond.code y bytes mx rt).before a s = true := by
  simp only [Bool.and_eq_true, beq_iff_eq, Bool.not_eq_true', decide_eq_true_eq] at h5
  obtain ⟨⟨⟨⟨⟨g1, g2⟩, g3⟩, g4⟩, g5⟩, g6⟩ := h5
  simp [Cond.before, Cond.holds, Cond.value, h1, h2, h3, h4, g1, g2, g3, g4, g5, g6]
def isCode : Jvm.Cond → Bool
  | .code _ _ _ _ => true
  | _ => false
theorem all_split {L : List Jvm.Cond} {P : Jvm.Cond → Bool} (h1 : L.all (fun c => isCode c || P c) = true) (h2 : ∀ c ∈ L.filter isCode, P c = true) : L.all P = true := by
  refine List.all_eq_true.mpr fun c hc => ?_
  have h := List.all_eq_true.mp h1 c hc
  rcases Bool.eq_false_or_eq_true (isCode c) with hi | hi
  · exact h2 c (List.mem_filter.mpr ⟨hc, hi⟩)
  · simpa [hi] using h
set_option maxRecDepth 65536 in
theorem w_c0 : (Jvm.Cond.code x code maxLocals ret).before args0 about1 = true := code_word (m := ⟨1, 2⟩) (meth := k1m2) (c := k1c2) (by decide +kernel) rfl rfl rfl (by decide +kernel)
set_option maxRecDepth 65536 in
theorem w_c1 : (Jvm.Cond.code ({ cls := "com/example/orderly_sieve/orderlysieve/query/RowSetCountPinLaw", name := "pop", desc := "(J)I" } : Jvm.MethodName) method_2_code (2 : Nat) (Option.some Jvm.ClassFile.FieldType.int)).before args0 about1 = true := code_word (m := ⟨1, 1⟩) (meth := k1m1) (c := k1c1) (by decide +kernel) rfl rfl rfl (by decide +kernel)
set_option maxRecDepth 65536 in
theorem w_c2 : (Jvm.Cond.code ({ cls := "com/example/orderly_sieve/orderlysieve/query/RowSet", name := "<init>", desc := "([JII)V" } : Jvm.MethodName) prog_20_method_1_code (4 : Nat) (Option.none : Option Jvm.ClassFile.FieldType)).before args0 about1 = true := code_word (m := ⟨2, 0⟩) (meth := k2m0) (c := k2c0) (by decide +kernel) rfl rfl rfl (by decide +kernel)
set_option maxRecDepth 65536 in
theorem w_c3 : (Jvm.Cond.code ({ cls := "java/lang/Object", name := "<init>", desc := "()V" } : Jvm.MethodName) object_method_1_code (1 : Nat) (Option.none : Option Jvm.ClassFile.FieldType)).before args0 about1 = true := code_word (m := ⟨0, 0⟩) (meth := k0m0) (c := k0c0) (by decide +kernel) rfl rfl rfl (by decide +kernel)
set_option maxRecDepth 65536 in
theorem w_c4 : (Jvm.Cond.code ({ cls := "com/example/orderly_sieve/orderlysieve/query/RowSet", name := "count", desc := "()I" } : Jvm.MethodName) prog_20_method_8_code (6 : Nat) (Option.some Jvm.ClassFile.FieldType.int)).before args0 about1 = true := code_word (m := ⟨2, 2⟩) (meth := k2m2) (c := k2c2) (by decide +kernel) rfl rfl rfl (by decide +kernel)
set_option maxRecDepth 65536 in
theorem w_c5 : (Jvm.Cond.code ({ cls := "com/example/orderly_sieve/orderlysieve/query/RowSet", name := "words", desc := "()[J" } : Jvm.MethodName) prog_20_method_6_code (1 : Nat) (Option.some (Jvm.ClassFile.FieldType.array Jvm.ClassFile.FieldType.long))).before args0 about1 = true := code_word (m := ⟨2, 1⟩) (meth := k2m1) (c := k2c1) (by decide +kernel) rfl rfl rfl (by decide +kernel)
set_option maxRecDepth 65536 in
theorem w_c6 : (Jvm.Cond.code ({ cls := "java/lang/Long", name := "bitCount", desc := "(J)I" } : Jvm.MethodName) jdk_35_method_50_code (2 : Nat) (Option.some Jvm.ClassFile.FieldType.int)).before args0 about1 = true := code_word (m := ⟨8, 0⟩) (meth := k8m0) (c := k8c0) (by decide +kernel) rfl rfl rfl (by decide +kernel)
def codes1 : List Jvm.Cond := [Jvm.Cond.code x code maxLocals ret, Jvm.Cond.code ({ cls := "com/example/orderly_sieve/orderlysieve/query/RowSetCountPinLaw", name := "pop", desc := "(J)I" } : Jvm.MethodName) method_2_code (2 : Nat) (Option.some Jvm.ClassFile.FieldType.int), Jvm.Cond.code ({ cls := "com/example/orderly_sieve/orderlysieve/query/RowSet", name := "<init>", desc := "([JII)V" } : Jvm.MethodName) prog_20_method_1_code (4 : Nat) (Option.none : Option Jvm.ClassFile.FieldType), Jvm.Cond.code ({ cls := "java/lang/Object", name := "<init>", desc := "()V" } : Jvm.MethodName) object_method_1_code (1 : Nat) (Option.none : Option Jvm.ClassFile.FieldType), Jvm.Cond.code ({ cls := "com/example/orderly_sieve/orderlysieve/query/RowSet", name := "count", desc := "()I" } : Jvm.MethodName) prog_20_method_8_code (6 : Nat) (Option.some Jvm.ClassFile.FieldType.int), Jvm.Cond.code ({ cls := "com/example/orderly_sieve/orderlysieve/query/RowSet", name := "words", desc := "()[J" } : Jvm.MethodName) prog_20_method_6_code (1 : Nat) (Option.some (Jvm.ClassFile.FieldType.array Jvm.ClassFile.FieldType.long)), Jvm.Cond.code ({ cls := "java/lang/Long", name := "bitCount", desc := "(J)I" } : Jvm.MethodName) jdk_35_method_50_code (2 : Nat) (Option.some Jvm.ClassFile.FieldType.int)]
set_option maxRecDepth 65536 in
theorem codes_eq : words1.filter isCode = codes1 := rfl
theorem w_codes : ∀ c ∈ words1.filter isCode, c.before args0 about1 = true := by
  rw [codes_eq]
  intro c hc
  simp only [codes1, List.mem_cons, List.not_mem_nil, or_false] at hc
  rcases hc with rfl | rfl | rfl | rfl | rfl | rfl | rfl
  · exact w_c0
  · exact w_c1
  · exact w_c2
  · exact w_c3
  · exact w_c4
  · exact w_c5
  · exact w_c6
set_option maxRecDepth 65536 in
theorem w_t1 : (words1.take 24).all (fun c => isCode c || c.before args0 about1) = true := by decide +kernel
set_option maxRecDepth 65536 in
theorem w_t2 : (words1.drop 24).all (fun c => isCode c || c.before args0 about1) = true := by decide +kernel
theorem w_tables : (allAtoms (Jvm.Cond.code x code maxLocals ret :: tables_1)).before args0 about1 = true := by
  rw [allAtoms_all]
  show words1.all (fun c => c.before args0 about1) = true
  refine all_split ?_ w_codes
  rw [← List.take_append_drop 24 words1, List.all_append, w_t1, w_t2]
  rfl
set_option maxRecDepth 65536 in
theorem w_case : (Jvm.Cond.and given_1 narrow_1).before args0 about1 = true := by decide +kernel
theorem w_applies : (headSpec (Jvm.Cond.code x code maxLocals ret :: tables_1) room_1).applies x e0.platform about1 = true :=
  (Spec.applies_iff w_frames).mpr ⟨w_running, w_runnable, w_alone, w_named, w_hears, w_ripe, w_room, w_tables⟩
theorem atStart : AtStart classFile x code maxLocals ret World_1 tables_1 room_1 Calls_1 rest_1 Pre_1 launch0 p0 e0 about1 theMethod args0 below0 :=
  ⟨lists_1, trivial, launch0.admits_env _ _ _, launch0.least_env, fairChoices_fair.cas, fairChoices_fair.clock, w_frames, w_args, w_heap, w_applies, trivial, trivial, w_case⟩
end start1
theorem witness_1 : WitnessClaimed_1 := ⟨start1.p0, start1.e0, start1.about1, start1.theMethod, start1.args0, start1.below0, start1.atStart⟩
end Jvm.Pilot.@@N@@
