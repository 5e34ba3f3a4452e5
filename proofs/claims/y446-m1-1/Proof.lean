import JvmDerived
import JvmDerived.Pilot.@@N@@Statement
import JvmDerived.Pilot.@@N@@Code
set_option linter.unusedVariables false
set_option linter.unusedSimpArgs false
namespace Jvm.Pilot.@@N@@
open Jvm Jvm.ClassFile Sem Op Lib Jvm.Free Jvm.Stand Jvm.LawKit Jvm.RoadKit Bundle Jvm.Pilot.@@N@@.Jvm.D
def own_A (p : Program) (l : Launch) (e : Env) (R : Room) (s : State) (m : MethodId) (args : Array Value) (below : List Frame) (meth : Method) (c : Code) (Z : State) (own name : String) (bytes : ByteArray) (maxL : Nat) (ret : Option FieldType) : Prop :=
  p.tables.exec = Jvm.exec ∧ c.code = bytes ∧ c.maxLocals = maxL ∧ s.vm.findClass own = some m.cls ∧ meth.name = name ∧ meth.sig.returnType = ret ∧ meth.locks = false ∧ Z.Warmed39 s.vm
def own_S (p : Program) (l : Launch) (e : Env) (R : Room) (s : State) (m : MethodId) (args : Array Value) (below : List Frame) (meth : Method) (c : Code) (n0 : Nat) (T : State) (h : Heap) (k n : Nat) : Prop :=
  ∃ locs, Stand p l e R s m args below meth c T locs k n ∧ T.heap = h ∧ Fr n0 locs
def own_G (p : Program) (e : Env) (below : List Frame) (s : State) (n0 kc ks : Nat) (Q : Option Value → Heap → Prop) (T : State) (g : JFrame) : Prop :=
  ∃ s₂ o, Steps p.tables e below (T.setTop g) s₂ ∧ s₂.status = .running ∧ Ended s₂ below o ∧ ∃ v L, o = .returned v ∧ (Q v s₂.heap ∧ Fr n0 L) ∧ FrameEnd s o s₂ L kc ks
def own_C (l : Launch) (Z : State) (y : MethodName) (bytes : ByteArray) (maxL : Nat) (ret : Option FieldType) (rm : Room) (n0 : Nat) (ws : List Jvm.Cond) (as' : Array Value) (h0 : Heap) (Q : Option Value → Heap → Prop) : Prop :=
  MetFree l y (head1 (Jvm.Cond.code y bytes maxL ret :: ws) rm) (fun a U => a = as' ∧ Z.Warmed39 U.vm ∧ U.heap = h0) (fun _ _ _ _ _ => True) (fun _ U o U' => ∃ v L, o = .returned v ∧ (Q v U'.heap ∧ Fr n0 L) ∧ FrameEnd U o U' L rm.cells rm.slots)
section OwnLayer
variable {p : Program} {l : Launch} {e : Env} {R : Room} {s : State} {m : MethodId} {args : Array Value} {below : List Frame} {meth : Method} {c : Code} {Z : State} {own name : String} {bytes : ByteArray} {maxL : Nat} {ret : Option FieldType} {T T' : State} {h : Heap} {k n n0 kc ks pc : Nat} {Ls Ls' : Array Slot} {st : List Value} {Q : Option Value → Heap → Prop} {g g' : JFrame} {a0 : Array Value}
theorem own_st (q : ∀ t, Steps p.tables e below (T'.setTop g') t → Steps p.tables e below (T.setTop g) t) (K : own_G p e below s n0 kc ks Q T' g') : own_G p e below s n0 kc ks Q T g := by
  obtain ⟨s2, o, a, b⟩ := K; exact ⟨s2, o, q _ a, b⟩
theorem own_C.of {y : MethodName} {rm : Room} {ws : List Jvm.Cond} {as' : Array Value} {h0 : Heap} (pn : plainFor y = true) (hn : n0 ≤ h0.size)
    (body : ∀ (p : Program) (e : Env) (s : State) (m : MethodId) (below : List Frame) (meth : Method) (c : Code) (T : State), own_A p l e rm s m as' below meth c Z y.cls y.name bytes maxL ret → own_S p l e rm s m as' below meth c n0 T h0 0 0 → own_G p e below s n0 rm.cells rm.slots Q T (entryFrame m as' maxL)) :
    own_C l Z y bytes maxL ret rm n0 ws as' h0 Q := by
  refine MetFree.of_bodySF pn hisR ?_
  intro p e s m args below meth c s₁ Bd hml0 hP hK
  obtain ⟨rfl, hZ, hh⟩ := hP
  have e0 : s₁.heap = h0 := by rw [← hh, Bd.state]; rfl
  exact body p e s m below meth c s₁ ⟨Bd.exec, Bd.bytes, hml0, findClass_of_methodNamed Bd.named, (name_of_methodNamed Bd.named Bd.method).1, Bd.returns, Bd.notSynchronized, hZ⟩ ⟨[], Stand.of_body Bd, e0, Fr.nil n0⟩
def own_ushr (x y : Int32) : Int32 := (x.toUInt32 >>> (y &&& 31).toUInt32).toInt32
def own_ushrL (x : Int64) (y : Int32) : Int64 := (x.toUInt64 >>> (y &&& 0x3f).toInt64.toUInt64).toInt64
theorem own_toInt {x y : Int32} (hh : ¬ x = y) : x.toInt ≠ y.toInt := fun q => hh (Int32.toInt_inj.mp q)
theorem own_toIntL {x y : Int64} (hh : ¬ x = y) : x.toInt ≠ y.toInt := fun q => hh (Int64.toInt_inj.mp q)
theorem s_iloadN (pc' : Nat) {i : Fin 4} {v : Int32} (A : own_A p l e R s m args below meth c Z own name bytes maxL ret) (S : own_S p l e R s m args below meth c n0 T h k n) (hd : decode bytes pc = .ok (.iload_n i, 1)) (hl : Ls[i.val]? = some (.val (.int v))) (hp : pc + 1 = pc') (K : own_G p e below s n0 kc ks Q T (mkF m pc' Ls (.int v :: st))) : own_G p e below s n0 kc ks Q T (mkF m pc Ls st) := by
  obtain ⟨_, X, -, -⟩ := S
  subst hp
  exact own_st (T' := T) (g' := mkF m _ Ls (.int v :: st)) (fun t ht => XS.iloadN X.here A.1 rfl (hb A.2.1 hd) hl ht) K
theorem s_iload (pc' : Nat) {i : Nat} {v : Int32} (A : own_A p l e R s m args below meth c Z own name bytes maxL ret) (S : own_S p l e R s m args below meth c n0 T h k n) (hd : decode bytes pc = .ok (.iload i, 2)) (hl : Ls[i]? = some (.val (.int v))) (hp : pc + 2 = pc') (K : own_G p e below s n0 kc ks Q T (mkF m pc' Ls (.int v :: st))) : own_G p e below s n0 kc ks Q T (mkF m pc Ls st) := by
  obtain ⟨_, X, -, -⟩ := S
  subst hp
  exact own_st (T' := T) (g' := mkF m _ Ls (.int v :: st)) (fun t ht => XS.iload X.here A.1 rfl (hb A.2.1 hd) hl ht) K
theorem s_istoreN (pc' : Nat) {i : Fin 4} {v : Int32} (A : own_A p l e R s m args below meth c Z own name bytes maxL ret) (S : own_S p l e R s m args below meth c n0 T h k n) (hd : decode bytes pc = .ok (.istore_n i, 1)) (hl : storeLocals Ls i.val (.int v) = some Ls') (hp : pc + 1 = pc') (K : own_G p e below s n0 kc ks Q T (mkF m pc' Ls' st)) : own_G p e below s n0 kc ks Q T (mkF m pc Ls (.int v :: st)) := by
  obtain ⟨_, X, -, -⟩ := S
  subst hp
  exact own_st (T' := T) (g' := mkF m _ Ls' st) (fun t ht => XS.istoreN X.here A.1 rfl (hb A.2.1 hd) rfl hl ht) K
theorem s_istore (pc' : Nat) {i : Nat} {v : Int32} (A : own_A p l e R s m args below meth c Z own name bytes maxL ret) (S : own_S p l e R s m args below meth c n0 T h k n) (hd : decode bytes pc = .ok (.istore i, 2)) (hl : storeLocals Ls i (.int v) = some Ls') (hp : pc + 2 = pc') (K : own_G p e below s n0 kc ks Q T (mkF m pc' Ls' st)) : own_G p e below s n0 kc ks Q T (mkF m pc Ls (.int v :: st)) := by
  obtain ⟨_, X, -, -⟩ := S
  subst hp
  exact own_st (T' := T) (g' := mkF m _ Ls' st) (fun t ht => XS.istore X.here A.1 rfl (hb A.2.1 hd) rfl hl ht) K
theorem s_lloadN (pc' : Nat) {i : Fin 4} {v : Int64} (A : own_A p l e R s m args below meth c Z own name bytes maxL ret) (S : own_S p l e R s m args below meth c n0 T h k n) (hd : decode bytes pc = .ok (.lload_n i, 1)) (hl : Ls[i.val]? = some (.val (.long v))) (hp : pc + 1 = pc') (K : own_G p e below s n0 kc ks Q T (mkF m pc' Ls (.long v :: st))) : own_G p e below s n0 kc ks Q T (mkF m pc Ls st) := by
  obtain ⟨_, X, -, -⟩ := S
  subst hp
  exact own_st (T' := T) (g' := mkF m _ Ls (.long v :: st)) (fun t ht => XS.lloadN X.here A.1 rfl (hb A.2.1 hd) hl ht) K
theorem s_lload (pc' : Nat) {i : Nat} {v : Int64} (A : own_A p l e R s m args below meth c Z own name bytes maxL ret) (S : own_S p l e R s m args below meth c n0 T h k n) (hd : decode bytes pc = .ok (.lload i, 2)) (hl : Ls[i]? = some (.val (.long v))) (hp : pc + 2 = pc') (K : own_G p e below s n0 kc ks Q T (mkF m pc' Ls (.long v :: st))) : own_G p e below s n0 kc ks Q T (mkF m pc Ls st) := by
  obtain ⟨_, X, -, -⟩ := S
  subst hp
  exact own_st (T' := T) (g' := mkF m _ Ls (.long v :: st)) (fun t ht => XS.lload X.here A.1 rfl (hb A.2.1 hd) hl ht) K
theorem s_lstoreN (pc' : Nat) {i : Fin 4} {v : Int64} (A : own_A p l e R s m args below meth c Z own name bytes maxL ret) (S : own_S p l e R s m args below meth c n0 T h k n) (hd : decode bytes pc = .ok (.lstore_n i, 1)) (hl : storeLocals Ls i.val (.long v) = some Ls') (hp : pc + 1 = pc') (K : own_G p e below s n0 kc ks Q T (mkF m pc' Ls' st)) : own_G p e below s n0 kc ks Q T (mkF m pc Ls (.long v :: st)) := by
  obtain ⟨_, X, -, -⟩ := S
  subst hp
  exact own_st (T' := T) (g' := mkF m _ Ls' st) (fun t ht => XS.lstoreN X.here A.1 rfl (hb A.2.1 hd) rfl hl ht) K
theorem s_lstore (pc' : Nat) {i : Nat} {v : Int64} (A : own_A p l e R s m args below meth c Z own name bytes maxL ret) (S : own_S p l e R s m args below meth c n0 T h k n) (hd : decode bytes pc = .ok (.lstore i, 2)) (hl : storeLocals Ls i (.long v) = some Ls') (hp : pc + 2 = pc') (K : own_G p e below s n0 kc ks Q T (mkF m pc' Ls' st)) : own_G p e below s n0 kc ks Q T (mkF m pc Ls (.long v :: st)) := by
  obtain ⟨_, X, -, -⟩ := S
  subst hp
  exact own_st (T' := T) (g' := mkF m _ Ls' st) (fun t ht => XS.lstore X.here A.1 rfl (hb A.2.1 hd) rfl hl ht) K
theorem s_aloadN (pc' : Nat) {i : Fin 4} {v : Value} (A : own_A p l e R s m args below meth c Z own name bytes maxL ret) (S : own_S p l e R s m args below meth c n0 T h k n) (hd : decode bytes pc = .ok (.aload_n i, 1)) (hl : Ls[i.val]? = some (.val v)) (hv : v.isRef = true) (hp : pc + 1 = pc') (K : own_G p e below s n0 kc ks Q T (mkF m pc' Ls (v :: st))) : own_G p e below s n0 kc ks Q T (mkF m pc Ls st) := by
  obtain ⟨_, X, -, -⟩ := S
  subst hp
  exact own_st (T' := T) (g' := mkF m _ Ls (v :: st)) (fun t ht => XS.aloadN X.here A.1 rfl (hb A.2.1 hd) hl hv ht) K
theorem s_aload (pc' : Nat) {i : Nat} {v : Value} (A : own_A p l e R s m args below meth c Z own name bytes maxL ret) (S : own_S p l e R s m args below meth c n0 T h k n) (hd : decode bytes pc = .ok (.aload i, 2)) (hl : Ls[i]? = some (.val v)) (hv : v.isRef = true) (hp : pc + 2 = pc') (K : own_G p e below s n0 kc ks Q T (mkF m pc' Ls (v :: st))) : own_G p e below s n0 kc ks Q T (mkF m pc Ls st) := by
  obtain ⟨_, X, -, -⟩ := S
  subst hp
  exact own_st (T' := T) (g' := mkF m _ Ls (v :: st)) (fun t ht => XS.aload X.here A.1 rfl (hb A.2.1 hd) hl hv ht) K
theorem s_astoreN (pc' : Nat) {i : Fin 4} {v : Value} (A : own_A p l e R s m args below meth c Z own name bytes maxL ret) (S : own_S p l e R s m args below meth c n0 T h k n) (hd : decode bytes pc = .ok (.astore_n i, 1)) (hv : v.isRef = true) (hl : storeLocals Ls i.val v = some Ls') (hp : pc + 1 = pc') (K : own_G p e below s n0 kc ks Q T (mkF m pc' Ls' st)) : own_G p e below s n0 kc ks Q T (mkF m pc Ls (v :: st)) := by
  obtain ⟨_, X, -, -⟩ := S
  subst hp
  exact own_st (T' := T) (g' := mkF m _ Ls' st) (fun t ht => XS.astoreN X.here A.1 rfl (hb A.2.1 hd) rfl hv hl ht) K
theorem s_astore (pc' : Nat) {i : Nat} {v : Value} (A : own_A p l e R s m args below meth c Z own name bytes maxL ret) (S : own_S p l e R s m args below meth c n0 T h k n) (hd : decode bytes pc = .ok (.astore i, 2)) (hv : v.isRef = true) (hl : storeLocals Ls i v = some Ls') (hp : pc + 2 = pc') (K : own_G p e below s n0 kc ks Q T (mkF m pc' Ls' st)) : own_G p e below s n0 kc ks Q T (mkF m pc Ls (v :: st)) := by
  obtain ⟨_, X, -, -⟩ := S
  subst hp
  exact own_st (T' := T) (g' := mkF m _ Ls' st) (fun t ht => XS.astore X.here A.1 rfl (hb A.2.1 hd) rfl hv hl ht) K
theorem s_iconst (pc' : Nat) {i : Int} {z : Int32} (A : own_A p l e R s m args below meth c Z own name bytes maxL ret) (S : own_S p l e R s m args below meth c n0 T h k n) (hd : decode bytes pc = .ok (.iconst i, 1)) (hz : Int32.ofInt i = z) (hp : pc + 1 = pc') (K : own_G p e below s n0 kc ks Q T (mkF m pc' Ls (.int z :: st))) : own_G p e below s n0 kc ks Q T (mkF m pc Ls st) := by
  obtain ⟨_, X, -, -⟩ := S
  subst hp hz
  exact own_st (T' := T) (g' := mkF m _ Ls (.int _ :: st)) (fun t ht => XS.iconst X.here A.1 rfl (hb A.2.1 hd) ht) K
theorem s_bipush (pc' : Nat) {i : Int} {z : Int32} (A : own_A p l e R s m args below meth c Z own name bytes maxL ret) (S : own_S p l e R s m args below meth c n0 T h k n) (hd : decode bytes pc = .ok (.bipush i, 2)) (hz : (Int8.ofInt i).toInt32 = z) (hp : pc + 2 = pc') (K : own_G p e below s n0 kc ks Q T (mkF m pc' Ls (.int z :: st))) : own_G p e below s n0 kc ks Q T (mkF m pc Ls st) := by
  obtain ⟨_, X, -, -⟩ := S
  subst hp hz
  exact own_st (T' := T) (g' := mkF m _ Ls (.int _ :: st)) (fun t ht => XS.bipush X.here A.1 rfl (hb A.2.1 hd) ht) K
theorem s_sipush (pc' : Nat) {i : Int} {z : Int32} (A : own_A p l e R s m args below meth c Z own name bytes maxL ret) (S : own_S p l e R s m args below meth c n0 T h k n) (hd : decode bytes pc = .ok (.sipush i, 3)) (hz : (Int16.ofInt i).toInt32 = z) (hp : pc + 3 = pc') (K : own_G p e below s n0 kc ks Q T (mkF m pc' Ls (.int z :: st))) : own_G p e below s n0 kc ks Q T (mkF m pc Ls st) := by
  obtain ⟨_, X, -, -⟩ := S
  subst hp hz
  exact own_st (T' := T) (g' := mkF m _ Ls (.int _ :: st)) (fun t ht => XS.sipush X.here A.1 rfl (hb A.2.1 hd) ht) K
theorem s_lconst (pc' : Nat) {i : Fin 2} {z : Int64} (A : own_A p l e R s m args below meth c Z own name bytes maxL ret) (S : own_S p l e R s m args below meth c n0 T h k n) (hd : decode bytes pc = .ok (.lconst i, 1)) (hz : Int64.ofNat i = z) (hp : pc + 1 = pc') (K : own_G p e below s n0 kc ks Q T (mkF m pc' Ls (.long z :: st))) : own_G p e below s n0 kc ks Q T (mkF m pc Ls st) := by
  obtain ⟨_, X, -, -⟩ := S
  subst hp hz
  exact own_st (T' := T) (g' := mkF m _ Ls (.long _ :: st)) (fun t ht => XS.lconst X.here A.1 rfl (hb A.2.1 hd) ht) K
theorem s_aconstNull (pc' : Nat)  (A : own_A p l e R s m args below meth c Z own name bytes maxL ret) (S : own_S p l e R s m args below meth c n0 T h k n) (hd : decode bytes pc = .ok (.aconst_null, 1)) (hp : pc + 1 = pc') (K : own_G p e below s n0 kc ks Q T (mkF m pc' Ls (.null :: st))) : own_G p e below s n0 kc ks Q T (mkF m pc Ls st) := by
  obtain ⟨_, X, -, -⟩ := S
  subst hp
  exact own_st (T' := T) (g' := mkF m _ Ls (.null :: st)) (fun t ht => XS.aconstNull X.here A.1 rfl (hb A.2.1 hd)  ht) K
theorem s_ldc (pc' : Nat) {i : Nat} {v : Int32} (A : own_A p l e R s m args below meth c Z own name bytes maxL ret) (S : own_S p l e R s m args below meth c n0 T h k n) (w : (Jvm.Cond.constant own i v).before a0 Z = true) (hd : decode bytes pc = .ok (.ldc i, 2)) (hp : pc + 2 = pc') (K : own_G p e below s n0 kc ks Q T (mkF m pc' Ls (.int v :: st))) : own_G p e below s n0 kc ks Q T (mkF m pc Ls st) := by
  obtain ⟨_, X, -, -⟩ := S
  obtain ⟨hx, hby, -, hown, -, -, -, hZ⟩ := A
  subst hp
  exact own_st (T' := T) (g' := mkF m _ Ls (.int v :: st)) (X.ldcInt hx hown (mvT hZ w) (g := mkF m pc Ls st) rfl (hb hby hd)) K
theorem s_ldc2 (pc' : Nat) {i : Nat} {v : Int64} (A : own_A p l e R s m args below meth c Z own name bytes maxL ret) (S : own_S p l e R s m args below meth c n0 T h k n) (w : (Jvm.Cond.constantLong own i v).before a0 Z = true) (hd : decode bytes pc = .ok (.ldc2_w i, 3)) (hp : pc + 3 = pc') (K : own_G p e below s n0 kc ks Q T (mkF m pc' Ls (.long v :: st))) : own_G p e below s n0 kc ks Q T (mkF m pc Ls st) := by
  obtain ⟨_, X, -, -⟩ := S
  obtain ⟨hx, hby, -, hown, -, -, -, hZ⟩ := A
  subst hp
  exact own_st (T' := T) (g' := mkF m _ Ls (.long v :: st)) (X.ldc2Long hx hown (mvT hZ w) (g := mkF m pc Ls st) rfl (hb hby hd)) K
theorem s_iadd (pc' : Nat) {x y : Int32} {z : Int32} (A : own_A p l e R s m args below meth c Z own name bytes maxL ret) (S : own_S p l e R s m args below meth c n0 T h k n) (hd : decode bytes pc = .ok (.iadd, 1)) (hz : x + y = z) (hp : pc + 1 = pc') (K : own_G p e below s n0 kc ks Q T (mkF m pc' Ls (.int z :: st))) : own_G p e below s n0 kc ks Q T (mkF m pc Ls (.int y :: .int x :: st)) := by
  obtain ⟨_, X, -, -⟩ := S
  subst hp hz
  exact own_st (T' := T) (g' := mkF m _ Ls (.int _ :: st)) (fun t ht => XS.iadd X.here A.1 rfl (hb A.2.1 hd) rfl  ht) K
theorem s_isub (pc' : Nat) {x y : Int32} {z : Int32} (A : own_A p l e R s m args below meth c Z own name bytes maxL ret) (S : own_S p l e R s m args below meth c n0 T h k n) (hd : decode bytes pc = .ok (.isub, 1)) (hz : x - y = z) (hp : pc + 1 = pc') (K : own_G p e below s n0 kc ks Q T (mkF m pc' Ls (.int z :: st))) : own_G p e below s n0 kc ks Q T (mkF m pc Ls (.int y :: .int x :: st)) := by
  obtain ⟨_, X, -, -⟩ := S
  subst hp hz
  exact own_st (T' := T) (g' := mkF m _ Ls (.int _ :: st)) (fun t ht => XS.isub X.here A.1 rfl (hb A.2.1 hd) rfl  ht) K
theorem s_imul (pc' : Nat) {x y : Int32} {z : Int32} (A : own_A p l e R s m args below meth c Z own name bytes maxL ret) (S : own_S p l e R s m args below meth c n0 T h k n) (hd : decode bytes pc = .ok (.imul, 1)) (hz : x * y = z) (hp : pc + 1 = pc') (K : own_G p e below s n0 kc ks Q T (mkF m pc' Ls (.int z :: st))) : own_G p e below s n0 kc ks Q T (mkF m pc Ls (.int y :: .int x :: st)) := by
  obtain ⟨_, X, -, -⟩ := S
  subst hp hz
  exact own_st (T' := T) (g' := mkF m _ Ls (.int _ :: st)) (fun t ht => XS.imul X.here A.1 rfl (hb A.2.1 hd) rfl  ht) K
theorem s_iand (pc' : Nat) {x y : Int32} {z : Int32} (A : own_A p l e R s m args below meth c Z own name bytes maxL ret) (S : own_S p l e R s m args below meth c n0 T h k n) (hd : decode bytes pc = .ok (.iand, 1)) (hz : x &&& y = z) (hp : pc + 1 = pc') (K : own_G p e below s n0 kc ks Q T (mkF m pc' Ls (.int z :: st))) : own_G p e below s n0 kc ks Q T (mkF m pc Ls (.int y :: .int x :: st)) := by
  obtain ⟨_, X, -, -⟩ := S
  subst hp hz
  exact own_st (T' := T) (g' := mkF m _ Ls (.int _ :: st)) (fun t ht => XS.iand X.here A.1 rfl (hb A.2.1 hd) rfl  ht) K
theorem s_ior (pc' : Nat) {x y : Int32} {z : Int32} (A : own_A p l e R s m args below meth c Z own name bytes maxL ret) (S : own_S p l e R s m args below meth c n0 T h k n) (hd : decode bytes pc = .ok (.ior, 1)) (hz : x ||| y = z) (hp : pc + 1 = pc') (K : own_G p e below s n0 kc ks Q T (mkF m pc' Ls (.int z :: st))) : own_G p e below s n0 kc ks Q T (mkF m pc Ls (.int y :: .int x :: st)) := by
  obtain ⟨_, X, -, -⟩ := S
  subst hp hz
  exact own_st (T' := T) (g' := mkF m _ Ls (.int _ :: st)) (fun t ht => XS.ior X.here A.1 rfl (hb A.2.1 hd) rfl  ht) K
theorem s_ixor (pc' : Nat) {x y : Int32} {z : Int32} (A : own_A p l e R s m args below meth c Z own name bytes maxL ret) (S : own_S p l e R s m args below meth c n0 T h k n) (hd : decode bytes pc = .ok (.ixor, 1)) (hz : x ^^^ y = z) (hp : pc + 1 = pc') (K : own_G p e below s n0 kc ks Q T (mkF m pc' Ls (.int z :: st))) : own_G p e below s n0 kc ks Q T (mkF m pc Ls (.int y :: .int x :: st)) := by
  obtain ⟨_, X, -, -⟩ := S
  subst hp hz
  exact own_st (T' := T) (g' := mkF m _ Ls (.int _ :: st)) (fun t ht => XS.ixor X.here A.1 rfl (hb A.2.1 hd) rfl  ht) K
theorem s_ishl (pc' : Nat) {x y : Int32} {z : Int32} (A : own_A p l e R s m args below meth c Z own name bytes maxL ret) (S : own_S p l e R s m args below meth c n0 T h k n) (hd : decode bytes pc = .ok (.ishl, 1)) (hz : x <<< (y &&& 31) = z) (hp : pc + 1 = pc') (K : own_G p e below s n0 kc ks Q T (mkF m pc' Ls (.int z :: st))) : own_G p e below s n0 kc ks Q T (mkF m pc Ls (.int y :: .int x :: st)) := by
  obtain ⟨_, X, -, -⟩ := S
  subst hp hz
  exact own_st (T' := T) (g' := mkF m _ Ls (.int _ :: st)) (fun t ht => XS.ishl X.here A.1 rfl (hb A.2.1 hd) rfl  ht) K
theorem s_ishr (pc' : Nat) {x y : Int32} {z : Int32} (A : own_A p l e R s m args below meth c Z own name bytes maxL ret) (S : own_S p l e R s m args below meth c n0 T h k n) (hd : decode bytes pc = .ok (.ishr, 1)) (hz : x >>> (y &&& 31) = z) (hp : pc + 1 = pc') (K : own_G p e below s n0 kc ks Q T (mkF m pc' Ls (.int z :: st))) : own_G p e below s n0 kc ks Q T (mkF m pc Ls (.int y :: .int x :: st)) := by
  obtain ⟨_, X, -, -⟩ := S
  subst hp hz
  exact own_st (T' := T) (g' := mkF m _ Ls (.int _ :: st)) (fun t ht => XS.ishr X.here A.1 rfl (hb A.2.1 hd) rfl  ht) K
theorem s_iushr (pc' : Nat) {x y : Int32} {z : Int32} (A : own_A p l e R s m args below meth c Z own name bytes maxL ret) (S : own_S p l e R s m args below meth c n0 T h k n) (hd : decode bytes pc = .ok (.iushr, 1)) (hz : own_ushr x y = z) (hp : pc + 1 = pc') (K : own_G p e below s n0 kc ks Q T (mkF m pc' Ls (.int z :: st))) : own_G p e below s n0 kc ks Q T (mkF m pc Ls (.int y :: .int x :: st)) := by
  obtain ⟨_, X, -, -⟩ := S
  subst hp hz
  exact own_st (T' := T) (g' := mkF m _ Ls (.int _ :: st)) (fun t ht => XS.iushr X.here A.1 rfl (hb A.2.1 hd) rfl  ht) K
theorem s_idiv (pc' : Nat) {x y : Int32} {z : Int32} (A : own_A p l e R s m args below meth c Z own name bytes maxL ret) (S : own_S p l e R s m args below meth c n0 T h k n) (hd : decode bytes pc = .ok (.idiv, 1)) (hy : y ≠ 0) (hz : x / y = z) (hp : pc + 1 = pc') (K : own_G p e below s n0 kc ks Q T (mkF m pc' Ls (.int z :: st))) : own_G p e below s n0 kc ks Q T (mkF m pc Ls (.int y :: .int x :: st)) := by
  obtain ⟨_, X, -, -⟩ := S
  subst hp hz
  exact own_st (T' := T) (g' := mkF m _ Ls (.int _ :: st)) (fun t ht => XS.idiv X.here A.1 rfl (hb A.2.1 hd) rfl hy ht) K
theorem s_irem (pc' : Nat) {x y : Int32} {z : Int32} (A : own_A p l e R s m args below meth c Z own name bytes maxL ret) (S : own_S p l e R s m args below meth c n0 T h k n) (hd : decode bytes pc = .ok (.irem, 1)) (hy : y ≠ 0) (hz : x % y = z) (hp : pc + 1 = pc') (K : own_G p e below s n0 kc ks Q T (mkF m pc' Ls (.int z :: st))) : own_G p e below s n0 kc ks Q T (mkF m pc Ls (.int y :: .int x :: st)) := by
  obtain ⟨_, X, -, -⟩ := S
  subst hp hz
  exact own_st (T' := T) (g' := mkF m _ Ls (.int _ :: st)) (fun t ht => iremM X A.1 rfl (hb A.2.1 hd) rfl hy ht) K
theorem s_ladd (pc' : Nat) {x y : Int64} {z : Int64} (A : own_A p l e R s m args below meth c Z own name bytes maxL ret) (S : own_S p l e R s m args below meth c n0 T h k n) (hd : decode bytes pc = .ok (.ladd, 1)) (hz : x + y = z) (hp : pc + 1 = pc') (K : own_G p e below s n0 kc ks Q T (mkF m pc' Ls (.long z :: st))) : own_G p e below s n0 kc ks Q T (mkF m pc Ls (.long y :: .long x :: st)) := by
  obtain ⟨_, X, -, -⟩ := S
  subst hp hz
  exact own_st (T' := T) (g' := mkF m _ Ls (.long _ :: st)) (fun t ht => XS.ladd X.here A.1 rfl (hb A.2.1 hd) rfl  ht) K
theorem s_lsub (pc' : Nat) {x y : Int64} {z : Int64} (A : own_A p l e R s m args below meth c Z own name bytes maxL ret) (S : own_S p l e R s m args below meth c n0 T h k n) (hd : decode bytes pc = .ok (.lsub, 1)) (hz : x - y = z) (hp : pc + 1 = pc') (K : own_G p e below s n0 kc ks Q T (mkF m pc' Ls (.long z :: st))) : own_G p e below s n0 kc ks Q T (mkF m pc Ls (.long y :: .long x :: st)) := by
  obtain ⟨_, X, -, -⟩ := S
  subst hp hz
  exact own_st (T' := T) (g' := mkF m _ Ls (.long _ :: st)) (fun t ht => XS.lsub X.here A.1 rfl (hb A.2.1 hd) rfl  ht) K
theorem s_lmul (pc' : Nat) {x y : Int64} {z : Int64} (A : own_A p l e R s m args below meth c Z own name bytes maxL ret) (S : own_S p l e R s m args below meth c n0 T h k n) (hd : decode bytes pc = .ok (.lmul, 1)) (hz : x * y = z) (hp : pc + 1 = pc') (K : own_G p e below s n0 kc ks Q T (mkF m pc' Ls (.long z :: st))) : own_G p e below s n0 kc ks Q T (mkF m pc Ls (.long y :: .long x :: st)) := by
  obtain ⟨_, X, -, -⟩ := S
  subst hp hz
  exact own_st (T' := T) (g' := mkF m _ Ls (.long _ :: st)) (fun t ht => XS.lmul X.here A.1 rfl (hb A.2.1 hd) rfl  ht) K
theorem s_land (pc' : Nat) {x y : Int64} {z : Int64} (A : own_A p l e R s m args below meth c Z own name bytes maxL ret) (S : own_S p l e R s m args below meth c n0 T h k n) (hd : decode bytes pc = .ok (.land, 1)) (hz : x &&& y = z) (hp : pc + 1 = pc') (K : own_G p e below s n0 kc ks Q T (mkF m pc' Ls (.long z :: st))) : own_G p e below s n0 kc ks Q T (mkF m pc Ls (.long y :: .long x :: st)) := by
  obtain ⟨_, X, -, -⟩ := S
  subst hp hz
  exact own_st (T' := T) (g' := mkF m _ Ls (.long _ :: st)) (fun t ht => XS.land X.here A.1 rfl (hb A.2.1 hd) rfl  ht) K
theorem s_lor (pc' : Nat) {x y : Int64} {z : Int64} (A : own_A p l e R s m args below meth c Z own name bytes maxL ret) (S : own_S p l e R s m args below meth c n0 T h k n) (hd : decode bytes pc = .ok (.lor, 1)) (hz : x ||| y = z) (hp : pc + 1 = pc') (K : own_G p e below s n0 kc ks Q T (mkF m pc' Ls (.long z :: st))) : own_G p e below s n0 kc ks Q T (mkF m pc Ls (.long y :: .long x :: st)) := by
  obtain ⟨_, X, -, -⟩ := S
  subst hp hz
  exact own_st (T' := T) (g' := mkF m _ Ls (.long _ :: st)) (fun t ht => XS.lor X.here A.1 rfl (hb A.2.1 hd) rfl  ht) K
theorem s_lxor (pc' : Nat) {x y : Int64} {z : Int64} (A : own_A p l e R s m args below meth c Z own name bytes maxL ret) (S : own_S p l e R s m args below meth c n0 T h k n) (hd : decode bytes pc = .ok (.lxor, 1)) (hz : x ^^^ y = z) (hp : pc + 1 = pc') (K : own_G p e below s n0 kc ks Q T (mkF m pc' Ls (.long z :: st))) : own_G p e below s n0 kc ks Q T (mkF m pc Ls (.long y :: .long x :: st)) := by
  obtain ⟨_, X, -, -⟩ := S
  subst hp hz
  exact own_st (T' := T) (g' := mkF m _ Ls (.long _ :: st)) (fun t ht => XS.lxor X.here A.1 rfl (hb A.2.1 hd) rfl  ht) K
theorem s_ldiv (pc' : Nat) {x y : Int64} {z : Int64} (A : own_A p l e R s m args below meth c Z own name bytes maxL ret) (S : own_S p l e R s m args below meth c n0 T h k n) (hd : decode bytes pc = .ok (.ldiv, 1)) (hy : y ≠ 0) (hz : x / y = z) (hp : pc + 1 = pc') (K : own_G p e below s n0 kc ks Q T (mkF m pc' Ls (.long z :: st))) : own_G p e below s n0 kc ks Q T (mkF m pc Ls (.long y :: .long x :: st)) := by
  obtain ⟨_, X, -, -⟩ := S
  subst hp hz
  exact own_st (T' := T) (g' := mkF m _ Ls (.long _ :: st)) (fun t ht => XS.ldiv X.here A.1 rfl (hb A.2.1 hd) rfl hy ht) K
theorem s_lrem (pc' : Nat) {x y : Int64} {z : Int64} (A : own_A p l e R s m args below meth c Z own name bytes maxL ret) (S : own_S p l e R s m args below meth c n0 T h k n) (hd : decode bytes pc = .ok (.lrem, 1)) (hy : y ≠ 0) (hz : x - (x / y) * y = z) (hp : pc + 1 = pc') (K : own_G p e below s n0 kc ks Q T (mkF m pc' Ls (.long z :: st))) : own_G p e below s n0 kc ks Q T (mkF m pc Ls (.long y :: .long x :: st)) := by
  obtain ⟨_, X, -, -⟩ := S
  subst hp hz
  exact own_st (T' := T) (g' := mkF m _ Ls (.long _ :: st)) (fun t ht => XS.lrem X.here A.1 rfl (hb A.2.1 hd) rfl hy ht) K
theorem s_lshl (pc' : Nat) {x : Int64} {y : Int32} {z : Int64} (A : own_A p l e R s m args below meth c Z own name bytes maxL ret) (S : own_S p l e R s m args below meth c n0 T h k n) (hd : decode bytes pc = .ok (.lshl, 1)) (hz : x <<< (y &&& 63).toInt64 = z) (hp : pc + 1 = pc') (K : own_G p e below s n0 kc ks Q T (mkF m pc' Ls (.long z :: st))) : own_G p e below s n0 kc ks Q T (mkF m pc Ls (.int y :: .long x :: st)) := by
  obtain ⟨_, X, -, -⟩ := S
  subst hp hz
  exact own_st (T' := T) (g' := mkF m _ Ls (.long _ :: st)) (fun t ht => XS.lshl X.here A.1 rfl (hb A.2.1 hd) rfl  ht) K
theorem s_lshr (pc' : Nat) {x : Int64} {y : Int32} {z : Int64} (A : own_A p l e R s m args below meth c Z own name bytes maxL ret) (S : own_S p l e R s m args below meth c n0 T h k n) (hd : decode bytes pc = .ok (.lshr, 1)) (hz : x >>> (y &&& 63).toInt64 = z) (hp : pc + 1 = pc') (K : own_G p e below s n0 kc ks Q T (mkF m pc' Ls (.long z :: st))) : own_G p e below s n0 kc ks Q T (mkF m pc Ls (.int y :: .long x :: st)) := by
  obtain ⟨_, X, -, -⟩ := S
  subst hp hz
  exact own_st (T' := T) (g' := mkF m _ Ls (.long _ :: st)) (fun t ht => XS.lshr X.here A.1 rfl (hb A.2.1 hd) rfl  ht) K
theorem s_lushr (pc' : Nat) {x : Int64} {y : Int32} {z : Int64} (A : own_A p l e R s m args below meth c Z own name bytes maxL ret) (S : own_S p l e R s m args below meth c n0 T h k n) (hd : decode bytes pc = .ok (.lushr, 1)) (hz : own_ushrL x y = z) (hp : pc + 1 = pc') (K : own_G p e below s n0 kc ks Q T (mkF m pc' Ls (.long z :: st))) : own_G p e below s n0 kc ks Q T (mkF m pc Ls (.int y :: .long x :: st)) := by
  obtain ⟨_, X, -, -⟩ := S
  subst hp hz
  exact own_st (T' := T) (g' := mkF m _ Ls (.long _ :: st)) (fun t ht => XS.lushr X.here A.1 rfl (hb A.2.1 hd) rfl  ht) K
theorem s_ineg (pc' : Nat) {x : Int32} {z : Int32} (A : own_A p l e R s m args below meth c Z own name bytes maxL ret) (S : own_S p l e R s m args below meth c n0 T h k n) (hd : decode bytes pc = .ok (.ineg, 1)) (hz : -x = z) (hp : pc + 1 = pc') (K : own_G p e below s n0 kc ks Q T (mkF m pc' Ls (.int z :: st))) : own_G p e below s n0 kc ks Q T (mkF m pc Ls (.int x :: st)) := by
  obtain ⟨_, X, -, -⟩ := S
  subst hp hz
  exact own_st (T' := T) (g' := mkF m _ Ls (.int _ :: st)) (fun t ht => XS.ineg X.here A.1 rfl (hb A.2.1 hd) rfl  ht) K
theorem s_lneg (pc' : Nat) {x : Int64} {z : Int64} (A : own_A p l e R s m args below meth c Z own name bytes maxL ret) (S : own_S p l e R s m args below meth c n0 T h k n) (hd : decode bytes pc = .ok (.lneg, 1)) (hz : -x = z) (hp : pc + 1 = pc') (K : own_G p e below s n0 kc ks Q T (mkF m pc' Ls (.long z :: st))) : own_G p e below s n0 kc ks Q T (mkF m pc Ls (.long x :: st)) := by
  obtain ⟨_, X, -, -⟩ := S
  subst hp hz
  exact own_st (T' := T) (g' := mkF m _ Ls (.long _ :: st)) (fun t ht => XS.lneg X.here A.1 rfl (hb A.2.1 hd) rfl  ht) K
theorem s_i2l (pc' : Nat) {x : Int32} {z : Int64} (A : own_A p l e R s m args below meth c Z own name bytes maxL ret) (S : own_S p l e R s m args below meth c n0 T h k n) (hd : decode bytes pc = .ok (.i2l, 1)) (hz : x.toInt64 = z) (hp : pc + 1 = pc') (K : own_G p e below s n0 kc ks Q T (mkF m pc' Ls (.long z :: st))) : own_G p e below s n0 kc ks Q T (mkF m pc Ls (.int x :: st)) := by
  obtain ⟨_, X, -, -⟩ := S
  subst hp hz
  exact own_st (T' := T) (g' := mkF m _ Ls (.long _ :: st)) (fun t ht => XS.i2l X.here A.1 rfl (hb A.2.1 hd) rfl  ht) K
theorem s_l2i (pc' : Nat) {x : Int64} {z : Int32} (A : own_A p l e R s m args below meth c Z own name bytes maxL ret) (S : own_S p l e R s m args below meth c n0 T h k n) (hd : decode bytes pc = .ok (.l2i, 1)) (hz : x.toInt32 = z) (hp : pc + 1 = pc') (K : own_G p e below s n0 kc ks Q T (mkF m pc' Ls (.int z :: st))) : own_G p e below s n0 kc ks Q T (mkF m pc Ls (.long x :: st)) := by
  obtain ⟨_, X, -, -⟩ := S
  subst hp hz
  exact own_st (T' := T) (g' := mkF m _ Ls (.int _ :: st)) (fun t ht => XS.l2i X.here A.1 rfl (hb A.2.1 hd) rfl  ht) K
theorem s_i2b (pc' : Nat) {x : Int32} {z : Int32} (A : own_A p l e R s m args below meth c Z own name bytes maxL ret) (S : own_S p l e R s m args below meth c n0 T h k n) (hd : decode bytes pc = .ok (.i2b, 1)) (hz : x.toInt8.toInt32 = z) (hp : pc + 1 = pc') (K : own_G p e below s n0 kc ks Q T (mkF m pc' Ls (.int z :: st))) : own_G p e below s n0 kc ks Q T (mkF m pc Ls (.int x :: st)) := by
  obtain ⟨_, X, -, -⟩ := S
  subst hp hz
  exact own_st (T' := T) (g' := mkF m _ Ls (.int _ :: st)) (fun t ht => XS.i2b X.here A.1 rfl (hb A.2.1 hd) rfl  ht) K
theorem s_i2c (pc' : Nat) {x : Int32} {z : Int32} (A : own_A p l e R s m args below meth c Z own name bytes maxL ret) (S : own_S p l e R s m args below meth c n0 T h k n) (hd : decode bytes pc = .ok (.i2c, 1)) (hz : x.toUInt32.toUInt16.toUInt32.toInt32 = z) (hp : pc + 1 = pc') (K : own_G p e below s n0 kc ks Q T (mkF m pc' Ls (.int z :: st))) : own_G p e below s n0 kc ks Q T (mkF m pc Ls (.int x :: st)) := by
  obtain ⟨_, X, -, -⟩ := S
  subst hp hz
  exact own_st (T' := T) (g' := mkF m _ Ls (.int _ :: st)) (fun t ht => XS.i2c X.here A.1 rfl (hb A.2.1 hd) rfl  ht) K
theorem s_i2s (pc' : Nat) {x : Int32} {z : Int32} (A : own_A p l e R s m args below meth c Z own name bytes maxL ret) (S : own_S p l e R s m args below meth c n0 T h k n) (hd : decode bytes pc = .ok (.i2s, 1)) (hz : x.toInt16.toInt32 = z) (hp : pc + 1 = pc') (K : own_G p e below s n0 kc ks Q T (mkF m pc' Ls (.int z :: st))) : own_G p e below s n0 kc ks Q T (mkF m pc Ls (.int x :: st)) := by
  obtain ⟨_, X, -, -⟩ := S
  subst hp hz
  exact own_st (T' := T) (g' := mkF m _ Ls (.int _ :: st)) (fun t ht => XS.i2s X.here A.1 rfl (hb A.2.1 hd) rfl  ht) K
theorem s_lcmp (pc' : Nat) {x y : Int64} {z : Int32} (A : own_A p l e R s m args below meth c Z own name bytes maxL ret) (S : own_S p l e R s m args below meth c n0 T h k n) (hd : decode bytes pc = .ok (.lcmp, 1)) (hz : lcmpW x y = z) (hp : pc + 1 = pc') (K : own_G p e below s n0 kc ks Q T (mkF m pc' Ls (.int z :: st))) : own_G p e below s n0 kc ks Q T (mkF m pc Ls (.long y :: .long x :: st)) := by
  obtain ⟨_, X, -, -⟩ := S
  subst hp hz
  exact own_st (T' := T) (g' := mkF m _ Ls (.int _ :: st)) (fun t ht => XS.lcmp X.here A.1 rfl (hb A.2.1 hd) rfl  ht) K
theorem s_dup (pc' : Nat) {v : Value} (A : own_A p l e R s m args below meth c Z own name bytes maxL ret) (S : own_S p l e R s m args below meth c n0 T h k n) (hd : decode bytes pc = .ok (.dup, 1)) (hv : v.category = 1) (hp : pc + 1 = pc') (K : own_G p e below s n0 kc ks Q T (mkF m pc' Ls (v :: v :: st))) : own_G p e below s n0 kc ks Q T (mkF m pc Ls (v :: st)) := by
  obtain ⟨_, X, -, -⟩ := S
  subst hp
  exact own_st (T' := T) (g' := mkF m _ Ls (v :: v :: st)) (fun t ht => XS.dup X.here A.1 rfl (hb A.2.1 hd) rfl hv ht) K
theorem s_dup2 (pc' : Nat) {v w : Value} (A : own_A p l e R s m args below meth c Z own name bytes maxL ret) (S : own_S p l e R s m args below meth c n0 T h k n) (hd : decode bytes pc = .ok (.dup2, 1)) (hv : v.category = 1) (hv' : w.category = 1) (hp : pc + 1 = pc') (K : own_G p e below s n0 kc ks Q T (mkF m pc' Ls (v :: w :: v :: w :: st))) : own_G p e below s n0 kc ks Q T (mkF m pc Ls (v :: w :: st)) := by
  obtain ⟨_, X, -, -⟩ := S
  subst hp
  exact own_st (T' := T) (g' := mkF m _ Ls (v :: w :: v :: w :: st)) (fun t ht => Jvm.Free.XT.dup2 X.here A.1 rfl (hb A.2.1 hd) rfl hv hv' ht) K
theorem s_dup2L (pc' : Nat) {v : Int64} (A : own_A p l e R s m args below meth c Z own name bytes maxL ret) (S : own_S p l e R s m args below meth c n0 T h k n) (hd : decode bytes pc = .ok (.dup2, 1)) (hp : pc + 1 = pc') (K : own_G p e below s n0 kc ks Q T (mkF m pc' Ls (.long v :: .long v :: st))) : own_G p e below s n0 kc ks Q T (mkF m pc Ls (.long v :: st)) := by
  obtain ⟨_, X, -, -⟩ := S
  subst hp
  exact own_st (T' := T) (g' := mkF m _ Ls (.long v :: .long v :: st)) (fun t ht => Jvm.Free.XT.dup2L X.here A.1 rfl (hb A.2.1 hd) rfl ht) K
theorem s_dupX1 (pc' : Nat) {v w : Value} (A : own_A p l e R s m args below meth c Z own name bytes maxL ret) (S : own_S p l e R s m args below meth c n0 T h k n) (hd : decode bytes pc = .ok (.dup_x1, 1)) (hv : v.category = 1) (hv' : w.category = 1) (hp : pc + 1 = pc') (K : own_G p e below s n0 kc ks Q T (mkF m pc' Ls (v :: w :: v :: st))) : own_G p e below s n0 kc ks Q T (mkF m pc Ls (v :: w :: st)) := by
  obtain ⟨_, X, -, -⟩ := S
  subst hp
  exact own_st (T' := T) (g' := mkF m _ Ls (v :: w :: v :: st)) (fun t ht => XS.dupX1 X.here A.1 rfl (hb A.2.1 hd) rfl hv hv' ht) K
theorem s_pop (pc' : Nat) {v : Value} (A : own_A p l e R s m args below meth c Z own name bytes maxL ret) (S : own_S p l e R s m args below meth c n0 T h k n) (hd : decode bytes pc = .ok (.pop, 1)) (hv : v.category = 1) (hp : pc + 1 = pc') (K : own_G p e below s n0 kc ks Q T (mkF m pc' Ls st)) : own_G p e below s n0 kc ks Q T (mkF m pc Ls (v :: st)) := by
  obtain ⟨_, X, -, -⟩ := S
  subst hp
  exact own_st (T' := T) (g' := mkF m _ Ls st) (fun t ht => XS.pop X.here A.1 rfl (hb A.2.1 hd) rfl hv ht) K
theorem s_iinc (pc' : Nat) {i : Nat} {cst : Int} {x z : Int32} (A : own_A p l e R s m args below meth c Z own name bytes maxL ret) (S : own_S p l e R s m args below meth c n0 T h k n) (hd : decode bytes pc = .ok (.iinc i cst, 3)) (hl : Ls[i]? = some (.val (.int x))) (hz : x + Int32.ofInt cst = z) (hl' : storeLocals Ls i (.int z) = some Ls') (hp : pc + 3 = pc') (K : own_G p e below s n0 kc ks Q T (mkF m pc' Ls' st)) : own_G p e below s n0 kc ks Q T (mkF m pc Ls st) := by
  obtain ⟨_, X, -, -⟩ := S
  subst hp hz
  exact own_st (T' := T) (g' := mkF m _ Ls' st) (fun t ht => XS.iinc X.here A.1 rfl (hb A.2.1 hd) hl hl' ht) K
theorem s_goto (pc' : Nat) {o : Int} (A : own_A p l e R s m args below meth c Z own name bytes maxL ret) (S : own_S p l e R s m args below meth c n0 T h k n) (hd : decode bytes pc = .ok (.goto o, 3)) (ho : 0 ≤ (pc : Int) + o) (hp : ((pc : Int) + o).toNat = pc') (K : own_G p e below s n0 kc ks Q T (mkF m pc' Ls st)) : own_G p e below s n0 kc ks Q T (mkF m pc Ls st) := by
  obtain ⟨_, X, -, -⟩ := S
  exact own_st (T' := T) (g' := mkF m pc' Ls st) (fun t ht => XS.goto X.here A.1 rfl (pc0 := pc) (pc' := pc') rfl (hb A.2.1 hd) ho hp ht) K
theorem s_icmp (pcY pcN : Nat) {cd : ClassFile.Cond} {o : Int} {x y : Int32} (A : own_A p l e R s m args below meth c Z own name bytes maxL ret) (S : own_S p l e R s m args below meth c n0 T h k n) (hd : decode bytes pc = .ok (.if_icmp cd o, 3)) (ho : 0 ≤ (pc : Int) + o) (hp : ((pc : Int) + o).toNat = pcY) (hn : pc + 3 = pcN) (KY : if_icmp.holds cd x y = true → own_G p e below s n0 kc ks Q T (mkF m pcY Ls st)) (KN : if_icmp.holds cd x y = false → own_G p e below s n0 kc ks Q T (mkF m pcN Ls st)) : own_G p e below s n0 kc ks Q T (mkF m pc Ls (.int y :: .int x :: st)) := by
  obtain ⟨_, X, -, -⟩ := S
  subst hn
  rcases Bool.eq_false_or_eq_true (if_icmp.holds cd x y) with hc | hc
  · exact own_st (T' := T) (g' := mkF m pcY Ls st) (fun t ht => XS.icmpYes X.here A.1 rfl (pc0 := pc) (pc' := pcY) rfl (hb A.2.1 hd) rfl hc ho hp ht) (KY hc)
  · exact own_st (T' := T) (g' := mkF m _ Ls st) (fun t ht => XS.icmpNo X.here A.1 rfl (hb A.2.1 hd) rfl hc ht) (KN hc)
theorem s_ifc (pcY pcN : Nat) {cd : ClassFile.Cond} {o : Int} {x : Int32} (A : own_A p l e R s m args below meth c Z own name bytes maxL ret) (S : own_S p l e R s m args below meth c n0 T h k n) (hd : decode bytes pc = .ok (.ifCond cd o, 3)) (ho : 0 ≤ (pc : Int) + o) (hp : ((pc : Int) + o).toNat = pcY) (hn : pc + 3 = pcN) (KY : ifCond.holds cd x = true → own_G p e below s n0 kc ks Q T (mkF m pcY Ls st)) (KN : ifCond.holds cd x = false → own_G p e below s n0 kc ks Q T (mkF m pcN Ls st)) : own_G p e below s n0 kc ks Q T (mkF m pc Ls (.int x :: st)) := by
  obtain ⟨_, X, -, -⟩ := S
  subst hn
  rcases Bool.eq_false_or_eq_true (ifCond.holds cd x) with hc | hc
  · exact own_st (T' := T) (g' := mkF m pcY Ls st) (fun t ht => XS.ifYes X.here A.1 rfl (pc0 := pc) (pc' := pcY) rfl (hb A.2.1 hd) rfl hc ho hp ht) (KY hc)
  · exact own_st (T' := T) (g' := mkF m _ Ls st) (fun t ht => XS.ifNo X.here A.1 rfl (hb A.2.1 hd) rfl hc ht) (KN hc)
theorem own_eqY {x y : Int32} : if_icmp.holds .eq x y = true → x = y := by simp [if_icmp.holds]
theorem own_eqN {x y : Int32} : if_icmp.holds .eq x y = false → ¬ x = y := by simp [if_icmp.holds]
theorem own_neY {x y : Int32} : if_icmp.holds .ne x y = true → ¬ x = y := by simp [if_icmp.holds]
theorem own_neN {x y : Int32} : if_icmp.holds .ne x y = false → x = y := by simp [if_icmp.holds]
theorem own_ltY {x y : Int32} : if_icmp.holds .lt x y = true → x.toInt < y.toInt := by simp [if_icmp.holds, Int32.lt_iff_toInt_lt]
theorem own_ltN {x y : Int32} : if_icmp.holds .lt x y = false → y.toInt ≤ x.toInt := by simp [if_icmp.holds, Int32.le_iff_toInt_le]
theorem own_geY {x y : Int32} : if_icmp.holds .ge x y = true → y.toInt ≤ x.toInt := by simp [if_icmp.holds, Int32.le_iff_toInt_le]
theorem own_geN {x y : Int32} : if_icmp.holds .ge x y = false → x.toInt < y.toInt := by simp [if_icmp.holds, Int32.lt_iff_toInt_lt]
theorem own_gtY {x y : Int32} : if_icmp.holds .gt x y = true → y.toInt < x.toInt := by simp [if_icmp.holds, Int32.lt_iff_toInt_lt]
theorem own_gtN {x y : Int32} : if_icmp.holds .gt x y = false → x.toInt ≤ y.toInt := by simp [if_icmp.holds, Int32.le_iff_toInt_le]
theorem own_leY {x y : Int32} : if_icmp.holds .le x y = true → x.toInt ≤ y.toInt := by simp [if_icmp.holds, Int32.le_iff_toInt_le]
theorem own_leN {x y : Int32} : if_icmp.holds .le x y = false → y.toInt < x.toInt := by simp [if_icmp.holds, Int32.lt_iff_toInt_lt]
theorem own_lcmp_lt (x y : Int64) : lcmpW x y < 0 ↔ x.toInt < y.toInt := by rw [lw_lt, Int64.lt_iff_toInt_lt]
theorem own_lcmp_gt (x y : Int64) : 0 < lcmpW x y ↔ y.toInt < x.toInt := by rw [lw_gt, Int64.lt_iff_toInt_lt]
theorem own_lcmp_eq (x y : Int64) : lcmpW x y = 0 ↔ x = y := by rw [lw_eq]
theorem s_ieq (pcY pcN : Nat) {o : Int} {x y : Int32} {xi yi : Int} (A : own_A p l e R s m args below meth c Z own name bytes maxL ret) (S : own_S p l e R s m args below meth c n0 T h k n) (hxi : x.toInt = xi) (hyi : y.toInt = yi) (hd : decode bytes pc = .ok (.if_icmp .eq o, 3)) (ho : 0 ≤ (pc : Int) + o) (hp : ((pc : Int) + o).toNat = pcY) (hn : pc + 3 = pcN) (KY : x = y → xi = yi → own_G p e below s n0 kc ks Q T (mkF m pcY Ls st)) (KN : ¬ x = y → xi ≠ yi → own_G p e below s n0 kc ks Q T (mkF m pcN Ls st)) : own_G p e below s n0 kc ks Q T (mkF m pc Ls (.int y :: .int x :: st)) :=
  s_icmp pcY pcN A S hd ho hp hn (fun q => by have q := own_eqY q; exact KY q (by subst hxi hyi; rw [q])) (fun q => by have q := own_eqN q; exact KN q (by subst hxi hyi; exact own_toInt q))
theorem s_ifeq (pcY pcN : Nat) {o : Int} {x : Int32} {xi : Int} (A : own_A p l e R s m args below meth c Z own name bytes maxL ret) (S : own_S p l e R s m args below meth c n0 T h k n) (hxi : x.toInt = xi) (hd : decode bytes pc = .ok (.ifCond .eq o, 3)) (ho : 0 ≤ (pc : Int) + o) (hp : ((pc : Int) + o).toNat = pcY) (hn : pc + 3 = pcN) (KY : x = 0 → xi = 0 → own_G p e below s n0 kc ks Q T (mkF m pcY Ls st)) (KN : ¬ x = 0 → xi ≠ 0 → own_G p e below s n0 kc ks Q T (mkF m pcN Ls st)) : own_G p e below s n0 kc ks Q T (mkF m pc Ls (.int x :: st)) :=
  s_ifc pcY pcN A S hd ho hp hn (fun q => by have q := own_eqY (y := 0) ((if0 _ _).symm.trans q); exact KY q (by subst hxi; rw [q]; rfl)) (fun q => by have q := own_eqN (y := 0) ((if0 _ _).symm.trans q); exact KN q (by subst hxi; exact own_toInt q))
theorem s_lifeq (pcY pcN pcM : Nat) {o : Int} {x y : Int64} {xi yi : Int} (A : own_A p l e R s m args below meth c Z own name bytes maxL ret) (S : own_S p l e R s m args below meth c n0 T h k n) (hxi : x.toInt = xi) (hyi : y.toInt = yi) (hd0 : decode bytes pc = .ok (.lcmp, 1)) (hm : pc + 1 = pcM) (hd : decode bytes pcM = .ok (.ifCond .eq o, 3)) (ho : 0 ≤ (pcM : Int) + o) (hp : ((pcM : Int) + o).toNat = pcY) (hn : pcM + 3 = pcN) (KY : x = y → xi = yi → own_G p e below s n0 kc ks Q T (mkF m pcY Ls st)) (KN : ¬ x = y → xi ≠ yi → own_G p e below s n0 kc ks Q T (mkF m pcN Ls st)) : own_G p e below s n0 kc ks Q T (mkF m pc Ls (.long y :: .long x :: st)) :=
  s_lcmp pcM A S hd0 rfl hm (s_ifeq pcY pcN A S rfl hd ho hp hn (fun q _ => by have q : x = y := (own_lcmp_eq x y).mp q; exact KY q (by subst hxi hyi; rw [q])) (fun q _ => by have q : ¬ x = y := fun w => q ((own_lcmp_eq x y).mpr w); exact KN q (by subst hxi hyi; exact own_toIntL q)))
theorem s_ine (pcY pcN : Nat) {o : Int} {x y : Int32} {xi yi : Int} (A : own_A p l e R s m args below meth c Z own name bytes maxL ret) (S : own_S p l e R s m args below meth c n0 T h k n) (hxi : x.toInt = xi) (hyi : y.toInt = yi) (hd : decode bytes pc = .ok (.if_icmp .ne o, 3)) (ho : 0 ≤ (pc : Int) + o) (hp : ((pc : Int) + o).toNat = pcY) (hn : pc + 3 = pcN) (KY : ¬ x = y → xi ≠ yi → own_G p e below s n0 kc ks Q T (mkF m pcY Ls st)) (KN : x = y → xi = yi → own_G p e below s n0 kc ks Q T (mkF m pcN Ls st)) : own_G p e below s n0 kc ks Q T (mkF m pc Ls (.int y :: .int x :: st)) :=
  s_icmp pcY pcN A S hd ho hp hn (fun q => by have q := own_neY q; exact KY q (by subst hxi hyi; exact own_toInt q)) (fun q => by have q := own_neN q; exact KN q (by subst hxi hyi; rw [q]))
theorem s_ifne (pcY pcN : Nat) {o : Int} {x : Int32} {xi : Int} (A : own_A p l e R s m args below meth c Z own name bytes maxL ret) (S : own_S p l e R s m args below meth c n0 T h k n) (hxi : x.toInt = xi) (hd : decode bytes pc = .ok (.ifCond .ne o, 3)) (ho : 0 ≤ (pc : Int) + o) (hp : ((pc : Int) + o).toNat = pcY) (hn : pc + 3 = pcN) (KY : ¬ x = 0 → xi ≠ 0 → own_G p e below s n0 kc ks Q T (mkF m pcY Ls st)) (KN : x = 0 → xi = 0 → own_G p e below s n0 kc ks Q T (mkF m pcN Ls st)) : own_G p e below s n0 kc ks Q T (mkF m pc Ls (.int x :: st)) :=
  s_ifc pcY pcN A S hd ho hp hn (fun q => by have q := own_neY (y := 0) ((if0 _ _).symm.trans q); exact KY q (by subst hxi; exact own_toInt q)) (fun q => by have q := own_neN (y := 0) ((if0 _ _).symm.trans q); exact KN q (by subst hxi; rw [q]; rfl))
theorem s_lifne (pcY pcN pcM : Nat) {o : Int} {x y : Int64} {xi yi : Int} (A : own_A p l e R s m args below meth c Z own name bytes maxL ret) (S : own_S p l e R s m args below meth c n0 T h k n) (hxi : x.toInt = xi) (hyi : y.toInt = yi) (hd0 : decode bytes pc = .ok (.lcmp, 1)) (hm : pc + 1 = pcM) (hd : decode bytes pcM = .ok (.ifCond .ne o, 3)) (ho : 0 ≤ (pcM : Int) + o) (hp : ((pcM : Int) + o).toNat = pcY) (hn : pcM + 3 = pcN) (KY : ¬ x = y → xi ≠ yi → own_G p e below s n0 kc ks Q T (mkF m pcY Ls st)) (KN : x = y → xi = yi → own_G p e below s n0 kc ks Q T (mkF m pcN Ls st)) : own_G p e below s n0 kc ks Q T (mkF m pc Ls (.long y :: .long x :: st)) :=
  s_lcmp pcM A S hd0 rfl hm (s_ifne pcY pcN A S rfl hd ho hp hn (fun q _ => by have q : ¬ x = y := fun w => q ((own_lcmp_eq x y).mpr w); exact KY q (by subst hxi hyi; exact own_toIntL q)) (fun q _ => by have q : x = y := (own_lcmp_eq x y).mp q; exact KN q (by subst hxi hyi; rw [q])))
theorem s_ilt (pcY pcN : Nat) {o : Int} {x y : Int32} {xi yi : Int} (A : own_A p l e R s m args below meth c Z own name bytes maxL ret) (S : own_S p l e R s m args below meth c n0 T h k n) (hxi : x.toInt = xi) (hyi : y.toInt = yi) (hd : decode bytes pc = .ok (.if_icmp .lt o, 3)) (ho : 0 ≤ (pc : Int) + o) (hp : ((pc : Int) + o).toNat = pcY) (hn : pc + 3 = pcN) (KY : xi < yi → own_G p e below s n0 kc ks Q T (mkF m pcY Ls st)) (KN : yi ≤ xi → own_G p e below s n0 kc ks Q T (mkF m pcN Ls st)) : own_G p e below s n0 kc ks Q T (mkF m pc Ls (.int y :: .int x :: st)) :=
  s_icmp pcY pcN A S hd ho hp hn (fun q => by have q := own_ltY q; exact KY (by subst hxi hyi; exact q)) (fun q => by have q := own_ltN q; exact KN (by subst hxi hyi; exact q))
theorem s_iflt (pcY pcN : Nat) {o : Int} {x : Int32} {xi : Int} (A : own_A p l e R s m args below meth c Z own name bytes maxL ret) (S : own_S p l e R s m args below meth c n0 T h k n) (hxi : x.toInt = xi) (hd : decode bytes pc = .ok (.ifCond .lt o, 3)) (ho : 0 ≤ (pc : Int) + o) (hp : ((pc : Int) + o).toNat = pcY) (hn : pc + 3 = pcN) (KY : xi < 0 → own_G p e below s n0 kc ks Q T (mkF m pcY Ls st)) (KN : 0 ≤ xi → own_G p e below s n0 kc ks Q T (mkF m pcN Ls st)) : own_G p e below s n0 kc ks Q T (mkF m pc Ls (.int x :: st)) :=
  s_ifc pcY pcN A S hd ho hp hn (fun q => by have q := own_ltY (y := 0) ((if0 _ _).symm.trans q); exact KY (by subst hxi; exact q)) (fun q => by have q := own_ltN (y := 0) ((if0 _ _).symm.trans q); exact KN (by subst hxi; exact q))
theorem s_liflt (pcY pcN pcM : Nat) {o : Int} {x y : Int64} {xi yi : Int} (A : own_A p l e R s m args below meth c Z own name bytes maxL ret) (S : own_S p l e R s m args below meth c n0 T h k n) (hxi : x.toInt = xi) (hyi : y.toInt = yi) (hd0 : decode bytes pc = .ok (.lcmp, 1)) (hm : pc + 1 = pcM) (hd : decode bytes pcM = .ok (.ifCond .lt o, 3)) (ho : 0 ≤ (pcM : Int) + o) (hp : ((pcM : Int) + o).toNat = pcY) (hn : pcM + 3 = pcN) (KY : xi < yi → own_G p e below s n0 kc ks Q T (mkF m pcY Ls st)) (KN : yi ≤ xi → own_G p e below s n0 kc ks Q T (mkF m pcN Ls st)) : own_G p e below s n0 kc ks Q T (mkF m pc Ls (.long y :: .long x :: st)) :=
  s_lcmp pcM A S hd0 rfl hm (s_iflt pcY pcN A S rfl hd ho hp hn (fun q => by have q : x.toInt < y.toInt := (own_lcmp_lt x y).mp (Int32.lt_iff_toInt_lt.mpr q); exact KY (by subst hxi hyi; exact q)) (fun q => by have q : y.toInt ≤ x.toInt := Int.not_lt.mp fun w => Int.not_lt.mpr q (Int32.lt_iff_toInt_lt.mp ((own_lcmp_lt x y).mpr w)); exact KN (by subst hxi hyi; exact q)))
theorem s_ige (pcY pcN : Nat) {o : Int} {x y : Int32} {xi yi : Int} (A : own_A p l e R s m args below meth c Z own name bytes maxL ret) (S : own_S p l e R s m args below meth c n0 T h k n) (hxi : x.toInt = xi) (hyi : y.toInt = yi) (hd : decode bytes pc = .ok (.if_icmp .ge o, 3)) (ho : 0 ≤ (pc : Int) + o) (hp : ((pc : Int) + o).toNat = pcY) (hn : pc + 3 = pcN) (KY : yi ≤ xi → own_G p e below s n0 kc ks Q T (mkF m pcY Ls st)) (KN : xi < yi → own_G p e below s n0 kc ks Q T (mkF m pcN Ls st)) : own_G p e below s n0 kc ks Q T (mkF m pc Ls (.int y :: .int x :: st)) :=
  s_icmp pcY pcN A S hd ho hp hn (fun q => by have q := own_geY q; exact KY (by subst hxi hyi; exact q)) (fun q => by have q := own_geN q; exact KN (by subst hxi hyi; exact q))
theorem s_ifge (pcY pcN : Nat) {o : Int} {x : Int32} {xi : Int} (A : own_A p l e R s m args below meth c Z own name bytes maxL ret) (S : own_S p l e R s m args below meth c n0 T h k n) (hxi : x.toInt = xi) (hd : decode bytes pc = .ok (.ifCond .ge o, 3)) (ho : 0 ≤ (pc : Int) + o) (hp : ((pc : Int) + o).toNat = pcY) (hn : pc + 3 = pcN) (KY : 0 ≤ xi → own_G p e below s n0 kc ks Q T (mkF m pcY Ls st)) (KN : xi < 0 → own_G p e below s n0 kc ks Q T (mkF m pcN Ls st)) : own_G p e below s n0 kc ks Q T (mkF m pc Ls (.int x :: st)) :=
  s_ifc pcY pcN A S hd ho hp hn (fun q => by have q := own_geY (y := 0) ((if0 _ _).symm.trans q); exact KY (by subst hxi; exact q)) (fun q => by have q := own_geN (y := 0) ((if0 _ _).symm.trans q); exact KN (by subst hxi; exact q))
theorem s_lifge (pcY pcN pcM : Nat) {o : Int} {x y : Int64} {xi yi : Int} (A : own_A p l e R s m args below meth c Z own name bytes maxL ret) (S : own_S p l e R s m args below meth c n0 T h k n) (hxi : x.toInt = xi) (hyi : y.toInt = yi) (hd0 : decode bytes pc = .ok (.lcmp, 1)) (hm : pc + 1 = pcM) (hd : decode bytes pcM = .ok (.ifCond .ge o, 3)) (ho : 0 ≤ (pcM : Int) + o) (hp : ((pcM : Int) + o).toNat = pcY) (hn : pcM + 3 = pcN) (KY : yi ≤ xi → own_G p e below s n0 kc ks Q T (mkF m pcY Ls st)) (KN : xi < yi → own_G p e below s n0 kc ks Q T (mkF m pcN Ls st)) : own_G p e below s n0 kc ks Q T (mkF m pc Ls (.long y :: .long x :: st)) :=
  s_lcmp pcM A S hd0 rfl hm (s_ifge pcY pcN A S rfl hd ho hp hn (fun q => by have q : y.toInt ≤ x.toInt := Int.not_lt.mp fun w => Int.not_lt.mpr q (Int32.lt_iff_toInt_lt.mp ((own_lcmp_lt x y).mpr w)); exact KY (by subst hxi hyi; exact q)) (fun q => by have q : x.toInt < y.toInt := (own_lcmp_lt x y).mp (Int32.lt_iff_toInt_lt.mpr q); exact KN (by subst hxi hyi; exact q)))
theorem s_igt (pcY pcN : Nat) {o : Int} {x y : Int32} {xi yi : Int} (A : own_A p l e R s m args below meth c Z own name bytes maxL ret) (S : own_S p l e R s m args below meth c n0 T h k n) (hxi : x.toInt = xi) (hyi : y.toInt = yi) (hd : decode bytes pc = .ok (.if_icmp .gt o, 3)) (ho : 0 ≤ (pc : Int) + o) (hp : ((pc : Int) + o).toNat = pcY) (hn : pc + 3 = pcN) (KY : yi < xi → own_G p e below s n0 kc ks Q T (mkF m pcY Ls st)) (KN : xi ≤ yi → own_G p e below s n0 kc ks Q T (mkF m pcN Ls st)) : own_G p e below s n0 kc ks Q T (mkF m pc Ls (.int y :: .int x :: st)) :=
  s_icmp pcY pcN A S hd ho hp hn (fun q => by have q := own_gtY q; exact KY (by subst hxi hyi; exact q)) (fun q => by have q := own_gtN q; exact KN (by subst hxi hyi; exact q))
theorem s_ifgt (pcY pcN : Nat) {o : Int} {x : Int32} {xi : Int} (A : own_A p l e R s m args below meth c Z own name bytes maxL ret) (S : own_S p l e R s m args below meth c n0 T h k n) (hxi : x.toInt = xi) (hd : decode bytes pc = .ok (.ifCond .gt o, 3)) (ho : 0 ≤ (pc : Int) + o) (hp : ((pc : Int) + o).toNat = pcY) (hn : pc + 3 = pcN) (KY : 0 < xi → own_G p e below s n0 kc ks Q T (mkF m pcY Ls st)) (KN : xi ≤ 0 → own_G p e below s n0 kc ks Q T (mkF m pcN Ls st)) : own_G p e below s n0 kc ks Q T (mkF m pc Ls (.int x :: st)) :=
  s_ifc pcY pcN A S hd ho hp hn (fun q => by have q := own_gtY (y := 0) ((if0 _ _).symm.trans q); exact KY (by subst hxi; exact q)) (fun q => by have q := own_gtN (y := 0) ((if0 _ _).symm.trans q); exact KN (by subst hxi; exact q))
theorem s_lifgt (pcY pcN pcM : Nat) {o : Int} {x y : Int64} {xi yi : Int} (A : own_A p l e R s m args below meth c Z own name bytes maxL ret) (S : own_S p l e R s m args below meth c n0 T h k n) (hxi : x.toInt = xi) (hyi : y.toInt = yi) (hd0 : decode bytes pc = .ok (.lcmp, 1)) (hm : pc + 1 = pcM) (hd : decode bytes pcM = .ok (.ifCond .gt o, 3)) (ho : 0 ≤ (pcM : Int) + o) (hp : ((pcM : Int) + o).toNat = pcY) (hn : pcM + 3 = pcN) (KY : yi < xi → own_G p e below s n0 kc ks Q T (mkF m pcY Ls st)) (KN : xi ≤ yi → own_G p e below s n0 kc ks Q T (mkF m pcN Ls st)) : own_G p e below s n0 kc ks Q T (mkF m pc Ls (.long y :: .long x :: st)) :=
  s_lcmp pcM A S hd0 rfl hm (s_ifgt pcY pcN A S rfl hd ho hp hn (fun q => by have q : y.toInt < x.toInt := (own_lcmp_gt x y).mp (Int32.lt_iff_toInt_lt.mpr q); exact KY (by subst hxi hyi; exact q)) (fun q => by have q : x.toInt ≤ y.toInt := Int.not_lt.mp fun w => Int.not_lt.mpr q (Int32.lt_iff_toInt_lt.mp ((own_lcmp_gt x y).mpr w)); exact KN (by subst hxi hyi; exact q)))
theorem s_ile (pcY pcN : Nat) {o : Int} {x y : Int32} {xi yi : Int} (A : own_A p l e R s m args below meth c Z own name bytes maxL ret) (S : own_S p l e R s m args below meth c n0 T h k n) (hxi : x.toInt = xi) (hyi : y.toInt = yi) (hd : decode bytes pc = .ok (.if_icmp .le o, 3)) (ho : 0 ≤ (pc : Int) + o) (hp : ((pc : Int) + o).toNat = pcY) (hn : pc + 3 = pcN) (KY : xi ≤ yi → own_G p e below s n0 kc ks Q T (mkF m pcY Ls st)) (KN : yi < xi → own_G p e below s n0 kc ks Q T (mkF m pcN Ls st)) : own_G p e below s n0 kc ks Q T (mkF m pc Ls (.int y :: .int x :: st)) :=
  s_icmp pcY pcN A S hd ho hp hn (fun q => by have q := own_leY q; exact KY (by subst hxi hyi; exact q)) (fun q => by have q := own_leN q; exact KN (by subst hxi hyi; exact q))
theorem s_ifle (pcY pcN : Nat) {o : Int} {x : Int32} {xi : Int} (A : own_A p l e R s m args below meth c Z own name bytes maxL ret) (S : own_S p l e R s m args below meth c n0 T h k n) (hxi : x.toInt = xi) (hd : decode bytes pc = .ok (.ifCond .le o, 3)) (ho : 0 ≤ (pc : Int) + o) (hp : ((pc : Int) + o).toNat = pcY) (hn : pc + 3 = pcN) (KY : xi ≤ 0 → own_G p e below s n0 kc ks Q T (mkF m pcY Ls st)) (KN : 0 < xi → own_G p e below s n0 kc ks Q T (mkF m pcN Ls st)) : own_G p e below s n0 kc ks Q T (mkF m pc Ls (.int x :: st)) :=
  s_ifc pcY pcN A S hd ho hp hn (fun q => by have q := own_leY (y := 0) ((if0 _ _).symm.trans q); exact KY (by subst hxi; exact q)) (fun q => by have q := own_leN (y := 0) ((if0 _ _).symm.trans q); exact KN (by subst hxi; exact q))
theorem s_lifle (pcY pcN pcM : Nat) {o : Int} {x y : Int64} {xi yi : Int} (A : own_A p l e R s m args below meth c Z own name bytes maxL ret) (S : own_S p l e R s m args below meth c n0 T h k n) (hxi : x.toInt = xi) (hyi : y.toInt = yi) (hd0 : decode bytes pc = .ok (.lcmp, 1)) (hm : pc + 1 = pcM) (hd : decode bytes pcM = .ok (.ifCond .le o, 3)) (ho : 0 ≤ (pcM : Int) + o) (hp : ((pcM : Int) + o).toNat = pcY) (hn : pcM + 3 = pcN) (KY : xi ≤ yi → own_G p e below s n0 kc ks Q T (mkF m pcY Ls st)) (KN : yi < xi → own_G p e below s n0 kc ks Q T (mkF m pcN Ls st)) : own_G p e below s n0 kc ks Q T (mkF m pc Ls (.long y :: .long x :: st)) :=
  s_lcmp pcM A S hd0 rfl hm (s_ifle pcY pcN A S rfl hd ho hp hn (fun q => by have q : x.toInt ≤ y.toInt := Int.not_lt.mp fun w => Int.not_lt.mpr q (Int32.lt_iff_toInt_lt.mp ((own_lcmp_gt x y).mpr w)); exact KY (by subst hxi hyi; exact q)) (fun q => by have q : y.toInt < x.toInt := (own_lcmp_gt x y).mp (Int32.lt_iff_toInt_lt.mpr q); exact KN (by subst hxi hyi; exact q)))
theorem s_aeq (pcY pcN : Nat) {o : Int} {v w : Value} (A : own_A p l e R s m args below meth c Z own name bytes maxL ret) (S : own_S p l e R s m args below meth c n0 T h k n) (hv : v.isRef = true) (hw' : w.isRef = true) (hd : decode bytes pc = .ok (.if_acmp .eq o, 3)) (ho : 0 ≤ (pc : Int) + o) (hp : ((pc : Int) + o).toNat = pcY) (hn : pc + 3 = pcN) (KY : v = w → own_G p e below s n0 kc ks Q T (mkF m pcY Ls st)) (KN : ¬ v = w → own_G p e below s n0 kc ks Q T (mkF m pcN Ls st)) : own_G p e below s n0 kc ks Q T (mkF m pc Ls (w :: v :: st)) := by
  obtain ⟨_, X, -, -⟩ := S
  subst hn
  by_cases q : v = w
  · exact own_st (T' := T) (g' := mkF m pcY Ls st) (fun t ht => RoadKit.acmp X A.1 rfl hv hw' (pc0 := pc) (same := true) rfl (hb A.2.1 hd) rfl (decide_eq_true q) ho hp.symm ht) (KY q)
  · exact own_st (T' := T) (g' := mkF m _ Ls st) (fun t ht => RoadKit.acmp X A.1 rfl hv hw' (pc0 := pc) (same := false) rfl (hb A.2.1 hd) rfl (decide_eq_false q) ho rfl ht) (KN q)
theorem s_ane (pcY pcN : Nat) {o : Int} {v w : Value} (A : own_A p l e R s m args below meth c Z own name bytes maxL ret) (S : own_S p l e R s m args below meth c n0 T h k n) (hv : v.isRef = true) (hw' : w.isRef = true) (hd : decode bytes pc = .ok (.if_acmp .ne o, 3)) (ho : 0 ≤ (pc : Int) + o) (hp : ((pc : Int) + o).toNat = pcY) (hn : pc + 3 = pcN) (KY : ¬ v = w → own_G p e below s n0 kc ks Q T (mkF m pcY Ls st)) (KN : v = w → own_G p e below s n0 kc ks Q T (mkF m pcN Ls st)) : own_G p e below s n0 kc ks Q T (mkF m pc Ls (w :: v :: st)) := by
  obtain ⟨_, X, -, -⟩ := S
  subst hn
  by_cases q : v = w
  · exact own_st (T' := T) (g' := mkF m _ Ls st) (fun t ht => RoadKit.acmp X A.1 rfl hv hw' (pc0 := pc) (same := true) rfl (hb A.2.1 hd) rfl (decide_eq_true q) ho rfl ht) (KN q)
  · exact own_st (T' := T) (g' := mkF m pcY Ls st) (fun t ht => RoadKit.acmp X A.1 rfl hv hw' (pc0 := pc) (same := false) rfl (hb A.2.1 hd) rfl (decide_eq_false q) ho hp.symm ht) (KY q)
theorem own_leave {v : Option Value} (A : own_A p l e R s m args below meth c Z own name bytes maxL ret) (S : own_S p l e R s m args below meth c n0 T h k n) (hv : meth.sig.returnType = none → v = none) (hk : k ≤ kc) (hn : n ≤ ks) (hq : Q v h)
    (go : ∀ (locs : List Loc) (X : Stand p l e R s m args below meth c T locs k n) (fs : List Frame), (∀ (f : JFrame) (acts : List Action), f.method = m → f.locked = none → f.entered = [] → (doReturn e (T.setTop f) acts v).1 = T.setFrames fs) → Steps p.tables e below (T.setTop g) (T.setFrames fs)) : own_G p e below s n0 kc ks Q T g := by
  obtain ⟨locs, X, hh, N⟩ := S
  obtain ⟨-, -, -, -, -, -, hlk, -⟩ := A
  obtain ⟨fs, hr, hrun, hended, hW, hsame⟩ := X.leave (v := v) hv hlk
  exact ⟨_, _, go locs X fs hr, hrun, hended, v, locs, rfl, ⟨by show Q v T.heap; rw [hh]; exact hq, N⟩, ⟨v, rfl⟩, hW, hsame.mono hk hn⟩
theorem s_ret (A : own_A p l e R s m args below meth c Z own name bytes maxL none) (S : own_S p l e R s m args below meth c n0 T h k n) (hd : decode bytes pc = .ok (.return_, 1)) (hk : k ≤ kc) (hn : n ≤ ks) (hq : Q none h) : own_G p e below s n0 kc ks Q T (mkF m pc Ls []) :=
  own_leave A S (fun _ => rfl) hk hn hq fun locs X fs hr => X.returnOut A.1 A.2.2.2.2.2.1 (hb A.2.1 hd) hr
theorem s_retV {w : Value} {t : FieldType} {i : Instr} (A : own_A p l e R s m args below meth c Z own name bytes maxL (some t)) (S : own_S p l e R s m args below meth c n0 T h k n) (hd : decode bytes pc = .ok (i, 1)) (hn' : narrow t w = w) (hi : (i = .ireturn ∧ (t = .int ∨ t = .boolean ∨ t = .byte ∨ t = .char ∨ t = .short) ∧ ∃ z, w = .int z) ∨ (i = .lreturn ∧ t = .long ∧ ∃ z, w = .long z) ∨ (i = .dreturn ∧ t = .double ∧ ∃ z, w = .double z) ∨ (i = .freturn ∧ t = .float ∧ ∃ z, w = .float z) ∨ (i = .areturn ∧ t.isReference = true ∧ w.isRef = true)) (hk : k ≤ kc) (hn : n ≤ ks) (hq : Q (some w) h) : own_G p e below s n0 kc ks Q T (mkF m pc Ls (w :: st)) :=
  own_leave A S (fun q => by rw [A.2.2.2.2.2.1] at q; cases q) hk hn hq fun locs X fs hr => retOut X A.1 A.2.2.2.2.2.1 hn' hi (hb A.2.1 hd) hr
theorem s_retI {z : Int32} (A : own_A p l e R s m args below meth c Z own name bytes maxL (some .int)) (S : own_S p l e R s m args below meth c n0 T h k n) (hd : decode bytes pc = .ok (.ireturn, 1)) (hk : k ≤ kc) (hn : n ≤ ks) (hq : Q (some (.int z)) h) : own_G p e below s n0 kc ks Q T (mkF m pc Ls (.int z :: st)) :=
  s_retV A S hd rfl (Or.inl ⟨rfl, Or.inl rfl, z, rfl⟩) hk hn hq
theorem s_retZ {z : Int32} (A : own_A p l e R s m args below meth c Z own name bytes maxL (some .boolean)) (S : own_S p l e R s m args below meth c n0 T h k n) (hd : decode bytes pc = .ok (.ireturn, 1)) (hz : narrow .boolean (.int z) = .int z) (hk : k ≤ kc) (hn : n ≤ ks) (hq : Q (some (.int z)) h) : own_G p e below s n0 kc ks Q T (mkF m pc Ls (.int z :: st)) :=
  s_retV A S hd hz (Or.inl ⟨rfl, Or.inr (Or.inl rfl), z, rfl⟩) hk hn hq
theorem s_retJ {z : Int64} (A : own_A p l e R s m args below meth c Z own name bytes maxL (some .long)) (S : own_S p l e R s m args below meth c n0 T h k n) (hd : decode bytes pc = .ok (.lreturn, 1)) (hk : k ≤ kc) (hn : n ≤ ks) (hq : Q (some (.long z)) h) : own_G p e below s n0 kc ks Q T (mkF m pc Ls (.long z :: st)) :=
  s_retV A S hd rfl (Or.inr (Or.inl ⟨rfl, rfl, z, rfl⟩)) hk hn hq
theorem s_retA {w : Value} {t : FieldType} (A : own_A p l e R s m args below meth c Z own name bytes maxL (some t)) (S : own_S p l e R s m args below meth c n0 T h k n) (hd : decode bytes pc = .ok (.areturn, 1)) (ht : t.isReference = true) (hn' : narrow t w = w) (hw' : w.isRef = true) (hk : k ≤ kc) (hn : n ≤ ks) (hq : Q (some w) h) : own_G p e below s n0 kc ks Q T (mkF m pc Ls (w :: st)) :=
  s_retV A S hd hn' (Or.inr (Or.inr (Or.inr (Or.inr ⟨rfl, ht, hw'⟩)))) hk hn hq
theorem s_callS (pc' : Nat) {y : MethodName} {index : Nat} {bytes' : ByteArray} {maxL' : Nat} {ret' : Option FieldType} {rm : Room} {argsL rest stk : List Value} {Q' : Option Value → Heap → Prop}
    (A : own_A p l e R s m args below meth c Z own name bytes maxL ret) (S : own_S p l e R s m args below meth c n0 T h k n)
    (w1 : (Jvm.Cond.methodLink own index y).before a0 Z = true) (w2 : (Jvm.Cond.static y).before a0 Z = true) (w3 : (Jvm.Cond.initialized y.cls).before a0 Z = true) (w4 : (Jvm.Cond.code y bytes' maxL' ret').before a0 Z = true)
    (C : own_C l Z y bytes' maxL' ret' rm n0 [] argsL.toArray h Q') (hlen : ∀ sig, parseMethodDescriptor y.desc = some sig → argsL.length = sig.parameters.length)
    (hd : decode bytes pc = .ok (.invokestatic index, 3)) (hst : stk = argsL.reverse ++ rest) (hp : pc + 3 = pc') (hsize : Ls.size = maxL) (hy : y.cls ≠ "java/lang/invoke/MethodHandle" ∧ y.cls ≠ "java/lang/invoke/VarHandle")
    (hf : rm.frames + 1 ≤ R.frames) (hl : (rest.map fun v => v.category).sum + (maxL' + 11) + rm.locals ≤ R.locals) (hc : k + rm.cells ≤ R.cells) (hs : n + rm.slots ≤ R.slots)
    (K : ∀ (T' : State) (h' : Heap) (v : Option Value), Q' v h' → own_S p l e R s m args below meth c n0 T' h' (k + rm.cells) (n + rm.slots) → own_G p e below s n0 kc ks Q T' (mkF m pc' Ls (v.toList ++ rest))) : own_G p e below s n0 kc ks Q T (mkF m pc Ls stk) := by
  obtain ⟨locs, X, eT, N⟩ := S
  obtain ⟨hx, hby, hml, hown, -, -, -, hZ⟩ := A
  subst hp
  obtain ⟨v, _, ⟨T1, L1, k1, n1⟩, -, X1, ⟨Lc, hQ1, l1, y1, z1⟩, st1⟩ := Jvm.LawKit.callS X hx (y := y) hown (mvT hZ w1) (mvT hZ w2) (mvT hZ w3) (mvT hZ w4) hy (backOf (W := (rest.map fun v => v.category).sum) (Q := fun v h L => Q' v h ∧ Fr n0 L) C hZ w4 w3 hf hl) (g := mkF m pc Ls stk) rfl (by rw [hml]; exact hsize) (argsL := argsL) (rest := rest) hlen hst (by show 2 * 0 + _ ≤ _; omega) (hb hby hd) (fun _ _ => ⟨rfl, eT, hc, hs⟩)
  dsimp only [Pt.U, Pt.locs, Pt.cells, Pt.slots] at X1 l1 y1 z1 st1 hQ1
  subst l1 y1 z1
  exact own_st (T' := T1) (g' := mkF m _ Ls (v.toList ++ rest)) st1 (K T1 T1.heap v hQ1.1 ⟨_, X1, rfl, Fr.app N hQ1.2⟩)
theorem s_callV (pc' : Nat) {y : MethodName} {index : Nat} {bytes' : ByteArray} {maxL' : Nat} {ret' : Option FieldType} {rm : Room} {argsL rest stk : List Value} {w : Value}
    (A : own_A p l e R s m args below meth c Z own name bytes maxL ret) (S : own_S p l e R s m args below meth c n0 T h k n)
    (w1 : (Jvm.Cond.methodLink own index y).before a0 Z = true) (w2 : (Jvm.Cond.static y).before a0 Z = true) (w3 : (Jvm.Cond.initialized y.cls).before a0 Z = true) (w4 : (Jvm.Cond.code y bytes' maxL' ret').before a0 Z = true)
    (C : own_C l Z y bytes' maxL' ret' rm n0 [] argsL.toArray h (fun v h' => v = some w ∧ h' = h)) (hlen : ∀ sig, parseMethodDescriptor y.desc = some sig → argsL.length = sig.parameters.length)
    (hd : decode bytes pc = .ok (.invokestatic index, 3)) (hst : stk = argsL.reverse ++ rest) (hp : pc + 3 = pc') (hsize : Ls.size = maxL) (hy : y.cls ≠ "java/lang/invoke/MethodHandle" ∧ y.cls ≠ "java/lang/invoke/VarHandle")
    (hf : rm.frames + 1 ≤ R.frames) (hl : (rest.map fun v => v.category).sum + (maxL' + 11) + rm.locals ≤ R.locals) (hc : k + rm.cells ≤ R.cells) (hs : n + rm.slots ≤ R.slots)
    (K : ∀ (T' : State), own_S p l e R s m args below meth c n0 T' h (k + rm.cells) (n + rm.slots) → own_G p e below s n0 kc ks Q T' (mkF m pc' Ls (w :: rest))) : own_G p e below s n0 kc ks Q T (mkF m pc Ls stk) :=
  s_callS pc' A S w1 w2 w3 w4 C hlen hd hst hp hsize hy hf hl hc hs (fun T' h' v q S' => by obtain ⟨rfl, rfl⟩ := q; exact K T' S')
theorem s_callN (pc' : Nat) {y : MethodName} {index : Nat} {bytes' : ByteArray} {maxL' : Nat} {ret' : Option FieldType} {rm : Room} {argsL rest stk : List Value}
    (A : own_A p l e R s m args below meth c Z own name bytes maxL ret) (S : own_S p l e R s m args below meth c n0 T h k n)
    (w1 : (Jvm.Cond.methodLink own index y).before a0 Z = true) (w2 : (Jvm.Cond.static y).before a0 Z = true) (w3 : (Jvm.Cond.initialized y.cls).before a0 Z = true) (w4 : (Jvm.Cond.code y bytes' maxL' ret').before a0 Z = true)
    (C : own_C l Z y bytes' maxL' ret' rm n0 [] argsL.toArray h (fun v h' => v = none ∧ h' = h)) (hlen : ∀ sig, parseMethodDescriptor y.desc = some sig → argsL.length = sig.parameters.length)
    (hd : decode bytes pc = .ok (.invokestatic index, 3)) (hst : stk = argsL.reverse ++ rest) (hp : pc + 3 = pc') (hsize : Ls.size = maxL) (hy : y.cls ≠ "java/lang/invoke/MethodHandle" ∧ y.cls ≠ "java/lang/invoke/VarHandle")
    (hf : rm.frames + 1 ≤ R.frames) (hl : (rest.map fun v => v.category).sum + (maxL' + 11) + rm.locals ≤ R.locals) (hc : k + rm.cells ≤ R.cells) (hs : n + rm.slots ≤ R.slots)
    (K : ∀ (T' : State), own_S p l e R s m args below meth c n0 T' h (k + rm.cells) (n + rm.slots) → own_G p e below s n0 kc ks Q T' (mkF m pc' Ls rest)) : own_G p e below s n0 kc ks Q T (mkF m pc Ls stk) :=
  s_callS pc' A S w1 w2 w3 w4 C hlen hd hst hp hsize hy hf hl hc hs (fun T' h' v q S' => by obtain ⟨rfl, rfl⟩ := q; exact K T' S')
theorem s_virt (pc' : Nat) {y z : MethodName} {CC : String} {index : Nat} {bytes' : ByteArray} {maxL' : Nat} {ret' : Option FieldType} {rm : Room} {argsL rest stk : List Value} {b : Addr} {Q' : Option Value → Heap → Prop}
    (A : own_A p l e R s m args below meth c Z own name bytes maxL ret) (S : own_S p l e R s m args below meth c n0 T h k n) (E : Exa Z h b CC)
    (w1 : (Jvm.Cond.methodLink own index y).before a0 Z = true) (w2 : (Jvm.Cond.declares y).before a0 Z = true) (nf : NotFace s y) (w5 : (Jvm.Cond.selects CC y z).before a0 Z = true) (w6 : (Jvm.Cond.instanceMethod z).before a0 Z = true) (w3 : (Jvm.Cond.initialized z.cls).before a0 Z = true) (w4 : (Jvm.Cond.code z bytes' maxL' ret').before a0 Z = true)
    (C : own_C l Z z bytes' maxL' ret' rm n0 [] (Value.ref b :: argsL).toArray h Q') (hlen : ∀ sig, parseMethodDescriptor y.desc = some sig → argsL.length = sig.parameters.length)
    (hd : decode bytes pc = .ok (.invokevirtual index, 3)) (hst : stk = argsL.reverse ++ Value.ref b :: rest) (hp : pc + 3 = pc') (hsize : Ls.size = maxL) (hy : y.cls ≠ "java/lang/invoke/MethodHandle" ∧ y.cls ≠ "java/lang/invoke/VarHandle")
    (hf : rm.frames + 1 ≤ R.frames) (hl : (rest.map fun v => v.category).sum + (maxL' + 11) + rm.locals ≤ R.locals) (hc : k + rm.cells ≤ R.cells) (hs : n + rm.slots ≤ R.slots)
    (K : ∀ (T' : State) (h' : Heap) (v : Option Value), Q' v h' → own_S p l e R s m args below meth c n0 T' h' (k + rm.cells) (n + rm.slots) → own_G p e below s n0 kc ks Q T' (mkF m pc' Ls (v.toList ++ rest))) : own_G p e below s n0 kc ks Q T (mkF m pc Ls stk) := by
  obtain ⟨locs, X, eT, N⟩ := S
  obtain ⟨hx, hby, hml, hown, -, -, -, hZ⟩ := A
  subst hp
  obtain ⟨cq, kq, qa, qb, qc⟩ := isOf hZ eT E
  obtain ⟨v, _, ⟨T1, L1, k1, n1⟩, -, X1, ⟨Lc, hQ1, l1, y1, z1⟩, st1⟩ := X.virtualBack hx (y := y) (z := z) hown (mvT hZ w1) (mvT hZ w2) nf (mvT hZ w5) (mvT hZ w6) hy (backOf (W := (rest.map fun v => v.category).sum) (Q := fun v h L => Q' v h ∧ Fr n0 L) C hZ w4 w3 hf hl) qa qc (g := mkF m pc Ls stk) rfl (by rw [hml]; exact hsize) (Steps.refl _) (argsL := argsL) (rest := rest) hlen hst (by show 2 * 0 + _ ≤ _; omega) (hb hby hd) (fun _ _ => ⟨rfl, eT, hc, hs⟩)
  dsimp only [Pt.U, Pt.locs, Pt.cells, Pt.slots] at X1 l1 y1 z1 st1 hQ1
  subst l1 y1 z1
  exact own_st (T' := T1) (g' := mkF m _ Ls (v.toList ++ rest)) (fun t => st1.trans) (K T1 T1.heap v hQ1.1 ⟨_, X1, rfl, Fr.app N hQ1.2⟩)
theorem s_virtV (pc' : Nat) {y z : MethodName} {CC : String} {index : Nat} {bytes' : ByteArray} {maxL' : Nat} {ret' : Option FieldType} {rm : Room} {argsL rest stk : List Value} {b : Addr} {w : Value}
    (A : own_A p l e R s m args below meth c Z own name bytes maxL ret) (S : own_S p l e R s m args below meth c n0 T h k n) (E : Exa Z h b CC)
    (w1 : (Jvm.Cond.methodLink own index y).before a0 Z = true) (w2 : (Jvm.Cond.declares y).before a0 Z = true) (nf : NotFace s y) (w5 : (Jvm.Cond.selects CC y z).before a0 Z = true) (w6 : (Jvm.Cond.instanceMethod z).before a0 Z = true) (w3 : (Jvm.Cond.initialized z.cls).before a0 Z = true) (w4 : (Jvm.Cond.code z bytes' maxL' ret').before a0 Z = true)
    (C : own_C l Z z bytes' maxL' ret' rm n0 [] (Value.ref b :: argsL).toArray h (fun v h' => v = some w ∧ h' = h)) (hlen : ∀ sig, parseMethodDescriptor y.desc = some sig → argsL.length = sig.parameters.length)
    (hd : decode bytes pc = .ok (.invokevirtual index, 3)) (hst : stk = argsL.reverse ++ Value.ref b :: rest) (hp : pc + 3 = pc') (hsize : Ls.size = maxL) (hy : y.cls ≠ "java/lang/invoke/MethodHandle" ∧ y.cls ≠ "java/lang/invoke/VarHandle")
    (hf : rm.frames + 1 ≤ R.frames) (hl : (rest.map fun v => v.category).sum + (maxL' + 11) + rm.locals ≤ R.locals) (hc : k + rm.cells ≤ R.cells) (hs : n + rm.slots ≤ R.slots)
    (K : ∀ (T' : State), own_S p l e R s m args below meth c n0 T' h (k + rm.cells) (n + rm.slots) → own_G p e below s n0 kc ks Q T' (mkF m pc' Ls (w :: rest))) : own_G p e below s n0 kc ks Q T (mkF m pc Ls stk) :=
  s_virt pc' A S E w1 w2 nf w5 w6 w3 w4 C hlen hd hst hp hsize hy hf hl hc hs (fun T' h' v q S' => by obtain ⟨rfl, rfl⟩ := q; exact K T' S')
theorem s_virtN (pc' : Nat) {y z : MethodName} {CC : String} {index : Nat} {bytes' : ByteArray} {maxL' : Nat} {ret' : Option FieldType} {rm : Room} {argsL rest stk : List Value} {b : Addr}
    (A : own_A p l e R s m args below meth c Z own name bytes maxL ret) (S : own_S p l e R s m args below meth c n0 T h k n) (E : Exa Z h b CC)
    (w1 : (Jvm.Cond.methodLink own index y).before a0 Z = true) (w2 : (Jvm.Cond.declares y).before a0 Z = true) (nf : NotFace s y) (w5 : (Jvm.Cond.selects CC y z).before a0 Z = true) (w6 : (Jvm.Cond.instanceMethod z).before a0 Z = true) (w3 : (Jvm.Cond.initialized z.cls).before a0 Z = true) (w4 : (Jvm.Cond.code z bytes' maxL' ret').before a0 Z = true)
    (C : own_C l Z z bytes' maxL' ret' rm n0 [] (Value.ref b :: argsL).toArray h (fun v h' => v = none ∧ h' = h)) (hlen : ∀ sig, parseMethodDescriptor y.desc = some sig → argsL.length = sig.parameters.length)
    (hd : decode bytes pc = .ok (.invokevirtual index, 3)) (hst : stk = argsL.reverse ++ Value.ref b :: rest) (hp : pc + 3 = pc') (hsize : Ls.size = maxL) (hy : y.cls ≠ "java/lang/invoke/MethodHandle" ∧ y.cls ≠ "java/lang/invoke/VarHandle")
    (hf : rm.frames + 1 ≤ R.frames) (hl : (rest.map fun v => v.category).sum + (maxL' + 11) + rm.locals ≤ R.locals) (hc : k + rm.cells ≤ R.cells) (hs : n + rm.slots ≤ R.slots)
    (K : ∀ (T' : State), own_S p l e R s m args below meth c n0 T' h (k + rm.cells) (n + rm.slots) → own_G p e below s n0 kc ks Q T' (mkF m pc' Ls rest)) : own_G p e below s n0 kc ks Q T (mkF m pc Ls stk) :=
  s_virt pc' A S E w1 w2 nf w5 w6 w3 w4 C hlen hd hst hp hsize hy hf hl hc hs (fun T' h' v q S' => by obtain ⟨rfl, rfl⟩ := q; exact K T' S')
theorem s_spec (pc' : Nat) {y : MethodName} {index : Nat} {bytes' : ByteArray} {maxL' : Nat} {rm : Room} {argsL rest stk : List Value} {b : Addr} {Q' : Option Value → Heap → Prop}
    (A : own_A p l e R s m args below meth c Z own name bytes maxL ret) (S : own_S p l e R s m args below meth c n0 T h k n)
    (w1 : (Jvm.Cond.methodLink own index y).before a0 Z = true) (w2 : (Jvm.Cond.instanceMethod y).before a0 Z = true) (w3 : (Jvm.Cond.initialized y.cls).before a0 Z = true) (w4 : (Jvm.Cond.code y bytes' maxL' none).before a0 Z = true)
    (C : own_C l Z y bytes' maxL' none rm n0 [] (Value.ref b :: argsL).toArray h Q') (hlen : ∀ sig, parseMethodDescriptor y.desc = some sig → argsL.length = sig.parameters.length)
    (hd : decode bytes pc = .ok (.invokespecial index, 3)) (hst : stk = argsL.reverse ++ Value.ref b :: rest) (hp : pc + 3 = pc') (hsize : Ls.size = maxL) (hy1 : y.name = "<init>") (hy : y.cls ≠ "java/lang/invoke/MethodHandle" ∧ y.cls ≠ "java/lang/invoke/VarHandle")
    (hf : rm.frames + 1 ≤ R.frames) (hl : (rest.map fun v => v.category).sum + (maxL' + 11) + rm.locals ≤ R.locals) (hc : k + rm.cells ≤ R.cells) (hs : n + rm.slots ≤ R.slots)
    (K : ∀ (T' : State) (h' : Heap) (v : Option Value), Q' v h' → own_S p l e R s m args below meth c n0 T' h' (k + rm.cells) (n + rm.slots) → own_G p e below s n0 kc ks Q T' (mkF m pc' Ls (v.toList ++ rest))) : own_G p e below s n0 kc ks Q T (mkF m pc Ls stk) := by
  obtain ⟨locs, X, eT, N⟩ := S
  obtain ⟨hx, hby, hml, hown, -, -, -, hZ⟩ := A
  subst hp
  obtain ⟨v, _, ⟨T1, L1, k1, n1⟩, -, X1, ⟨Lc, hQ1, l1, y1, z1⟩, st1⟩ := X.specialBack hx (y := y) hy1 hown (mvT hZ w1) (mvT hZ w2) (mvT hZ w4) hy (backOf (W := (rest.map fun v => v.category).sum) (Q := fun v h L => Q' v h ∧ Fr n0 L) C hZ w4 w3 hf hl) (g := mkF m pc Ls stk) rfl (by rw [hml]; exact hsize) (Steps.refl _) (a := b) (argsL := argsL) (rest := rest) hlen hst (by show 2 * 0 + _ ≤ _; omega) (hb hby hd) (fun _ _ => ⟨rfl, eT, hc, hs⟩)
  dsimp only [Pt.U, Pt.locs, Pt.cells, Pt.slots] at X1 l1 y1 z1 st1 hQ1
  subst l1 y1 z1
  exact own_st (T' := T1) (g' := mkF m _ Ls (v.toList ++ rest)) (fun t => st1.trans) (K T1 T1.heap v hQ1.1 ⟨_, X1, rfl, Fr.app N hQ1.2⟩)
theorem s_specN (pc' : Nat) {y : MethodName} {index : Nat} {bytes' : ByteArray} {maxL' : Nat} {rm : Room} {argsL rest stk : List Value} {b : Addr}
    (A : own_A p l e R s m args below meth c Z own name bytes maxL ret) (S : own_S p l e R s m args below meth c n0 T h k n)
    (w1 : (Jvm.Cond.methodLink own index y).before a0 Z = true) (w2 : (Jvm.Cond.instanceMethod y).before a0 Z = true) (w3 : (Jvm.Cond.initialized y.cls).before a0 Z = true) (w4 : (Jvm.Cond.code y bytes' maxL' none).before a0 Z = true)
    (C : own_C l Z y bytes' maxL' none rm n0 [] (Value.ref b :: argsL).toArray h (fun v h' => v = none ∧ h' = h)) (hlen : ∀ sig, parseMethodDescriptor y.desc = some sig → argsL.length = sig.parameters.length)
    (hd : decode bytes pc = .ok (.invokespecial index, 3)) (hst : stk = argsL.reverse ++ Value.ref b :: rest) (hp : pc + 3 = pc') (hsize : Ls.size = maxL) (hy1 : y.name = "<init>") (hy : y.cls ≠ "java/lang/invoke/MethodHandle" ∧ y.cls ≠ "java/lang/invoke/VarHandle")
    (hf : rm.frames + 1 ≤ R.frames) (hl : (rest.map fun v => v.category).sum + (maxL' + 11) + rm.locals ≤ R.locals) (hc : k + rm.cells ≤ R.cells) (hs : n + rm.slots ≤ R.slots)
    (K : ∀ (T' : State), own_S p l e R s m args below meth c n0 T' h (k + rm.cells) (n + rm.slots) → own_G p e below s n0 kc ks Q T' (mkF m pc' Ls rest)) : own_G p e below s n0 kc ks Q T (mkF m pc Ls stk) :=
  s_spec pc' A S w1 w2 w3 w4 C hlen hd hst hp hsize hy1 hy hf hl hc hs (fun T' h' v q S' => by obtain ⟨rfl, rfl⟩ := q; exact K T' S')
theorem s_getS (pc' : Nat) {O nm dd : String} {index : Nat} {v : Value} (A : own_A p l e R s m args below meth c Z own name bytes maxL ret) (S : own_S p l e R s m args below meth c n0 T h k n)
    (w : (Jvm.Cond.fieldLink own index O nm dd).before a0 Z = true) (F : Sta Z h O nm dd v) (hd : decode bytes pc = .ok (.getstatic index, 3)) (hp : pc + 3 = pc')
    (K : ∀ T', own_S p l e R s m args below meth c n0 T' h k n → own_G p e below s n0 kc ks Q T' (mkF m pc' Ls (v :: st))) : own_G p e below s n0 kc ks Q T (mkF m pc Ls st) := by
  obtain ⟨locs, X, eT, N⟩ := S
  obtain ⟨hx, hby, hml, hown, -, -, -, hZ⟩ := A
  subst hp
  obtain ⟨T1, X1, e1, st1⟩ := getS (host := "") X hx hZ hown w Via.refl eT F (g := mkF m pc Ls st) rfl (hb hby hd)
  exact own_st (T' := T1) (g' := mkF m _ Ls (v :: st)) st1 (K T1 ⟨_, X1, e1, N⟩)
theorem s_getF (pc' : Nat) {O nm dd : String} {index : Nat} {v : Value} {a : Addr} (A : own_A p l e R s m args below meth c Z own name bytes maxL ret) (S : own_S p l e R s m args below meth c n0 T h k n)
    (w : (Jvm.Cond.fieldLink own index O nm dd).before a0 Z = true) (F : Fld Z h a O nm dd v) (hd : decode bytes pc = .ok (.getfield index, 3)) (hp : pc + 3 = pc')
    (K : ∀ T', own_S p l e R s m args below meth c n0 T' h k n → own_G p e below s n0 kc ks Q T' (mkF m pc' Ls (v :: st))) : own_G p e below s n0 kc ks Q T (mkF m pc Ls (.ref a :: st)) := by
  obtain ⟨locs, X, eT, N⟩ := S
  obtain ⟨hx, hby, hml, hown, -, -, -, hZ⟩ := A
  subst hp
  obtain ⟨T1, X1, e1, st1⟩ := getF X hx hZ hown (host := "") (Or.inl w) Via.refl eT F (g := mkF m pc Ls (.ref a :: st)) rfl rfl (hb hby hd)
  exact own_st (T' := T1) (g' := mkF m _ Ls (v :: st)) st1 (K T1 ⟨_, X1, e1, N⟩)
theorem s_putF (pc' : Nat) {O nm dd CC : String} {index kk : Nat} {v old : Value} {a : Addr} {ty : FieldType} (A : own_A p l e R s m args below meth c Z own name bytes maxL ret) (S : own_S p l e R s m args below meth c n0 T h k n)
    (w : (Jvm.Cond.fieldLink own index O nm dd).before a0 Z = true) (F : Fld Z h a O nm dd old) (E : Exa Z h a CC) (L : (Jvm.Cond.lays CC O nm dd).before a0 Z = true ∨ ((Jvm.Cond.laysFinal CC O nm dd).before a0 Z = true ∧ own = O ∧ name = "<init>")) (wi : (Jvm.Cond.instantiable CC kk).before a0 Z = true) (hge : n0 ≤ a)
    (hd : decode bytes pc = .ok (.putfield index, 3)) (hty : parseFieldDescriptor dd = some ty) (hn : narrow ty v = v) (hf : fits ty v = true) (hp : pc + 3 = pc')
    (K : ∀ T' h', Wr h h' a (RoadKit.slotOf Z O nm dd) v → own_S p l e R s m args below meth c n0 T' h' k n → own_G p e below s n0 kc ks Q T' (mkF m pc' Ls st)) : own_G p e below s n0 kc ks Q T (mkF m pc Ls (v :: .ref a :: st)) := by
  obtain ⟨locs, X, eT, N⟩ := S
  obtain ⟨hx, hby, hml, hown, hnm, -, -, hZ⟩ := A
  subst hp
  obtain ⟨T1, h1, X1, e1, W1, st1⟩ := putF X hx hZ hown (host := "") (Or.inl w) Via.refl eT F E (L.imp id fun q => ⟨q.1, q.2.1, hnm.trans q.2.2⟩) wi hty hn hf (g := mkF m pc Ls (v :: .ref a :: st)) rfl rfl (hb hby hd)
  exact own_st (T' := T1) (g' := mkF m _ Ls st) st1 (K T1 h1 W1 ⟨_, X1, e1, Fr.snoc X1 N hge⟩)
theorem s_new (pc' : Nat) {CC : String} {index nn : Nat} (A : own_A p l e R s m args below meth c Z own name bytes maxL ret) (S : own_S p l e R s m args below meth c n0 T h k n)
    (w : (Jvm.Cond.classLink own index CC).before a0 Z = true) (wi : (Jvm.Cond.instantiable CC nn).before a0 Z = true) (wz : (Jvm.Cond.initialized CC).before a0 Z = true) (hd : decode bytes pc = .ok (.new index, 3)) (hp : pc + 3 = pc') (hc : k + 1 ≤ R.cells) (hl : n + nn ≤ R.slots)
    (K : ∀ T' h' (a : Addr), a = h.size → Ext h h' → Exa Z h' a CC → (∀ {O nm dd : String} {ty : FieldType}, Laid Z a0 CC O nm dd → parseFieldDescriptor dd = some ty → Fld Z h' a O nm dd (defaultValue ty)) → own_S p l e R s m args below meth c n0 T' h' (k + 1) (n + nn) → own_G p e below s n0 kc ks Q T' (mkF m pc' Ls (.ref a :: st))) : own_G p e below s n0 kc ks Q T (mkF m pc Ls st) := by
  obtain ⟨locs, X, eT, N⟩ := S
  obtain ⟨hx, hby, hml, hown, -, -, -, hZ⟩ := A
  subst hp
  obtain ⟨T1, h1, X1, e1, E1, A1, D1, -, st1⟩ := newO X hx hZ hown w wi wz eT (g := mkF m pc Ls st) rfl (hb hby hd) hc hl
  exact own_st (T' := T1) (g' := mkF m _ Ls (.ref h.size :: st)) st1 (K T1 h1 h.size rfl E1 A1 D1 ⟨_, X1, e1, N⟩)
theorem s_initO (pc' : Nat) {idx : Nat} {a : Addr} (A : own_A p l e R s m args below meth c Z own name bytes maxL ret) (S : own_S p l e R s m args below meth c n0 T h k n)
    (w1 : (Jvm.Cond.methodLink own idx Lib.objectInit).before a0 Z = true) (w2 : (Jvm.Cond.instanceMethod Lib.objectInit).before a0 Z = true) (w3 : (Jvm.Cond.code Lib.objectInit ⟨#[0xb1]⟩ 1 none).before a0 Z = true) (hd : decode bytes pc = .ok (.invokespecial idx, 3)) (hp : pc + 3 = pc') (hsize : Ls.size = maxL) (hf : 1 ≤ R.frames) (hl : (st.map fun v => v.category).sum + 12 ≤ R.locals)
    (K : ∀ T', own_S p l e R s m args below meth c n0 T' h k n → own_G p e below s n0 kc ks Q T' (mkF m pc' Ls st)) : own_G p e below s n0 kc ks Q T (mkF m pc Ls (.ref a :: st)) := by
  obtain ⟨locs, X, eT, N⟩ := S
  obtain ⟨hx, hby, hml, hown, -, -, -, hZ⟩ := A
  subst hp
  obtain ⟨T1, X1, e1, st1⟩ := initO X hx hZ hown w1 w2 w3 eT (g := mkF m pc Ls (.ref a :: st)) rfl (by rw [hml]; exact hsize) rfl (hb hby hd) hf (W := (st.map fun v => v.category).sum) (by show 2 * 0 + _ ≤ _; omega) hl
  exact own_st (T' := T1) (g' := mkF m _ Ls st) st1 (K T1 ⟨_, X1, e1, N⟩)
theorem s_newP (pc' : Nat) {aty : ArrayType} {z : Int32} {cap : Nat} (A : own_A p l e R s m args below meth c Z own name bytes maxL ret) (S : own_S p l e R s m args below meth c n0 T h k n)
    (w : (Jvm.Cond.arrayClass (newarray.typeOf aty)).before a0 Z = true) (hd : decode bytes pc = .ok (.newarray aty, 2)) (hn : ¬ z < 0) (hcap : z.toNatClampNeg ≤ cap) (hbb : cap * 8 ≤ 536870912) (hp : pc + 2 = pc') (hc : k + 1 ≤ R.cells) (hl : n + cap ≤ R.slots)
    (K : ∀ T' h' (cA : ClassId) (a : Addr), a = h.size → Ext h h' → Arv Z h' a cA (newarray.typeOf aty) z [] (defaultValue (newarray.typeOf aty)) → own_S p l e R s m args below meth c n0 T' h' (k + 1) (n + cap) → own_G p e below s n0 kc ks Q T' (mkF m pc' Ls (.ref a :: st))) : own_G p e below s n0 kc ks Q T (mkF m pc Ls (.int z :: st)) := by
  obtain ⟨locs, X, eT, N⟩ := S
  obtain ⟨hx, hby, hml, hown, -, -, -, hZ⟩ := A
  subst hp
  obtain ⟨T1, h1, cA, X1, e1, E1, A1, st1⟩ := newP X hx hZ w eT (g := mkF m pc Ls (.int z :: st)) rfl (hb hby hd) rfl hn (cap := cap) hcap hbb hc hl
  exact own_st (T' := T1) (g' := mkF m _ Ls (.ref h.size :: st)) st1 (K T1 h1 cA h.size rfl E1 (Arv.new A1 hn) ⟨_, X1, e1, N⟩)
theorem s_alen (pc' : Nat) {a : Addr} {cA : ClassId} {ty : FieldType} {z : Int32} {vs : List Value} {dv : Value} (A : own_A p l e R s m args below meth c Z own name bytes maxL ret) (S : own_S p l e R s m args below meth c n0 T h k n)
    (V : Arv Z h a cA ty z vs dv) (hd : decode bytes pc = .ok (.arraylength, 1)) (hp : pc + 1 = pc') (K : own_G p e below s n0 kc ks Q T (mkF m pc' Ls (.int z :: st))) : own_G p e below s n0 kc ks Q T (mkF m pc Ls (.ref a :: st)) := by
  obtain ⟨locs, X, eT, N⟩ := S
  obtain ⟨hx, hby, hml, hown, -, -, -, hZ⟩ := A
  obtain ⟨cl, Ar, -, S1, N1, -, -⟩ := V
  subst hp
  rw [← len_of S1 N1] at K
  exact own_st (T' := T) (g' := mkF m _ Ls (.int cl.slots.size.toInt32 :: st)) (X.arraylength hx (by rw [eT]; exact Ar.1) (State.isArrayOf_alike hZ.alike Ar.2.1) (g := mkF m pc Ls (.ref a :: st)) rfl rfl (hb hby hd)) K
theorem s_instY (pc' : Nat) {KK : String} {index : Nat} {a : Addr} (A : own_A p l e R s m args below meth c Z own name bytes maxL ret) (S : own_S p l e R s m args below meth c n0 T h k n)
    (w : (Jvm.Cond.classLink own index KK).before a0 Z = true) (F : Ins Z h a KK true) (hd : decode bytes pc = .ok (.instanceof index, 3)) (hp : pc + 3 = pc')
    (K : ∀ T', own_S p l e R s m args below meth c n0 T' h k n → own_G p e below s n0 kc ks Q T' (mkF m pc' Ls (.int 1 :: st))) : own_G p e below s n0 kc ks Q T (mkF m pc Ls (.ref a :: st)) := by
  obtain ⟨locs, X, eT, N⟩ := S
  obtain ⟨hx, hby, hml, hown, -, -, -, hZ⟩ := A
  subst hp
  obtain ⟨T1, X1, e1, st1⟩ := instY X hx hZ hown w eT F (g := mkF m pc Ls (.ref a :: st)) rfl rfl (hb hby hd)
  exact own_st (T' := T1) (g' := mkF m _ Ls (.int 1 :: st)) st1 (K T1 ⟨_, X1, e1, N⟩)
theorem s_instNo (pc' : Nat) {KK CC : String} {index : Nat} {a : Addr} (A : own_A p l e R s m args below meth c Z own name bytes maxL ret) (S : own_S p l e R s m args below meth c n0 T h k n)
    (w : (Jvm.Cond.classLink own index KK).before a0 Z = true) (E : Exa Z h a CC) (F : ∃ c t, Z.vm.findClass CC = some c ∧ Z.vm.findClass KK = some t ∧ Z.vm.assignable c t = false) (hd : decode bytes pc = .ok (.instanceof index, 3)) (hp : pc + 3 = pc')
    (K : ∀ T', own_S p l e R s m args below meth c n0 T' h k n → own_G p e below s n0 kc ks Q T' (mkF m pc' Ls (.int 0 :: st))) : own_G p e below s n0 kc ks Q T (mkF m pc Ls (.ref a :: st)) := by
  obtain ⟨locs, X, eT, N⟩ := S
  obtain ⟨hx, hby, hml, hown, -, -, -, hZ⟩ := A
  subst hp
  obtain ⟨T1, X1, e1, st1⟩ := instNo X hx hZ hown w eT E F (g := mkF m pc Ls (.ref a :: st)) rfl rfl (hb hby hd)
  exact own_st (T' := T1) (g' := mkF m _ Ls (.int 0 :: st)) st1 (K T1 ⟨_, X1, e1, N⟩)
theorem s_instNull (pc' : Nat) {index : Nat} (A : own_A p l e R s m args below meth c Z own name bytes maxL ret) (S : own_S p l e R s m args below meth c n0 T h k n)
    (hd : decode bytes pc = .ok (.instanceof index, 3)) (hp : pc + 3 = pc') (K : own_G p e below s n0 kc ks Q T (mkF m pc' Ls (.int 0 :: st))) : own_G p e below s n0 kc ks Q T (mkF m pc Ls (.null :: st)) := by
  obtain ⟨locs, X, eT, N⟩ := S
  obtain ⟨hx, hby, hml, hown, -, -, -, hZ⟩ := A
  subst hp
  exact own_st (T' := T) (g' := mkF m _ Ls (.int 0 :: st)) (X.instanceofNull hx (g := mkF m pc Ls (.null :: st)) rfl rfl (hb hby hd)) K
theorem s_castY (pc' : Nat) {KK : String} {index : Nat} {a : Addr} (A : own_A p l e R s m args below meth c Z own name bytes maxL ret) (S : own_S p l e R s m args below meth c n0 T h k n)
    (w : (Jvm.Cond.classLink own index KK).before a0 Z = true) (F : Ins Z h a KK true) (hd : decode bytes pc = .ok (.checkcast index, 3)) (hp : pc + 3 = pc')
    (K : ∀ T', own_S p l e R s m args below meth c n0 T' h k n → own_G p e below s n0 kc ks Q T' (mkF m pc' Ls (.ref a :: st))) : own_G p e below s n0 kc ks Q T (mkF m pc Ls (.ref a :: st)) := by
  obtain ⟨locs, X, eT, N⟩ := S
  obtain ⟨hx, hby, hml, hown, -, -, -, hZ⟩ := A
  subst hp
  obtain ⟨T1, X1, e1, st1⟩ := castY X hx hZ hown w eT F (g := mkF m pc Ls (.ref a :: st)) rfl rfl (hb hby hd)
  exact own_st (T' := T1) (g' := mkF m _ Ls (.ref a :: st)) st1 (K T1 ⟨_, X1, e1, N⟩)
theorem s_aald (pc' : Nat) {a : Addr} {cl : Cell} {ty : FieldType} {j : Int32} {v : Value} (A : own_A p l e R s m args below meth c Z own name bytes maxL ret) (S : own_S p l e R s m args below meth c n0 T h k n)
    (Ar : Arr Z h a cl ty) (hty : ty.isReference = true) (hin : ¬ (j < 0 ∨ cl.slots.size ≤ j.toNatClampNeg)) (hv : cl.slots[j.toNatClampNeg]? = some v) (hd : decode bytes pc = .ok (.aaload, 1)) (hp : pc + 1 = pc') (K : own_G p e below s n0 kc ks Q T (mkF m pc' Ls (v :: st))) : own_G p e below s n0 kc ks Q T (mkF m pc Ls (.int j :: .ref a :: st)) := by
  obtain ⟨locs, X, eT, N⟩ := S
  obtain ⟨hx, hby, hml, hown, -, -, -, hZ⟩ := A
  subst hp
  exact own_st (T' := T) (g' := mkF m _ Ls (v :: st)) (X.aaload hx (by rw [eT]; exact Ar.1) (State.isArrayOf_alike hZ.alike Ar.2.1) hty Ar.2.2 hin hv (g := mkF m pc Ls (.int j :: .ref a :: st)) rfl rfl (hb hby hd)) K
theorem s_iald (pc' : Nat) {a : Addr} {cA : ClassId} {z j : Int32} {vs : List Value} {v dv : Value} (A : own_A p l e R s m args below meth c Z own name bytes maxL ret) (S : own_S p l e R s m args below meth c n0 T h k n)
    (V : Arv Z h a cA .int z vs dv) (hj : ¬ j < 0 ∧ j < z) (hv : vs.getD j.toNatClampNeg dv = v) (hd : decode bytes pc = .ok (.iaload, 1)) (hp : pc + 1 = pc') (K : own_G p e below s n0 kc ks Q T (mkF m pc' Ls (v :: st))) : own_G p e below s n0 kc ks Q T (mkF m pc Ls (.int j :: .ref a :: st)) := by
  obtain ⟨locs, X, eT, N⟩ := S
  obtain ⟨hx, hby, hml, hown, -, -, -, hZ⟩ := A
  obtain ⟨cl, Ar, -, S1, N1, H1, G1⟩ := V
  subst hp
  exact own_st (T' := T) (g' := mkF m _ Ls (v :: st)) (X.iaload hx (by rw [eT]; exact Ar.1) (State.isArrayOf_alike hZ.alike Ar.2.1) Ar.2.2 (inb_of S1 hj) (H1.at (inb_of S1 hj) hv) (g := mkF m pc Ls (.int j :: .ref a :: st)) rfl rfl (hb hby hd)) K
theorem s_lald (pc' : Nat) {a : Addr} {cA : ClassId} {z j : Int32} {vs : List Value} {v dv : Value} (A : own_A p l e R s m args below meth c Z own name bytes maxL ret) (S : own_S p l e R s m args below meth c n0 T h k n)
    (V : Arv Z h a cA .long z vs dv) (hj : ¬ j < 0 ∧ j < z) (hv : vs.getD j.toNatClampNeg dv = v) (hd : decode bytes pc = .ok (.laload, 1)) (hp : pc + 1 = pc') (K : own_G p e below s n0 kc ks Q T (mkF m pc' Ls (v :: st))) : own_G p e below s n0 kc ks Q T (mkF m pc Ls (.int j :: .ref a :: st)) := by
  obtain ⟨locs, X, eT, N⟩ := S
  obtain ⟨hx, hby, hml, hown, -, -, -, hZ⟩ := A
  obtain ⟨cl, Ar, -, S1, N1, H1, G1⟩ := V
  subst hp
  exact own_st (T' := T) (g' := mkF m _ Ls (v :: st)) (X.laload hx (by rw [eT]; exact Ar.1) (State.isArrayOf_alike hZ.alike Ar.2.1) Ar.2.2 (inb_of S1 hj) (H1.at (inb_of S1 hj) hv) (g := mkF m pc Ls (.int j :: .ref a :: st)) rfl rfl (hb hby hd)) K
theorem s_bald (pc' : Nat) {a : Addr} {cA : ClassId} {z j : Int32} {vs : List Value} {v dv : Value} (A : own_A p l e R s m args below meth c Z own name bytes maxL ret) (S : own_S p l e R s m args below meth c n0 T h k n)
    (V : Arv Z h a cA .byte z vs dv) (hj : ¬ j < 0 ∧ j < z) (hv : vs.getD j.toNatClampNeg dv = v) (hd : decode bytes pc = .ok (.baload, 1)) (hp : pc + 1 = pc') (K : own_G p e below s n0 kc ks Q T (mkF m pc' Ls (v :: st))) : own_G p e below s n0 kc ks Q T (mkF m pc Ls (.int j :: .ref a :: st)) := by
  obtain ⟨locs, X, eT, N⟩ := S
  obtain ⟨hx, hby, hml, hown, -, -, -, hZ⟩ := A
  obtain ⟨cl, Ar, -, S1, N1, H1, G1⟩ := V
  subst hp
  exact own_st (T' := T) (g' := mkF m _ Ls (v :: st)) (X.baloadBytes hx (by rw [eT]; exact Ar.1) (State.isArrayOf_alike hZ.alike Ar.2.1) Ar.2.2 (inb_of S1 hj) (H1.at (inb_of S1 hj) hv) (g := mkF m pc Ls (.int j :: .ref a :: st)) rfl rfl (hb hby hd)) K
theorem s_cald (pc' : Nat) {a : Addr} {cA : ClassId} {z j : Int32} {vs : List Value} {v dv : Value} (A : own_A p l e R s m args below meth c Z own name bytes maxL ret) (S : own_S p l e R s m args below meth c n0 T h k n)
    (V : Arv Z h a cA .char z vs dv) (hj : ¬ j < 0 ∧ j < z) (hv : vs.getD j.toNatClampNeg dv = v) (hd : decode bytes pc = .ok (.caload, 1)) (hp : pc + 1 = pc') (K : own_G p e below s n0 kc ks Q T (mkF m pc' Ls (v :: st))) : own_G p e below s n0 kc ks Q T (mkF m pc Ls (.int j :: .ref a :: st)) := by
  obtain ⟨locs, X, eT, N⟩ := S
  obtain ⟨hx, hby, hml, hown, -, -, -, hZ⟩ := A
  obtain ⟨cl, Ar, -, S1, N1, H1, G1⟩ := V
  subst hp
  exact own_st (T' := T) (g' := mkF m _ Ls (v :: st)) (X.caload hx (by rw [eT]; exact Ar.1) (State.isArrayOf_alike hZ.alike Ar.2.1) Ar.2.2 (inb_of S1 hj) (H1.at (inb_of S1 hj) hv) (g := mkF m pc Ls (.int j :: .ref a :: st)) rfl rfl (hb hby hd)) K
theorem s_iast (pc' : Nat) {a : Addr} {cA : ClassId} {z j : Int32} {x : Int32} {vs : List Value} {dv : Value} (A : own_A p l e R s m args below meth c Z own name bytes maxL ret) (S : own_S p l e R s m args below meth c n0 T h k n)
    (V : Arv Z h a cA .int z vs dv) (hj : ¬ j < 0 ∧ j < z) (i : Nat) (hi : j.toNatClampNeg = i) (hi' : i < vs.length) (hge : n0 ≤ a) (hd : decode bytes pc = .ok (.iastore, 1)) (hp : pc + 1 = pc')
    (K : ∀ T' h', Wr h h' a i (.int x) → Arv Z h' a cA .int z (vs.set i (.int x)) dv → own_S p l e R s m args below meth c n0 T' h' k n → own_G p e below s n0 kc ks Q T' (mkF m pc' Ls st)) : own_G p e below s n0 kc ks Q T (mkF m pc Ls (.int x :: .int j :: .ref a :: st)) := by
  obtain ⟨locs, X, eT, N⟩ := S
  obtain ⟨hx, hby, hml, hown, -, -, -, hZ⟩ := A
  obtain ⟨cl, Ar, q1, S1, N1, H1, G1⟩ := V
  subst hp
  obtain ⟨T1, h1, X1, e1, W1, st1⟩ := stI X hx hZ eT Ar (j := j) (inb_of S1 hj) (g := mkF m pc Ls (.int x :: .int j :: .ref a :: st)) rfl rfl (hb hby hd)
  have V1 := Arv.set Ar q1 S1 N1 H1 G1 rfl W1 i hi hi'
  rw [hi] at W1
  exact own_st (T' := T1) (g' := mkF m _ Ls st) st1 (K T1 h1 W1 V1 ⟨_, X1, e1, Fr.snoc X1 N hge⟩)
theorem s_last (pc' : Nat) {a : Addr} {cA : ClassId} {z j : Int32} {x : Int64} {vs : List Value} {dv : Value} (A : own_A p l e R s m args below meth c Z own name bytes maxL ret) (S : own_S p l e R s m args below meth c n0 T h k n)
    (V : Arv Z h a cA .long z vs dv) (hj : ¬ j < 0 ∧ j < z) (i : Nat) (hi : j.toNatClampNeg = i) (hi' : i < vs.length) (hge : n0 ≤ a) (hd : decode bytes pc = .ok (.lastore, 1)) (hp : pc + 1 = pc')
    (K : ∀ T' h', Wr h h' a i (.long x) → Arv Z h' a cA .long z (vs.set i (.long x)) dv → own_S p l e R s m args below meth c n0 T' h' k n → own_G p e below s n0 kc ks Q T' (mkF m pc' Ls st)) : own_G p e below s n0 kc ks Q T (mkF m pc Ls (.long x :: .int j :: .ref a :: st)) := by
  obtain ⟨locs, X, eT, N⟩ := S
  obtain ⟨hx, hby, hml, hown, -, -, -, hZ⟩ := A
  obtain ⟨cl, Ar, q1, S1, N1, H1, G1⟩ := V
  subst hp
  obtain ⟨T1, h1, X1, e1, W1, st1⟩ := stJ X hx hZ eT Ar (j := j) (inb_of S1 hj) (g := mkF m pc Ls (.long x :: .int j :: .ref a :: st)) rfl rfl (hb hby hd)
  have V1 := Arv.set Ar q1 S1 N1 H1 G1 rfl W1 i hi hi'
  rw [hi] at W1
  exact own_st (T' := T1) (g' := mkF m _ Ls st) st1 (K T1 h1 W1 V1 ⟨_, X1, e1, Fr.snoc X1 N hge⟩)
theorem s_bast (pc' : Nat) {a : Addr} {cA : ClassId} {z j : Int32} {x : Int32} {vs : List Value} {dv : Value} (A : own_A p l e R s m args below meth c Z own name bytes maxL ret) (S : own_S p l e R s m args below meth c n0 T h k n)
    (V : Arv Z h a cA .byte z vs dv) (hj : ¬ j < 0 ∧ j < z) (i : Nat) (hi : j.toNatClampNeg = i) (hi' : i < vs.length) (hge : n0 ≤ a) (hd : decode bytes pc = .ok (.bastore, 1)) (hp : pc + 1 = pc')
    (K : ∀ T' h', Wr h h' a i (.int (nar .byte x)) → Arv Z h' a cA .byte z (vs.set i (.int (nar .byte x))) dv → own_S p l e R s m args below meth c n0 T' h' k n → own_G p e below s n0 kc ks Q T' (mkF m pc' Ls st)) : own_G p e below s n0 kc ks Q T (mkF m pc Ls (.int x :: .int j :: .ref a :: st)) := by
  obtain ⟨locs, X, eT, N⟩ := S
  obtain ⟨hx, hby, hml, hown, -, -, -, hZ⟩ := A
  obtain ⟨cl, Ar, q1, S1, N1, H1, G1⟩ := V
  subst hp
  obtain ⟨T1, h1, X1, e1, W1, st1⟩ := stB X hx hZ eT Ar (j := j) (inb_of S1 hj) (g := mkF m pc Ls (.int x :: .int j :: .ref a :: st)) rfl rfl (hb hby hd)
  have V1 := Arv.set Ar q1 S1 N1 H1 G1 (fits_nar_byte _) W1 i hi hi'
  rw [hi] at W1
  exact own_st (T' := T1) (g' := mkF m _ Ls st) st1 (K T1 h1 W1 V1 ⟨_, X1, e1, Fr.snoc X1 N hge⟩)
theorem s_cast (pc' : Nat) {a : Addr} {cA : ClassId} {z j : Int32} {x : Int32} {vs : List Value} {dv : Value} (A : own_A p l e R s m args below meth c Z own name bytes maxL ret) (S : own_S p l e R s m args below meth c n0 T h k n)
    (V : Arv Z h a cA .char z vs dv) (hj : ¬ j < 0 ∧ j < z) (i : Nat) (hi : j.toNatClampNeg = i) (hi' : i < vs.length) (hge : n0 ≤ a) (hd : decode bytes pc = .ok (.castore, 1)) (hp : pc + 1 = pc')
    (K : ∀ T' h', Wr h h' a i (.int (nar .char x)) → Arv Z h' a cA .char z (vs.set i (.int (nar .char x))) dv → own_S p l e R s m args below meth c n0 T' h' k n → own_G p e below s n0 kc ks Q T' (mkF m pc' Ls st)) : own_G p e below s n0 kc ks Q T (mkF m pc Ls (.int x :: .int j :: .ref a :: st)) := by
  obtain ⟨locs, X, eT, N⟩ := S
  obtain ⟨hx, hby, hml, hown, -, -, -, hZ⟩ := A
  obtain ⟨cl, Ar, q1, S1, N1, H1, G1⟩ := V
  subst hp
  obtain ⟨T1, h1, X1, e1, W1, st1⟩ := stC X hx hZ eT Ar (j := j) (inb_of S1 hj) (g := mkF m pc Ls (.int x :: .int j :: .ref a :: st)) rfl rfl (hb hby hd)
  have V1 := Arv.set Ar q1 S1 N1 H1 G1 (fits_nar_char _) W1 i hi hi'
  rw [hi] at W1
  exact own_st (T' := T1) (g' := mkF m _ Ls st) st1 (K T1 h1 W1 V1 ⟨_, X1, e1, Fr.snoc X1 N hge⟩)
end OwnLayer
def own_ch (x : Int32) : Int32 := x.toUInt32.toUInt16.toUInt32.toInt32
theorem own_chN (x : Int32) : narrow .char (.int (own_ch x)) = .int (own_ch x) := by
  show Value.int (own_ch (own_ch x)) = _
  congr 1
  apply Int32.toInt_inj.mp
  have h1 := c_i2c x; have h2 := c_i2c (own_ch x)
  change (((own_ch x).toInt - x.toInt) % 65536 = 0 ∧ _) at h1
  change (((own_ch (own_ch x)).toInt - (own_ch x).toInt) % 65536 = 0 ∧ 0 ≤ (own_ch (own_ch x)).toInt ∧ (own_ch (own_ch x)).toInt < 65536) at h2
  have h3 : 0 ≤ (own_ch x).toInt ∧ (own_ch x).toInt < 65536 := h1.2
  omega
theorem own_chF (x : Int32) : fits .char (.int (own_ch x)) = true := fits_nar_char x
def own_ok (x : Int32) : Prop := narrow .char (.int x) = .int x ∧ fits .char (.int x) = true
theorem own_okc (x : Int32) : own_ok (own_ch x) := ⟨own_chN x, own_chF x⟩
def own_d (f o r e1 u q : Int32) : Int32 := if q = f ∨ q = o ∨ q = r ∨ q = u ∨ q = e1 then 1 else 0
theorem own_d1 {f o r e1 u q : Int32} (hh : q = f ∨ q = o ∨ q = r ∨ q = u ∨ q = e1) : own_d f o r e1 u q = 1 := if_pos hh
theorem own_d0 {f o r e1 u q : Int32} (h1 : ¬ q = f) (h2 : ¬ q = o) (h3 : ¬ q = r) (h4 : ¬ q = u) (h5 : ¬ q = e1) : own_d f o r e1 u q = 0 := if_neg fun w => by rcases w with w | w | w | w | w <;> contradiction
theorem pd__CCCCC_V : parseMethodDescriptor "(CCCCC)V" = some ⟨[.char, .char, .char, .char, .char], none⟩ := by decide +kernel
theorem pd__C_Z : parseMethodDescriptor "(C)Z" = some ⟨[.char], some .boolean⟩ := by decide +kernel
theorem pd___V : parseMethodDescriptor "()V" = some ⟨[], none⟩ := by decide +kernel
theorem d2_0 : decode jdk_30_method_1_code 0 = .ok (.aload_n 0, 1) := by decide +kernel
theorem d2_1 : decode jdk_30_method_1_code 1 = .ok (.invokespecial 1, 3) := by decide +kernel
theorem d2_4 : decode jdk_30_method_1_code 4 = .ok (.return_, 1) := by decide +kernel
theorem pn_2 : plainFor (⟨"java/lang/Record", "<init>", "()V"⟩ : MethodName) = true := plainFor_of_name (by first | (simp [plainName, overriddenIn]; done) | decide +kernel)
theorem ef_2 (m : MethodId) (x0 : Addr) : entryFrame m #[(.ref x0)] 1 = mkF m 0 #[.val (.ref x0)] [] := by first | (simp [entryFrame, mkF, argsToLocals, Value.category]; done) | rfl
set_option maxRecDepth 65536 in
set_option maxHeartbeats 40000000 in
theorem rm2 (l : Launch) (Z : State) (a0 : Array Value) (hw : ∀ d ∈ tables_1, d.before a0 Z = true) (ws : List Jvm.Cond) (b : Addr) (h0 : Heap) (n0 : Nat) (Z0 : n0 ≤ h0.size)  :
    own_C l Z (⟨"java/lang/Record", "<init>", "()V"⟩ : MethodName) jdk_30_method_1_code 1 none ({ frames := 1, cells := 0, slots := 0, locals := 12 } : Room) n0 ws #[(.ref b)] h0 (fun v h' => v = none ∧ h' = h0) := by
  refine own_C.of pn_2 Z0 ?_
  intro p e s m below meth c T A S
  rw [ef_2]
  refine s_aloadN 1 A S d2_0 rfl (by first | rfl | assumption) rfl ?_
  refine s_initO 4 A S (hw _ (List.mem_of_getElem? (i := 11) rfl)) (hw _ (List.mem_of_getElem? (i := 12) rfl)) (hw _ (List.mem_of_getElem? (i := 13) rfl)) d2_1 rfl rfl (by decide) (Nat.le_of_ble_eq_true rfl) fun T1 S2 => ?_
  exact s_ret A S2 d2_4 (by decide) (by decide) ⟨rfl, rfl⟩
theorem d1_0 : decode prog_16_method_1_code 0 = .ok (.aload_n 0, 1) := by decide +kernel
theorem d1_1 : decode prog_16_method_1_code 1 = .ok (.invokespecial 1, 3) := by decide +kernel
theorem d1_4 : decode prog_16_method_1_code 4 = .ok (.aload_n 0, 1) := by decide +kernel
theorem d1_5 : decode prog_16_method_1_code 5 = .ok (.iload_n 1, 1) := by decide +kernel
theorem d1_6 : decode prog_16_method_1_code 6 = .ok (.putfield 7, 3) := by decide +kernel
theorem d1_9 : decode prog_16_method_1_code 9 = .ok (.aload_n 0, 1) := by decide +kernel
theorem d1_10 : decode prog_16_method_1_code 10 = .ok (.iload_n 2, 1) := by decide +kernel
theorem d1_11 : decode prog_16_method_1_code 11 = .ok (.putfield 13, 3) := by decide +kernel
theorem d1_14 : decode prog_16_method_1_code 14 = .ok (.aload_n 0, 1) := by decide +kernel
theorem d1_15 : decode prog_16_method_1_code 15 = .ok (.iload_n 3, 1) := by decide +kernel
theorem d1_16 : decode prog_16_method_1_code 16 = .ok (.putfield 16, 3) := by decide +kernel
theorem d1_19 : decode prog_16_method_1_code 19 = .ok (.aload_n 0, 1) := by decide +kernel
theorem d1_20 : decode prog_16_method_1_code 20 = .ok (.iload 4, 2) := by decide +kernel
theorem d1_22 : decode prog_16_method_1_code 22 = .ok (.putfield 19, 3) := by decide +kernel
theorem d1_25 : decode prog_16_method_1_code 25 = .ok (.aload_n 0, 1) := by decide +kernel
theorem d1_26 : decode prog_16_method_1_code 26 = .ok (.iload 5, 2) := by decide +kernel
theorem d1_28 : decode prog_16_method_1_code 28 = .ok (.putfield 22, 3) := by decide +kernel
theorem d1_31 : decode prog_16_method_1_code 31 = .ok (.return_, 1) := by decide +kernel
theorem pn_1 : plainFor (⟨"com/example/vitalwire/vitalwire/codec/Delimiters", "<init>", "(CCCCC)V"⟩ : MethodName) = true := plainFor_of_name (by first | (simp [plainName, overriddenIn]; done) | decide +kernel)
theorem ef_1 (m : MethodId) (x0 : Addr) (x1 : Int32) (x2 : Int32) (x3 : Int32) (x4 : Int32) (x5 : Int32) : entryFrame m #[(.ref x0), (.int x1), (.int x2), (.int x3), (.int x4), (.int x5)] 6 = mkF m 0 #[.val (.ref x0), .val (.int x1), .val (.int x2), .val (.int x3), .val (.int x4), .val (.int x5)] [] := by first | (simp [entryFrame, mkF, argsToLocals, Value.category]; done) | rfl
set_option maxRecDepth 65536 in
set_option maxHeartbeats 40000000 in
theorem rm1 (l : Launch) (Z : State) (a0 : Array Value) (hw : ∀ d ∈ tables_1, d.before a0 Z = true) (ws : List Jvm.Cond) (b : Addr) (f o r e1 u : Int32) (h0 : Heap) (n0 : Nat) (Z0 : n0 ≤ h0.size) (E0 : Exa Z h0 b "com/example/vitalwire/vitalwire/codec/Delimiters") (F0 : Fld Z h0 b "com/example/vitalwire/vitalwire/codec/Delimiters" "field" "C" (.int (0 : Int32))) (F1 : Fld Z h0 b "com/example/vitalwire/vitalwire/codec/Delimiters" "component" "C" (.int (0 : Int32))) (F2 : Fld Z h0 b "com/example/vitalwire/vitalwire/codec/Delimiters" "repetition" "C" (.int (0 : Int32))) (F3 : Fld Z h0 b "com/example/vitalwire/vitalwire/codec/Delimiters" "escape" "C" (.int (0 : Int32))) (F4 : Fld Z h0 b "com/example/vitalwire/vitalwire/codec/Delimiters" "subcomponent" "C" (.int (0 : Int32))) (g0 : n0 ≤ b) (k0 : own_ok f) (k1 : own_ok o) (k2 : own_ok r) (k3 : own_ok e1) (k4 : own_ok u) :
    own_C l Z (⟨"com/example/vitalwire/vitalwire/codec/Delimiters", "<init>", "(CCCCC)V"⟩ : MethodName) prog_16_method_1_code 6 none ({ frames := 2, cells := 0, slots := 0, locals := 24 } : Room) n0 ws #[(.ref b), (.int f), (.int o), (.int r), (.int e1), (.int u)] h0 (fun v h' => v = none ∧ Keep h0 h' [b] ∧ Exa Z h' b "com/example/vitalwire/vitalwire/codec/Delimiters" ∧ Fld Z h' b "com/example/vitalwire/vitalwire/codec/Delimiters" "field" "C" (.int f) ∧ Fld Z h' b "com/example/vitalwire/vitalwire/codec/Delimiters" "component" "C" (.int o) ∧ Fld Z h' b "com/example/vitalwire/vitalwire/codec/Delimiters" "repetition" "C" (.int r) ∧ Fld Z h' b "com/example/vitalwire/vitalwire/codec/Delimiters" "escape" "C" (.int e1) ∧ Fld Z h' b "com/example/vitalwire/vitalwire/codec/Delimiters" "subcomponent" "C" (.int u)) := by
  refine own_C.of pn_1 Z0 ?_
  intro p e s m below meth c T A S
  rw [ef_1]
  refine s_aloadN 1 A S d1_0 rfl (by first | rfl | assumption) rfl ?_
  refine s_specN (y := (⟨"java/lang/Record", "<init>", "()V"⟩ : MethodName)) (argsL := []) (rest := []) (b := b) 4 A S (hw _ (List.mem_of_getElem? (i := 6) rfl)) (hw _ (List.mem_of_getElem? (i := 7) rfl)) (hw _ (List.mem_of_getElem? (i := 9) rfl)) (hw _ (List.mem_of_getElem? (i := 10) rfl)) (rm2 l Z a0 hw [] b h0 n0 Z0) (lenOf pd___V rfl) d1_1 rfl rfl rfl rfl (by decide) (by decide) (Nat.le_of_ble_eq_true rfl) (by decide) (by decide) fun T1 S2 => ?_
  refine s_aloadN 5 A S2 d1_4 rfl (by first | rfl | assumption) rfl ?_
  refine s_iloadN 6 A S2 d1_5 rfl rfl ?_
  refine s_putF (ty := .char) 9 A S2 (hw _ (List.mem_of_getElem? (i := 14) rfl)) F0 E0 (Or.inr ⟨(hw _ (List.mem_of_getElem? (i := 15) rfl)), rfl, rfl⟩) (hw _ (List.mem_of_getElem? (i := 1) rfl)) g0 d1_6 (by decide) k0.1 k0.2 rfl fun T3 h4 W6 S5 => ?_
  have F7 := Fld.same W6 F0
  have F9 := Fld.other W6 F1 (Or.inr (slot_ne (Or.inr (hw _ (List.mem_of_getElem? (i := 17) rfl))) (Or.inr (hw _ (List.mem_of_getElem? (i := 15) rfl))) (by decide) (t := .char) (t' := .char) (by decide) (by decide)))
  have F10 := Fld.other W6 F2 (Or.inr (slot_ne (Or.inr (hw _ (List.mem_of_getElem? (i := 19) rfl))) (Or.inr (hw _ (List.mem_of_getElem? (i := 15) rfl))) (by decide) (t := .char) (t' := .char) (by decide) (by decide)))
  have F11 := Fld.other W6 F3 (Or.inr (slot_ne (Or.inr (hw _ (List.mem_of_getElem? (i := 21) rfl))) (Or.inr (hw _ (List.mem_of_getElem? (i := 15) rfl))) (by decide) (t := .char) (t' := .char) (by decide) (by decide)))
  have F12 := Fld.other W6 F4 (Or.inr (slot_ne (Or.inr (hw _ (List.mem_of_getElem? (i := 23) rfl))) (Or.inr (hw _ (List.mem_of_getElem? (i := 15) rfl))) (by decide) (t := .char) (t' := .char) (by decide) (by decide)))
  have E13 := Exa.wr W6 E0
  have Z14 : n0 ≤ h4.size := by rw [W6.size]; exact Z0
  have K15 : Keep h0 h4 [b] := (Keep.refl h0 [b]).wr W6 (Or.inl (List.mem_of_getElem? (i := 0) rfl))
  refine s_aloadN 10 A S5 d1_9 rfl (by first | rfl | assumption) rfl ?_
  refine s_iloadN 11 A S5 d1_10 rfl rfl ?_
  refine s_putF (ty := .char) 14 A S5 (hw _ (List.mem_of_getElem? (i := 16) rfl)) F9 E13 (Or.inr ⟨(hw _ (List.mem_of_getElem? (i := 17) rfl)), rfl, rfl⟩) (hw _ (List.mem_of_getElem? (i := 1) rfl)) g0 d1_11 (by decide) k1.1 k1.2 rfl fun T16 h17 W19 S18 => ?_
  have F20 := Fld.same W19 F9
  have F21 := Fld.other W19 F7 (Or.inr (slot_ne (Or.inr (hw _ (List.mem_of_getElem? (i := 15) rfl))) (Or.inr (hw _ (List.mem_of_getElem? (i := 17) rfl))) (by decide) (t := .char) (t' := .char) (by decide) (by decide)))
  have F23 := Fld.other W19 F10 (Or.inr (slot_ne (Or.inr (hw _ (List.mem_of_getElem? (i := 19) rfl))) (Or.inr (hw _ (List.mem_of_getElem? (i := 17) rfl))) (by decide) (t := .char) (t' := .char) (by decide) (by decide)))
  have F24 := Fld.other W19 F11 (Or.inr (slot_ne (Or.inr (hw _ (List.mem_of_getElem? (i := 21) rfl))) (Or.inr (hw _ (List.mem_of_getElem? (i := 17) rfl))) (by decide) (t := .char) (t' := .char) (by decide) (by decide)))
  have F25 := Fld.other W19 F12 (Or.inr (slot_ne (Or.inr (hw _ (List.mem_of_getElem? (i := 23) rfl))) (Or.inr (hw _ (List.mem_of_getElem? (i := 17) rfl))) (by decide) (t := .char) (t' := .char) (by decide) (by decide)))
  have E26 := Exa.wr W19 E13
  have Z27 : n0 ≤ h17.size := by rw [W19.size]; exact Z14
  have K28 : Keep h0 h17 [b] := K15.wr W19 (Or.inl (List.mem_of_getElem? (i := 0) rfl))
  refine s_aloadN 15 A S18 d1_14 rfl (by first | rfl | assumption) rfl ?_
  refine s_iloadN 16 A S18 d1_15 rfl rfl ?_
  refine s_putF (ty := .char) 19 A S18 (hw _ (List.mem_of_getElem? (i := 18) rfl)) F23 E26 (Or.inr ⟨(hw _ (List.mem_of_getElem? (i := 19) rfl)), rfl, rfl⟩) (hw _ (List.mem_of_getElem? (i := 1) rfl)) g0 d1_16 (by decide) k2.1 k2.2 rfl fun T29 h30 W32 S31 => ?_
  have F33 := Fld.same W32 F23
  have F34 := Fld.other W32 F21 (Or.inr (slot_ne (Or.inr (hw _ (List.mem_of_getElem? (i := 15) rfl))) (Or.inr (hw _ (List.mem_of_getElem? (i := 19) rfl))) (by decide) (t := .char) (t' := .char) (by decide) (by decide)))
  have F35 := Fld.other W32 F20 (Or.inr (slot_ne (Or.inr (hw _ (List.mem_of_getElem? (i := 17) rfl))) (Or.inr (hw _ (List.mem_of_getElem? (i := 19) rfl))) (by decide) (t := .char) (t' := .char) (by decide) (by decide)))
  have F37 := Fld.other W32 F24 (Or.inr (slot_ne (Or.inr (hw _ (List.mem_of_getElem? (i := 21) rfl))) (Or.inr (hw _ (List.mem_of_getElem? (i := 19) rfl))) (by decide) (t := .char) (t' := .char) (by decide) (by decide)))
  have F38 := Fld.other W32 F25 (Or.inr (slot_ne (Or.inr (hw _ (List.mem_of_getElem? (i := 23) rfl))) (Or.inr (hw _ (List.mem_of_getElem? (i := 19) rfl))) (by decide) (t := .char) (t' := .char) (by decide) (by decide)))
  have E39 := Exa.wr W32 E26
  have Z40 : n0 ≤ h30.size := by rw [W32.size]; exact Z27
  have K41 : Keep h0 h30 [b] := K28.wr W32 (Or.inl (List.mem_of_getElem? (i := 0) rfl))
  refine s_aloadN 20 A S31 d1_19 rfl (by first | rfl | assumption) rfl ?_
  refine s_iload 22 A S31 d1_20 rfl rfl ?_
  refine s_putF (ty := .char) 25 A S31 (hw _ (List.mem_of_getElem? (i := 20) rfl)) F37 E39 (Or.inr ⟨(hw _ (List.mem_of_getElem? (i := 21) rfl)), rfl, rfl⟩) (hw _ (List.mem_of_getElem? (i := 1) rfl)) g0 d1_22 (by decide) k3.1 k3.2 rfl fun T42 h43 W45 S44 => ?_
  have F46 := Fld.same W45 F37
  have F47 := Fld.other W45 F34 (Or.inr (slot_ne (Or.inr (hw _ (List.mem_of_getElem? (i := 15) rfl))) (Or.inr (hw _ (List.mem_of_getElem? (i := 21) rfl))) (by decide) (t := .char) (t' := .char) (by decide) (by decide)))
  have F48 := Fld.other W45 F35 (Or.inr (slot_ne (Or.inr (hw _ (List.mem_of_getElem? (i := 17) rfl))) (Or.inr (hw _ (List.mem_of_getElem? (i := 21) rfl))) (by decide) (t := .char) (t' := .char) (by decide) (by decide)))
  have F49 := Fld.other W45 F33 (Or.inr (slot_ne (Or.inr (hw _ (List.mem_of_getElem? (i := 19) rfl))) (Or.inr (hw _ (List.mem_of_getElem? (i := 21) rfl))) (by decide) (t := .char) (t' := .char) (by decide) (by decide)))
  have F51 := Fld.other W45 F38 (Or.inr (slot_ne (Or.inr (hw _ (List.mem_of_getElem? (i := 23) rfl))) (Or.inr (hw _ (List.mem_of_getElem? (i := 21) rfl))) (by decide) (t := .char) (t' := .char) (by decide) (by decide)))
  have E52 := Exa.wr W45 E39
  have Z53 : n0 ≤ h43.size := by rw [W45.size]; exact Z40
  have K54 : Keep h0 h43 [b] := K41.wr W45 (Or.inl (List.mem_of_getElem? (i := 0) rfl))
  refine s_aloadN 26 A S44 d1_25 rfl (by first | rfl | assumption) rfl ?_
  refine s_iload 28 A S44 d1_26 rfl rfl ?_
  refine s_putF (ty := .char) 31 A S44 (hw _ (List.mem_of_getElem? (i := 22) rfl)) F51 E52 (Or.inr ⟨(hw _ (List.mem_of_getElem? (i := 23) rfl)), rfl, rfl⟩) (hw _ (List.mem_of_getElem? (i := 1) rfl)) g0 d1_28 (by decide) k4.1 k4.2 rfl fun T55 h56 W58 S57 => ?_
  have F59 := Fld.same W58 F51
  have F60 := Fld.other W58 F47 (Or.inr (slot_ne (Or.inr (hw _ (List.mem_of_getElem? (i := 15) rfl))) (Or.inr (hw _ (List.mem_of_getElem? (i := 23) rfl))) (by decide) (t := .char) (t' := .char) (by decide) (by decide)))
  have F61 := Fld.other W58 F48 (Or.inr (slot_ne (Or.inr (hw _ (List.mem_of_getElem? (i := 17) rfl))) (Or.inr (hw _ (List.mem_of_getElem? (i := 23) rfl))) (by decide) (t := .char) (t' := .char) (by decide) (by decide)))
  have F62 := Fld.other W58 F49 (Or.inr (slot_ne (Or.inr (hw _ (List.mem_of_getElem? (i := 19) rfl))) (Or.inr (hw _ (List.mem_of_getElem? (i := 23) rfl))) (by decide) (t := .char) (t' := .char) (by decide) (by decide)))
  have F63 := Fld.other W58 F46 (Or.inr (slot_ne (Or.inr (hw _ (List.mem_of_getElem? (i := 21) rfl))) (Or.inr (hw _ (List.mem_of_getElem? (i := 23) rfl))) (by decide) (t := .char) (t' := .char) (by decide) (by decide)))
  have E65 := Exa.wr W58 E52
  have Z66 : n0 ≤ h56.size := by rw [W58.size]; exact Z53
  have K67 : Keep h0 h56 [b] := K54.wr W58 (Or.inl (List.mem_of_getElem? (i := 0) rfl))
  exact s_ret A S57 d1_31 (by decide) (by decide) ⟨rfl, K67, E65, F60, F61, F62, F63, F59⟩
theorem d4_0 : decode prog_16_method_3_code 0 = .ok (.iload_n 1, 1) := by decide +kernel
theorem d4_1 : decode prog_16_method_3_code 1 = .ok (.aload_n 0, 1) := by decide +kernel
theorem d4_2 : decode prog_16_method_3_code 2 = .ok (.getfield 7, 3) := by decide +kernel
theorem d4_5 : decode prog_16_method_3_code 5 = .ok (.if_icmp .eq 35, 3) := by decide +kernel
theorem d4_8 : decode prog_16_method_3_code 8 = .ok (.iload_n 1, 1) := by decide +kernel
theorem d4_9 : decode prog_16_method_3_code 9 = .ok (.aload_n 0, 1) := by decide +kernel
theorem d4_10 : decode prog_16_method_3_code 10 = .ok (.getfield 13, 3) := by decide +kernel
theorem d4_13 : decode prog_16_method_3_code 13 = .ok (.if_icmp .eq 27, 3) := by decide +kernel
theorem d4_16 : decode prog_16_method_3_code 16 = .ok (.iload_n 1, 1) := by decide +kernel
theorem d4_17 : decode prog_16_method_3_code 17 = .ok (.aload_n 0, 1) := by decide +kernel
theorem d4_18 : decode prog_16_method_3_code 18 = .ok (.getfield 16, 3) := by decide +kernel
theorem d4_21 : decode prog_16_method_3_code 21 = .ok (.if_icmp .eq 19, 3) := by decide +kernel
theorem d4_24 : decode prog_16_method_3_code 24 = .ok (.iload_n 1, 1) := by decide +kernel
theorem d4_25 : decode prog_16_method_3_code 25 = .ok (.aload_n 0, 1) := by decide +kernel
theorem d4_26 : decode prog_16_method_3_code 26 = .ok (.getfield 22, 3) := by decide +kernel
theorem d4_29 : decode prog_16_method_3_code 29 = .ok (.if_icmp .eq 11, 3) := by decide +kernel
theorem d4_32 : decode prog_16_method_3_code 32 = .ok (.iload_n 1, 1) := by decide +kernel
theorem d4_33 : decode prog_16_method_3_code 33 = .ok (.aload_n 0, 1) := by decide +kernel
theorem d4_34 : decode prog_16_method_3_code 34 = .ok (.getfield 19, 3) := by decide +kernel
theorem d4_37 : decode prog_16_method_3_code 37 = .ok (.if_icmp .ne 7, 3) := by decide +kernel
theorem d4_40 : decode prog_16_method_3_code 40 = .ok (.iconst 1, 1) := by decide +kernel
theorem d4_41 : decode prog_16_method_3_code 41 = .ok (.goto 4, 3) := by decide +kernel
theorem d4_44 : decode prog_16_method_3_code 44 = .ok (.iconst 0, 1) := by decide +kernel
theorem d4_45 : decode prog_16_method_3_code 45 = .ok (.ireturn, 1) := by decide +kernel
theorem pn_4 : plainFor (⟨"com/example/vitalwire/vitalwire/codec/Delimiters", "isDelimiter", "(C)Z"⟩ : MethodName) = true := plainFor_of_name (by first | (simp [plainName, overriddenIn]; done) | decide +kernel)
theorem ef_4 (m : MethodId) (x0 : Addr) (x1 : Int32) : entryFrame m #[(.ref x0), (.int x1)] 2 = mkF m 0 #[.val (.ref x0), .val (.int x1)] [] := by first | (simp [entryFrame, mkF, argsToLocals, Value.category]; done) | rfl
set_option maxRecDepth 65536 in
set_option maxHeartbeats 40000000 in
theorem rm4 (l : Launch) (Z : State) (a0 : Array Value) (hw : ∀ d ∈ tables_1, d.before a0 Z = true) (ws : List Jvm.Cond) (b : Addr) (f o r e1 u q : Int32) (h0 : Heap) (n0 : Nat) (Z0 : n0 ≤ h0.size) (F0 : Fld Z h0 b "com/example/vitalwire/vitalwire/codec/Delimiters" "field" "C" (.int f)) (F1 : Fld Z h0 b "com/example/vitalwire/vitalwire/codec/Delimiters" "component" "C" (.int o)) (F2 : Fld Z h0 b "com/example/vitalwire/vitalwire/codec/Delimiters" "repetition" "C" (.int r)) (F3 : Fld Z h0 b "com/example/vitalwire/vitalwire/codec/Delimiters" "escape" "C" (.int e1)) (F4 : Fld Z h0 b "com/example/vitalwire/vitalwire/codec/Delimiters" "subcomponent" "C" (.int u)) :
    own_C l Z (⟨"com/example/vitalwire/vitalwire/codec/Delimiters", "isDelimiter", "(C)Z"⟩ : MethodName) prog_16_method_3_code 2 (some .boolean) ({ frames := 0, cells := 0, slots := 0, locals := 0 } : Room) n0 ws #[(.ref b), (.int q)] h0 (fun v h' => v = some (.int (own_d f o r e1 u q)) ∧ h' = h0) := by
  refine own_C.of pn_4 Z0 ?_
  intro p e s m below meth c T A S
  rw [ef_4]
  refine s_iloadN 1 A S d4_0 rfl rfl ?_
  refine s_aloadN 2 A S d4_1 rfl (by first | rfl | assumption) rfl ?_
  refine s_getF 5 A S (hw _ (List.mem_of_getElem? (i := 14) rfl)) F0 d4_2 rfl fun T1 S2 => ?_
  refine s_ieq 40 8 A S2 rfl rfl d4_5 (by decide) (by decide) rfl (fun c3 tc3 => ?_) (fun c3 tc3 => ?_)
  · refine s_iconst (z := (1 : Int32)) 41 A S2 d4_40 rfl rfl ?_
    refine s_goto 45 A S2 d4_41 (by decide) (by decide) ?_
    exact s_retZ A S2 d4_45 rfl (by decide) (by decide) ⟨by rw [own_d1 (by first | exact Or.inl c3 | exact Or.inr (Or.inl c3) | exact Or.inr (Or.inr (Or.inl c3)) | exact Or.inr (Or.inr (Or.inr (Or.inl c3))) | exact Or.inr (Or.inr (Or.inr (Or.inr c3))))], rfl⟩
  · refine s_iloadN 9 A S2 d4_8 rfl rfl ?_
    refine s_aloadN 10 A S2 d4_9 rfl (by first | rfl | assumption) rfl ?_
    refine s_getF 13 A S2 (hw _ (List.mem_of_getElem? (i := 16) rfl)) F1 d4_10 rfl fun T4 S5 => ?_
    refine s_ieq 40 16 A S5 rfl rfl d4_13 (by decide) (by decide) rfl (fun c6 tc6 => ?_) (fun c6 tc6 => ?_)
    · refine s_iconst (z := (1 : Int32)) 41 A S5 d4_40 rfl rfl ?_
      refine s_goto 45 A S5 d4_41 (by decide) (by decide) ?_
      exact s_retZ A S5 d4_45 rfl (by decide) (by decide) ⟨by rw [own_d1 (by first | exact Or.inl c6 | exact Or.inr (Or.inl c6) | exact Or.inr (Or.inr (Or.inl c6)) | exact Or.inr (Or.inr (Or.inr (Or.inl c6))) | exact Or.inr (Or.inr (Or.inr (Or.inr c6))))], rfl⟩
    · refine s_iloadN 17 A S5 d4_16 rfl rfl ?_
      refine s_aloadN 18 A S5 d4_17 rfl (by first | rfl | assumption) rfl ?_
      refine s_getF 21 A S5 (hw _ (List.mem_of_getElem? (i := 18) rfl)) F2 d4_18 rfl fun T7 S8 => ?_
      refine s_ieq 40 24 A S8 rfl rfl d4_21 (by decide) (by decide) rfl (fun c9 tc9 => ?_) (fun c9 tc9 => ?_)
      · refine s_iconst (z := (1 : Int32)) 41 A S8 d4_40 rfl rfl ?_
        refine s_goto 45 A S8 d4_41 (by decide) (by decide) ?_
        exact s_retZ A S8 d4_45 rfl (by decide) (by decide) ⟨by rw [own_d1 (by first | exact Or.inl c9 | exact Or.inr (Or.inl c9) | exact Or.inr (Or.inr (Or.inl c9)) | exact Or.inr (Or.inr (Or.inr (Or.inl c9))) | exact Or.inr (Or.inr (Or.inr (Or.inr c9))))], rfl⟩
      · refine s_iloadN 25 A S8 d4_24 rfl rfl ?_
        refine s_aloadN 26 A S8 d4_25 rfl (by first | rfl | assumption) rfl ?_
        refine s_getF 29 A S8 (hw _ (List.mem_of_getElem? (i := 22) rfl)) F4 d4_26 rfl fun T10 S11 => ?_
        refine s_ieq 40 32 A S11 rfl rfl d4_29 (by decide) (by decide) rfl (fun c12 tc12 => ?_) (fun c12 tc12 => ?_)
        · refine s_iconst (z := (1 : Int32)) 41 A S11 d4_40 rfl rfl ?_
          refine s_goto 45 A S11 d4_41 (by decide) (by decide) ?_
          exact s_retZ A S11 d4_45 rfl (by decide) (by decide) ⟨by rw [own_d1 (by first | exact Or.inl c12 | exact Or.inr (Or.inl c12) | exact Or.inr (Or.inr (Or.inl c12)) | exact Or.inr (Or.inr (Or.inr (Or.inl c12))) | exact Or.inr (Or.inr (Or.inr (Or.inr c12))))], rfl⟩
        · refine s_iloadN 33 A S11 d4_32 rfl rfl ?_
          refine s_aloadN 34 A S11 d4_33 rfl (by first | rfl | assumption) rfl ?_
          refine s_getF 37 A S11 (hw _ (List.mem_of_getElem? (i := 20) rfl)) F3 d4_34 rfl fun T13 S14 => ?_
          refine s_ine 44 40 A S14 rfl rfl d4_37 (by decide) (by decide) rfl (fun c15 tc15 => ?_) (fun c15 tc15 => ?_)
          · refine s_iconst (z := (0 : Int32)) 45 A S14 d4_44 rfl rfl ?_
            exact s_retZ A S14 d4_45 rfl (by decide) (by decide) ⟨by rw [own_d0 c3 c6 c9 c12 c15], rfl⟩
          · refine s_iconst (z := (1 : Int32)) 41 A S14 d4_40 rfl rfl ?_
            refine s_goto 45 A S14 d4_41 (by decide) (by decide) ?_
            exact s_retZ A S14 d4_45 rfl (by decide) (by decide) ⟨by rw [own_d1 (by first | exact Or.inl c15 | exact Or.inr (Or.inl c15) | exact Or.inr (Or.inr (Or.inl c15)) | exact Or.inr (Or.inr (Or.inr (Or.inl c15))) | exact Or.inr (Or.inr (Or.inr (Or.inr c15))))], rfl⟩
theorem pn_0 : plainFor (⟨"com/example/vitalwire/vitalwire/codec/DelimitersIsDelimiterPinLaw", "law", "(IIIIII)Z"⟩ : MethodName) = true := plainFor_of_name (by first | (simp [plainName, overriddenIn]; done) | decide +kernel)
theorem ef_0 (m : MethodId) (x0 : Int32) (x1 : Int32) (x2 : Int32) (x3 : Int32) (x4 : Int32) (x5 : Int32) : entryFrame m #[(.int x0), (.int x1), (.int x2), (.int x3), (.int x4), (.int x5)] maxLocals = mkF m 0 #[.val (.int x0), .val (.int x1), .val (.int x2), .val (.int x3), .val (.int x4), .val (.int x5), .unset, .unset, .unset, .unset, .unset, .unset, .unset, .unset, .unset] [] := by first | (simp [entryFrame, mkF, argsToLocals, Value.category, maxLocals]; done) | rfl
set_option maxRecDepth 65536 in
set_option maxHeartbeats 40000000 in
theorem rm0 (l : Launch) (Z : State) (a0 : Array Value) (hw : ∀ d ∈ tables_1, d.before a0 Z = true) (ws : List Jvm.Cond) (i0 i1 i2 i3 i4 i5 : Int32) (h0 : Heap) (n0 : Nat) (Z0 : n0 ≤ h0.size)  :
    own_C l Z x code maxLocals ret room_1 n0 ws #[(.int i0), (.int i1), (.int i2), (.int i3), (.int i4), (.int i5)] h0 (fun v h' => v = some (.int 1)) := by
  refine own_C.of pn_0 Z0 ?_
  intro p e s m below meth c T A S
  rw [ef_0]
  refine s_iloadN 1 A S at_0 rfl rfl ?_
  obtain ⟨cf, h_cf⟩ : ∃ z, ((i0).toUInt32.toUInt16.toUInt32.toInt32) = z := ⟨_, rfl⟩
  refine s_i2c (z := cf) 2 A S at_1 h_cf rfl ?_
  refine s_istore (Ls' := #[.val (.int i0), .val (.int i1), .val (.int i2), .val (.int i3), .val (.int i4), .val (.int i5), .val (.int cf), .unset, .unset, .unset, .unset, .unset, .unset, .unset, .unset]) 4 A S at_2 rfl rfl ?_
  refine s_iloadN 5 A S at_4 rfl rfl ?_
  obtain ⟨cc, h_cc⟩ : ∃ z, ((i1).toUInt32.toUInt16.toUInt32.toInt32) = z := ⟨_, rfl⟩
  refine s_i2c (z := cc) 6 A S at_5 h_cc rfl ?_
  refine s_istore (Ls' := #[.val (.int i0), .val (.int i1), .val (.int i2), .val (.int i3), .val (.int i4), .val (.int i5), .val (.int cf), .val (.int cc), .unset, .unset, .unset, .unset, .unset, .unset, .unset]) 8 A S at_6 rfl rfl ?_
  refine s_iloadN 9 A S at_8 rfl rfl ?_
  obtain ⟨cr, h_cr⟩ : ∃ z, ((i2).toUInt32.toUInt16.toUInt32.toInt32) = z := ⟨_, rfl⟩
  refine s_i2c (z := cr) 10 A S at_9 h_cr rfl ?_
  refine s_istore (Ls' := #[.val (.int i0), .val (.int i1), .val (.int i2), .val (.int i3), .val (.int i4), .val (.int i5), .val (.int cf), .val (.int cc), .val (.int cr), .unset, .unset, .unset, .unset, .unset, .unset]) 12 A S at_10 rfl rfl ?_
  refine s_iloadN 13 A S at_12 rfl rfl ?_
  obtain ⟨ce, h_ce⟩ : ∃ z, ((i3).toUInt32.toUInt16.toUInt32.toInt32) = z := ⟨_, rfl⟩
  refine s_i2c (z := ce) 14 A S at_13 h_ce rfl ?_
  refine s_istore (Ls' := #[.val (.int i0), .val (.int i1), .val (.int i2), .val (.int i3), .val (.int i4), .val (.int i5), .val (.int cf), .val (.int cc), .val (.int cr), .val (.int ce), .unset, .unset, .unset, .unset, .unset]) 16 A S at_14 rfl rfl ?_
  refine s_iload 18 A S at_16 rfl rfl ?_
  obtain ⟨cs, h_cs⟩ : ∃ z, ((i4).toUInt32.toUInt16.toUInt32.toInt32) = z := ⟨_, rfl⟩
  refine s_i2c (z := cs) 19 A S at_18 h_cs rfl ?_
  refine s_istore (Ls' := #[.val (.int i0), .val (.int i1), .val (.int i2), .val (.int i3), .val (.int i4), .val (.int i5), .val (.int cf), .val (.int cc), .val (.int cr), .val (.int ce), .val (.int cs), .unset, .unset, .unset, .unset]) 21 A S at_19 rfl rfl ?_
  refine s_new 24 A S (hw _ (List.mem_of_getElem? (i := 0) rfl)) (hw _ (List.mem_of_getElem? (i := 1) rfl)) (hw _ (List.mem_of_getElem? (i := 2) rfl)) at_21 rfl (by decide) (by decide) fun T1 h2 a4 ha_a4 E_a4 X_a4 D_a4 S3 => ?_
  have ge_a4 : n0 ≤ a4 := by rw [ha_a4]; exact Z0
  have Z5 : n0 ≤ h2.size := Nat.le_trans Z0 E_a4.1
  have F_a4_field : Fld Z h2 a4 "com/example/vitalwire/vitalwire/codec/Delimiters" "field" "C" (.int (0 : Int32)) := D_a4 (Or.inr (hw _ (List.mem_of_getElem? (i := 15) rfl))) (ty := .char) (by decide)
  have F_a4_component : Fld Z h2 a4 "com/example/vitalwire/vitalwire/codec/Delimiters" "component" "C" (.int (0 : Int32)) := D_a4 (Or.inr (hw _ (List.mem_of_getElem? (i := 17) rfl))) (ty := .char) (by decide)
  have F_a4_repetition : Fld Z h2 a4 "com/example/vitalwire/vitalwire/codec/Delimiters" "repetition" "C" (.int (0 : Int32)) := D_a4 (Or.inr (hw _ (List.mem_of_getElem? (i := 19) rfl))) (ty := .char) (by decide)
  have F_a4_escape : Fld Z h2 a4 "com/example/vitalwire/vitalwire/codec/Delimiters" "escape" "C" (.int (0 : Int32)) := D_a4 (Or.inr (hw _ (List.mem_of_getElem? (i := 21) rfl))) (ty := .char) (by decide)
  have F_a4_subcomponent : Fld Z h2 a4 "com/example/vitalwire/vitalwire/codec/Delimiters" "subcomponent" "C" (.int (0 : Int32)) := D_a4 (Or.inr (hw _ (List.mem_of_getElem? (i := 23) rfl))) (ty := .char) (by decide)
  refine s_dup 25 A S3 at_24 rfl rfl ?_
  refine s_iload 27 A S3 at_25 rfl rfl ?_
  refine s_iload 29 A S3 at_27 rfl rfl ?_
  refine s_iload 31 A S3 at_29 rfl rfl ?_
  refine s_iload 33 A S3 at_31 rfl rfl ?_
  refine s_iload 35 A S3 at_33 rfl rfl ?_
  refine s_spec (y := (⟨"com/example/vitalwire/vitalwire/codec/Delimiters", "<init>", "(CCCCC)V"⟩ : MethodName)) (argsL := [(.int cf), (.int cc), (.int cr), (.int ce), (.int cs)]) (rest := [(.ref a4)]) (b := a4) 38 A S3 (hw _ (List.mem_of_getElem? (i := 3) rfl)) (hw _ (List.mem_of_getElem? (i := 4) rfl)) (hw _ (List.mem_of_getElem? (i := 2) rfl)) (hw _ (List.mem_of_getElem? (i := 5) rfl)) (rm1 l Z a0 hw [] a4 cf cc cr ce cs h2 n0 Z5 X_a4 F_a4_field F_a4_component F_a4_repetition F_a4_escape F_a4_subcomponent ge_a4 (h_cf ▸ own_okc i0) (h_cc ▸ own_okc i1) (h_cr ▸ own_okc i2) (h_ce ▸ own_okc i3) (h_cs ▸ own_okc i4)) (lenOf pd__CCCCC_V rfl) at_35 rfl rfl rfl rfl (by decide) (by decide) (Nat.le_of_ble_eq_true rfl) (by decide) (by decide) fun T6 h8 v9 q10 S7 => ?_
  obtain ⟨rfl, K11, E12, F13, F14, F15, F16, F17⟩ := q10
  show own_G _ _ _ _ _ _ _ _ _ (mkF m 38 #[.val (.int i0), .val (.int i1), .val (.int i2), .val (.int i3), .val (.int i4), .val (.int i5), .val (.int cf), .val (.int cc), .val (.int cr), .val (.int ce), .val (.int cs), .unset, .unset, .unset, .unset] [(.ref a4)])
  have E23 := Exa.keep X_a4 K11
  have Z24 : n0 ≤ h8.size := Nat.le_trans Z5 K11.1
  refine s_astore (Ls' := #[.val (.int i0), .val (.int i1), .val (.int i2), .val (.int i3), .val (.int i4), .val (.int i5), .val (.int cf), .val (.int cc), .val (.int cr), .val (.int ce), .val (.int cs), .val (.ref a4), .unset, .unset, .unset]) 40 A S7 at_38 (by first | rfl | assumption) rfl rfl ?_
  refine s_iload 42 A S7 at_40 rfl rfl ?_
  refine s_bipush (z := (7 : Int32)) 44 A S7 at_42 rfl rfl ?_
  obtain ⟨kk, h_kk⟩ : ∃ z, (i5 &&& (7 : Int32)) = z := ⟨_, rfl⟩
  refine s_iand (z := kk) 45 A S7 at_44 h_kk rfl ?_
  have bk : 0 ≤ kk.toInt := by rw [← h_kk]; exact (c_and i5 7 (by decide)).1
  refine s_istore (Ls' := #[.val (.int i0), .val (.int i1), .val (.int i2), .val (.int i3), .val (.int i4), .val (.int i5), .val (.int cf), .val (.int cc), .val (.int cr), .val (.int ce), .val (.int cs), .val (.ref a4), .val (.int kk), .unset, .unset]) 47 A S7 at_45 rfl rfl ?_
  refine s_iload 49 A S7 at_47 rfl rfl ?_
  refine s_ifne 59 52 A S7 rfl at_49 (by decide) (by decide) rfl (fun c25 tc25 => ?_) (fun c25 tc25 => ?_)
  · refine s_iload 61 A S7 at_59 rfl rfl ?_
    refine s_iconst (z := (1 : Int32)) 62 A S7 at_61 rfl rfl ?_
    refine s_ine (yi := 1) 72 65 A S7 rfl rfl at_62 (by decide) (by decide) rfl (fun c26 tc26 => ?_) (fun c26 tc26 => ?_)
    · refine s_iload 74 A S7 at_72 rfl rfl ?_
      refine s_iconst (z := (2 : Int32)) 75 A S7 at_74 rfl rfl ?_
      refine s_ine (yi := 2) 85 78 A S7 rfl rfl at_75 (by decide) (by decide) rfl (fun c27 tc27 => ?_) (fun c27 tc27 => ?_)
      · refine s_iload 87 A S7 at_85 rfl rfl ?_
        refine s_iconst (z := (3 : Int32)) 88 A S7 at_87 rfl rfl ?_
        refine s_ine (yi := 3) 98 91 A S7 rfl rfl at_88 (by decide) (by decide) rfl (fun c28 tc28 => ?_) (fun c28 tc28 => ?_)
        · refine s_iload 100 A S7 at_98 rfl rfl ?_
          refine s_iconst (z := (4 : Int32)) 101 A S7 at_100 rfl rfl ?_
          refine s_ine (yi := 4) 111 104 A S7 rfl rfl at_101 (by decide) (by decide) rfl (fun c29 tc29 => ?_) (fun c29 tc29 => ?_)
          · refine s_iload 113 A S7 at_111 rfl rfl ?_
            refine s_iconst (z := (3 : Int32)) 114 A S7 at_113 rfl rfl ?_
            refine s_iushr (z := (own_ushr i5 (3 : Int32))) 115 A S7 at_114 rfl rfl ?_
            obtain ⟨cq, h_cq⟩ : ∃ z, (((own_ushr i5 (3 : Int32))).toUInt32.toUInt16.toUInt32.toInt32) = z := ⟨_, rfl⟩
            refine s_i2c (z := cq) 116 A S7 at_115 h_cq rfl ?_
            refine s_istore (Ls' := #[.val (.int i0), .val (.int i1), .val (.int i2), .val (.int i3), .val (.int i4), .val (.int i5), .val (.int cf), .val (.int cc), .val (.int cr), .val (.int ce), .val (.int cs), .val (.ref a4), .val (.int kk), .val (.int cq), .unset]) 118 A S7 at_116 rfl rfl ?_
            refine s_iload 120 A S7 at_118 rfl rfl ?_
            refine s_iconst (z := (5 : Int32)) 121 A S7 at_120 rfl rfl ?_
            refine s_ige (yi := 5) 130 124 A S7 rfl rfl at_121 (by decide) (by decide) rfl (fun c30 => ?_) (fun c30 => (by omega : False).elim)
            refine s_iload 132 A S7 at_130 rfl rfl ?_
            refine s_iload 134 A S7 at_132 rfl rfl ?_
            refine s_ieq 165 137 A S7 rfl rfl at_134 (by decide) (by decide) rfl (fun c31 tc31 => ?_) (fun c31 tc31 => ?_)
            · refine s_iconst (z := (1 : Int32)) 166 A S7 at_165 rfl rfl ?_
              refine s_goto 170 A S7 at_166 (by decide) (by decide) ?_
              refine s_istore (Ls' := #[.val (.int i0), .val (.int i1), .val (.int i2), .val (.int i3), .val (.int i4), .val (.int i5), .val (.int cf), .val (.int cc), .val (.int cr), .val (.int ce), .val (.int cs), .val (.ref a4), .val (.int kk), .val (.int cq), .val (.int (1 : Int32))]) 172 A S7 at_170 rfl rfl ?_
              refine s_aload 174 A S7 at_172 rfl (by first | rfl | assumption) rfl ?_
              refine s_iload 176 A S7 at_174 rfl rfl ?_
              refine s_virtV (y := (⟨"com/example/vitalwire/vitalwire/codec/Delimiters", "isDelimiter", "(C)Z"⟩ : MethodName)) (z := (⟨"com/example/vitalwire/vitalwire/codec/Delimiters", "isDelimiter", "(C)Z"⟩ : MethodName)) (argsL := [(.int cq)]) (rest := []) (b := a4) 179 A S7 E23 (hw _ (List.mem_of_getElem? (i := 24) rfl)) (hw _ (List.mem_of_getElem? (i := 25) rfl)) (notFace_of_selects (args := #[]) (mvT A.2.2.2.2.2.2.2 (hw _ (List.mem_of_getElem? (i := 27) rfl)))) (hw _ (List.mem_of_getElem? (i := 27) rfl)) (hw _ (List.mem_of_getElem? (i := 26) rfl)) (hw _ (List.mem_of_getElem? (i := 2) rfl)) (hw _ (List.mem_of_getElem? (i := 28) rfl)) (rm4 l Z a0 hw [] a4 cf cc cr ce cs cq h8 n0 Z24 F13 F14 F15 F16 F17) (lenOf pd__C_Z rfl) at_176 rfl rfl rfl (by decide) (by decide) (Nat.le_of_ble_eq_true rfl) (by decide) (by decide) fun T32 S33 => ?_
              refine s_iload 181 A S33 at_179 rfl rfl ?_
              refine s_ine (yi := 1) 188 184 A S33 rfl rfl at_181 (by decide) (by decide) rfl (fun c34 tc34 => (by exact c34 (own_d1 (by first | exact Or.inl c31 | exact Or.inr (Or.inl c31) | exact Or.inr (Or.inr (Or.inl c31)) | exact Or.inr (Or.inr (Or.inr (Or.inr c31))) | exact Or.inr (Or.inr (Or.inr (Or.inl c31))))) : False).elim) (fun c34 tc34 => ?_)
              refine s_iconst (z := (1 : Int32)) 185 A S33 at_184 rfl rfl ?_
              refine s_goto 189 A S33 at_185 (by decide) (by decide) ?_
              exact s_retZ A S33 at_189 rfl (by decide) (by decide) rfl
            · refine s_iload 139 A S7 at_137 rfl rfl ?_
              refine s_iload 141 A S7 at_139 rfl rfl ?_
              refine s_ieq 165 144 A S7 rfl rfl at_141 (by decide) (by decide) rfl (fun c35 tc35 => ?_) (fun c35 tc35 => ?_)
              · refine s_iconst (z := (1 : Int32)) 166 A S7 at_165 rfl rfl ?_
                refine s_goto 170 A S7 at_166 (by decide) (by decide) ?_
                refine s_istore (Ls' := #[.val (.int i0), .val (.int i1), .val (.int i2), .val (.int i3), .val (.int i4), .val (.int i5), .val (.int cf), .val (.int cc), .val (.int cr), .val (.int ce), .val (.int cs), .val (.ref a4), .val (.int kk), .val (.int cq), .val (.int (1 : Int32))]) 172 A S7 at_170 rfl rfl ?_
                refine s_aload 174 A S7 at_172 rfl (by first | rfl | assumption) rfl ?_
                refine s_iload 176 A S7 at_174 rfl rfl ?_
                refine s_virtV (y := (⟨"com/example/vitalwire/vitalwire/codec/Delimiters", "isDelimiter", "(C)Z"⟩ : MethodName)) (z := (⟨"com/example/vitalwire/vitalwire/codec/Delimiters", "isDelimiter", "(C)Z"⟩ : MethodName)) (argsL := [(.int cq)]) (rest := []) (b := a4) 179 A S7 E23 (hw _ (List.mem_of_getElem? (i := 24) rfl)) (hw _ (List.mem_of_getElem? (i := 25) rfl)) (notFace_of_selects (args := #[]) (mvT A.2.2.2.2.2.2.2 (hw _ (List.mem_of_getElem? (i := 27) rfl)))) (hw _ (List.mem_of_getElem? (i := 27) rfl)) (hw _ (List.mem_of_getElem? (i := 26) rfl)) (hw _ (List.mem_of_getElem? (i := 2) rfl)) (hw _ (List.mem_of_getElem? (i := 28) rfl)) (rm4 l Z a0 hw [] a4 cf cc cr ce cs cq h8 n0 Z24 F13 F14 F15 F16 F17) (lenOf pd__C_Z rfl) at_176 rfl rfl rfl (by decide) (by decide) (Nat.le_of_ble_eq_true rfl) (by decide) (by decide) fun T36 S37 => ?_
                refine s_iload 181 A S37 at_179 rfl rfl ?_
                refine s_ine (yi := 1) 188 184 A S37 rfl rfl at_181 (by decide) (by decide) rfl (fun c38 tc38 => (by exact c38 (own_d1 (by first | exact Or.inl c35 | exact Or.inr (Or.inl c35) | exact Or.inr (Or.inr (Or.inl c35)) | exact Or.inr (Or.inr (Or.inr (Or.inr c35))) | exact Or.inr (Or.inr (Or.inr (Or.inl c35))))) : False).elim) (fun c38 tc38 => ?_)
                refine s_iconst (z := (1 : Int32)) 185 A S37 at_184 rfl rfl ?_
                refine s_goto 189 A S37 at_185 (by decide) (by decide) ?_
                exact s_retZ A S37 at_189 rfl (by decide) (by decide) rfl
              · refine s_iload 146 A S7 at_144 rfl rfl ?_
                refine s_iload 148 A S7 at_146 rfl rfl ?_
                refine s_ieq 165 151 A S7 rfl rfl at_148 (by decide) (by decide) rfl (fun c39 tc39 => ?_) (fun c39 tc39 => ?_)
                · refine s_iconst (z := (1 : Int32)) 166 A S7 at_165 rfl rfl ?_
                  refine s_goto 170 A S7 at_166 (by decide) (by decide) ?_
                  refine s_istore (Ls' := #[.val (.int i0), .val (.int i1), .val (.int i2), .val (.int i3), .val (.int i4), .val (.int i5), .val (.int cf), .val (.int cc), .val (.int cr), .val (.int ce), .val (.int cs), .val (.ref a4), .val (.int kk), .val (.int cq), .val (.int (1 : Int32))]) 172 A S7 at_170 rfl rfl ?_
                  refine s_aload 174 A S7 at_172 rfl (by first | rfl | assumption) rfl ?_
                  refine s_iload 176 A S7 at_174 rfl rfl ?_
                  refine s_virtV (y := (⟨"com/example/vitalwire/vitalwire/codec/Delimiters", "isDelimiter", "(C)Z"⟩ : MethodName)) (z := (⟨"com/example/vitalwire/vitalwire/codec/Delimiters", "isDelimiter", "(C)Z"⟩ : MethodName)) (argsL := [(.int cq)]) (rest := []) (b := a4) 179 A S7 E23 (hw _ (List.mem_of_getElem? (i := 24) rfl)) (hw _ (List.mem_of_getElem? (i := 25) rfl)) (notFace_of_selects (args := #[]) (mvT A.2.2.2.2.2.2.2 (hw _ (List.mem_of_getElem? (i := 27) rfl)))) (hw _ (List.mem_of_getElem? (i := 27) rfl)) (hw _ (List.mem_of_getElem? (i := 26) rfl)) (hw _ (List.mem_of_getElem? (i := 2) rfl)) (hw _ (List.mem_of_getElem? (i := 28) rfl)) (rm4 l Z a0 hw [] a4 cf cc cr ce cs cq h8 n0 Z24 F13 F14 F15 F16 F17) (lenOf pd__C_Z rfl) at_176 rfl rfl rfl (by decide) (by decide) (Nat.le_of_ble_eq_true rfl) (by decide) (by decide) fun T40 S41 => ?_
                  refine s_iload 181 A S41 at_179 rfl rfl ?_
                  refine s_ine (yi := 1) 188 184 A S41 rfl rfl at_181 (by decide) (by decide) rfl (fun c42 tc42 => (by exact c42 (own_d1 (by first | exact Or.inl c39 | exact Or.inr (Or.inl c39) | exact Or.inr (Or.inr (Or.inl c39)) | exact Or.inr (Or.inr (Or.inr (Or.inr c39))) | exact Or.inr (Or.inr (Or.inr (Or.inl c39))))) : False).elim) (fun c42 tc42 => ?_)
                  refine s_iconst (z := (1 : Int32)) 185 A S41 at_184 rfl rfl ?_
                  refine s_goto 189 A S41 at_185 (by decide) (by decide) ?_
                  exact s_retZ A S41 at_189 rfl (by decide) (by decide) rfl
                · refine s_iload 153 A S7 at_151 rfl rfl ?_
                  refine s_iload 155 A S7 at_153 rfl rfl ?_
                  refine s_ieq 165 158 A S7 rfl rfl at_155 (by decide) (by decide) rfl (fun c43 tc43 => ?_) (fun c43 tc43 => ?_)
                  · refine s_iconst (z := (1 : Int32)) 166 A S7 at_165 rfl rfl ?_
                    refine s_goto 170 A S7 at_166 (by decide) (by decide) ?_
                    refine s_istore (Ls' := #[.val (.int i0), .val (.int i1), .val (.int i2), .val (.int i3), .val (.int i4), .val (.int i5), .val (.int cf), .val (.int cc), .val (.int cr), .val (.int ce), .val (.int cs), .val (.ref a4), .val (.int kk), .val (.int cq), .val (.int (1 : Int32))]) 172 A S7 at_170 rfl rfl ?_
                    refine s_aload 174 A S7 at_172 rfl (by first | rfl | assumption) rfl ?_
                    refine s_iload 176 A S7 at_174 rfl rfl ?_
                    refine s_virtV (y := (⟨"com/example/vitalwire/vitalwire/codec/Delimiters", "isDelimiter", "(C)Z"⟩ : MethodName)) (z := (⟨"com/example/vitalwire/vitalwire/codec/Delimiters", "isDelimiter", "(C)Z"⟩ : MethodName)) (argsL := [(.int cq)]) (rest := []) (b := a4) 179 A S7 E23 (hw _ (List.mem_of_getElem? (i := 24) rfl)) (hw _ (List.mem_of_getElem? (i := 25) rfl)) (notFace_of_selects (args := #[]) (mvT A.2.2.2.2.2.2.2 (hw _ (List.mem_of_getElem? (i := 27) rfl)))) (hw _ (List.mem_of_getElem? (i := 27) rfl)) (hw _ (List.mem_of_getElem? (i := 26) rfl)) (hw _ (List.mem_of_getElem? (i := 2) rfl)) (hw _ (List.mem_of_getElem? (i := 28) rfl)) (rm4 l Z a0 hw [] a4 cf cc cr ce cs cq h8 n0 Z24 F13 F14 F15 F16 F17) (lenOf pd__C_Z rfl) at_176 rfl rfl rfl (by decide) (by decide) (Nat.le_of_ble_eq_true rfl) (by decide) (by decide) fun T44 S45 => ?_
                    refine s_iload 181 A S45 at_179 rfl rfl ?_
                    refine s_ine (yi := 1) 188 184 A S45 rfl rfl at_181 (by decide) (by decide) rfl (fun c46 tc46 => (by exact c46 (own_d1 (by first | exact Or.inl c43 | exact Or.inr (Or.inl c43) | exact Or.inr (Or.inr (Or.inl c43)) | exact Or.inr (Or.inr (Or.inr (Or.inr c43))) | exact Or.inr (Or.inr (Or.inr (Or.inl c43))))) : False).elim) (fun c46 tc46 => ?_)
                    refine s_iconst (z := (1 : Int32)) 185 A S45 at_184 rfl rfl ?_
                    refine s_goto 189 A S45 at_185 (by decide) (by decide) ?_
                    exact s_retZ A S45 at_189 rfl (by decide) (by decide) rfl
                  · refine s_iload 160 A S7 at_158 rfl rfl ?_
                    refine s_iload 162 A S7 at_160 rfl rfl ?_
                    refine s_ine 169 165 A S7 rfl rfl at_162 (by decide) (by decide) rfl (fun c47 tc47 => ?_) (fun c47 tc47 => ?_)
                    · refine s_iconst (z := (0 : Int32)) 170 A S7 at_169 rfl rfl ?_
                      refine s_istore (Ls' := #[.val (.int i0), .val (.int i1), .val (.int i2), .val (.int i3), .val (.int i4), .val (.int i5), .val (.int cf), .val (.int cc), .val (.int cr), .val (.int ce), .val (.int cs), .val (.ref a4), .val (.int kk), .val (.int cq), .val (.int (0 : Int32))]) 172 A S7 at_170 rfl rfl ?_
                      refine s_aload 174 A S7 at_172 rfl (by first | rfl | assumption) rfl ?_
                      refine s_iload 176 A S7 at_174 rfl rfl ?_
                      refine s_virtV (y := (⟨"com/example/vitalwire/vitalwire/codec/Delimiters", "isDelimiter", "(C)Z"⟩ : MethodName)) (z := (⟨"com/example/vitalwire/vitalwire/codec/Delimiters", "isDelimiter", "(C)Z"⟩ : MethodName)) (argsL := [(.int cq)]) (rest := []) (b := a4) 179 A S7 E23 (hw _ (List.mem_of_getElem? (i := 24) rfl)) (hw _ (List.mem_of_getElem? (i := 25) rfl)) (notFace_of_selects (args := #[]) (mvT A.2.2.2.2.2.2.2 (hw _ (List.mem_of_getElem? (i := 27) rfl)))) (hw _ (List.mem_of_getElem? (i := 27) rfl)) (hw _ (List.mem_of_getElem? (i := 26) rfl)) (hw _ (List.mem_of_getElem? (i := 2) rfl)) (hw _ (List.mem_of_getElem? (i := 28) rfl)) (rm4 l Z a0 hw [] a4 cf cc cr ce cs cq h8 n0 Z24 F13 F14 F15 F16 F17) (lenOf pd__C_Z rfl) at_176 rfl rfl rfl (by decide) (by decide) (Nat.le_of_ble_eq_true rfl) (by decide) (by decide) fun T48 S49 => ?_
                      refine s_iload 181 A S49 at_179 rfl rfl ?_
                      refine s_ine (yi := 0) 188 184 A S49 rfl rfl at_181 (by decide) (by decide) rfl (fun c50 tc50 => (by exact c50 (own_d0 c31 c35 c39 c47 c43) : False).elim) (fun c50 tc50 => ?_)
                      refine s_iconst (z := (1 : Int32)) 185 A S49 at_184 rfl rfl ?_
                      refine s_goto 189 A S49 at_185 (by decide) (by decide) ?_
                      exact s_retZ A S49 at_189 rfl (by decide) (by decide) rfl
                    · refine s_iconst (z := (1 : Int32)) 166 A S7 at_165 rfl rfl ?_
                      refine s_goto 170 A S7 at_166 (by decide) (by decide) ?_
                      refine s_istore (Ls' := #[.val (.int i0), .val (.int i1), .val (.int i2), .val (.int i3), .val (.int i4), .val (.int i5), .val (.int cf), .val (.int cc), .val (.int cr), .val (.int ce), .val (.int cs), .val (.ref a4), .val (.int kk), .val (.int cq), .val (.int (1 : Int32))]) 172 A S7 at_170 rfl rfl ?_
                      refine s_aload 174 A S7 at_172 rfl (by first | rfl | assumption) rfl ?_
                      refine s_iload 176 A S7 at_174 rfl rfl ?_
                      refine s_virtV (y := (⟨"com/example/vitalwire/vitalwire/codec/Delimiters", "isDelimiter", "(C)Z"⟩ : MethodName)) (z := (⟨"com/example/vitalwire/vitalwire/codec/Delimiters", "isDelimiter", "(C)Z"⟩ : MethodName)) (argsL := [(.int cq)]) (rest := []) (b := a4) 179 A S7 E23 (hw _ (List.mem_of_getElem? (i := 24) rfl)) (hw _ (List.mem_of_getElem? (i := 25) rfl)) (notFace_of_selects (args := #[]) (mvT A.2.2.2.2.2.2.2 (hw _ (List.mem_of_getElem? (i := 27) rfl)))) (hw _ (List.mem_of_getElem? (i := 27) rfl)) (hw _ (List.mem_of_getElem? (i := 26) rfl)) (hw _ (List.mem_of_getElem? (i := 2) rfl)) (hw _ (List.mem_of_getElem? (i := 28) rfl)) (rm4 l Z a0 hw [] a4 cf cc cr ce cs cq h8 n0 Z24 F13 F14 F15 F16 F17) (lenOf pd__C_Z rfl) at_176 rfl rfl rfl (by decide) (by decide) (Nat.le_of_ble_eq_true rfl) (by decide) (by decide) fun T51 S52 => ?_
                      refine s_iload 181 A S52 at_179 rfl rfl ?_
                      refine s_ine (yi := 1) 188 184 A S52 rfl rfl at_181 (by decide) (by decide) rfl (fun c53 tc53 => (by exact c53 (own_d1 (by first | exact Or.inl c47 | exact Or.inr (Or.inl c47) | exact Or.inr (Or.inr (Or.inl c47)) | exact Or.inr (Or.inr (Or.inr (Or.inr c47))) | exact Or.inr (Or.inr (Or.inr (Or.inl c47))))) : False).elim) (fun c53 tc53 => ?_)
                      refine s_iconst (z := (1 : Int32)) 185 A S52 at_184 rfl rfl ?_
                      refine s_goto 189 A S52 at_185 (by decide) (by decide) ?_
                      exact s_retZ A S52 at_189 rfl (by decide) (by decide) rfl
          · refine s_iload 106 A S7 at_104 rfl rfl ?_
            refine s_istore (Ls' := #[.val (.int i0), .val (.int i1), .val (.int i2), .val (.int i3), .val (.int i4), .val (.int i5), .val (.int cf), .val (.int cc), .val (.int cr), .val (.int ce), .val (.int cs), .val (.ref a4), .val (.int kk), .val (.int cs), .unset]) 108 A S7 at_106 rfl rfl ?_
            refine s_goto 118 A S7 at_108 (by decide) (by decide) ?_
            refine s_iload 120 A S7 at_118 rfl rfl ?_
            refine s_iconst (z := (5 : Int32)) 121 A S7 at_120 rfl rfl ?_
            refine s_ige (yi := 5) 130 124 A S7 rfl rfl at_121 (by decide) (by decide) rfl (fun c54 => (by omega : False).elim) (fun c54 => ?_)
            refine s_iconst (z := (1 : Int32)) 125 A S7 at_124 rfl rfl ?_
            refine s_istore (Ls' := #[.val (.int i0), .val (.int i1), .val (.int i2), .val (.int i3), .val (.int i4), .val (.int i5), .val (.int cf), .val (.int cc), .val (.int cr), .val (.int ce), .val (.int cs), .val (.ref a4), .val (.int kk), .val (.int cs), .val (.int (1 : Int32))]) 127 A S7 at_125 rfl rfl ?_
            refine s_goto 172 A S7 at_127 (by decide) (by decide) ?_
            refine s_aload 174 A S7 at_172 rfl (by first | rfl | assumption) rfl ?_
            refine s_iload 176 A S7 at_174 rfl rfl ?_
            refine s_virtV (y := (⟨"com/example/vitalwire/vitalwire/codec/Delimiters", "isDelimiter", "(C)Z"⟩ : MethodName)) (z := (⟨"com/example/vitalwire/vitalwire/codec/Delimiters", "isDelimiter", "(C)Z"⟩ : MethodName)) (argsL := [(.int cs)]) (rest := []) (b := a4) 179 A S7 E23 (hw _ (List.mem_of_getElem? (i := 24) rfl)) (hw _ (List.mem_of_getElem? (i := 25) rfl)) (notFace_of_selects (args := #[]) (mvT A.2.2.2.2.2.2.2 (hw _ (List.mem_of_getElem? (i := 27) rfl)))) (hw _ (List.mem_of_getElem? (i := 27) rfl)) (hw _ (List.mem_of_getElem? (i := 26) rfl)) (hw _ (List.mem_of_getElem? (i := 2) rfl)) (hw _ (List.mem_of_getElem? (i := 28) rfl)) (rm4 l Z a0 hw [] a4 cf cc cr ce cs cs h8 n0 Z24 F13 F14 F15 F16 F17) (lenOf pd__C_Z rfl) at_176 rfl rfl rfl (by decide) (by decide) (Nat.le_of_ble_eq_true rfl) (by decide) (by decide) fun T55 S56 => ?_
            refine s_iload 181 A S56 at_179 rfl rfl ?_
            refine s_ine (yi := 1) 188 184 A S56 rfl rfl at_181 (by decide) (by decide) rfl (fun c57 tc57 => (by exact c57 (own_d1 (by first | simp)) : False).elim) (fun c57 tc57 => ?_)
            refine s_iconst (z := (1 : Int32)) 185 A S56 at_184 rfl rfl ?_
            refine s_goto 189 A S56 at_185 (by decide) (by decide) ?_
            exact s_retZ A S56 at_189 rfl (by decide) (by decide) rfl
        · refine s_iload 93 A S7 at_91 rfl rfl ?_
          refine s_istore (Ls' := #[.val (.int i0), .val (.int i1), .val (.int i2), .val (.int i3), .val (.int i4), .val (.int i5), .val (.int cf), .val (.int cc), .val (.int cr), .val (.int ce), .val (.int cs), .val (.ref a4), .val (.int kk), .val (.int ce), .unset]) 95 A S7 at_93 rfl rfl ?_
          refine s_goto 118 A S7 at_95 (by decide) (by decide) ?_
          refine s_iload 120 A S7 at_118 rfl rfl ?_
          refine s_iconst (z := (5 : Int32)) 121 A S7 at_120 rfl rfl ?_
          refine s_ige (yi := 5) 130 124 A S7 rfl rfl at_121 (by decide) (by decide) rfl (fun c58 => (by omega : False).elim) (fun c58 => ?_)
          refine s_iconst (z := (1 : Int32)) 125 A S7 at_124 rfl rfl ?_
          refine s_istore (Ls' := #[.val (.int i0), .val (.int i1), .val (.int i2), .val (.int i3), .val (.int i4), .val (.int i5), .val (.int cf), .val (.int cc), .val (.int cr), .val (.int ce), .val (.int cs), .val (.ref a4), .val (.int kk), .val (.int ce), .val (.int (1 : Int32))]) 127 A S7 at_125 rfl rfl ?_
          refine s_goto 172 A S7 at_127 (by decide) (by decide) ?_
          refine s_aload 174 A S7 at_172 rfl (by first | rfl | assumption) rfl ?_
          refine s_iload 176 A S7 at_174 rfl rfl ?_
          refine s_virtV (y := (⟨"com/example/vitalwire/vitalwire/codec/Delimiters", "isDelimiter", "(C)Z"⟩ : MethodName)) (z := (⟨"com/example/vitalwire/vitalwire/codec/Delimiters", "isDelimiter", "(C)Z"⟩ : MethodName)) (argsL := [(.int ce)]) (rest := []) (b := a4) 179 A S7 E23 (hw _ (List.mem_of_getElem? (i := 24) rfl)) (hw _ (List.mem_of_getElem? (i := 25) rfl)) (notFace_of_selects (args := #[]) (mvT A.2.2.2.2.2.2.2 (hw _ (List.mem_of_getElem? (i := 27) rfl)))) (hw _ (List.mem_of_getElem? (i := 27) rfl)) (hw _ (List.mem_of_getElem? (i := 26) rfl)) (hw _ (List.mem_of_getElem? (i := 2) rfl)) (hw _ (List.mem_of_getElem? (i := 28) rfl)) (rm4 l Z a0 hw [] a4 cf cc cr ce cs ce h8 n0 Z24 F13 F14 F15 F16 F17) (lenOf pd__C_Z rfl) at_176 rfl rfl rfl (by decide) (by decide) (Nat.le_of_ble_eq_true rfl) (by decide) (by decide) fun T59 S60 => ?_
          refine s_iload 181 A S60 at_179 rfl rfl ?_
          refine s_ine (yi := 1) 188 184 A S60 rfl rfl at_181 (by decide) (by decide) rfl (fun c61 tc61 => (by exact c61 (own_d1 (by first | simp)) : False).elim) (fun c61 tc61 => ?_)
          refine s_iconst (z := (1 : Int32)) 185 A S60 at_184 rfl rfl ?_
          refine s_goto 189 A S60 at_185 (by decide) (by decide) ?_
          exact s_retZ A S60 at_189 rfl (by decide) (by decide) rfl
      · refine s_iload 80 A S7 at_78 rfl rfl ?_
        refine s_istore (Ls' := #[.val (.int i0), .val (.int i1), .val (.int i2), .val (.int i3), .val (.int i4), .val (.int i5), .val (.int cf), .val (.int cc), .val (.int cr), .val (.int ce), .val (.int cs), .val (.ref a4), .val (.int kk), .val (.int cr), .unset]) 82 A S7 at_80 rfl rfl ?_
        refine s_goto 118 A S7 at_82 (by decide) (by decide) ?_
        refine s_iload 120 A S7 at_118 rfl rfl ?_
        refine s_iconst (z := (5 : Int32)) 121 A S7 at_120 rfl rfl ?_
        refine s_ige (yi := 5) 130 124 A S7 rfl rfl at_121 (by decide) (by decide) rfl (fun c62 => (by omega : False).elim) (fun c62 => ?_)
        refine s_iconst (z := (1 : Int32)) 125 A S7 at_124 rfl rfl ?_
        refine s_istore (Ls' := #[.val (.int i0), .val (.int i1), .val (.int i2), .val (.int i3), .val (.int i4), .val (.int i5), .val (.int cf), .val (.int cc), .val (.int cr), .val (.int ce), .val (.int cs), .val (.ref a4), .val (.int kk), .val (.int cr), .val (.int (1 : Int32))]) 127 A S7 at_125 rfl rfl ?_
        refine s_goto 172 A S7 at_127 (by decide) (by decide) ?_
        refine s_aload 174 A S7 at_172 rfl (by first | rfl | assumption) rfl ?_
        refine s_iload 176 A S7 at_174 rfl rfl ?_
        refine s_virtV (y := (⟨"com/example/vitalwire/vitalwire/codec/Delimiters", "isDelimiter", "(C)Z"⟩ : MethodName)) (z := (⟨"com/example/vitalwire/vitalwire/codec/Delimiters", "isDelimiter", "(C)Z"⟩ : MethodName)) (argsL := [(.int cr)]) (rest := []) (b := a4) 179 A S7 E23 (hw _ (List.mem_of_getElem? (i := 24) rfl)) (hw _ (List.mem_of_getElem? (i := 25) rfl)) (notFace_of_selects (args := #[]) (mvT A.2.2.2.2.2.2.2 (hw _ (List.mem_of_getElem? (i := 27) rfl)))) (hw _ (List.mem_of_getElem? (i := 27) rfl)) (hw _ (List.mem_of_getElem? (i := 26) rfl)) (hw _ (List.mem_of_getElem? (i := 2) rfl)) (hw _ (List.mem_of_getElem? (i := 28) rfl)) (rm4 l Z a0 hw [] a4 cf cc cr ce cs cr h8 n0 Z24 F13 F14 F15 F16 F17) (lenOf pd__C_Z rfl) at_176 rfl rfl rfl (by decide) (by decide) (Nat.le_of_ble_eq_true rfl) (by decide) (by decide) fun T63 S64 => ?_
        refine s_iload 181 A S64 at_179 rfl rfl ?_
        refine s_ine (yi := 1) 188 184 A S64 rfl rfl at_181 (by decide) (by decide) rfl (fun c65 tc65 => (by exact c65 (own_d1 (by first | simp)) : False).elim) (fun c65 tc65 => ?_)
        refine s_iconst (z := (1 : Int32)) 185 A S64 at_184 rfl rfl ?_
        refine s_goto 189 A S64 at_185 (by decide) (by decide) ?_
        exact s_retZ A S64 at_189 rfl (by decide) (by decide) rfl
    · refine s_iload 67 A S7 at_65 rfl rfl ?_
      refine s_istore (Ls' := #[.val (.int i0), .val (.int i1), .val (.int i2), .val (.int i3), .val (.int i4), .val (.int i5), .val (.int cf), .val (.int cc), .val (.int cr), .val (.int ce), .val (.int cs), .val (.ref a4), .val (.int kk), .val (.int cc), .unset]) 69 A S7 at_67 rfl rfl ?_
      refine s_goto 118 A S7 at_69 (by decide) (by decide) ?_
      refine s_iload 120 A S7 at_118 rfl rfl ?_
      refine s_iconst (z := (5 : Int32)) 121 A S7 at_120 rfl rfl ?_
      refine s_ige (yi := 5) 130 124 A S7 rfl rfl at_121 (by decide) (by decide) rfl (fun c66 => (by omega : False).elim) (fun c66 => ?_)
      refine s_iconst (z := (1 : Int32)) 125 A S7 at_124 rfl rfl ?_
      refine s_istore (Ls' := #[.val (.int i0), .val (.int i1), .val (.int i2), .val (.int i3), .val (.int i4), .val (.int i5), .val (.int cf), .val (.int cc), .val (.int cr), .val (.int ce), .val (.int cs), .val (.ref a4), .val (.int kk), .val (.int cc), .val (.int (1 : Int32))]) 127 A S7 at_125 rfl rfl ?_
      refine s_goto 172 A S7 at_127 (by decide) (by decide) ?_
      refine s_aload 174 A S7 at_172 rfl (by first | rfl | assumption) rfl ?_
      refine s_iload 176 A S7 at_174 rfl rfl ?_
      refine s_virtV (y := (⟨"com/example/vitalwire/vitalwire/codec/Delimiters", "isDelimiter", "(C)Z"⟩ : MethodName)) (z := (⟨"com/example/vitalwire/vitalwire/codec/Delimiters", "isDelimiter", "(C)Z"⟩ : MethodName)) (argsL := [(.int cc)]) (rest := []) (b := a4) 179 A S7 E23 (hw _ (List.mem_of_getElem? (i := 24) rfl)) (hw _ (List.mem_of_getElem? (i := 25) rfl)) (notFace_of_selects (args := #[]) (mvT A.2.2.2.2.2.2.2 (hw _ (List.mem_of_getElem? (i := 27) rfl)))) (hw _ (List.mem_of_getElem? (i := 27) rfl)) (hw _ (List.mem_of_getElem? (i := 26) rfl)) (hw _ (List.mem_of_getElem? (i := 2) rfl)) (hw _ (List.mem_of_getElem? (i := 28) rfl)) (rm4 l Z a0 hw [] a4 cf cc cr ce cs cc h8 n0 Z24 F13 F14 F15 F16 F17) (lenOf pd__C_Z rfl) at_176 rfl rfl rfl (by decide) (by decide) (Nat.le_of_ble_eq_true rfl) (by decide) (by decide) fun T67 S68 => ?_
      refine s_iload 181 A S68 at_179 rfl rfl ?_
      refine s_ine (yi := 1) 188 184 A S68 rfl rfl at_181 (by decide) (by decide) rfl (fun c69 tc69 => (by exact c69 (own_d1 (by first | simp)) : False).elim) (fun c69 tc69 => ?_)
      refine s_iconst (z := (1 : Int32)) 185 A S68 at_184 rfl rfl ?_
      refine s_goto 189 A S68 at_185 (by decide) (by decide) ?_
      exact s_retZ A S68 at_189 rfl (by decide) (by decide) rfl
  · refine s_iload 54 A S7 at_52 rfl rfl ?_
    refine s_istore (Ls' := #[.val (.int i0), .val (.int i1), .val (.int i2), .val (.int i3), .val (.int i4), .val (.int i5), .val (.int cf), .val (.int cc), .val (.int cr), .val (.int ce), .val (.int cs), .val (.ref a4), .val (.int kk), .val (.int cf), .unset]) 56 A S7 at_54 rfl rfl ?_
    refine s_goto 118 A S7 at_56 (by decide) (by decide) ?_
    refine s_iload 120 A S7 at_118 rfl rfl ?_
    refine s_iconst (z := (5 : Int32)) 121 A S7 at_120 rfl rfl ?_
    refine s_ige (yi := 5) 130 124 A S7 rfl rfl at_121 (by decide) (by decide) rfl (fun c70 => (by omega : False).elim) (fun c70 => ?_)
    refine s_iconst (z := (1 : Int32)) 125 A S7 at_124 rfl rfl ?_
    refine s_istore (Ls' := #[.val (.int i0), .val (.int i1), .val (.int i2), .val (.int i3), .val (.int i4), .val (.int i5), .val (.int cf), .val (.int cc), .val (.int cr), .val (.int ce), .val (.int cs), .val (.ref a4), .val (.int kk), .val (.int cf), .val (.int (1 : Int32))]) 127 A S7 at_125 rfl rfl ?_
    refine s_goto 172 A S7 at_127 (by decide) (by decide) ?_
    refine s_aload 174 A S7 at_172 rfl (by first | rfl | assumption) rfl ?_
    refine s_iload 176 A S7 at_174 rfl rfl ?_
    refine s_virtV (y := (⟨"com/example/vitalwire/vitalwire/codec/Delimiters", "isDelimiter", "(C)Z"⟩ : MethodName)) (z := (⟨"com/example/vitalwire/vitalwire/codec/Delimiters", "isDelimiter", "(C)Z"⟩ : MethodName)) (argsL := [(.int cf)]) (rest := []) (b := a4) 179 A S7 E23 (hw _ (List.mem_of_getElem? (i := 24) rfl)) (hw _ (List.mem_of_getElem? (i := 25) rfl)) (notFace_of_selects (args := #[]) (mvT A.2.2.2.2.2.2.2 (hw _ (List.mem_of_getElem? (i := 27) rfl)))) (hw _ (List.mem_of_getElem? (i := 27) rfl)) (hw _ (List.mem_of_getElem? (i := 26) rfl)) (hw _ (List.mem_of_getElem? (i := 2) rfl)) (hw _ (List.mem_of_getElem? (i := 28) rfl)) (rm4 l Z a0 hw [] a4 cf cc cr ce cs cf h8 n0 Z24 F13 F14 F15 F16 F17) (lenOf pd__C_Z rfl) at_176 rfl rfl rfl (by decide) (by decide) (Nat.le_of_ble_eq_true rfl) (by decide) (by decide) fun T71 S72 => ?_
    refine s_iload 181 A S72 at_179 rfl rfl ?_
    refine s_ine (yi := 1) 188 184 A S72 rfl rfl at_181 (by decide) (by decide) rfl (fun c73 tc73 => (by exact c73 (own_d1 (by first | simp)) : False).elim) (fun c73 tc73 => ?_)
    refine s_iconst (z := (1 : Int32)) 185 A S72 at_184 rfl rfl ?_
    refine s_goto 189 A S72 at_185 (by decide) (by decide) ?_
    exact s_retZ A S72 at_189 rfl (by decide) (by decide) rfl
set_option maxRecDepth 65536 in
set_option maxHeartbeats 40000000 in
theorem comes_1 {Post : Tables → Env → Array Value → State → Outcome → State → Prop} (hpost : ∀ tb e args s v u, (limb_1_1.after args s (.returned v) u = true ∧ limb_1_2.after args s (.returned v) u = true ∧ True) → FrameEnd s (.returned v) u (Jvm.fieldLocs frame_1_writes args s ++ Jvm.arrayLocs frame_1_arrays args s ++ Jvm.staticLocs frame_1_statics s) 16 128 → Post tb e args s (.returned v) u) :
    ArmFor flags0 classFile x code maxLocals ret World_1 tables_1 room_1 Calls_1 rest_1 Pre_1 Post := by
  intro l hfl _ _ p e ha hc hk s m args below hf hA hF happ hP
  obtain ⟨hcalls, hrest, hpre⟩ := hP
  obtain ⟨-, -, -, hnamed, -, -, -, hat⟩ := (Spec.applies_iff hf).mp happ
  obtain ⟨hg, hn⟩ := and_e (Cond.before_iff.mp (show (Jvm.Cond.and given_1 narrow_1).before args s = true from hpre))
  obtain ⟨g0, k0⟩ := and_e hg
  obtain ⟨j0, k1⟩ := and_e k0
  obtain ⟨j1, k2⟩ := and_e k1
  obtain ⟨j2, k3⟩ := and_e k2
  obtain ⟨j3, k4⟩ := and_e k3
  obtain ⟨j4, k5⟩ := and_e k4
  obtain ⟨w0, w1, w2, w3, w4, w5, rfl⟩ : ∃ w0 w1 w2 w3 w4 w5 : Value, args = #[w0, w1, w2, w3, w4, w5] := by
    have hs : args.size = 6 := by simpa [Cond.value, given_1] using g0
    obtain ⟨L⟩ := args
    match L, hs with
    | [w0, w1, w2, w3, w4, w5], _ => exact ⟨w0, w1, w2, w3, w4, w5, rfl⟩
  have hw := fun d (hd : d ∈ tables_1) => atoms_spec (ws := Jvm.Cond.code x code maxLocals ret :: tables_1) hat d (List.mem_cons_of_mem _ hd)
  have hfit : Fit s := fun {y c} hc i hi => by
    obtain ⟨ha, rfl⟩ := Array.getElem?_eq_some_iff.mp hc
    have q := List.all_eq_true.mp ((Array.all_eq_true_iff_forall_mem.mp hF) _ (Array.getElem_mem ha)) i (List.mem_range.mpr hi)
    simpa [Array.getElem?_eq_getElem hi] using q
  obtain ⟨i0, ei0⟩ := is_v j0
  obtain rfl : w0 = (.int i0) := Option.some.inj ei0
  obtain ⟨i1, ei1⟩ := is_v j1
  obtain rfl : w1 = (.int i1) := Option.some.inj ei1
  obtain ⟨i2, ei2⟩ := is_v j2
  obtain rfl : w2 = (.int i2) := Option.some.inj ei2
  obtain ⟨i3, ei3⟩ := is_v j3
  obtain rfl : w3 = (.int i3) := Option.some.inj ei3
  obtain ⟨i4, ei4⟩ := is_v j4
  obtain rfl : w4 = (.int i4) := Option.some.inj ei4
  obtain ⟨i5, ei5⟩ := is_v k5
  obtain rfl : w5 = (.int i5) := Option.some.inj ei5
  obtain ⟨n, o, h1, h2, h3, _, L, rfl, ⟨rfl, N⟩, hq⟩ := rm0 l s _ hw tables_1 i0 i1 i2 i3 i4 i5 s.heap s.heap.size (Nat.le_refl _)  p e ha hc hk s m _ below hf ((Spec.applies_iff_loose hf).mp happ).1 ⟨rfl, State.Warmed39.refl s, rfl⟩ trivial
  refine ⟨n, _, h1, h2, h3, hpost _ _ _ _ _ _ ⟨Cond.after_iff.mpr rfl, Cond.after_iff.mpr (eq_i res_at (Term.int_eval (1)) rfl), trivial⟩ ⟨hq.1, hq.2.1, (hq.2.2.sift fun y hy => Or.inr (N y hy)).mono (by decide) (by decide)⟩⟩
theorem main_1_1 : Claimed_1_1 := comes_1 fun _ _ _ _ _ _ h hF => ⟨h.1, hF⟩
theorem main_1_2 : Claimed_1_2 := comes_1 fun _ _ _ _ _ _ h hF => ⟨h.2.1, hF⟩
end Jvm.Pilot.@@N@@
namespace Jvm.Pilot.@@N@@
open Jvm Jvm.ClassFile Sem Op Lib Jvm.Free Jvm.Stand Jvm.Pilot.@@N@@.Jvm.D
/-! MADE BY PROGRAM (witnessworld.py) out of the Statement's table words and the real class files: 10 classes; the members and pool entries that the words name. The judged class is class 1, her method 1. -/
namespace start1
open Jvm.ClassFile
def u (s : String) : CpInfo := .utf8 (stringToUtf16 s)
/-- a pool by its gaps: so many unusable entries, then the entry; so many at the end -/
def gap : Nat → List CpInfo → List CpInfo
  | 0, r => r
  | n + 1, r => .unusable :: gap n r
def poolList (es : List (Nat × CpInfo)) (last : Nat) : List CpInfo := es.foldr (fun e r => gap e.1 (e.2 :: r)) (gap last [])
def pool (es : List (Nat × CpInfo)) (last : Nat) : Array CpInfo := ⟨poolList es last⟩
def fileOf (pool : Array CpInfo) (this : Nat) (attrs : Array Attribute := #[]) (ms : Array MethodInfo := #[]) (fl : Nat := 33) (sup : Nat := 0) (ifs : Array Nat := #[]) (fds : Array FieldInfo := #[]) : ClassFile where
  minorVersion := 0
  majorVersion := 65
  constantPool := pool
  accessFlags := fl
  thisClass := this
  superClass := sup
  interfaces := ifs
  fields := fds
  methods := ms
  attributes := attrs
def plain (name : String) (sup : Option ClassId) : Class where
  name := name
  kind := .ordinary
  loader := none
  accessFlags := 33
  super := sup
  interfaces := #[]
  cf := none
  fields := #[]
  methods := #[]
  instanceTypes := #[]
  staticTypes := #[]
  resolved := #[]
  callSites := []
  init := .initialized
  statics := none
  mirror := none

def pool0 : Array CpInfo := pool [(5, u "<init>"), (0, u "()V"), (1, .class_ 10), (1, u "java/lang/Object")] 113

def k0c0 : Code := { maxStack := 0, maxLocals := 1, code := object_method_1_code, exceptionTable := #[], attributes := #[] }
def k0m0 : Method := { name := "<init>", desc := "()V", sig := { parameters := [], returnType := none }, accessFlags := 1, code := some k0c0 }
/-- java/lang/Object -/
def k0 : Class := { plain "java/lang/Object" none with
  accessFlags := 33
  interfaces := #[]
  cf := some (fileOf pool0 8 #[] #[{ accessFlags := 1, nameIndex := 5, descriptorIndex := 6, attributes := #[] }] 33 0 #[] #[])
  fields := #[]
  methods := #[k0m0]
  instanceTypes := #[]
  staticTypes := #[]
  resolved := Array.replicate 124 none
  statics := none }

def pool1 : Array CpInfo := pool [(2, .class_ 4), (1, u "java/lang/Object"), (0, u "<init>"), (0, u "()V"), (0, .class_ 8), (0, u "com/example/vitalwire/vitalwire/codec/Delimiters"), (0, .methodref 7 10), (0, .nameAndType 5 11), (0, u "(CCCCC)V"), (0, .methodref 7 13), (0, .nameAndType 14 15), (0, u "isDelimiter"), (0, u "(C)Z"), (0, .class_ 17), (0, u "com/example/vitalwire/vitalwire/codec/DelimitersIsDelimiterPinLaw"), (2, u "law"), (0, u "(IIIIII)Z")] 3

def k1m0 : Method := { name := "<init>", desc := "()V", sig := { parameters := [], returnType := none }, accessFlags := 1, code := none }
def k1c1 : Code := { maxStack := 7, maxLocals := 15, code := code, exceptionTable := #[], attributes := #[] }
def k1m1 : Method := { name := "law", desc := "(IIIIII)Z", sig := { parameters := [.int, .int, .int, .int, .int, .int], returnType := some .boolean }, accessFlags := 9, code := some k1c1 }
/-- com/example/vitalwire/vitalwire/codec/DelimitersIsDelimiterPinLaw -/
def k1 : Class := { plain "com/example/vitalwire/vitalwire/codec/DelimitersIsDelimiterPinLaw" (some 0) with
  accessFlags := 49
  interfaces := #[]
  cf := some (fileOf pool1 16 #[] #[{ accessFlags := 1, nameIndex := 5, descriptorIndex := 6, attributes := #[] }, { accessFlags := 9, nameIndex := 20, descriptorIndex := 21, attributes := #[] }] 49 2 #[] #[])
  fields := #[]
  methods := #[k1m0, k1m1]
  instanceTypes := #[]
  staticTypes := #[]
  resolved := Array.replicate 25 none
  statics := none }

def pool2 : Array CpInfo := pool [(1, .methodref 2 3), (0, .class_ 4), (0, .nameAndType 5 6), (0, u "java/lang/Object"), (0, u "<init>"), (0, u "()V"), (0, .class_ 8), (0, u "java/lang/Record")] 13

def k2c0 : Code := { maxStack := 1, maxLocals := 1, code := jdk_30_method_1_code, exceptionTable := #[], attributes := #[] }
def k2m0 : Method := { name := "<init>", desc := "()V", sig := { parameters := [], returnType := none }, accessFlags := 4, code := some k2c0 }
/-- java/lang/Record -/
def k2 : Class := { plain "java/lang/Record" (some 0) with
  accessFlags := 1057
  interfaces := #[]
  cf := some (fileOf pool2 7 #[] #[{ accessFlags := 4, nameIndex := 5, descriptorIndex := 6, attributes := #[] }] 1057 2 #[] #[])
  fields := #[]
  methods := #[k2m0]
  instanceTypes := #[]
  staticTypes := #[]
  resolved := Array.replicate 22 none
  statics := none }

def pool3 : Array CpInfo := pool [(1, .methodref 2 3), (0, .class_ 4), (0, .nameAndType 5 6), (0, u "java/lang/Record"), (0, u "<init>"), (0, u "()V"), (0, .fieldref 8 9), (0, .class_ 10), (0, .nameAndType 11 12), (0, u "com/example/vitalwire/vitalwire/codec/Delimiters"), (0, u "field"), (0, u "C"), (0, .fieldref 8 14), (0, .nameAndType 15 12), (0, u "component"), (0, .fieldref 8 17), (0, .nameAndType 18 12), (0, u "repetition"), (0, .fieldref 8 20), (0, .nameAndType 21 12), (0, u "escape"), (0, .fieldref 8 23), (0, .nameAndType 24 12), (0, u "subcomponent"), (20, u "DEFAULT"), (0, u "Lcom/example/vitalwire/vitalwire/codec/Delimiters;"), (2, u "(CCCCC)V"), (106, u "isDelimiter"), (0, u "(C)Z")] 53

def k3c0 : Code := { maxStack := 2, maxLocals := 6, code := prog_16_method_1_code, exceptionTable := #[], attributes := #[] }
def k3m0 : Method := { name := "<init>", desc := "(CCCCC)V", sig := { parameters := [.char, .char, .char, .char, .char], returnType := none }, accessFlags := 1, code := some k3c0 }
def k3c1 : Code := { maxStack := 2, maxLocals := 2, code := prog_16_method_3_code, exceptionTable := #[], attributes := #[] }
def k3m1 : Method := { name := "isDelimiter", desc := "(C)Z", sig := { parameters := [.char], returnType := some .boolean }, accessFlags := 0, code := some k3c1 }
/-- com/example/vitalwire/vitalwire/codec/Delimiters -/
def k3 : Class := { plain "com/example/vitalwire/vitalwire/codec/Delimiters" (some 2) with
  accessFlags := 49
  interfaces := #[]
  cf := some (fileOf pool3 8 #[] #[{ accessFlags := 1, nameIndex := 5, descriptorIndex := 49, attributes := #[] }, { accessFlags := 0, nameIndex := 156, descriptorIndex := 157, attributes := #[] }] 49 2 #[] #[{ accessFlags := 18, nameIndex := 11, descriptorIndex := 12, attributes := #[] }, { accessFlags := 18, nameIndex := 15, descriptorIndex := 12, attributes := #[] }, { accessFlags := 18, nameIndex := 18, descriptorIndex := 12, attributes := #[] }, { accessFlags := 18, nameIndex := 21, descriptorIndex := 12, attributes := #[] }, { accessFlags := 18, nameIndex := 24, descriptorIndex := 12, attributes := #[] }, { accessFlags := 25, nameIndex := 45, descriptorIndex := 46, attributes := #[] }])
  fields := #[{ name := "field", type := .char, accessFlags := 18, slot := 0, constantValue := 0 }, { name := "component", type := .char, accessFlags := 18, slot := 1, constantValue := 0 }, { name := "repetition", type := .char, accessFlags := 18, slot := 2, constantValue := 0 }, { name := "escape", type := .char, accessFlags := 18, slot := 3, constantValue := 0 }, { name := "subcomponent", type := .char, accessFlags := 18, slot := 4, constantValue := 0 }, { name := "DEFAULT", type := (.object "com/example/vitalwire/vitalwire/codec/Delimiters"), accessFlags := 25, slot := 0, constantValue := 0 }]
  methods := #[k3m0, k3m1]
  instanceTypes := #[.char, .char, .char, .char, .char]
  staticTypes := #[(.object "com/example/vitalwire/vitalwire/codec/Delimiters")]
  resolved := Array.replicate 211 none
  statics := none }

def pool4 : Array CpInfo := pool [(1, u "java/lang/Cloneable"), (0, .class_ 1), (0, u "java/lang/Object"), (0, .class_ 3)] 3

/-- java/lang/Cloneable -/
def k4 : Class := { plain "java/lang/Cloneable" (some 0) with
  accessFlags := 1537
  interfaces := #[]
  cf := some (fileOf pool4 2 #[] #[] 1537 4 #[] #[])
  fields := #[]
  methods := #[]
  instanceTypes := #[]
  staticTypes := #[]
  resolved := Array.replicate 8 none
  statics := none }

def pool5 : Array CpInfo := pool [(1, u "java/io/Serializable"), (0, .class_ 1), (0, u "java/lang/Object"), (0, .class_ 3)] 3

/-- java/io/Serializable -/
def k5 : Class := { plain "java/io/Serializable" (some 0) with
  accessFlags := 1537
  interfaces := #[]
  cf := some (fileOf pool5 2 #[] #[] 1537 4 #[] #[])
  fields := #[]
  methods := #[]
  instanceTypes := #[]
  staticTypes := #[]
  resolved := Array.replicate 8 none
  statics := none }

/-- the primitive byte -/
def k6 : Class := { plain "byte" none with kind := .primitive 'B', accessFlags := 0x411 }
/-- [B -/
def k7 : Class := { plain "[B" (some 0) with kind := .array 6 .byte, interfaces := #[4, 5], accessFlags := 1041 }

/-- the primitive int -/
def k8 : Class := { plain "int" none with kind := .primitive 'I', accessFlags := 0x411 }
/-- [I -/
def k9 : Class := { plain "[I" (some 0) with kind := .array 8 .int, interfaces := #[4, 5], accessFlags := 1041 }

def heap : Heap := #[]
def classes : Array Class := #[k0, k1, k2, k3, k4, k5, k6, k7, k8, k9]
def interned : List (Array UInt16 × Addr) := []
def slotsUsed : Nat := 0
def theMethod : MethodId := ⟨1, 1⟩
def args0 : Array Value := #[.int 124, .int 94, .int 126, .int 92, .int 38, .int 3]
def aboutOver (below : List Frame) : State where
  vm := { classes := classes, interned := interned.toArray }
  heap := heap
  slotsUsed := slotsUsed
  threads := #[{ frames := .invoking theMethod args0 :: below }]
def below0 : List Frame := [.native { method := ⟨0, 0⟩, args := #[] }]
def about1 : State := aboutOver below0
def p0 : Program := .bare "" "" ""
def e0 : Env := launch0.env 0 0 0
theorem w_frames : about1.frames = Frame.invoking theMethod args0 :: below0 := rfl
set_option maxRecDepth 65536 in
theorem w_args : argsFit about1.vm theMethod args0 = true := by decide +kernel
set_option maxRecDepth 65536 in
theorem w_heap : heapFits about1 = true := by decide +kernel
set_option maxRecDepth 65536 in
theorem w_runnable : about1.curStatus? = some .runnable := by decide +kernel
set_option maxRecDepth 65536 in
theorem w_alone : about1.alone = true := by decide +kernel
set_option maxRecDepth 65536 in
theorem w_named : about1.methodNamed? x = some theMethod := by decide +kernel
set_option maxRecDepth 65536 in
theorem w_hears : about1.hears theMethod below0 = true := by decide +kernel
set_option maxRecDepth 65536 in
theorem w_ripe : about1.ripe theMethod args0 below0 = true := by decide +kernel
theorem w_running : about1.status = .running := rfl
set_option maxRecDepth 65536 in
theorem w_room : about1.hasRoom e0.platform room_1 = true :=
  launch0.hasRoom_least _ room_1 (by decide +kernel) (by decide +kernel) (by decide +kernel) (by decide +kernel) (by decide +kernel) (by decide +kernel)
theorem allAtoms_all (ts : List Jvm.Cond) (a : Array Jvm.Value) (st : Jvm.State) : (allAtoms ts).before a st = ts.all (fun c => c.before a st) := by
  induction ts with
  | nil => rfl
  | cons c t ih =>
    show (Jvm.Cond.and c (allAtoms t)).before a st = _
    rw [Jvm.Cond.before_and, ih, List.all_cons]
def words1 : List Jvm.Cond := Jvm.Cond.code x code maxLocals ret :: tables_1
/-- a 'code' word, met by the world's own term for the bytes: nothing is compared byte by byte -/
theorem code_word {y : MethodName} {bytes : ByteArray} {mx : Nat} {rt : Option FieldType} {a : Array Value} {s : State} {m : MethodId} {meth : Method} {c : Code} (h1 : s.methodNamed? y = some m) (h2 : s.vm.method? m = some meth) (h3 : meth.code = some c) (h4 : c.code = bytes)
    (h5 : (c.maxLocals == mx && c.exceptionTable.isEmpty && decide (c.maxStack ≤ mostOperands) && decide (meth.sig.returnType = rt) && !meth.locks && decide (parseMethodDescriptor y.desc = some meth.sig)) = true) : (Jvm.Cond.code y bytes mx rt).before a s = true := by
  simp only [Bool.and_eq_true, beq_iff_eq, Bool.not_eq_true', decide_eq_true_eq] at h5
  obtain ⟨⟨⟨⟨⟨g1, g2⟩, g3⟩, g4⟩, g5⟩, g6⟩ := h5
  simp [Cond.before, Cond.holds, Cond.value, h1, h2, h3, h4, g1, g2, g3, g4, g5, g6]
def isCode : Jvm.Cond → Bool
  | .code _ _ _ _ => true
  | _ => false
theorem all_split {L : List Jvm.Cond} {P : Jvm.Cond → Bool} (h1 : L.all (fun c => isCode c || P c) = true) (h2 : ∀ c ∈ L.filter isCode, P c = true) : L.all P = true := by
  refine List.all_eq_true.mpr fun c hc => ?_
  have h := List.all_eq_true.mp h1 c hc
  rcases Bool.eq_false_or_eq_true (isCode c) with hi | hi
  · exact h2 c (List.mem_filter.mpr ⟨hc, hi⟩)
  · simpa [hi] using h
set_option maxRecDepth 65536 in
theorem w_c0 : (Jvm.Cond.code x code maxLocals ret).before args0 about1 = true := code_word (m := ⟨1, 1⟩) (meth := k1m1) (c := k1c1) (by decide +kernel) rfl rfl rfl (by decide +kernel)
set_option maxRecDepth 65536 in
theorem w_c1 : (Jvm.Cond.code ({ cls := "com/example/vitalwire/vitalwire/codec/Delimiters", name := "<init>", desc := "(CCCCC)V" } : Jvm.MethodName) prog_16_method_1_code (6 : Nat) (Option.none : Option Jvm.ClassFile.FieldType)).before args0 about1 = true := code_word (m := ⟨3, 0⟩) (meth := k3m0) (c := k3c0) (by decide +kernel) rfl rfl rfl (by decide +kernel)
set_option maxRecDepth 65536 in
theorem w_c2 : (Jvm.Cond.code ({ cls := "java/lang/Record", name := "<init>", desc := "()V" } : Jvm.MethodName) jdk_30_method_1_code (1 : Nat) (Option.none : Option Jvm.ClassFile.FieldType)).before args0 about1 = true := code_word (m := ⟨2, 0⟩) (meth := k2m0) (c := k2c0) (by decide +kernel) rfl rfl rfl (by decide +kernel)
set_option maxRecDepth 65536 in
theorem w_c3 : (Jvm.Cond.code ({ cls := "java/lang/Object", name := "<init>", desc := "()V" } : Jvm.MethodName) object_method_1_code (1 : Nat) (Option.none : Option Jvm.ClassFile.FieldType)).before args0 about1 = true := code_word (m := ⟨0, 0⟩) (meth := k0m0) (c := k0c0) (by decide +kernel) rfl rfl rfl (by decide +kernel)
set_option maxRecDepth 65536 in
theorem w_c4 : (Jvm.Cond.code ({ cls := "com/example/vitalwire/vitalwire/codec/Delimiters", name := "isDelimiter", desc := "(C)Z" } : Jvm.MethodName) prog_16_method_3_code (2 : Nat) (Option.some Jvm.ClassFile.FieldType.boolean)).before args0 about1 = true := code_word (m := ⟨3, 1⟩) (meth := k3m1) (c := k3c1) (by decide +kernel) rfl rfl rfl (by decide +kernel)
def codes1 : List Jvm.Cond := [Jvm.Cond.code x code maxLocals ret, Jvm.Cond.code ({ cls := "com/example/vitalwire/vitalwire/codec/Delimiters", name := "<init>", desc := "(CCCCC)V" } : Jvm.MethodName) prog_16_method_1_code (6 : Nat) (Option.none : Option Jvm.ClassFile.FieldType), Jvm.Cond.code ({ cls := "java/lang/Record", name := "<init>", desc := "()V" } : Jvm.MethodName) jdk_30_method_1_code (1 : Nat) (Option.none : Option Jvm.ClassFile.FieldType), Jvm.Cond.code ({ cls := "java/lang/Object", name := "<init>", desc := "()V" } : Jvm.MethodName) object_method_1_code (1 : Nat) (Option.none : Option Jvm.ClassFile.FieldType), Jvm.Cond.code ({ cls := "com/example/vitalwire/vitalwire/codec/Delimiters", name := "isDelimiter", desc := "(C)Z" } : Jvm.MethodName) prog_16_method_3_code (2 : Nat) (Option.some Jvm.ClassFile.FieldType.boolean)]
set_option maxRecDepth 65536 in
theorem codes_eq : words1.filter isCode = codes1 := rfl
theorem w_codes : ∀ c ∈ words1.filter isCode, c.before args0 about1 = true := by
  rw [codes_eq]
  intro c hc
  simp only [codes1, List.mem_cons, List.not_mem_nil, or_false] at hc
  rcases hc with rfl | rfl | rfl | rfl | rfl
  · exact w_c0
  · exact w_c1
  · exact w_c2
  · exact w_c3
  · exact w_c4
set_option maxRecDepth 65536 in
theorem w_t1 : (words1.take 24).all (fun c => isCode c || c.before args0 about1) = true := by decide +kernel
set_option maxRecDepth 65536 in
theorem w_t2 : (words1.drop 24).all (fun c => isCode c || c.before args0 about1) = true := by decide +kernel
theorem w_tables : (allAtoms (Jvm.Cond.code x code maxLocals ret :: tables_1)).before args0 about1 = true := by
  rw [allAtoms_all]
  show words1.all (fun c => c.before args0 about1) = true
  refine all_split ?_ w_codes
  rw [← List.take_append_drop 24 words1, List.all_append, w_t1, w_t2]
  rfl
set_option maxRecDepth 65536 in
theorem w_case : (Jvm.Cond.and given_1 narrow_1).before args0 about1 = true := by decide +kernel
theorem w_applies : (headSpec (Jvm.Cond.code x code maxLocals ret :: tables_1) room_1).applies x e0.platform about1 = true :=
  (Spec.applies_iff w_frames).mpr ⟨w_running, w_runnable, w_alone, w_named, w_hears, w_ripe, w_room, w_tables⟩
theorem atStart : AtStart classFile x code maxLocals ret World_1 tables_1 room_1 Calls_1 rest_1 Pre_1 launch0 p0 e0 about1 theMethod args0 below0 :=
  ⟨lists_1, trivial, launch0.admits_env _ _ _, launch0.least_env, fairChoices_fair.cas, fairChoices_fair.clock, w_frames, w_args, w_heap, w_applies, trivial, trivial, w_case⟩
end start1
theorem witness_1 : WitnessClaimed_1 := ⟨start1.p0, start1.e0, start1.about1, start1.theMethod, start1.args0, start1.below0, start1.atStart⟩
end Jvm.Pilot.@@N@@
