import JvmDerived
import JvmDerived.Pilot.@@N@@Statement
import JvmDerived.Pilot.@@N@@Code
set_option linter.unusedVariables false
set_option linter.unusedSimpArgs false
namespace Jvm.Pilot.@@N@@
open Jvm Jvm.ClassFile Sem Op Lib Jvm.Free Jvm.Stand Jvm.LawKit Jvm.RoadKit Bundle Jvm.Pilot.@@N@@.Jvm.D
def own_A (p : Program) (l : Launch) (e : Env) (R : Room) (s : State) (m : MethodId) (args : Array Value) (below : List Frame) (meth : Method) (c : Code) (Z : State) (own name : String) (bytes : ByteArray) (maxL : Nat) (ret : Option FieldType) : Prop :=
  p.tables.exec = Jvm.exec ∧ c.code = bytes ∧ c.maxLocals = maxL ∧ s.vm.findClass own = some m.cls ∧ meth.name = name ∧ meth.sig.returnType = ret ∧ meth.locks = false ∧ Z.Warmed39 s.vm
def own_S (p : Program) (l : Launch) (e : Env) (R : Room) (s : State) (m : MethodId) (args : Array Value) (below : List Frame) (meth : Method) (c : Code) (n0 : Nat) (T : State) (h : Heap) (k n : Nat) : Prop :=
  ∃ locs, Stand p l e R s m args below meth c T locs k n ∧ T.heap = h ∧ Fr n0 locs
def own_G (p : Program) (e : Env) (below : List Frame) (s : State) (n0 kc ks : Nat) (Q : Option Value → Heap → Prop) (T : State) (g : JFrame) : Prop :=
  ∃ s₂ o, Steps p.tables e below (T.setTop g) s₂ ∧ s₂.status = .running ∧ Ended s₂ below o ∧ ∃ v L, o = .returned v ∧ (Q v s₂.heap ∧ Fr n0 L) ∧ FrameEnd s o s₂ L kc ks
def own_C (l : Launch) (Z : State) (y : MethodName) (bytes : ByteArray) (maxL : Nat) (ret : Option FieldType) (rm : Room) (n0 : Nat) (ws : List Jvm.Cond) (as' : Array Value) (h0 : Heap) (Q : Option Value → Heap → Prop) : Prop :=
  MetFree l y (head1 (Jvm.Cond.code y bytes maxL ret :: ws) rm) (fun a U => a = as' ∧ Z.Warmed39 U.vm ∧ U.heap = h0) (fun _ _ _ _ _ => True) (fun _ U o U' => ∃ v L, o = .returned v ∧ (Q v U'.heap ∧ Fr n0 L) ∧ FrameEnd U o U' L rm.cells rm.slots)
section OwnLayer
variable {p : Program} {l : Launch} {e : Env} {R : Room} {s : State} {m : MethodId} {args : Array Value} {below : List Frame} {meth : Method} {c : Code} {Z : State} {own name : String} {bytes : ByteArray} {maxL : Nat} {ret : Option FieldType} {T T' : State} {h : Heap} {k n n0 kc ks pc : Nat} {Ls Ls' : Array Slot} {st : List Value} {Q : Option Value → Heap → Prop} {g g' : JFrame} {a0 : Array Value}
theorem own_st (q : ∀ t, Steps p.tables e below (T'.setTop g') t → Steps p.tables e below (T.setTop g) t) (K : own_G p e below s n0 kc ks Q T' g') : own_G p e below s n0 kc ks Q T g := by
  obtain ⟨s2, o, a, b⟩ := K; exact ⟨s2, o, q _ a, b⟩
theorem own_C.of {y : MethodName} {rm : Room} {ws : List Jvm.Cond} {as' : Array Value} {h0 : Heap} (pn : plainFor y = true) (hn : n0 ≤ h0.size)
    (body : ∀ (p : Program) (e : Env) (s : State) (m : MethodId) (below : List Frame) (meth : Method) (c : Code) (T : State), own_A p l e rm s m as' below meth c Z y.cls y.name bytes maxL ret → own_S p l e rm s m as' below meth c n0 T h0 0 0 → own_G p e below s n0 rm.cells rm.slots Q T (entryFrame m as' maxL)) :
    own_C l Z y bytes maxL ret rm n0 ws as' h0 Q := by
  refine MetFree.of_bodySF pn hisR ?_
  intro p e s m args below meth c s₁ Bd hml0 hP hK
  obtain ⟨rfl, hZ, hh⟩ := hP
  have e0 : s₁.heap = h0 := by rw [← hh, Bd.state]; rfl
  exact body p e s m below meth c s₁ ⟨Bd.exec, Bd.bytes, hml0, findClass_of_methodNamed Bd.named, (name_of_methodNamed Bd.named Bd.method).1, Bd.returns, Bd.notSynchronized, hZ⟩ ⟨[], Stand.of_body Bd, e0, Fr.nil n0⟩
def own_ushr (x y : Int32) : Int32 := (x.toUInt32 >>> (y &&& 31).toUInt32).toInt32
def own_ushrL (x : Int64) (y : Int32) : Int64 := (x.toUInt64 >>> (y &&& 0x3f).toInt64.toUInt64).toInt64
theorem own_toInt {x y : Int32} (hh : ¬ x = y) : x.toInt ≠ y.toInt := fun q => hh (Int32.toInt_inj.mp q)
theorem own_toIntL {x y : Int64} (hh : ¬ x = y) : x.toInt ≠ y.toInt := fun q => hh (Int64.toInt_inj.mp q)
theorem s_iloadN (pc' : Nat) {i : Fin 4} {v : Int32} (A : own_A p l e R s m args below meth c Z own name bytes maxL ret) (S : own_S p l e R s m args below meth c n0 T h k n) (hd : decode bytes pc = .ok (.iload_n i, 1)) (hl : Ls[i.val]? = some (.val (.int v))) (hp : pc + 1 = pc') (K : own_G p e below s n0 kc ks Q T (mkF m pc' Ls (.int v :: st))) : own_G p e below s n0 kc ks Q T (mkF m pc Ls st) := by
  obtain ⟨_, X, -, -⟩ := S
  subst hp
  exact own_st (T' := T) (g' := mkF m _ Ls (.int v :: st)) (fun t ht => XS.iloadN X.here A.1 rfl (hb A.2.1 hd) hl ht) K
theorem s_iload (pc' : Nat) {i : Nat} {v : Int32} (A : own_A p l e R s m args below meth c Z own name bytes maxL ret) (S : own_S p l e R s m args below meth c n0 T h k n) (hd : decode bytes pc = .ok (.iload i, 2)) (hl : Ls[i]? = some (.val (.int v))) (hp : pc + 2 = pc') (K : own_G p e below s n0 kc ks Q T (mkF m pc' Ls (.int v :: st))) : own_G p e below s n0 kc ks Q T (mkF m pc Ls st) := by
  obtain ⟨_, X, -, -⟩ := S
  subst hp
  exact own_st (T' := T) (g' := mkF m _ Ls (.int v :: st)) (fun t ht => XS.iload X.here A.1 rfl (hb A.2.1 hd) hl ht) K
theorem s_istoreN (pc' : Nat) {i : Fin 4} {v : Int32} (A : own_A p l e R s m args below meth c Z own name bytes maxL ret) (S : own_S p l e R s m args below meth c n0 T h k n) (hd : decode bytes pc = .ok (.istore_n i, 1)) (hl : storeLocals Ls i.val (.int v) = some Ls') (hp : pc + 1 = pc') (K : own_G p e below s n0 kc ks Q T (mkF m pc' Ls' st)) : own_G p e below s n0 kc ks Q T (mkF m pc Ls (.int v :: st)) := by
  obtain ⟨_, X, -, -⟩ := S
  subst hp
  exact own_st (T' := T) (g' := mkF m _ Ls' st) (fun t ht => XS.istoreN X.here A.1 rfl (hb A.2.1 hd) rfl hl ht) K
theorem s_istore (pc' : Nat) {i : Nat} {v : Int32} (A : own_A p l e R s m args below meth c Z own name bytes maxL ret) (S : own_S p l e R s m args below meth c n0 T h k n) (hd : decode bytes pc = .ok (.istore i, 2)) (hl : storeLocals Ls i (.int v) = some Ls') (hp : pc + 2 = pc') (K : own_G p e below s n0 kc ks Q T (mkF m pc' Ls' st)) : own_G p e below s n0 kc ks Q T (mkF m pc Ls (.int v :: st)) := by
  obtain ⟨_, X, -, -⟩ := S
  subst hp
  exact own_st (T' := T) (g' := mkF m _ Ls' st) (fun t ht => XS.istore X.here A.1 rfl (hb A.2.1 hd) rfl hl ht) K
theorem s_lloadN (pc' : Nat) {i : Fin 4} {v : Int64} (A : own_A p l e R s m args below meth c Z own name bytes maxL ret) (S : own_S p l e R s m args below meth c n0 T h k n) (hd : decode bytes pc = .ok (.lload_n i, 1)) (hl : Ls[i.val]? = some (.val (.long v))) (hp : pc + 1 = pc') (K : own_G p e below s n0 kc ks Q T (mkF m pc' Ls (.long v :: st))) : own_G p e below s n0 kc ks Q T (mkF m pc Ls st) := by
  obtain ⟨_, X, -, -⟩ := S
  subst hp
  exact own_st (T' := T) (g' := mkF m _ Ls (.long v :: st)) (fun t ht => XS.lloadN X.here A.1 rfl (hb A.2.1 hd) hl ht) K
theorem s_lload (pc' : Nat) {i : Nat} {v : Int64} (A : own_A p l e R s m args below meth c Z own name bytes maxL ret) (S : own_S p l e R s m args below meth c n0 T h k n) (hd : decode bytes pc = .ok (.lload i, 2)) (hl : Ls[i]? = some (.val (.long v))) (hp : pc + 2 = pc') (K : own_G p e below s n0 kc ks Q T (mkF m pc' Ls (.long v :: st))) : own_G p e below s n0 kc ks Q T (mkF m pc Ls st) := by
  obtain ⟨_, X, -, -⟩ := S
  subst hp
  exact own_st (T' := T) (g' := mkF m _ Ls (.long v :: st)) (fun t ht => XS.lload X.here A.1 rfl (hb A.2.1 hd) hl ht) K
theorem s_lstoreN (pc' : Nat) {i : Fin 4} {v : Int64} (A : own_A p l e R s m args below meth c Z own name bytes maxL ret) (S : own_S p l e R s m args below meth c n0 T h k n) (hd : decode bytes pc = .ok (.lstore_n i, 1)) (hl : storeLocals Ls i.val (.long v) = some Ls') (hp : pc + 1 = pc') (K : own_G p e below s n0 kc ks Q T (mkF m pc' Ls' st)) : own_G p e below s n0 kc ks Q T (mkF m pc Ls (.long v :: st)) := by
  obtain ⟨_, X, -, -⟩ := S
  subst hp
  exact own_st (T' := T) (g' := mkF m _ Ls' st) (fun t ht => XS.lstoreN X.here A.1 rfl (hb A.2.1 hd) rfl hl ht) K
theorem s_lstore (pc' : Nat) {i : Nat} {v : Int64} (A : own_A p l e R s m args below meth c Z own name bytes maxL ret) (S : own_S p l e R s m args below meth c n0 T h k n) (hd : decode bytes pc = .ok (.lstore i, 2)) (hl : storeLocals Ls i (.long v) = some Ls') (hp : pc + 2 = pc') (K : own_G p e below s n0 kc ks Q T (mkF m pc' Ls' st)) : own_G p e below s n0 kc ks Q T (mkF m pc Ls (.long v :: st)) := by
  obtain ⟨_, X, -, -⟩ := S
  subst hp
  exact own_st (T' := T) (g' := mkF m _ Ls' st) (fun t ht => XS.lstore X.here A.1 rfl (hb A.2.1 hd) rfl hl ht) K
theorem s_aloadN (pc' : Nat) {i : Fin 4} {v : Value} (A : own_A p l e R s m args below meth c Z own name bytes maxL ret) (S : own_S p l e R s m args below meth c n0 T h k n) (hd : decode bytes pc = .ok (.aload_n i, 1)) (hl : Ls[i.val]? = some (.val v)) (hv : v.isRef = true) (hp : pc + 1 = pc') (K : own_G p e below s n0 kc ks Q T (mkF m pc' Ls (v :: st))) : own_G p e below s n0 kc ks Q T (mkF m pc Ls st) := by
  obtain ⟨_, X, -, -⟩ := S
  subst hp
  exact own_st (T' := T) (g' := mkF m _ Ls (v :: st)) (fun t ht => XS.aloadN X.here A.1 rfl (hb A.2.1 hd) hl hv ht) K
theorem s_aload (pc' : Nat) {i : Nat} {v : Value} (A : own_A p l e R s m args below meth c Z own name bytes maxL ret) (S : own_S p l e R s m args below meth c n0 T h k n) (hd : decode bytes pc = .ok (.aload i, 2)) (hl : Ls[i]? = some (.val v)) (hv : v.isRef = true) (hp : pc + 2 = pc') (K : own_G p e below s n0 kc ks Q T (mkF m pc' Ls (v :: st))) : own_G p e below s n0 kc ks Q T (mkF m pc Ls st) := by
  obtain ⟨_, X, -, -⟩ := S
  subst hp
  exact own_st (T' := T) (g' := mkF m _ Ls (v :: st)) (fun t ht => XS.aload X.here A.1 rfl (hb A.2.1 hd) hl hv ht) K
theorem s_astoreN (pc' : Nat) {i : Fin 4} {v : Value} (A : own_A p l e R s m args below meth c Z own name bytes maxL ret) (S : own_S p l e R s m args below meth c n0 T h k n) (hd : decode bytes pc = .ok (.astore_n i, 1)) (hv : v.isRef = true) (hl : storeLocals Ls i.val v = some Ls') (hp : pc + 1 = pc') (K : own_G p e below s n0 kc ks Q T (mkF m pc' Ls' st)) : own_G p e below s n0 kc ks Q T (mkF m pc Ls (v :: st)) := by
  obtain ⟨_, X, -, -⟩ := S
  subst hp
  exact own_st (T' := T) (g' := mkF m _ Ls' st) (fun t ht => XS.astoreN X.here A.1 rfl (hb A.2.1 hd) rfl hv hl ht) K
theorem s_astore (pc' : Nat) {i : Nat} {v : Value} (A : own_A p l e R s m args below meth c Z own name bytes maxL ret) (S : own_S p l e R s m args below meth c n0 T h k n) (hd : decode bytes pc = .ok (.astore i, 2)) (hv : v.isRef = true) (hl : storeLocals Ls i v = some Ls') (hp : pc + 2 = pc') (K : own_G p e below s n0 kc ks Q T (mkF m pc' Ls' st)) : own_G p e below s n0 kc ks Q T (mkF m pc Ls (v :: st)) := by
  obtain ⟨_, X, -, -⟩ := S
  subst hp
  exact own_st (T' := T) (g' := mkF m _ Ls' st) (fun t ht => XS.astore X.here A.1 rfl (hb A.2.1 hd) rfl hv hl ht) K
theorem s_iconst (pc' : Nat) {i : Int} {z : Int32} (A : own_A p l e R s m args below meth c Z own name bytes maxL ret) (S : own_S p l e R s m args below meth c n0 T h k n) (hd : decode bytes pc = .ok (.iconst i, 1)) (hz : Int32.ofInt i = z) (hp : pc + 1 = pc') (K : own_G p e below s n0 kc ks Q T (mkF m pc' Ls (.int z :: st))) : own_G p e below s n0 kc ks Q T (mkF m pc Ls st) := by
  obtain ⟨_, X, -, -⟩ := S
  subst hp hz
  exact own_st (T' := T) (g' := mkF m _ Ls (.int _ :: st)) (fun t ht => XS.iconst X.here A.1 rfl (hb A.2.1 hd) ht) K
theorem s_bipush (pc' : Nat) {i : Int} {z : Int32} (A : own_A p l e R s m args below meth c Z own name bytes maxL ret) (S : own_S p l e R s m args below meth c n0 T h k n) (hd : decode bytes pc = .ok (.bipush i, 2)) (hz : (Int8.ofInt i).toInt32 = z) (hp : pc + 2 = pc') (K : own_G p e below s n0 kc ks Q T (mkF m pc' Ls (.int z :: st))) : own_G p e below s n0 kc ks Q T (mkF m pc Ls st) := by
  obtain ⟨_, X, -, -⟩ := S
  subst hp hz
  exact own_st (T' := T) (g' := mkF m _ Ls (.int _ :: st)) (fun t ht => XS.bipush X.here A.1 rfl (hb A.2.1 hd) ht) K
theorem s_sipush (pc' : Nat) {i : Int} {z : Int32} (A : own_A p l e R s m args below meth c Z own name bytes maxL ret) (S : own_S p l e R s m args below meth c n0 T h k n) (hd : decode bytes pc = .ok (.sipush i, 3)) (hz : (Int16.ofInt i).toInt32 = z) (hp : pc + 3 = pc') (K : own_G p e below s n0 kc ks Q T (mkF m pc' Ls (.int z :: st))) : own_G p e below s n0 kc ks Q T (mkF m pc Ls st) := by
  obtain ⟨_, X, -, -⟩ := S
  subst hp hz
  exact own_st (T' := T) (g' := mkF m _ Ls (.int _ :: st)) (fun t ht => XS.sipush X.here A.1 rfl (hb A.2.1 hd) ht) K
theorem s_lconst (pc' : Nat) {i : Fin 2} {z : Int64} (A : own_A p l e R s m args below meth c Z own name bytes maxL ret) (S : own_S p l e R s m args below meth c n0 T h k n) (hd : decode bytes pc = .ok (.lconst i, 1)) (hz : Int64.ofNat i = z) (hp : pc + 1 = pc') (K : own_G p e below s n0 kc ks Q T (mkF m pc' Ls (.long z :: st))) : own_G p e below s n0 kc ks Q T (mkF m pc Ls st) := by
  obtain ⟨_, X, -, -⟩ := S
  subst hp hz
  exact own_st (T' := T) (g' := mkF m _ Ls (.long _ :: st)) (fun t ht => XS.lconst X.here A.1 rfl (hb A.2.1 hd) ht) K
theorem s_aconstNull (pc' : Nat)  (A : own_A p l e R s m args below meth c Z own name bytes maxL ret) (S : own_S p l e R s m args below meth c n0 T h k n) (hd : decode bytes pc = .ok (.aconst_null, 1)) (hp : pc + 1 = pc') (K : own_G p e below s n0 kc ks Q T (mkF m pc' Ls (.null :: st))) : own_G p e below s n0 kc ks Q T (mkF m pc Ls st) := by
  obtain ⟨_, X, -, -⟩ := S
  subst hp
  exact own_st (T' := T) (g' := mkF m _ Ls (.null :: st)) (fun t ht => XS.aconstNull X.here A.1 rfl (hb A.2.1 hd)  ht) K
theorem s_ldc (pc' : Nat) {i : Nat} {v : Int32} (A : own_A p l e R s m args below meth c Z own name bytes maxL ret) (S : own_S p l e R s m args below meth c n0 T h k n) (w : (Jvm.Cond.constant own i v).before a0 Z = true) (hd : decode bytes pc = .ok (.ldc i, 2)) (hp : pc + 2 = pc') (K : own_G p e below s n0 kc ks Q T (mkF m pc' Ls (.int v :: st))) : own_G p e below s n0 kc ks Q T (mkF m pc Ls st) := by
  obtain ⟨_, X, -, -⟩ := S
  obtain ⟨hx, hby, -, hown, -, -, -, hZ⟩ := A
  subst hp
  exact own_st (T' := T) (g' := mkF m _ Ls (.int v :: st)) (X.ldcInt hx hown (mvT hZ w) (g := mkF m pc Ls st) rfl (hb hby hd)) K
theorem s_ldc2 (pc' : Nat) {i : Nat} {v : Int64} (A : own_A p l e R s m args below meth c Z own name bytes maxL ret) (S : own_S p l e R s m args below meth c n0 T h k n) (w : (Jvm.Cond.constantLong own i v).before a0 Z = true) (hd : decode bytes pc = .ok (.ldc2_w i, 3)) (hp : pc + 3 = pc') (K : own_G p e below s n0 kc ks Q T (mkF m pc' Ls (.long v :: st))) : own_G p e below s n0 kc ks Q T (mkF m pc Ls st) := by
  obtain ⟨_, X, -, -⟩ := S
  obtain ⟨hx, hby, -, hown, -, -, -, hZ⟩ := A
  subst hp
  exact own_st (T' := T) (g' := mkF m _ Ls (.long v :: st)) (X.ldc2Long hx hown (mvT hZ w) (g := mkF m pc Ls st) rfl (hb hby hd)) K
theorem s_iadd (pc' : Nat) {x y : Int32} {z : Int32} (A : own_A p l e R s m args below meth c Z own name bytes maxL ret) (S : own_S p l e R s m args below meth c n0 T h k n) (hd : decode bytes pc = .ok (.iadd, 1)) (hz : x + y = z) (hp : pc + 1 = pc') (K : own_G p e below s n0 kc ks Q T (mkF m pc' Ls (.int z :: st))) : own_G p e below s n0 kc ks Q T (mkF m pc Ls (.int y :: .int x :: st)) := by
  obtain ⟨_, X, -, -⟩ := S
  subst hp hz
  exact own_st (T' := T) (g' := mkF m _ Ls (.int _ :: st)) (fun t ht => XS.iadd X.here A.1 rfl (hb A.2.1 hd) rfl  ht) K
theorem s_isub (pc' : Nat) {x y : Int32} {z : Int32} (A : own_A p l e R s m args below meth c Z own name bytes maxL ret) (S : own_S p l e R s m args below meth c n0 T h k n) (hd : decode bytes pc = .ok (.isub, 1)) (hz : x - y = z) (hp : pc + 1 = pc') (K : own_G p e below s n0 kc ks Q T (mkF m pc' Ls (.int z :: st))) : own_G p e below s n0 kc ks Q T (mkF m pc Ls (.int y :: .int x :: st)) := by
  obtain ⟨_, X, -, -⟩ := S
  subst hp hz
  exact own_st (T' := T) (g' := mkF m _ Ls (.int _ :: st)) (fun t ht => XS.isub X.here A.1 rfl (hb A.2.1 hd) rfl  ht) K
theorem s_imul (pc' : Nat) {x y : Int32} {z : Int32} (A : own_A p l e R s m args below meth c Z own name bytes maxL ret) (S : own_S p l e R s m args below meth c n0 T h k n) (hd : decode bytes pc = .ok (.imul, 1)) (hz : x * y = z) (hp : pc + 1 = pc') (K : own_G p e below s n0 kc ks Q T (mkF m pc' Ls (.int z :: st))) : own_G p e below s n0 kc ks Q T (mkF m pc Ls (.int y :: .int x :: st)) := by
  obtain ⟨_, X, -, -⟩ := S
  subst hp hz
  exact own_st (T' := T) (g' := mkF m _ Ls (.int _ :: st)) (fun t ht => XS.imul X.here A.1 rfl (hb A.2.1 hd) rfl  ht) K
theorem s_iand (pc' : Nat) {x y : Int32} {z : Int32} (A : own_A p l e R s m args below meth c Z own name bytes maxL ret) (S : own_S p l e R s m args below meth c n0 T h k n) (hd : decode bytes pc = .ok (.iand, 1)) (hz : x &&& y = z) (hp : pc + 1 = pc') (K : own_G p e below s n0 kc ks Q T (mkF m pc' Ls (.int z :: st))) : own_G p e below s n0 kc ks Q T (mkF m pc Ls (.int y :: .int x :: st)) := by
  obtain ⟨_, X, -, -⟩ := S
  subst hp hz
  exact own_st (T' := T) (g' := mkF m _ Ls (.int _ :: st)) (fun t ht => XS.iand X.here A.1 rfl (hb A.2.1 hd) rfl  ht) K
theorem s_ior (pc' : Nat) {x y : Int32} {z : Int32} (A : own_A p l e R s m args below meth c Z own name bytes maxL ret) (S : own_S p l e R s m args below meth c n0 T h k n) (hd : decode bytes pc = .ok (.ior, 1)) (hz : x ||| y = z) (hp : pc + 1 = pc') (K : own_G p e below s n0 kc ks Q T (mkF m pc' Ls (.int z :: st))) : own_G p e below s n0 kc ks Q T (mkF m pc Ls (.int y :: .int x :: st)) := by
  obtain ⟨_, X, -, -⟩ := S
  subst hp hz
  exact own_st (T' := T) (g' := mkF m _ Ls (.int _ :: st)) (fun t ht => XS.ior X.here A.1 rfl (hb A.2.1 hd) rfl  ht) K
theorem s_ixor (pc' : Nat) {x y : Int32} {z : Int32} (A : own_A p l e R s m args below meth c Z own name bytes maxL ret) (S : own_S p l e R s m args below meth c n0 T h k n) (hd : decode bytes pc = .ok (.ixor, 1)) (hz : x ^^^ y = z) (hp : pc + 1 = pc') (K : own_G p e below s n0 kc ks Q T (mkF m pc' Ls (.int z :: st))) : own_G p e below s n0 kc ks Q T (mkF m pc Ls (.int y :: .int x :: st)) := by
  obtain ⟨_, X, -, -⟩ := S
  subst hp hz
  exact own_st (T' := T) (g' := mkF m _ Ls (.int _ :: st)) (fun t ht => XS.ixor X.here A.1 rfl (hb A.2.1 hd) rfl  ht) K
theorem s_ishl (pc' : Nat) {x y : Int32} {z : Int32} (A : own_A p l e R s m args below meth c Z own name bytes maxL ret) (S : own_S p l e R s m args below meth c n0 T h k n) (hd : decode bytes pc = .ok (.ishl, 1)) (hz : x <<< (y &&& 31) = z) (hp : pc + 1 = pc') (K : own_G p e below s n0 kc ks Q T (mkF m pc' Ls (.int z :: st))) : own_G p e below s n0 kc ks Q T (mkF m pc Ls (.int y :: .int x :: st)) := by
  obtain ⟨_, X, -, -⟩ := S
  subst hp hz
  exact own_st (T' := T) (g' := mkF m _ Ls (.int _ :: st)) (fun t ht => XS.ishl X.here A.1 rfl (hb A.2.1 hd) rfl  ht) K
theorem s_ishr (pc' : Nat) {x y : Int32} {z : Int32} (A : own_A p l e R s m args below meth c Z own name bytes maxL ret) (S : own_S p l e R s m args below meth c n0 T h k n) (hd : decode bytes pc = .ok (.ishr, 1)) (hz : x >>> (y &&& 31) = z) (hp : pc + 1 = pc') (K : own_G p e below s n0 kc ks Q T (mkF m pc' Ls (.int z :: st))) : own_G p e below s n0 kc ks Q T (mkF m pc Ls (.int y :: .int x :: st)) := by
  obtain ⟨_, X, -, -⟩ := S
  subst hp hz
  exact own_st (T' := T) (g' := mkF m _ Ls (.int _ :: st)) (fun t ht => XS.ishr X.here A.1 rfl (hb A.2.1 hd) rfl  ht) K
theorem s_iushr (pc' : Nat) {x y : Int32} {z : Int32} (A : own_A p l e R s m args below meth c Z own name bytes maxL ret) (S : own_S p l e R s m args below meth c n0 T h k n) (hd : decode bytes pc = .ok (.iushr, 1)) (hz : own_ushr x y = z) (hp : pc + 1 = pc') (K : own_G p e below s n0 kc ks Q T (mkF m pc' Ls (.int z :: st))) : own_G p e below s n0 kc ks Q T (mkF m pc Ls (.int y :: .int x :: st)) := by
  obtain ⟨_, X, -, -⟩ := S
  subst hp hz
  exact own_st (T' := T) (g' := mkF m _ Ls (.int _ :: st)) (fun t ht => XS.iushr X.here A.1 rfl (hb A.2.1 hd) rfl  ht) K
theorem s_idiv (pc' : Nat) {x y : Int32} {z : Int32} (A : own_A p l e R s m args below meth c Z own name bytes maxL ret) (S : own_S p l e R s m args below meth c n0 T h k n) (hd : decode bytes pc = .ok (.idiv, 1)) (hy : y ≠ 0) (hz : x / y = z) (hp : pc + 1 = pc') (K : own_G p e below s n0 kc ks Q T (mkF m pc' Ls (.int z :: st))) : own_G p e below s n0 kc ks Q T (mkF m pc Ls (.int y :: .int x :: st)) := by
  obtain ⟨_, X, -, -⟩ := S
  subst hp hz
  exact own_st (T' := T) (g' := mkF m _ Ls (.int _ :: st)) (fun t ht => XS.idiv X.here A.1 rfl (hb A.2.1 hd) rfl hy ht) K
theorem s_irem (pc' : Nat) {x y : Int32} {z : Int32} (A : own_A p l e R s m args below meth c Z own name bytes maxL ret) (S : own_S p l e R s m args below meth c n0 T h k n) (hd : decode bytes pc = .ok (.irem, 1)) (hy : y ≠ 0) (hz : x % y = z) (hp : pc + 1 = pc') (K : own_G p e below s n0 kc ks Q T (mkF m pc' Ls (.int z :: st))) : own_G p e below s n0 kc ks Q T (mkF m pc Ls (.int y :: .int x :: st)) := by
  obtain ⟨_, X, -, -⟩ := S
  subst hp hz
  exact own_st (T' := T) (g' := mkF m _ Ls (.int _ :: st)) (fun t ht => iremM X A.1 rfl (hb A.2.1 hd) rfl hy ht) K
theorem s_ladd (pc' : Nat) {x y : Int64} {z : Int64} (A : own_A p l e R s m args below meth c Z own name bytes maxL ret) (S : own_S p l e R s m args below meth c n0 T h k n) (hd : decode bytes pc = .ok (.ladd, 1)) (hz : x + y = z) (hp : pc + 1 = pc') (K : own_G p e below s n0 kc ks Q T (mkF m pc' Ls (.long z :: st))) : own_G p e below s n0 kc ks Q T (mkF m pc Ls (.long y :: .long x :: st)) := by
  obtain ⟨_, X, -, -⟩ := S
  subst hp hz
  exact own_st (T' := T) (g' := mkF m _ Ls (.long _ :: st)) (fun t ht => XS.ladd X.here A.1 rfl (hb A.2.1 hd) rfl  ht) K
theorem s_lsub (pc' : Nat) {x y : Int64} {z : Int64} (A : own_A p l e R s m args below meth c Z own name bytes maxL ret) (S : own_S p l e R s m args below meth c n0 T h k n) (hd : decode bytes pc = .ok (.lsub, 1)) (hz : x - y = z) (hp : pc + 1 = pc') (K : own_G p e below s n0 kc ks Q T (mkF m pc' Ls (.long z :: st))) : own_G p e below s n0 kc ks Q T (mkF m pc Ls (.long y :: .long x :: st)) := by
  obtain ⟨_, X, -, -⟩ := S
  subst hp hz
  exact own_st (T' := T) (g' := mkF m _ Ls (.long _ :: st)) (fun t ht => XS.lsub X.here A.1 rfl (hb A.2.1 hd) rfl  ht) K
theorem s_lmul (pc' : Nat) {x y : Int64} {z : Int64} (A : own_A p l e R s m args below meth c Z own name bytes maxL ret) (S : own_S p l e R s m args below meth c n0 T h k n) (hd : decode bytes pc = .ok (.lmul, 1)) (hz : x * y = z) (hp : pc + 1 = pc') (K : own_G p e below s n0 kc ks Q T (mkF m pc' Ls (.long z :: st))) : own_G p e below s n0 kc ks Q T (mkF m pc Ls (.long y :: .long x :: st)) := by
  obtain ⟨_, X, -, -⟩ := S
  subst hp hz
  exact own_st (T' := T) (g' := mkF m _ Ls (.long _ :: st)) (fun t ht => XS.lmul X.here A.1 rfl (hb A.2.1 hd) rfl  ht) K
theorem s_land (pc' : Nat) {x y : Int64} {z : Int64} (A : own_A p l e R s m args below meth c Z own name bytes maxL ret) (S : own_S p l e R s m args below meth c n0 T h k n) (hd : decode bytes pc = .ok (.land, 1)) (hz : x &&& y = z) (hp : pc + 1 = pc') (K : own_G p e below s n0 kc ks Q T (mkF m pc' Ls (.long z :: st))) : own_G p e below s n0 kc ks Q T (mkF m pc Ls (.long y :: .long x :: st)) := by
  obtain ⟨_, X, -, -⟩ := S
  subst hp hz
  exact own_st (T' := T) (g' := mkF m _ Ls (.long _ :: st)) (fun t ht => XS.land X.here A.1 rfl (hb A.2.1 hd) rfl  ht) K
theorem s_lor (pc' : Nat) {x y : Int64} {z : Int64} (A : own_A p l e R s m args below meth c Z own name bytes maxL ret) (S : own_S p l e R s m args below meth c n0 T h k n) (hd : decode bytes pc = .ok (.lor, 1)) (hz : x ||| y = z) (hp : pc + 1 = pc') (K : own_G p e below s n0 kc ks Q T (mkF m pc' Ls (.long z :: st))) : own_G p e below s n0 kc ks Q T (mkF m pc Ls (.long y :: .long x :: st)) := by
  obtain ⟨_, X, -, -⟩ := S
  subst hp hz
  exact own_st (T' := T) (g' := mkF m _ Ls (.long _ :: st)) (fun t ht => XS.lor X.here A.1 rfl (hb A.2.1 hd) rfl  ht) K
theorem s_lxor (pc' : Nat) {x y : Int64} {z : Int64} (A : own_A p l e R s m args below meth c Z own name bytes maxL ret) (S : own_S p l e R s m args below meth c n0 T h k n) (hd : decode bytes pc = .ok (.lxor, 1)) (hz : x ^^^ y = z) (hp : pc + 1 = pc') (K : own_G p e below s n0 kc ks Q T (mkF m pc' Ls (.long z :: st))) : own_G p e below s n0 kc ks Q T (mkF m pc Ls (.long y :: .long x :: st)) := by
  obtain ⟨_, X, -, -⟩ := S
  subst hp hz
  exact own_st (T' := T) (g' := mkF m _ Ls (.long _ :: st)) (fun t ht => XS.lxor X.here A.1 rfl (hb A.2.1 hd) rfl  ht) K
theorem s_ldiv (pc' : Nat) {x y : Int64} {z : Int64} (A : own_A p l e R s m args below meth c Z own name bytes maxL ret) (S : own_S p l e R s m args below meth c n0 T h k n) (hd : decode bytes pc = .ok (.ldiv, 1)) (hy : y ≠ 0) (hz : x / y = z) (hp : pc + 1 = pc') (K : own_G p e below s n0 kc ks Q T (mkF m pc' Ls (.long z :: st))) : own_G p e below s n0 kc ks Q T (mkF m pc Ls (.long y :: .long x :: st)) := by
  obtain ⟨_, X, -, -⟩ := S
  subst hp hz
  exact own_st (T' := T) (g' := mkF m _ Ls (.long _ :: st)) (fun t ht => XS.ldiv X.here A.1 rfl (hb A.2.1 hd) rfl hy ht) K
theorem s_lrem (pc' : Nat) {x y : Int64} {z : Int64} (A : own_A p l e R s m args below meth c Z own name bytes maxL ret) (S : own_S p l e R s m args below meth c n0 T h k n) (hd : decode bytes pc = .ok (.lrem, 1)) (hy : y ≠ 0) (hz : x - (x / y) * y = z) (hp : pc + 1 = pc') (K : own_G p e below s n0 kc ks Q T (mkF m pc' Ls (.long z :: st))) : own_G p e below s n0 kc ks Q T (mkF m pc Ls (.long y :: .long x :: st)) := by
  obtain ⟨_, X, -, -⟩ := S
  subst hp hz
  exact own_st (T' := T) (g' := mkF m _ Ls (.long _ :: st)) (fun t ht => XS.lrem X.here A.1 rfl (hb A.2.1 hd) rfl hy ht) K
theorem s_lshl (pc' : Nat) {x : Int64} {y : Int32} {z : Int64} (A : own_A p l e R s m args below meth c Z own name bytes maxL ret) (S : own_S p l e R s m args below meth c n0 T h k n) (hd : decode bytes pc = .ok (.lshl, 1)) (hz : x <<< (y &&& 63).toInt64 = z) (hp : pc + 1 = pc') (K : own_G p e below s n0 kc ks Q T (mkF m pc' Ls (.long z :: st))) : own_G p e below s n0 kc ks Q T (mkF m pc Ls (.int y :: .long x :: st)) := by
  obtain ⟨_, X, -, -⟩ := S
  subst hp hz
  exact own_st (T' := T) (g' := mkF m _ Ls (.long _ :: st)) (fun t ht => XS.lshl X.here A.1 rfl (hb A.2.1 hd) rfl  ht) K
theorem s_lshr (pc' : Nat) {x : Int64} {y : Int32} {z : Int64} (A : own_A p l e R s m args below meth c Z own name bytes maxL ret) (S : own_S p l e R s m args below meth c n0 T h k n) (hd : decode bytes pc = .ok (.lshr, 1)) (hz : x >>> (y &&& 63).toInt64 = z) (hp : pc + 1 = pc') (K : own_G p e below s n0 kc ks Q T (mkF m pc' Ls (.long z :: st))) : own_G p e below s n0 kc ks Q T (mkF m pc Ls (.int y :: .long x :: st)) := by
  obtain ⟨_, X, -, -⟩ := S
  subst hp hz
  exact own_st (T' := T) (g' := mkF m _ Ls (.long _ :: st)) (fun t ht => XS.lshr X.here A.1 rfl (hb A.2.1 hd) rfl  ht) K
theorem s_lushr (pc' : Nat) {x : Int64} {y : Int32} {z : Int64} (A : own_A p l e R s m args below meth c Z own name bytes maxL ret) (S : own_S p l e R s m args below meth c n0 T h k n) (hd : decode bytes pc = .ok (.lushr, 1)) (hz : own_ushrL x y = z) (hp : pc + 1 = pc') (K : own_G p e below s n0 kc ks Q T (mkF m pc' Ls (.long z :: st))) : own_G p e below s n0 kc ks Q T (mkF m pc Ls (.int y :: .long x :: st)) := by
  obtain ⟨_, X, -, -⟩ := S
  subst hp hz
  exact own_st (T' := T) (g' := mkF m _ Ls (.long _ :: st)) (fun t ht => XS.lushr X.here A.1 rfl (hb A.2.1 hd) rfl  ht) K
theorem s_ineg (pc' : Nat) {x : Int32} {z : Int32} (A : own_A p l e R s m args below meth c Z own name bytes maxL ret) (S : own_S p l e R s m args below meth c n0 T h k n) (hd : decode bytes pc = .ok (.ineg, 1)) (hz : -x = z) (hp : pc + 1 = pc') (K : own_G p e below s n0 kc ks Q T (mkF m pc' Ls (.int z :: st))) : own_G p e below s n0 kc ks Q T (mkF m pc Ls (.int x :: st)) := by
  obtain ⟨_, X, -, -⟩ := S
  subst hp hz
  exact own_st (T' := T) (g' := mkF m _ Ls (.int _ :: st)) (fun t ht => XS.ineg X.here A.1 rfl (hb A.2.1 hd) rfl  ht) K
theorem s_lneg (pc' : Nat) {x : Int64} {z : Int64} (A : own_A p l e R s m args below meth c Z own name bytes maxL ret) (S : own_S p l e R s m args below meth c n0 T h k n) (hd : decode bytes pc = .ok (.lneg, 1)) (hz : -x = z) (hp : pc + 1 = pc') (K : own_G p e below s n0 kc ks Q T (mkF m pc' Ls (.long z :: st))) : own_G p e below s n0 kc ks Q T (mkF m pc Ls (.long x :: st)) := by
  obtain ⟨_, X, -, -⟩ := S
  subst hp hz
  exact own_st (T' := T) (g' := mkF m _ Ls (.long _ :: st)) (fun t ht => XS.lneg X.here A.1 rfl (hb A.2.1 hd) rfl  ht) K
theorem s_i2l (pc' : Nat) {x : Int32} {z : Int64} (A : own_A p l e R s m args below meth c Z own name bytes maxL ret) (S : own_S p l e R s m args below meth c n0 T h k n) (hd : decode bytes pc = .ok (.i2l, 1)) (hz : x.toInt64 = z) (hp : pc + 1 = pc') (K : own_G p e below s n0 kc ks Q T (mkF m pc' Ls (.long z :: st))) : own_G p e below s n0 kc ks Q T (mkF m pc Ls (.int x :: st)) := by
  obtain ⟨_, X, -, -⟩ := S
  subst hp hz
  exact own_st (T' := T) (g' := mkF m _ Ls (.long _ :: st)) (fun t ht => XS.i2l X.here A.1 rfl (hb A.2.1 hd) rfl  ht) K
theorem s_l2i (pc' : Nat) {x : Int64} {z : Int32} (A : own_A p l e R s m args below meth c Z own name bytes maxL ret) (S : own_S p l e R s m args below meth c n0 T h k n) (hd : decode bytes pc = .ok (.l2i, 1)) (hz : x.toInt32 = z) (hp : pc + 1 = pc') (K : own_G p e below s n0 kc ks Q T (mkF m pc' Ls (.int z :: st))) : own_G p e below s n0 kc ks Q T (mkF m pc Ls (.long x :: st)) := by
  obtain ⟨_, X, -, -⟩ := S
  subst hp hz
  exact own_st (T' := T) (g' := mkF m _ Ls (.int _ :: st)) (fun t ht => XS.l2i X.here A.1 rfl (hb A.2.1 hd) rfl  ht) K
theorem s_i2b (pc' : Nat) {x : Int32} {z : Int32} (A : own_A p l e R s m args below meth c Z own name bytes maxL ret) (S : own_S p l e R s m args below meth c n0 T h k n) (hd : decode bytes pc = .ok (.i2b, 1)) (hz : x.toInt8.toInt32 = z) (hp : pc + 1 = pc') (K : own_G p e below s n0 kc ks Q T (mkF m pc' Ls (.int z :: st))) : own_G p e below s n0 kc ks Q T (mkF m pc Ls (.int x :: st)) := by
  obtain ⟨_, X, -, -⟩ := S
  subst hp hz
  exact own_st (T' := T) (g' := mkF m _ Ls (.int _ :: st)) (fun t ht => XS.i2b X.here A.1 rfl (hb A.2.1 hd) rfl  ht) K
theorem s_i2c (pc' : Nat) {x : Int32} {z : Int32} (A : own_A p l e R s m args below meth c Z own name bytes maxL ret) (S : own_S p l e R s m args below meth c n0 T h k n) (hd : decode bytes pc = .ok (.i2c, 1)) (hz : x.toUInt32.toUInt16.toUInt32.toInt32 = z) (hp : pc + 1 = pc') (K : own_G p e below s n0 kc ks Q T (mkF m pc' Ls (.int z :: st))) : own_G p e below s n0 kc ks Q T (mkF m pc Ls (.int x :: st)) := by
  obtain ⟨_, X, -, -⟩ := S
  subst hp hz
  exact own_st (T' := T) (g' := mkF m _ Ls (.int _ :: st)) (fun t ht => XS.i2c X.here A.1 rfl (hb A.2.1 hd) rfl  ht) K
theorem s_i2s (pc' : Nat) {x : Int32} {z : Int32} (A : own_A p l e R s m args below meth c Z own name bytes maxL ret) (S : own_S p l e R s m args below meth c n0 T h k n) (hd : decode bytes pc = .ok (.i2s, 1)) (hz : x.toInt16.toInt32 = z) (hp : pc + 1 = pc') (K : own_G p e below s n0 kc ks Q T (mkF m pc' Ls (.int z :: st))) : own_G p e below s n0 kc ks Q T (mkF m pc Ls (.int x :: st)) := by
  obtain ⟨_, X, -, -⟩ := S
  subst hp hz
  exact own_st (T' := T) (g' := mkF m _ Ls (.int _ :: st)) (fun t ht => XS.i2s X.here A.1 rfl (hb A.2.1 hd) rfl  ht) K
theorem s_lcmp (pc' : Nat) {x y : Int64} {z : Int32} (A : own_A p l e R s m args below meth c Z own name bytes maxL ret) (S : own_S p l e R s m args below meth c n0 T h k n) (hd : decode bytes pc = .ok (.lcmp, 1)) (hz : lcmpW x y = z) (hp : pc + 1 = pc') (K : own_G p e below s n0 kc ks Q T (mkF m pc' Ls (.int z :: st))) : own_G p e below s n0 kc ks Q T (mkF m pc Ls (.long y :: .long x :: st)) := by
  obtain ⟨_, X, -, -⟩ := S
  subst hp hz
  exact own_st (T' := T) (g' := mkF m _ Ls (.int _ :: st)) (fun t ht => XS.lcmp X.here A.1 rfl (hb A.2.1 hd) rfl  ht) K
theorem s_dup (pc' : Nat) {v : Value} (A : own_A p l e R s m args below meth c Z own name bytes maxL ret) (S : own_S p l e R s m args below meth c n0 T h k n) (hd : decode bytes pc = .ok (.dup, 1)) (hv : v.category = 1) (hp : pc + 1 = pc') (K : own_G p e below s n0 kc ks Q T (mkF m pc' Ls (v :: v :: st))) : own_G p e below s n0 kc ks Q T (mkF m pc Ls (v :: st)) := by
  obtain ⟨_, X, -, -⟩ := S
  subst hp
  exact own_st (T' := T) (g' := mkF m _ Ls (v :: v :: st)) (fun t ht => XS.dup X.here A.1 rfl (hb A.2.1 hd) rfl hv ht) K
theorem s_dup2 (pc' : Nat) {v w : Value} (A : own_A p l e R s m args below meth c Z own name bytes maxL ret) (S : own_S p l e R s m args below meth c n0 T h k n) (hd : decode bytes pc = .ok (.dup2, 1)) (hv : v.category = 1) (hv' : w.category = 1) (hp : pc + 1 = pc') (K : own_G p e below s n0 kc ks Q T (mkF m pc' Ls (v :: w :: v :: w :: st))) : own_G p e below s n0 kc ks Q T (mkF m pc Ls (v :: w :: st)) := by
  obtain ⟨_, X, -, -⟩ := S
  subst hp
  exact own_st (T' := T) (g' := mkF m _ Ls (v :: w :: v :: w :: st)) (fun t ht => Jvm.Free.XT.dup2 X.here A.1 rfl (hb A.2.1 hd) rfl hv hv' ht) K
theorem s_dup2L (pc' : Nat) {v : Int64} (A : own_A p l e R s m args below meth c Z own name bytes maxL ret) (S : own_S p l e R s m args below meth c n0 T h k n) (hd : decode bytes pc = .ok (.dup2, 1)) (hp : pc + 1 = pc') (K : own_G p e below s n0 kc ks Q T (mkF m pc' Ls (.long v :: .long v :: st))) : own_G p e below s n0 kc ks Q T (mkF m pc Ls (.long v :: st)) := by
  obtain ⟨_, X, -, -⟩ := S
  subst hp
  exact own_st (T' := T) (g' := mkF m _ Ls (.long v :: .long v :: st)) (fun t ht => Jvm.Free.XT.dup2L X.here A.1 rfl (hb A.2.1 hd) rfl ht) K
theorem s_dupX1 (pc' : Nat) {v w : Value} (A : own_A p l e R s m args below meth c Z own name bytes maxL ret) (S : own_S p l e R s m args below meth c n0 T h k n) (hd : decode bytes pc = .ok (.dup_x1, 1)) (hv : v.category = 1) (hv' : w.category = 1) (hp : pc + 1 = pc') (K : own_G p e below s n0 kc ks Q T (mkF m pc' Ls (v :: w :: v :: st))) : own_G p e below s n0 kc ks Q T (mkF m pc Ls (v :: w :: st)) := by
  obtain ⟨_, X, -, -⟩ := S
  subst hp
  exact own_st (T' := T) (g' := mkF m _ Ls (v :: w :: v :: st)) (fun t ht => XS.dupX1 X.here A.1 rfl (hb A.2.1 hd) rfl hv hv' ht) K
theorem s_pop (pc' : Nat) {v : Value} (A : own_A p l e R s m args below meth c Z own name bytes maxL ret) (S : own_S p l e R s m args below meth c n0 T h k n) (hd : decode bytes pc = .ok (.pop, 1)) (hv : v.category = 1) (hp : pc + 1 = pc') (K : own_G p e below s n0 kc ks Q T (mkF m pc' Ls st)) : own_G p e below s n0 kc ks Q T (mkF m pc Ls (v :: st)) := by
  obtain ⟨_, X, -, -⟩ := S
  subst hp
  exact own_st (T' := T) (g' := mkF m _ Ls st) (fun t ht => XS.pop X.here A.1 rfl (hb A.2.1 hd) rfl hv ht) K
theorem s_iinc (pc' : Nat) {i : Nat} {cst : Int} {x z : Int32} (A : own_A p l e R s m args below meth c Z own name bytes maxL ret) (S : own_S p l e R s m args below meth c n0 T h k n) (hd : decode bytes pc = .ok (.iinc i cst, 3)) (hl : Ls[i]? = some (.val (.int x))) (hz : x + Int32.ofInt cst = z) (hl' : storeLocals Ls i (.int z) = some Ls') (hp : pc + 3 = pc') (K : own_G p e below s n0 kc ks Q T (mkF m pc' Ls' st)) : own_G p e below s n0 kc ks Q T (mkF m pc Ls st) := by
  obtain ⟨_, X, -, -⟩ := S
  subst hp hz
  exact own_st (T' := T) (g' := mkF m _ Ls' st) (fun t ht => XS.iinc X.here A.1 rfl (hb A.2.1 hd) hl hl' ht) K
theorem s_goto (pc' : Nat) {o : Int} (A : own_A p l e R s m args below meth c Z own name bytes maxL ret) (S : own_S p l e R s m args below meth c n0 T h k n) (hd : decode bytes pc = .ok (.goto o, 3)) (ho : 0 ≤ (pc : Int) + o) (hp : ((pc : Int) + o).toNat = pc') (K : own_G p e below s n0 kc ks Q T (mkF m pc' Ls st)) : own_G p e below s n0 kc ks Q T (mkF m pc Ls st) := by
  obtain ⟨_, X, -, -⟩ := S
  exact own_st (T' := T) (g' := mkF m pc' Ls st) (fun t ht => XS.goto X.here A.1 rfl (pc0 := pc) (pc' := pc') rfl (hb A.2.1 hd) ho hp ht) K
theorem s_icmp (pcY pcN : Nat) {cd : ClassFile.Cond} {o : Int} {x y : Int32} (A : own_A p l e R s m args below meth c Z own name bytes maxL ret) (S : own_S p l e R s m args below meth c n0 T h k n) (hd : decode bytes pc = .ok (.if_icmp cd o, 3)) (ho : 0 ≤ (pc : Int) + o) (hp : ((pc : Int) + o).toNat = pcY) (hn : pc + 3 = pcN) (KY : if_icmp.holds cd x y = true → own_G p e below s n0 kc ks Q T (mkF m pcY Ls st)) (KN : if_icmp.holds cd x y = false → own_G p e below s n0 kc ks Q T (mkF m pcN Ls st)) : own_G p e below s n0 kc ks Q T (mkF m pc Ls (.int y :: .int x :: st)) := by
  obtain ⟨_, X, -, -⟩ := S
  subst hn
  rcases Bool.eq_false_or_eq_true (if_icmp.holds cd x y) with hc | hc
  · exact own_st (T' := T) (g' := mkF m pcY Ls st) (fun t ht => XS.icmpYes X.here A.1 rfl (pc0 := pc) (pc' := pcY) rfl (hb A.2.1 hd) rfl hc ho hp ht) (KY hc)
  · exact own_st (T' := T) (g' := mkF m _ Ls st) (fun t ht => XS.icmpNo X.here A.1 rfl (hb A.2.1 hd) rfl hc ht) (KN hc)
theorem s_ifc (pcY pcN : Nat) {cd : ClassFile.Cond} {o : Int} {x : Int32} (A : own_A p l e R s m args below meth c Z own name bytes maxL ret) (S : own_S p l e R s m args below meth c n0 T h k n) (hd : decode bytes pc = .ok (.ifCond cd o, 3)) (ho : 0 ≤ (pc : Int) + o) (hp : ((pc : Int) + o).toNat = pcY) (hn : pc + 3 = pcN) (KY : ifCond.holds cd x = true → own_G p e below s n0 kc ks Q T (mkF m pcY Ls st)) (KN : ifCond.holds cd x = false → own_G p e below s n0 kc ks Q T (mkF m pcN Ls st)) : own_G p e below s n0 kc ks Q T (mkF m pc Ls (.int x :: st)) := by
  obtain ⟨_, X, -, -⟩ := S
  subst hn
  rcases Bool.eq_false_or_eq_true (ifCond.holds cd x) with hc | hc
  · exact own_st (T' := T) (g' := mkF m pcY Ls st) (fun t ht => XS.ifYes X.here A.1 rfl (pc0 := pc) (pc' := pcY) rfl (hb A.2.1 hd) rfl hc ho hp ht) (KY hc)
  · exact own_st (T' := T) (g' := mkF m _ Ls st) (fun t ht => XS.ifNo X.here A.1 rfl (hb A.2.1 hd) rfl hc ht) (KN hc)
theorem own_eqY {x y : Int32} : if_icmp.holds .eq x y = true → x = y := by simp [if_icmp.holds]
theorem own_eqN {x y : Int32} : if_icmp.holds .eq x y = false → ¬ x = y := by simp [if_icmp.holds]
theorem own_neY {x y : Int32} : if_icmp.holds .ne x y = true → ¬ x = y := by simp [if_icmp.holds]
theorem own_neN {x y : Int32} : if_icmp.holds .ne x y = false → x = y := by simp [if_icmp.holds]
theorem own_ltY {x y : Int32} : if_icmp.holds .lt x y = true → x.toInt < y.toInt := by simp [if_icmp.holds, Int32.lt_iff_toInt_lt]
theorem own_ltN {x y : Int32} : if_icmp.holds .lt x y = false → y.toInt ≤ x.toInt := by simp [if_icmp.holds, Int32.le_iff_toInt_le]
theorem own_geY {x y : Int32} : if_icmp.holds .ge x y = true → y.toInt ≤ x.toInt := by simp [if_icmp.holds, Int32.le_iff_toInt_le]
theorem own_geN {x y : Int32} : if_icmp.holds .ge x y = false → x.toInt < y.toInt := by simp [if_icmp.holds, Int32.lt_iff_toInt_lt]
theorem own_gtY {x y : Int32} : if_icmp.holds .gt x y = true → y.toInt < x.toInt := by simp [if_icmp.holds, Int32.lt_iff_toInt_lt]
theorem own_gtN {x y : Int32} : if_icmp.holds .gt x y = false → x.toInt ≤ y.toInt := by simp [if_icmp.holds, Int32.le_iff_toInt_le]
theorem own_leY {x y : Int32} : if_icmp.holds .le x y = true → x.toInt ≤ y.toInt := by simp [if_icmp.holds, Int32.le_iff_toInt_le]
theorem own_leN {x y : Int32} : if_icmp.holds .le x y = false → y.toInt < x.toInt := by simp [if_icmp.holds, Int32.lt_iff_toInt_lt]
theorem own_lcmp_lt (x y : Int64) : lcmpW x y < 0 ↔ x.toInt < y.toInt := by rw [lw_lt, Int64.lt_iff_toInt_lt]
theorem own_lcmp_gt (x y : Int64) : 0 < lcmpW x y ↔ y.toInt < x.toInt := by rw [lw_gt, Int64.lt_iff_toInt_lt]
theorem own_lcmp_eq (x y : Int64) : lcmpW x y = 0 ↔ x = y := by rw [lw_eq]
theorem s_ieq (pcY pcN : Nat) {o : Int} {x y : Int32} {xi yi : Int} (A : own_A p l e R s m args below meth c Z own name bytes maxL ret) (S : own_S p l e R s m args below meth c n0 T h k n) (hxi : x.toInt = xi) (hyi : y.toInt = yi) (hd : decode bytes pc = .ok (.if_icmp .eq o, 3)) (ho : 0 ≤ (pc : Int) + o) (hp : ((pc : Int) + o).toNat = pcY) (hn : pc + 3 = pcN) (KY : x = y → xi = yi → own_G p e below s n0 kc ks Q T (mkF m pcY Ls st)) (KN : ¬ x = y → xi ≠ yi → own_G p e below s n0 kc ks Q T (mkF m pcN Ls st)) : own_G p e below s n0 kc ks Q T (mkF m pc Ls (.int y :: .int x :: st)) :=
  s_icmp pcY pcN A S hd ho hp hn (fun q => by have q := own_eqY q; exact KY q (by subst hxi hyi; rw [q])) (fun q => by have q := own_eqN q; exact KN q (by subst hxi hyi; exact own_toInt q))
theorem s_ifeq (pcY pcN : Nat) {o : Int} {x : Int32} {xi : Int} (A : own_A p l e R s m args below meth c Z own name bytes maxL ret) (S : own_S p l e R s m args below meth c n0 T h k n) (hxi : x.toInt = xi) (hd : decode bytes pc = .ok (.ifCond .eq o, 3)) (ho : 0 ≤ (pc : Int) + o) (hp : ((pc : Int) + o).toNat = pcY) (hn : pc + 3 = pcN) (KY : x = 0 → xi = 0 → own_G p e below s n0 kc ks Q T (mkF m pcY Ls st)) (KN : ¬ x = 0 → xi ≠ 0 → own_G p e below s n0 kc ks Q T (mkF m pcN Ls st)) : own_G p e below s n0 kc ks Q T (mkF m pc Ls (.int x :: st)) :=
  s_ifc pcY pcN A S hd ho hp hn (fun q => by have q := own_eqY (y := 0) ((if0 _ _).symm.trans q); exact KY q (by subst hxi; rw [q]; rfl)) (fun q => by have q := own_eqN (y := 0) ((if0 _ _).symm.trans q); exact KN q (by subst hxi; exact own_toInt q))
theorem s_lifeq (pcY pcN pcM : Nat) {o : Int} {x y : Int64} {xi yi : Int} (A : own_A p l e R s m args below meth c Z own name bytes maxL ret) (S : own_S p l e R s m args below meth c n0 T h k n) (hxi : x.toInt = xi) (hyi : y.toInt = yi) (hd0 : decode bytes pc = .ok (.lcmp, 1)) (hm : pc + 1 = pcM) (hd : decode bytes pcM = .ok (.ifCond .eq o, 3)) (ho : 0 ≤ (pcM : Int) + o) (hp : ((pcM : Int) + o).toNat = pcY) (hn : pcM + 3 = pcN) (KY : x = y → xi = yi → own_G p e below s n0 kc ks Q T (mkF m pcY Ls st)) (KN : ¬ x = y → xi ≠ yi → own_G p e below s n0 kc ks Q T (mkF m pcN Ls st)) : own_G p e below s n0 kc ks Q T (mkF m pc Ls (.long y :: .long x :: st)) :=
  s_lcmp pcM A S hd0 rfl hm (s_ifeq pcY pcN A S rfl hd ho hp hn (fun q _ => by have q : x = y := (own_lcmp_eq x y).mp q; exact KY q (by subst hxi hyi; rw [q])) (fun q _ => by have q : ¬ x = y := fun w => q ((own_lcmp_eq x y).mpr w); exact KN q (by subst hxi hyi; exact own_toIntL q)))
theorem s_ine (pcY pcN : Nat) {o : Int} {x y : Int32} {xi yi : Int} (A : own_A p l e R s m args below meth c Z own name bytes maxL ret) (S : own_S p l e R s m args below meth c n0 T h k n) (hxi : x.toInt = xi) (hyi : y.toInt = yi) (hd : decode bytes pc = .ok (.if_icmp .ne o, 3)) (ho : 0 ≤ (pc : Int) + o) (hp : ((pc : Int) + o).toNat = pcY) (hn : pc + 3 = pcN) (KY : ¬ x = y → xi ≠ yi → own_G p e below s n0 kc ks Q T (mkF m pcY Ls st)) (KN : x = y → xi = yi → own_G p e below s n0 kc ks Q T (mkF m pcN Ls st)) : own_G p e below s n0 kc ks Q T (mkF m pc Ls (.int y :: .int x :: st)) :=
  s_icmp pcY pcN A S hd ho hp hn (fun q => by have q := own_neY q; exact KY q (by subst hxi hyi; exact own_toInt q)) (fun q => by have q := own_neN q; exact KN q (by subst hxi hyi; rw [q]))
theorem s_ifne (pcY pcN : Nat) {o : Int} {x : Int32} {xi : Int} (A : own_A p l e R s m args below meth c Z own name bytes maxL ret) (S : own_S p l e R s m args below meth c n0 T h k n) (hxi : x.toInt = xi) (hd : decode bytes pc = .ok (.ifCond .ne o, 3)) (ho : 0 ≤ (pc : Int) + o) (hp : ((pc : Int) + o).toNat = pcY) (hn : pc + 3 = pcN) (KY : ¬ x = 0 → xi ≠ 0 → own_G p e below s n0 kc ks Q T (mkF m pcY Ls st)) (KN : x = 0 → xi = 0 → own_G p e below s n0 kc ks Q T (mkF m pcN Ls st)) : own_G p e below s n0 kc ks Q T (mkF m pc Ls (.int x :: st)) :=
  s_ifc pcY pcN A S hd ho hp hn (fun q => by have q := own_neY (y := 0) ((if0 _ _).symm.trans q); exact KY q (by subst hxi; exact own_toInt q)) (fun q => by have q := own_neN (y := 0) ((if0 _ _).symm.trans q); exact KN q (by subst hxi; rw [q]; rfl))
theorem s_lifne (pcY pcN pcM : Nat) {o : Int} {x y : Int64} {xi yi : Int} (A : own_A p l e R s m args below meth c Z own name bytes maxL ret) (S : own_S p l e R s m args below meth c n0 T h k n) (hxi : x.toInt = xi) (hyi : y.toInt = yi) (hd0 : decode bytes pc = .ok (.lcmp, 1)) (hm : pc + 1 = pcM) (hd : decode bytes pcM = .ok (.ifCond .ne o, 3)) (ho : 0 ≤ (pcM : Int) + o) (hp : ((pcM : Int) + o).toNat = pcY) (hn : pcM + 3 = pcN) (KY : ¬ x = y → xi ≠ yi → own_G p e below s n0 kc ks Q T (mkF m pcY Ls st)) (KN : x = y → xi = yi → own_G p e below s n0 kc ks Q T (mkF m pcN Ls st)) : own_G p e below s n0 kc ks Q T (mkF m pc Ls (.long y :: .long x :: st)) :=
  s_lcmp pcM A S hd0 rfl hm (s_ifne pcY pcN A S rfl hd ho hp hn (fun q _ => by have q : ¬ x = y := fun w => q ((own_lcmp_eq x y).mpr w); exact KY q (by subst hxi hyi; exact own_toIntL q)) (fun q _ => by have q : x = y := (own_lcmp_eq x y).mp q; exact KN q (by subst hxi hyi; rw [q])))
theorem s_ilt (pcY pcN : Nat) {o : Int} {x y : Int32} {xi yi : Int} (A : own_A p l e R s m args below meth c Z own name bytes maxL ret) (S : own_S p l e R s m args below meth c n0 T h k n) (hxi : x.toInt = xi) (hyi : y.toInt = yi) (hd : decode bytes pc = .ok (.if_icmp .lt o, 3)) (ho : 0 ≤ (pc : Int) + o) (hp : ((pc : Int) + o).toNat = pcY) (hn : pc + 3 = pcN) (KY : xi < yi → own_G p e below s n0 kc ks Q T (mkF m pcY Ls st)) (KN : yi ≤ xi → own_G p e below s n0 kc ks Q T (mkF m pcN Ls st)) : own_G p e below s n0 kc ks Q T (mkF m pc Ls (.int y :: .int x :: st)) :=
  s_icmp pcY pcN A S hd ho hp hn (fun q => by have q := own_ltY q; exact KY (by subst hxi hyi; exact q)) (fun q => by have q := own_ltN q; exact KN (by subst hxi hyi; exact q))
theorem s_iflt (pcY pcN : Nat) {o : Int} {x : Int32} {xi : Int} (A : own_A p l e R s m args below meth c Z own name bytes maxL ret) (S : own_S p l e R s m args below meth c n0 T h k n) (hxi : x.toInt = xi) (hd : decode bytes pc = .ok (.ifCond .lt o, 3)) (ho : 0 ≤ (pc : Int) + o) (hp : ((pc : Int) + o).toNat = pcY) (hn : pc + 3 = pcN) (KY : xi < 0 → own_G p e below s n0 kc ks Q T (mkF m pcY Ls st)) (KN : 0 ≤ xi → own_G p e below s n0 kc ks Q T (mkF m pcN Ls st)) : own_G p e below s n0 kc ks Q T (mkF m pc Ls (.int x :: st)) :=
  s_ifc pcY pcN A S hd ho hp hn (fun q => by have q := own_ltY (y := 0) ((if0 _ _).symm.trans q); exact KY (by subst hxi; exact q)) (fun q => by have q := own_ltN (y := 0) ((if0 _ _).symm.trans q); exact KN (by subst hxi; exact q))
theorem s_liflt (pcY pcN pcM : Nat) {o : Int} {x y : Int64} {xi yi : Int} (A : own_A p l e R s m args below meth c Z own name bytes maxL ret) (S : own_S p l e R s m args below meth c n0 T h k n) (hxi : x.toInt = xi) (hyi : y.toInt = yi) (hd0 : decode bytes pc = .ok (.lcmp, 1)) (hm : pc + 1 = pcM) (hd : decode bytes pcM = .ok (.ifCond .lt o, 3)) (ho : 0 ≤ (pcM : Int) + o) (hp : ((pcM : Int) + o).toNat = pcY) (hn : pcM + 3 = pcN) (KY : xi < yi → own_G p e below s n0 kc ks Q T (mkF m pcY Ls st)) (KN : yi ≤ xi → own_G p e below s n0 kc ks Q T (mkF m pcN Ls st)) : own_G p e below s n0 kc ks Q T (mkF m pc Ls (.long y :: .long x :: st)) :=
  s_lcmp pcM A S hd0 rfl hm (s_iflt pcY pcN A S rfl hd ho hp hn (fun q => by have q : x.toInt < y.toInt := (own_lcmp_lt x y).mp (Int32.lt_iff_toInt_lt.mpr q); exact KY (by subst hxi hyi; exact q)) (fun q => by have q : y.toInt ≤ x.toInt := Int.not_lt.mp fun w => Int.not_lt.mpr q (Int32.lt_iff_toInt_lt.mp ((own_lcmp_lt x y).mpr w)); exact KN (by subst hxi hyi; exact q)))
theorem s_ige (pcY pcN : Nat) {o : Int} {x y : Int32} {xi yi : Int} (A : own_A p l e R s m args below meth c Z own name bytes maxL ret) (S : own_S p l e R s m args below meth c n0 T h k n) (hxi : x.toInt = xi) (hyi : y.toInt = yi) (hd : decode bytes pc = .ok (.if_icmp .ge o, 3)) (ho : 0 ≤ (pc : Int) + o) (hp : ((pc : Int) + o).toNat = pcY) (hn : pc + 3 = pcN) (KY : yi ≤ xi → own_G p e below s n0 kc ks Q T (mkF m pcY Ls st)) (KN : xi < yi → own_G p e below s n0 kc ks Q T (mkF m pcN Ls st)) : own_G p e below s n0 kc ks Q T (mkF m pc Ls (.int y :: .int x :: st)) :=
  s_icmp pcY pcN A S hd ho hp hn (fun q => by have q := own_geY q; exact KY (by subst hxi hyi; exact q)) (fun q => by have q := own_geN q; exact KN (by subst hxi hyi; exact q))
theorem s_ifge (pcY pcN : Nat) {o : Int} {x : Int32} {xi : Int} (A : own_A p l e R s m args below meth c Z own name bytes maxL ret) (S : own_S p l e R s m args below meth c n0 T h k n) (hxi : x.toInt = xi) (hd : decode bytes pc = .ok (.ifCond .ge o, 3)) (ho : 0 ≤ (pc : Int) + o) (hp : ((pc : Int) + o).toNat = pcY) (hn : pc + 3 = pcN) (KY : 0 ≤ xi → own_G p e below s n0 kc ks Q T (mkF m pcY Ls st)) (KN : xi < 0 → own_G p e below s n0 kc ks Q T (mkF m pcN Ls st)) : own_G p e below s n0 kc ks Q T (mkF m pc Ls (.int x :: st)) :=
  s_ifc pcY pcN A S hd ho hp hn (fun q => by have q := own_geY (y := 0) ((if0 _ _).symm.trans q); exact KY (by subst hxi; exact q)) (fun q => by have q := own_geN (y := 0) ((if0 _ _).symm.trans q); exact KN (by subst hxi; exact q))
theorem s_lifge (pcY pcN pcM : Nat) {o : Int} {x y : Int64} {xi yi : Int} (A : own_A p l e R s m args below meth c Z own name bytes maxL ret) (S : own_S p l e R s m args below meth c n0 T h k n) (hxi : x.toInt = xi) (hyi : y.toInt = yi) (hd0 : decode bytes pc = .ok (.lcmp, 1)) (hm : pc + 1 = pcM) (hd : decode bytes pcM = .ok (.ifCond .ge o, 3)) (ho : 0 ≤ (pcM : Int) + o) (hp : ((pcM : Int) + o).toNat = pcY) (hn : pcM + 3 = pcN) (KY : yi ≤ xi → own_G p e below s n0 kc ks Q T (mkF m pcY Ls st)) (KN : xi < yi → own_G p e below s n0 kc ks Q T (mkF m pcN Ls st)) : own_G p e below s n0 kc ks Q T (mkF m pc Ls (.long y :: .long x :: st)) :=
  s_lcmp pcM A S hd0 rfl hm (s_ifge pcY pcN A S rfl hd ho hp hn (fun q => by have q : y.toInt ≤ x.toInt := Int.not_lt.mp fun w => Int.not_lt.mpr q (Int32.lt_iff_toInt_lt.mp ((own_lcmp_lt x y).mpr w)); exact KY (by subst hxi hyi; exact q)) (fun q => by have q : x.toInt < y.toInt := (own_lcmp_lt x y).mp (Int32.lt_iff_toInt_lt.mpr q); exact KN (by subst hxi hyi; exact q)))
theorem s_igt (pcY pcN : Nat) {o : Int} {x y : Int32} {xi yi : Int} (A : own_A p l e R s m args below meth c Z own name bytes maxL ret) (S : own_S p l e R s m args below meth c n0 T h k n) (hxi : x.toInt = xi) (hyi : y.toInt = yi) (hd : decode bytes pc = .ok (.if_icmp .gt o, 3)) (ho : 0 ≤ (pc : Int) + o) (hp : ((pc : Int) + o).toNat = pcY) (hn : pc + 3 = pcN) (KY : yi < xi → own_G p e below s n0 kc ks Q T (mkF m pcY Ls st)) (KN : xi ≤ yi → own_G p e below s n0 kc ks Q T (mkF m pcN Ls st)) : own_G p e below s n0 kc ks Q T (mkF m pc Ls (.int y :: .int x :: st)) :=
  s_icmp pcY pcN A S hd ho hp hn (fun q => by have q := own_gtY q; exact KY (by subst hxi hyi; exact q)) (fun q => by have q := own_gtN q; exact KN (by subst hxi hyi; exact q))
theorem s_ifgt (pcY pcN : Nat) {o : Int} {x : Int32} {xi : Int} (A : own_A p l e R s m args below meth c Z own name bytes maxL ret) (S : own_S p l e R s m args below meth c n0 T h k n) (hxi : x.toInt = xi) (hd : decode bytes pc = .ok (.ifCond .gt o, 3)) (ho : 0 ≤ (pc : Int) + o) (hp : ((pc : Int) + o).toNat = pcY) (hn : pc + 3 = pcN) (KY : 0 < xi → own_G p e below s n0 kc ks Q T (mkF m pcY Ls st)) (KN : xi ≤ 0 → own_G p e below s n0 kc ks Q T (mkF m pcN Ls st)) : own_G p e below s n0 kc ks Q T (mkF m pc Ls (.int x :: st)) :=
  s_ifc pcY pcN A S hd ho hp hn (fun q => by have q := own_gtY (y := 0) ((if0 _ _).symm.trans q); exact KY (by subst hxi; exact q)) (fun q => by have q := own_gtN (y := 0) ((if0 _ _).symm.trans q); exact KN (by subst hxi; exact q))
theorem s_lifgt (pcY pcN pcM : Nat) {o : Int} {x y : Int64} {xi yi : Int} (A : own_A p l e R s m args below meth c Z own name bytes maxL ret) (S : own_S p l e R s m args below meth c n0 T h k n) (hxi : x.toInt = xi) (hyi : y.toInt = yi) (hd0 : decode bytes pc = .ok (.lcmp, 1)) (hm : pc + 1 = pcM) (hd : decode bytes pcM = .ok (.ifCond .gt o, 3)) (ho : 0 ≤ (pcM : Int) + o) (hp : ((pcM : Int) + o).toNat = pcY) (hn : pcM + 3 = pcN) (KY : yi < xi → own_G p e below s n0 kc ks Q T (mkF m pcY Ls st)) (KN : xi ≤ yi → own_G p e below s n0 kc ks Q T (mkF m pcN Ls st)) : own_G p e below s n0 kc ks Q T (mkF m pc Ls (.long y :: .long x :: st)) :=
  s_lcmp pcM A S hd0 rfl hm (s_ifgt pcY pcN A S rfl hd ho hp hn (fun q => by have q : y.toInt < x.toInt := (own_lcmp_gt x y).mp (Int32.lt_iff_toInt_lt.mpr q); exact KY (by subst hxi hyi; exact q)) (fun q => by have q : x.toInt ≤ y.toInt := Int.not_lt.mp fun w => Int.not_lt.mpr q (Int32.lt_iff_toInt_lt.mp ((own_lcmp_gt x y).mpr w)); exact KN (by subst hxi hyi; exact q)))
theorem s_ile (pcY pcN : Nat) {o : Int} {x y : Int32} {xi yi : Int} (A : own_A p l e R s m args below meth c Z own name bytes maxL ret) (S : own_S p l e R s m args below meth c n0 T h k n) (hxi : x.toInt = xi) (hyi : y.toInt = yi) (hd : decode bytes pc = .ok (.if_icmp .le o, 3)) (ho : 0 ≤ (pc : Int) + o) (hp : ((pc : Int) + o).toNat = pcY) (hn : pc + 3 = pcN) (KY : xi ≤ yi → own_G p e below s n0 kc ks Q T (mkF m pcY Ls st)) (KN : yi < xi → own_G p e below s n0 kc ks Q T (mkF m pcN Ls st)) : own_G p e below s n0 kc ks Q T (mkF m pc Ls (.int y :: .int x :: st)) :=
  s_icmp pcY pcN A S hd ho hp hn (fun q => by have q := own_leY q; exact KY (by subst hxi hyi; exact q)) (fun q => by have q := own_leN q; exact KN (by subst hxi hyi; exact q))
theorem s_ifle (pcY pcN : Nat) {o : Int} {x : Int32} {xi : Int} (A : own_A p l e R s m args below meth c Z own name bytes maxL ret) (S : own_S p l e R s m args below meth c n0 T h k n) (hxi : x.toInt = xi) (hd : decode bytes pc = .ok (.ifCond .le o, 3)) (ho : 0 ≤ (pc : Int) + o) (hp : ((pc : Int) + o).toNat = pcY) (hn : pc + 3 = pcN) (KY : xi ≤ 0 → own_G p e below s n0 kc ks Q T (mkF m pcY Ls st)) (KN : 0 < xi → own_G p e below s n0 kc ks Q T (mkF m pcN Ls st)) : own_G p e below s n0 kc ks Q T (mkF m pc Ls (.int x :: st)) :=
  s_ifc pcY pcN A S hd ho hp hn (fun q => by have q := own_leY (y := 0) ((if0 _ _).symm.trans q); exact KY (by subst hxi; exact q)) (fun q => by have q := own_leN (y := 0) ((if0 _ _).symm.trans q); exact KN (by subst hxi; exact q))
theorem s_lifle (pcY pcN pcM : Nat) {o : Int} {x y : Int64} {xi yi : Int} (A : own_A p l e R s m args below meth c Z own name bytes maxL ret) (S : own_S p l e R s m args below meth c n0 T h k n) (hxi : x.toInt = xi) (hyi : y.toInt = yi) (hd0 : decode bytes pc = .ok (.lcmp, 1)) (hm : pc + 1 = pcM) (hd : decode bytes pcM = .ok (.ifCond .le o, 3)) (ho : 0 ≤ (pcM : Int) + o) (hp : ((pcM : Int) + o).toNat = pcY) (hn : pcM + 3 = pcN) (KY : xi ≤ yi → own_G p e below s n0 kc ks Q T (mkF m pcY Ls st)) (KN : yi < xi → own_G p e below s n0 kc ks Q T (mkF m pcN Ls st)) : own_G p e below s n0 kc ks Q T (mkF m pc Ls (.long y :: .long x :: st)) :=
  s_lcmp pcM A S hd0 rfl hm (s_ifle pcY pcN A S rfl hd ho hp hn (fun q => by have q : x.toInt ≤ y.toInt := Int.not_lt.mp fun w => Int.not_lt.mpr q (Int32.lt_iff_toInt_lt.mp ((own_lcmp_gt x y).mpr w)); exact KY (by subst hxi hyi; exact q)) (fun q => by have q : y.toInt < x.toInt := (own_lcmp_gt x y).mp (Int32.lt_iff_toInt_lt.mpr q); exact KN (by subst hxi hyi; exact q)))
theorem s_aeq (pcY pcN : Nat) {o : Int} {v w : Value} (A : own_A p l e R s m args below meth c Z own name bytes maxL ret) (S : own_S p l e R s m args below meth c n0 T h k n) (hv : v.isRef = true) (hw' : w.isRef = true) (hd : decode bytes pc = .ok (.if_acmp .eq o, 3)) (ho : 0 ≤ (pc : Int) + o) (hp : ((pc : Int) + o).toNat = pcY) (hn : pc + 3 = pcN) (KY : v = w → own_G p e below s n0 kc ks Q T (mkF m pcY Ls st)) (KN : ¬ v = w → own_G p e below s n0 kc ks Q T (mkF m pcN Ls st)) : own_G p e below s n0 kc ks Q T (mkF m pc Ls (w :: v :: st)) := by
  obtain ⟨_, X, -, -⟩ := S
  subst hn
  by_cases q : v = w
  · exact own_st (T' := T) (g' := mkF m pcY Ls st) (fun t ht => RoadKit.acmp X A.1 rfl hv hw' (pc0 := pc) (same := true) rfl (hb A.2.1 hd) rfl (decide_eq_true q) ho hp.symm ht) (KY q)
  · exact own_st (T' := T) (g' := mkF m _ Ls st) (fun t ht => RoadKit.acmp X A.1 rfl hv hw' (pc0 := pc) (same := false) rfl (hb A.2.1 hd) rfl (decide_eq_false q) ho rfl ht) (KN q)
theorem s_ane (pcY pcN : Nat) {o : Int} {v w : Value} (A : own_A p l e R s m args below meth c Z own name bytes maxL ret) (S : own_S p l e R s m args below meth c n0 T h k n) (hv : v.isRef = true) (hw' : w.isRef = true) (hd : decode bytes pc = .ok (.if_acmp .ne o, 3)) (ho : 0 ≤ (pc : Int) + o) (hp : ((pc : Int) + o).toNat = pcY) (hn : pc + 3 = pcN) (KY : ¬ v = w → own_G p e below s n0 kc ks Q T (mkF m pcY Ls st)) (KN : v = w → own_G p e below s n0 kc ks Q T (mkF m pcN Ls st)) : own_G p e below s n0 kc ks Q T (mkF m pc Ls (w :: v :: st)) := by
  obtain ⟨_, X, -, -⟩ := S
  subst hn
  by_cases q : v = w
  · exact own_st (T' := T) (g' := mkF m _ Ls st) (fun t ht => RoadKit.acmp X A.1 rfl hv hw' (pc0 := pc) (same := true) rfl (hb A.2.1 hd) rfl (decide_eq_true q) ho rfl ht) (KN q)
  · exact own_st (T' := T) (g' := mkF m pcY Ls st) (fun t ht => RoadKit.acmp X A.1 rfl hv hw' (pc0 := pc) (same := false) rfl (hb A.2.1 hd) rfl (decide_eq_false q) ho hp.symm ht) (KY q)
theorem own_leave {v : Option Value} (A : own_A p l e R s m args below meth c Z own name bytes maxL ret) (S : own_S p l e R s m args below meth c n0 T h k n) (hv : meth.sig.returnType = none → v = none) (hk : k ≤ kc) (hn : n ≤ ks) (hq : Q v h)
    (go : ∀ (locs : List Loc) (X : Stand p l e R s m args below meth c T locs k n) (fs : List Frame), (∀ (f : JFrame) (acts : List Action), f.method = m → f.locked = none → f.entered = [] → (doReturn e (T.setTop f) acts v).1 = T.setFrames fs) → Steps p.tables e below (T.setTop g) (T.setFrames fs)) : own_G p e below s n0 kc ks Q T g := by
  obtain ⟨locs, X, hh, N⟩ := S
  obtain ⟨-, -, -, -, -, -, hlk, -⟩ := A
  obtain ⟨fs, hr, hrun, hended, hW, hsame⟩ := X.leave (v := v) hv hlk
  exact ⟨_, _, go locs X fs hr, hrun, hended, v, locs, rfl, ⟨by show Q v T.heap; rw [hh]; exact hq, N⟩, ⟨v, rfl⟩, hW, hsame.mono hk hn⟩
theorem s_ret (A : own_A p l e R s m args below meth c Z own name bytes maxL none) (S : own_S p l e R s m args below meth c n0 T h k n) (hd : decode bytes pc = .ok (.return_, 1)) (hk : k ≤ kc) (hn : n ≤ ks) (hq : Q none h) : own_G p e below s n0 kc ks Q T (mkF m pc Ls []) :=
  own_leave A S (fun _ => rfl) hk hn hq fun locs X fs hr => X.returnOut A.1 A.2.2.2.2.2.1 (hb A.2.1 hd) hr
theorem s_retV {w : Value} {t : FieldType} {i : Instr} (A : own_A p l e R s m args below meth c Z own name bytes maxL (some t)) (S : own_S p l e R s m args below meth c n0 T h k n) (hd : decode bytes pc = .ok (i, 1)) (hn' : narrow t w = w) (hi : (i = .ireturn ∧ (t = .int ∨ t = .boolean ∨ t = .byte ∨ t = .char ∨ t = .short) ∧ ∃ z, w = .int z) ∨ (i = .lreturn ∧ t = .long ∧ ∃ z, w = .long z) ∨ (i = .dreturn ∧ t = .double ∧ ∃ z, w = .double z) ∨ (i = .freturn ∧ t = .float ∧ ∃ z, w = .float z) ∨ (i = .areturn ∧ t.isReference = true ∧ w.isRef = true)) (hk : k ≤ kc) (hn : n ≤ ks) (hq : Q (some w) h) : own_G p e below s n0 kc ks Q T (mkF m pc Ls (w :: st)) :=
  own_leave A S (fun q => by rw [A.2.2.2.2.2.1] at q; cases q) hk hn hq fun locs X fs hr => retOut X A.1 A.2.2.2.2.2.1 hn' hi (hb A.2.1 hd) hr
theorem s_retI {z : Int32} (A : own_A p l e R s m args below meth c Z own name bytes maxL (some .int)) (S : own_S p l e R s m args below meth c n0 T h k n) (hd : decode bytes pc = .ok (.ireturn, 1)) (hk : k ≤ kc) (hn : n ≤ ks) (hq : Q (some (.int z)) h) : own_G p e below s n0 kc ks Q T (mkF m pc Ls (.int z :: st)) :=
  s_retV A S hd rfl (Or.inl ⟨rfl, Or.inl rfl, z, rfl⟩) hk hn hq
theorem s_retZ {z : Int32} (A : own_A p l e R s m args below meth c Z own name bytes maxL (some .boolean)) (S : own_S p l e R s m args below meth c n0 T h k n) (hd : decode bytes pc = .ok (.ireturn, 1)) (hz : narrow .boolean (.int z) = .int z) (hk : k ≤ kc) (hn : n ≤ ks) (hq : Q (some (.int z)) h) : own_G p e below s n0 kc ks Q T (mkF m pc Ls (.int z :: st)) :=
  s_retV A S hd hz (Or.inl ⟨rfl, Or.inr (Or.inl rfl), z, rfl⟩) hk hn hq
theorem s_retJ {z : Int64} (A : own_A p l e R s m args below meth c Z own name bytes maxL (some .long)) (S : own_S p l e R s m args below meth c n0 T h k n) (hd : decode bytes pc = .ok (.lreturn, 1)) (hk : k ≤ kc) (hn : n ≤ ks) (hq : Q (some (.long z)) h) : own_G p e below s n0 kc ks Q T (mkF m pc Ls (.long z :: st)) :=
  s_retV A S hd rfl (Or.inr (Or.inl ⟨rfl, rfl, z, rfl⟩)) hk hn hq
theorem s_retA {w : Value} {t : FieldType} (A : own_A p l e R s m args below meth c Z own name bytes maxL (some t)) (S : own_S p l e R s m args below meth c n0 T h k n) (hd : decode bytes pc = .ok (.areturn, 1)) (ht : t.isReference = true) (hn' : narrow t w = w) (hw' : w.isRef = true) (hk : k ≤ kc) (hn : n ≤ ks) (hq : Q (some w) h) : own_G p e below s n0 kc ks Q T (mkF m pc Ls (w :: st)) :=
  s_retV A S hd hn' (Or.inr (Or.inr (Or.inr (Or.inr ⟨rfl, ht, hw'⟩)))) hk hn hq
theorem s_callS (pc' : Nat) {y : MethodName} {index : Nat} {bytes' : ByteArray} {maxL' : Nat} {ret' : Option FieldType} {rm : Room} {argsL rest stk : List Value} {Q' : Option Value → Heap → Prop}
    (A : own_A p l e R s m args below meth c Z own name bytes maxL ret) (S : own_S p l e R s m args below meth c n0 T h k n)
    (w1 : (Jvm.Cond.methodLink own index y).before a0 Z = true) (w2 : (Jvm.Cond.static y).before a0 Z = true) (w3 : (Jvm.Cond.initialized y.cls).before a0 Z = true) (w4 : (Jvm.Cond.code y bytes' maxL' ret').before a0 Z = true)
    (C : own_C l Z y bytes' maxL' ret' rm n0 [] argsL.toArray h Q') (hlen : ∀ sig, parseMethodDescriptor y.desc = some sig → argsL.length = sig.parameters.length)
    (hd : decode bytes pc = .ok (.invokestatic index, 3)) (hst : stk = argsL.reverse ++ rest) (hp : pc + 3 = pc') (hsize : Ls.size = maxL) (hy : y.cls ≠ "java/lang/invoke/MethodHandle" ∧ y.cls ≠ "java/lang/invoke/VarHandle")
    (hf : rm.frames + 1 ≤ R.frames) (hl : (rest.map fun v => v.category).sum + (maxL' + 11) + rm.locals ≤ R.locals) (hc : k + rm.cells ≤ R.cells) (hs : n + rm.slots ≤ R.slots)
    (K : ∀ (T' : State) (h' : Heap) (v : Option Value), Q' v h' → own_S p l e R s m args below meth c n0 T' h' (k + rm.cells) (n + rm.slots) → own_G p e below s n0 kc ks Q T' (mkF m pc' Ls (v.toList ++ rest))) : own_G p e below s n0 kc ks Q T (mkF m pc Ls stk) := by
  obtain ⟨locs, X, eT, N⟩ := S
  obtain ⟨hx, hby, hml, hown, -, -, -, hZ⟩ := A
  subst hp
  obtain ⟨v, _, ⟨T1, L1, k1, n1⟩, -, X1, ⟨Lc, hQ1, l1, y1, z1⟩, st1⟩ := Jvm.LawKit.callS X hx (y := y) hown (mvT hZ w1) (mvT hZ w2) (mvT hZ w3) (mvT hZ w4) hy (backOf (W := (rest.map fun v => v.category).sum) (Q := fun v h L => Q' v h ∧ Fr n0 L) C hZ w4 w3 hf hl) (g := mkF m pc Ls stk) rfl (by rw [hml]; exact hsize) (argsL := argsL) (rest := rest) hlen hst (by show 2 * 0 + _ ≤ _; omega) (hb hby hd) (fun _ _ => ⟨rfl, eT, hc, hs⟩)
  dsimp only [Pt.U, Pt.locs, Pt.cells, Pt.slots] at X1 l1 y1 z1 st1 hQ1
  subst l1 y1 z1
  exact own_st (T' := T1) (g' := mkF m _ Ls (v.toList ++ rest)) st1 (K T1 T1.heap v hQ1.1 ⟨_, X1, rfl, Fr.app N hQ1.2⟩)
theorem s_callV (pc' : Nat) {y : MethodName} {index : Nat} {bytes' : ByteArray} {maxL' : Nat} {ret' : Option FieldType} {rm : Room} {argsL rest stk : List Value} {w : Value}
    (A : own_A p l e R s m args below meth c Z own name bytes maxL ret) (S : own_S p l e R s m args below meth c n0 T h k n)
    (w1 : (Jvm.Cond.methodLink own index y).before a0 Z = true) (w2 : (Jvm.Cond.static y).before a0 Z = true) (w3 : (Jvm.Cond.initialized y.cls).before a0 Z = true) (w4 : (Jvm.Cond.code y bytes' maxL' ret').before a0 Z = true)
    (C : own_C l Z y bytes' maxL' ret' rm n0 [] argsL.toArray h (fun v h' => v = some w ∧ h' = h)) (hlen : ∀ sig, parseMethodDescriptor y.desc = some sig → argsL.length = sig.parameters.length)
    (hd : decode bytes pc = .ok (.invokestatic index, 3)) (hst : stk = argsL.reverse ++ rest) (hp : pc + 3 = pc') (hsize : Ls.size = maxL) (hy : y.cls ≠ "java/lang/invoke/MethodHandle" ∧ y.cls ≠ "java/lang/invoke/VarHandle")
    (hf : rm.frames + 1 ≤ R.frames) (hl : (rest.map fun v => v.category).sum + (maxL' + 11) + rm.locals ≤ R.locals) (hc : k + rm.cells ≤ R.cells) (hs : n + rm.slots ≤ R.slots)
    (K : ∀ (T' : State), own_S p l e R s m args below meth c n0 T' h (k + rm.cells) (n + rm.slots) → own_G p e below s n0 kc ks Q T' (mkF m pc' Ls (w :: rest))) : own_G p e below s n0 kc ks Q T (mkF m pc Ls stk) :=
  s_callS pc' A S w1 w2 w3 w4 C hlen hd hst hp hsize hy hf hl hc hs (fun T' h' v q S' => by obtain ⟨rfl, rfl⟩ := q; exact K T' S')
theorem s_callN (pc' : Nat) {y : MethodName} {index : Nat} {bytes' : ByteArray} {maxL' : Nat} {ret' : Option FieldType} {rm : Room} {argsL rest stk : List Value}
    (A : own_A p l e R s m args below meth c Z own name bytes maxL ret) (S : own_S p l e R s m args below meth c n0 T h k n)
    (w1 : (Jvm.Cond.methodLink own index y).before a0 Z = true) (w2 : (Jvm.Cond.static y).before a0 Z = true) (w3 : (Jvm.Cond.initialized y.cls).before a0 Z = true) (w4 : (Jvm.Cond.code y bytes' maxL' ret').before a0 Z = true)
    (C : own_C l Z y bytes' maxL' ret' rm n0 [] argsL.toArray h (fun v h' => v = none ∧ h' = h)) (hlen : ∀ sig, parseMethodDescriptor y.desc = some sig → argsL.length = sig.parameters.length)
    (hd : decode bytes pc = .ok (.invokestatic index, 3)) (hst : stk = argsL.reverse ++ rest) (hp : pc + 3 = pc') (hsize : Ls.size = maxL) (hy : y.cls ≠ "java/lang/invoke/MethodHandle" ∧ y.cls ≠ "java/lang/invoke/VarHandle")
    (hf : rm.frames + 1 ≤ R.frames) (hl : (rest.map fun v => v.category).sum + (maxL' + 11) + rm.locals ≤ R.locals) (hc : k + rm.cells ≤ R.cells) (hs : n + rm.slots ≤ R.slots)
    (K : ∀ (T' : State), own_S p l e R s m args below meth c n0 T' h (k + rm.cells) (n + rm.slots) → own_G p e below s n0 kc ks Q T' (mkF m pc' Ls rest)) : own_G p e below s n0 kc ks Q T (mkF m pc Ls stk) :=
  s_callS pc' A S w1 w2 w3 w4 C hlen hd hst hp hsize hy hf hl hc hs (fun T' h' v q S' => by obtain ⟨rfl, rfl⟩ := q; exact K T' S')
theorem s_virt (pc' : Nat) {y z : MethodName} {CC : String} {index : Nat} {bytes' : ByteArray} {maxL' : Nat} {ret' : Option FieldType} {rm : Room} {argsL rest stk : List Value} {b : Addr} {Q' : Option Value → Heap → Prop}
    (A : own_A p l e R s m args below meth c Z own name bytes maxL ret) (S : own_S p l e R s m args below meth c n0 T h k n) (E : Exa Z h b CC)
    (w1 : (Jvm.Cond.methodLink own index y).before a0 Z = true) (w2 : (Jvm.Cond.declares y).before a0 Z = true) (nf : NotFace s y) (w5 : (Jvm.Cond.selects CC y z).before a0 Z = true) (w6 : (Jvm.Cond.instanceMethod z).before a0 Z = true) (w3 : (Jvm.Cond.initialized z.cls).before a0 Z = true) (w4 : (Jvm.Cond.code z bytes' maxL' ret').before a0 Z = true)
    (C : own_C l Z z bytes' maxL' ret' rm n0 [] (Value.ref b :: argsL).toArray h Q') (hlen : ∀ sig, parseMethodDescriptor y.desc = some sig → argsL.length = sig.parameters.length)
    (hd : decode bytes pc = .ok (.invokevirtual index, 3)) (hst : stk = argsL.reverse ++ Value.ref b :: rest) (hp : pc + 3 = pc') (hsize : Ls.size = maxL) (hy : y.cls ≠ "java/lang/invoke/MethodHandle" ∧ y.cls ≠ "java/lang/invoke/VarHandle")
    (hf : rm.frames + 1 ≤ R.frames) (hl : (rest.map fun v => v.category).sum + (maxL' + 11) + rm.locals ≤ R.locals) (hc : k + rm.cells ≤ R.cells) (hs : n + rm.slots ≤ R.slots)
    (K : ∀ (T' : State) (h' : Heap) (v : Option Value), Q' v h' → own_S p l e R s m args below meth c n0 T' h' (k + rm.cells) (n + rm.slots) → own_G p e below s n0 kc ks Q T' (mkF m pc' Ls (v.toList ++ rest))) : own_G p e below s n0 kc ks Q T (mkF m pc Ls stk) := by
  obtain ⟨locs, X, eT, N⟩ := S
  obtain ⟨hx, hby, hml, hown, -, -, -, hZ⟩ := A
  subst hp
  obtain ⟨cq, kq, qa, qb, qc⟩ := isOf hZ eT E
  obtain ⟨v, _, ⟨T1, L1, k1, n1⟩, -, X1, ⟨Lc, hQ1, l1, y1, z1⟩, st1⟩ := X.virtualBack hx (y := y) (z := z) hown (mvT hZ w1) (mvT hZ w2) nf (mvT hZ w5) (mvT hZ w6) hy (backOf (W := (rest.map fun v => v.category).sum) (Q := fun v h L => Q' v h ∧ Fr n0 L) C hZ w4 w3 hf hl) qa qc (g := mkF m pc Ls stk) rfl (by rw [hml]; exact hsize) (Steps.refl _) (argsL := argsL) (rest := rest) hlen hst (by show 2 * 0 + _ ≤ _; omega) (hb hby hd) (fun _ _ => ⟨rfl, eT, hc, hs⟩)
  dsimp only [Pt.U, Pt.locs, Pt.cells, Pt.slots] at X1 l1 y1 z1 st1 hQ1
  subst l1 y1 z1
  exact own_st (T' := T1) (g' := mkF m _ Ls (v.toList ++ rest)) (fun t => st1.trans) (K T1 T1.heap v hQ1.1 ⟨_, X1, rfl, Fr.app N hQ1.2⟩)
theorem s_virtV (pc' : Nat) {y z : MethodName} {CC : String} {index : Nat} {bytes' : ByteArray} {maxL' : Nat} {ret' : Option FieldType} {rm : Room} {argsL rest stk : List Value} {b : Addr} {w : Value}
    (A : own_A p l e R s m args below meth c Z own name bytes maxL ret) (S : own_S p l e R s m args below meth c n0 T h k n) (E : Exa Z h b CC)
    (w1 : (Jvm.Cond.methodLink own index y).before a0 Z = true) (w2 : (Jvm.Cond.declares y).before a0 Z = true) (nf : NotFace s y) (w5 : (Jvm.Cond.selects CC y z).before a0 Z = true) (w6 : (Jvm.Cond.instanceMethod z).before a0 Z = true) (w3 : (Jvm.Cond.initialized z.cls).before a0 Z = true) (w4 : (Jvm.Cond.code z bytes' maxL' ret').before a0 Z = true)
    (C : own_C l Z z bytes' maxL' ret' rm n0 [] (Value.ref b :: argsL).toArray h (fun v h' => v = some w ∧ h' = h)) (hlen : ∀ sig, parseMethodDescriptor y.desc = some sig → argsL.length = sig.parameters.length)
    (hd : decode bytes pc = .ok (.invokevirtual index, 3)) (hst : stk = argsL.reverse ++ Value.ref b :: rest) (hp : pc + 3 = pc') (hsize : Ls.size = maxL) (hy : y.cls ≠ "java/lang/invoke/MethodHandle" ∧ y.cls ≠ "java/lang/invoke/VarHandle")
    (hf : rm.frames + 1 ≤ R.frames) (hl : (rest.map fun v => v.category).sum + (maxL' + 11) + rm.locals ≤ R.locals) (hc : k + rm.cells ≤ R.cells) (hs : n + rm.slots ≤ R.slots)
    (K : ∀ (T' : State), own_S p l e R s m args below meth c n0 T' h (k + rm.cells) (n + rm.slots) → own_G p e below s n0 kc ks Q T' (mkF m pc' Ls (w :: rest))) : own_G p e below s n0 kc ks Q T (mkF m pc Ls stk) :=
  s_virt pc' A S E w1 w2 nf w5 w6 w3 w4 C hlen hd hst hp hsize hy hf hl hc hs (fun T' h' v q S' => by obtain ⟨rfl, rfl⟩ := q; exact K T' S')
theorem s_virtN (pc' : Nat) {y z : MethodName} {CC : String} {index : Nat} {bytes' : ByteArray} {maxL' : Nat} {ret' : Option FieldType} {rm : Room} {argsL rest stk : List Value} {b : Addr}
    (A : own_A p l e R s m args below meth c Z own name bytes maxL ret) (S : own_S p l e R s m args below meth c n0 T h k n) (E : Exa Z h b CC)
    (w1 : (Jvm.Cond.methodLink own index y).before a0 Z = true) (w2 : (Jvm.Cond.declares y).before a0 Z = true) (nf : NotFace s y) (w5 : (Jvm.Cond.selects CC y z).before a0 Z = true) (w6 : (Jvm.Cond.instanceMethod z).before a0 Z = true) (w3 : (Jvm.Cond.initialized z.cls).before a0 Z = true) (w4 : (Jvm.Cond.code z bytes' maxL' ret').before a0 Z = true)
    (C : own_C l Z z bytes' maxL' ret' rm n0 [] (Value.ref b :: argsL).toArray h (fun v h' => v = none ∧ h' = h)) (hlen : ∀ sig, parseMethodDescriptor y.desc = some sig → argsL.length = sig.parameters.length)
    (hd : decode bytes pc = .ok (.invokevirtual index, 3)) (hst : stk = argsL.reverse ++ Value.ref b :: rest) (hp : pc + 3 = pc') (hsize : Ls.size = maxL) (hy : y.cls ≠ "java/lang/invoke/MethodHandle" ∧ y.cls ≠ "java/lang/invoke/VarHandle")
    (hf : rm.frames + 1 ≤ R.frames) (hl : (rest.map fun v => v.category).sum + (maxL' + 11) + rm.locals ≤ R.locals) (hc : k + rm.cells ≤ R.cells) (hs : n + rm.slots ≤ R.slots)
    (K : ∀ (T' : State), own_S p l e R s m args below meth c n0 T' h (k + rm.cells) (n + rm.slots) → own_G p e below s n0 kc ks Q T' (mkF m pc' Ls rest)) : own_G p e below s n0 kc ks Q T (mkF m pc Ls stk) :=
  s_virt pc' A S E w1 w2 nf w5 w6 w3 w4 C hlen hd hst hp hsize hy hf hl hc hs (fun T' h' v q S' => by obtain ⟨rfl, rfl⟩ := q; exact K T' S')
theorem s_spec (pc' : Nat) {y : MethodName} {index : Nat} {bytes' : ByteArray} {maxL' : Nat} {rm : Room} {argsL rest stk : List Value} {b : Addr} {Q' : Option Value → Heap → Prop}
    (A : own_A p l e R s m args below meth c Z own name bytes maxL ret) (S : own_S p l e R s m args below meth c n0 T h k n)
    (w1 : (Jvm.Cond.methodLink own index y).before a0 Z = true) (w2 : (Jvm.Cond.instanceMethod y).before a0 Z = true) (w3 : (Jvm.Cond.initialized y.cls).before a0 Z = true) (w4 : (Jvm.Cond.code y bytes' maxL' none).before a0 Z = true)
    (C : own_C l Z y bytes' maxL' none rm n0 [] (Value.ref b :: argsL).toArray h Q') (hlen : ∀ sig, parseMethodDescriptor y.desc = some sig → argsL.length = sig.parameters.length)
    (hd : decode bytes pc = .ok (.invokespecial index, 3)) (hst : stk = argsL.reverse ++ Value.ref b :: rest) (hp : pc + 3 = pc') (hsize : Ls.size = maxL) (hy1 : y.name = "<init>") (hy : y.cls ≠ "java/lang/invoke/MethodHandle" ∧ y.cls ≠ "java/lang/invoke/VarHandle")
    (hf : rm.frames + 1 ≤ R.frames) (hl : (rest.map fun v => v.category).sum + (maxL' + 11) + rm.locals ≤ R.locals) (hc : k + rm.cells ≤ R.cells) (hs : n + rm.slots ≤ R.slots)
    (K : ∀ (T' : State) (h' : Heap) (v : Option Value), Q' v h' → own_S p l e R s m args below meth c n0 T' h' (k + rm.cells) (n + rm.slots) → own_G p e below s n0 kc ks Q T' (mkF m pc' Ls (v.toList ++ rest))) : own_G p e below s n0 kc ks Q T (mkF m pc Ls stk) := by
  obtain ⟨locs, X, eT, N⟩ := S
  obtain ⟨hx, hby, hml, hown, -, -, -, hZ⟩ := A
  subst hp
  obtain ⟨v, _, ⟨T1, L1, k1, n1⟩, -, X1, ⟨Lc, hQ1, l1, y1, z1⟩, st1⟩ := X.specialBack hx (y := y) hy1 hown (mvT hZ w1) (mvT hZ w2) (mvT hZ w4) hy (backOf (W := (rest.map fun v => v.category).sum) (Q := fun v h L => Q' v h ∧ Fr n0 L) C hZ w4 w3 hf hl) (g := mkF m pc Ls stk) rfl (by rw [hml]; exact hsize) (Steps.refl _) (a := b) (argsL := argsL) (rest := rest) hlen hst (by show 2 * 0 + _ ≤ _; omega) (hb hby hd) (fun _ _ => ⟨rfl, eT, hc, hs⟩)
  dsimp only [Pt.U, Pt.locs, Pt.cells, Pt.slots] at X1 l1 y1 z1 st1 hQ1
  subst l1 y1 z1
  exact own_st (T' := T1) (g' := mkF m _ Ls (v.toList ++ rest)) (fun t => st1.trans) (K T1 T1.heap v hQ1.1 ⟨_, X1, rfl, Fr.app N hQ1.2⟩)
theorem s_specN (pc' : Nat) {y : MethodName} {index : Nat} {bytes' : ByteArray} {maxL' : Nat} {rm : Room} {argsL rest stk : List Value} {b : Addr}
    (A : own_A p l e R s m args below meth c Z own name bytes maxL ret) (S : own_S p l e R s m args below meth c n0 T h k n)
    (w1 : (Jvm.Cond.methodLink own index y).before a0 Z = true) (w2 : (Jvm.Cond.instanceMethod y).before a0 Z = true) (w3 : (Jvm.Cond.initialized y.cls).before a0 Z = true) (w4 : (Jvm.Cond.code y bytes' maxL' none).before a0 Z = true)
    (C : own_C l Z y bytes' maxL' none rm n0 [] (Value.ref b :: argsL).toArray h (fun v h' => v = none ∧ h' = h)) (hlen : ∀ sig, parseMethodDescriptor y.desc = some sig → argsL.length = sig.parameters.length)
    (hd : decode bytes pc = .ok (.invokespecial index, 3)) (hst : stk = argsL.reverse ++ Value.ref b :: rest) (hp : pc + 3 = pc') (hsize : Ls.size = maxL) (hy1 : y.name = "<init>") (hy : y.cls ≠ "java/lang/invoke/MethodHandle" ∧ y.cls ≠ "java/lang/invoke/VarHandle")
    (hf : rm.frames + 1 ≤ R.frames) (hl : (rest.map fun v => v.category).sum + (maxL' + 11) + rm.locals ≤ R.locals) (hc : k + rm.cells ≤ R.cells) (hs : n + rm.slots ≤ R.slots)
    (K : ∀ (T' : State), own_S p l e R s m args below meth c n0 T' h (k + rm.cells) (n + rm.slots) → own_G p e below s n0 kc ks Q T' (mkF m pc' Ls rest)) : own_G p e below s n0 kc ks Q T (mkF m pc Ls stk) :=
  s_spec pc' A S w1 w2 w3 w4 C hlen hd hst hp hsize hy1 hy hf hl hc hs (fun T' h' v q S' => by obtain ⟨rfl, rfl⟩ := q; exact K T' S')
theorem s_getS (pc' : Nat) {O nm dd : String} {index : Nat} {v : Value} (A : own_A p l e R s m args below meth c Z own name bytes maxL ret) (S : own_S p l e R s m args below meth c n0 T h k n)
    (w : (Jvm.Cond.fieldLink own index O nm dd).before a0 Z = true) (F : Sta Z h O nm dd v) (hd : decode bytes pc = .ok (.getstatic index, 3)) (hp : pc + 3 = pc')
    (K : ∀ T', own_S p l e R s m args below meth c n0 T' h k n → own_G p e below s n0 kc ks Q T' (mkF m pc' Ls (v :: st))) : own_G p e below s n0 kc ks Q T (mkF m pc Ls st) := by
  obtain ⟨locs, X, eT, N⟩ := S
  obtain ⟨hx, hby, hml, hown, -, -, -, hZ⟩ := A
  subst hp
  obtain ⟨T1, X1, e1, st1⟩ := getS (host := "") X hx hZ hown w Via.refl eT F (g := mkF m pc Ls st) rfl (hb hby hd)
  exact own_st (T' := T1) (g' := mkF m _ Ls (v :: st)) st1 (K T1 ⟨_, X1, e1, N⟩)
theorem s_getF (pc' : Nat) {O nm dd : String} {index : Nat} {v : Value} {a : Addr} (A : own_A p l e R s m args below meth c Z own name bytes maxL ret) (S : own_S p l e R s m args below meth c n0 T h k n)
    (w : (Jvm.Cond.fieldLink own index O nm dd).before a0 Z = true) (F : Fld Z h a O nm dd v) (hd : decode bytes pc = .ok (.getfield index, 3)) (hp : pc + 3 = pc')
    (K : ∀ T', own_S p l e R s m args below meth c n0 T' h k n → own_G p e below s n0 kc ks Q T' (mkF m pc' Ls (v :: st))) : own_G p e below s n0 kc ks Q T (mkF m pc Ls (.ref a :: st)) := by
  obtain ⟨locs, X, eT, N⟩ := S
  obtain ⟨hx, hby, hml, hown, -, -, -, hZ⟩ := A
  subst hp
  obtain ⟨T1, X1, e1, st1⟩ := getF X hx hZ hown (host := "") (Or.inl w) Via.refl eT F (g := mkF m pc Ls (.ref a :: st)) rfl rfl (hb hby hd)
  exact own_st (T' := T1) (g' := mkF m _ Ls (v :: st)) st1 (K T1 ⟨_, X1, e1, N⟩)
theorem s_putF (pc' : Nat) {O nm dd CC : String} {index kk : Nat} {v old : Value} {a : Addr} {ty : FieldType} (A : own_A p l e R s m args below meth c Z own name bytes maxL ret) (S : own_S p l e R s m args below meth c n0 T h k n)
    (w : (Jvm.Cond.fieldLink own index O nm dd).before a0 Z = true) (F : Fld Z h a O nm dd old) (E : Exa Z h a CC) (L : (Jvm.Cond.lays CC O nm dd).before a0 Z = true ∨ ((Jvm.Cond.laysFinal CC O nm dd).before a0 Z = true ∧ own = O ∧ name = "<init>")) (wi : (Jvm.Cond.instantiable CC kk).before a0 Z = true) (hge : n0 ≤ a)
    (hd : decode bytes pc = .ok (.putfield index, 3)) (hty : parseFieldDescriptor dd = some ty) (hn : narrow ty v = v) (hf : fits ty v = true) (hp : pc + 3 = pc')
    (K : ∀ T' h', Wr h h' a (RoadKit.slotOf Z O nm dd) v → own_S p l e R s m args below meth c n0 T' h' k n → own_G p e below s n0 kc ks Q T' (mkF m pc' Ls st)) : own_G p e below s n0 kc ks Q T (mkF m pc Ls (v :: .ref a :: st)) := by
  obtain ⟨locs, X, eT, N⟩ := S
  obtain ⟨hx, hby, hml, hown, hnm, -, -, hZ⟩ := A
  subst hp
  obtain ⟨T1, h1, X1, e1, W1, st1⟩ := putF X hx hZ hown (host := "") (Or.inl w) Via.refl eT F E (L.imp id fun q => ⟨q.1, q.2.1, hnm.trans q.2.2⟩) wi hty hn hf (g := mkF m pc Ls (v :: .ref a :: st)) rfl rfl (hb hby hd)
  exact own_st (T' := T1) (g' := mkF m _ Ls st) st1 (K T1 h1 W1 ⟨_, X1, e1, Fr.snoc X1 N hge⟩)
theorem s_new (pc' : Nat) {CC : String} {index nn : Nat} (A : own_A p l e R s m args below meth c Z own name bytes maxL ret) (S : own_S p l e R s m args below meth c n0 T h k n)
    (w : (Jvm.Cond.classLink own index CC).before a0 Z = true) (wi : (Jvm.Cond.instantiable CC nn).before a0 Z = true) (wz : (Jvm.Cond.initialized CC).before a0 Z = true) (hd : decode bytes pc = .ok (.new index, 3)) (hp : pc + 3 = pc') (hc : k + 1 ≤ R.cells) (hl : n + nn ≤ R.slots)
    (K : ∀ T' h' (a : Addr), a = h.size → Ext h h' → Exa Z h' a CC → (∀ {O nm dd : String} {ty : FieldType}, Laid Z a0 CC O nm dd → parseFieldDescriptor dd = some ty → Fld Z h' a O nm dd (defaultValue ty)) → own_S p l e R s m args below meth c n0 T' h' (k + 1) (n + nn) → own_G p e below s n0 kc ks Q T' (mkF m pc' Ls (.ref a :: st))) : own_G p e below s n0 kc ks Q T (mkF m pc Ls st) := by
  obtain ⟨locs, X, eT, N⟩ := S
  obtain ⟨hx, hby, hml, hown, -, -, -, hZ⟩ := A
  subst hp
  obtain ⟨T1, h1, X1, e1, E1, A1, D1, -, st1⟩ := newO X hx hZ hown w wi wz eT (g := mkF m pc Ls st) rfl (hb hby hd) hc hl
  exact own_st (T' := T1) (g' := mkF m _ Ls (.ref h.size :: st)) st1 (K T1 h1 h.size rfl E1 A1 D1 ⟨_, X1, e1, N⟩)
theorem s_initO (pc' : Nat) {idx : Nat} {a : Addr} (A : own_A p l e R s m args below meth c Z own name bytes maxL ret) (S : own_S p l e R s m args below meth c n0 T h k n)
    (w1 : (Jvm.Cond.methodLink own idx Lib.objectInit).before a0 Z = true) (w2 : (Jvm.Cond.instanceMethod Lib.objectInit).before a0 Z = true) (w3 : (Jvm.Cond.code Lib.objectInit ⟨#[0xb1]⟩ 1 none).before a0 Z = true) (hd : decode bytes pc = .ok (.invokespecial idx, 3)) (hp : pc + 3 = pc') (hsize : Ls.size = maxL) (hf : 1 ≤ R.frames) (hl : (st.map fun v => v.category).sum + 12 ≤ R.locals)
    (K : ∀ T', own_S p l e R s m args below meth c n0 T' h k n → own_G p e below s n0 kc ks Q T' (mkF m pc' Ls st)) : own_G p e below s n0 kc ks Q T (mkF m pc Ls (.ref a :: st)) := by
  obtain ⟨locs, X, eT, N⟩ := S
  obtain ⟨hx, hby, hml, hown, -, -, -, hZ⟩ := A
  subst hp
  obtain ⟨T1, X1, e1, st1⟩ := initO X hx hZ hown w1 w2 w3 eT (g := mkF m pc Ls (.ref a :: st)) rfl (by rw [hml]; exact hsize) rfl (hb hby hd) hf (W := (st.map fun v => v.category).sum) (by show 2 * 0 + _ ≤ _; omega) hl
  exact own_st (T' := T1) (g' := mkF m _ Ls st) st1 (K T1 ⟨_, X1, e1, N⟩)
theorem s_newP (pc' : Nat) {aty : ArrayType} {z : Int32} {cap : Nat} (A : own_A p l e R s m args below meth c Z own name bytes maxL ret) (S : own_S p l e R s m args below meth c n0 T h k n)
    (w : (Jvm.Cond.arrayClass (newarray.typeOf aty)).before a0 Z = true) (hd : decode bytes pc = .ok (.newarray aty, 2)) (hn : ¬ z < 0) (hcap : z.toNatClampNeg ≤ cap) (hbb : cap * 8 ≤ 536870912) (hp : pc + 2 = pc') (hc : k + 1 ≤ R.cells) (hl : n + cap ≤ R.slots)
    (K : ∀ T' h' (cA : ClassId) (a : Addr), a = h.size → Ext h h' → Arv Z h' a cA (newarray.typeOf aty) z [] (defaultValue (newarray.typeOf aty)) → own_S p l e R s m args below meth c n0 T' h' (k + 1) (n + cap) → own_G p e below s n0 kc ks Q T' (mkF m pc' Ls (.ref a :: st))) : own_G p e below s n0 kc ks Q T (mkF m pc Ls (.int z :: st)) := by
  obtain ⟨locs, X, eT, N⟩ := S
  obtain ⟨hx, hby, hml, hown, -, -, -, hZ⟩ := A
  subst hp
  obtain ⟨T1, h1, cA, X1, e1, E1, A1, st1⟩ := newP X hx hZ w eT (g := mkF m pc Ls (.int z :: st)) rfl (hb hby hd) rfl hn (cap := cap) hcap hbb hc hl
  exact own_st (T' := T1) (g' := mkF m _ Ls (.ref h.size :: st)) st1 (K T1 h1 cA h.size rfl E1 (Arv.new A1 hn) ⟨_, X1, e1, N⟩)
theorem s_alen (pc' : Nat) {a : Addr} {cA : ClassId} {ty : FieldType} {z : Int32} {vs : List Value} {dv : Value} (A : own_A p l e R s m args below meth c Z own name bytes maxL ret) (S : own_S p l e R s m args below meth c n0 T h k n)
    (V : Arv Z h a cA ty z vs dv) (hd : decode bytes pc = .ok (.arraylength, 1)) (hp : pc + 1 = pc') (K : own_G p e below s n0 kc ks Q T (mkF m pc' Ls (.int z :: st))) : own_G p e below s n0 kc ks Q T (mkF m pc Ls (.ref a :: st)) := by
  obtain ⟨locs, X, eT, N⟩ := S
  obtain ⟨hx, hby, hml, hown, -, -, -, hZ⟩ := A
  obtain ⟨cl, Ar, -, S1, N1, -, -⟩ := V
  subst hp
  rw [← len_of S1 N1] at K
  exact own_st (T' := T) (g' := mkF m _ Ls (.int cl.slots.size.toInt32 :: st)) (X.arraylength hx (by rw [eT]; exact Ar.1) (State.isArrayOf_alike hZ.alike Ar.2.1) (g := mkF m pc Ls (.ref a :: st)) rfl rfl (hb hby hd)) K
theorem s_instY (pc' : Nat) {KK : String} {index : Nat} {a : Addr} (A : own_A p l e R s m args below meth c Z own name bytes maxL ret) (S : own_S p l e R s m args below meth c n0 T h k n)
    (w : (Jvm.Cond.classLink own index KK).before a0 Z = true) (F : Ins Z h a KK true) (hd : decode bytes pc = .ok (.instanceof index, 3)) (hp : pc + 3 = pc')
    (K : ∀ T', own_S p l e R s m args below meth c n0 T' h k n → own_G p e below s n0 kc ks Q T' (mkF m pc' Ls (.int 1 :: st))) : own_G p e below s n0 kc ks Q T (mkF m pc Ls (.ref a :: st)) := by
  obtain ⟨locs, X, eT, N⟩ := S
  obtain ⟨hx, hby, hml, hown, -, -, -, hZ⟩ := A
  subst hp
  obtain ⟨T1, X1, e1, st1⟩ := instY X hx hZ hown w eT F (g := mkF m pc Ls (.ref a :: st)) rfl rfl (hb hby hd)
  exact own_st (T' := T1) (g' := mkF m _ Ls (.int 1 :: st)) st1 (K T1 ⟨_, X1, e1, N⟩)
theorem s_instNo (pc' : Nat) {KK CC : String} {index : Nat} {a : Addr} (A : own_A p l e R s m args below meth c Z own name bytes maxL ret) (S : own_S p l e R s m args below meth c n0 T h k n)
    (w : (Jvm.Cond.classLink own index KK).before a0 Z = true) (E : Exa Z h a CC) (F : ∃ c t, Z.vm.findClass CC = some c ∧ Z.vm.findClass KK = some t ∧ Z.vm.assignable c t = false) (hd : decode bytes pc = .ok (.instanceof index, 3)) (hp : pc + 3 = pc')
    (K : ∀ T', own_S p l e R s m args below meth c n0 T' h k n → own_G p e below s n0 kc ks Q T' (mkF m pc' Ls (.int 0 :: st))) : own_G p e below s n0 kc ks Q T (mkF m pc Ls (.ref a :: st)) := by
  obtain ⟨locs, X, eT, N⟩ := S
  obtain ⟨hx, hby, hml, hown, -, -, -, hZ⟩ := A
  subst hp
  obtain ⟨T1, X1, e1, st1⟩ := instNo X hx hZ hown w eT E F (g := mkF m pc Ls (.ref a :: st)) rfl rfl (hb hby hd)
  exact own_st (T' := T1) (g' := mkF m _ Ls (.int 0 :: st)) st1 (K T1 ⟨_, X1, e1, N⟩)
theorem s_instNull (pc' : Nat) {index : Nat} (A : own_A p l e R s m args below meth c Z own name bytes maxL ret) (S : own_S p l e R s m args below meth c n0 T h k n)
    (hd : decode bytes pc = .ok (.instanceof index, 3)) (hp : pc + 3 = pc') (K : own_G p e below s n0 kc ks Q T (mkF m pc' Ls (.int 0 :: st))) : own_G p e below s n0 kc ks Q T (mkF m pc Ls (.null :: st)) := by
  obtain ⟨locs, X, eT, N⟩ := S
  obtain ⟨hx, hby, hml, hown, -, -, -, hZ⟩ := A
  subst hp
  exact own_st (T' := T) (g' := mkF m _ Ls (.int 0 :: st)) (X.instanceofNull hx (g := mkF m pc Ls (.null :: st)) rfl rfl (hb hby hd)) K
theorem s_castY (pc' : Nat) {KK : String} {index : Nat} {a : Addr} (A : own_A p l e R s m args below meth c Z own name bytes maxL ret) (S : own_S p l e R s m args below meth c n0 T h k n)
    (w : (Jvm.Cond.classLink own index KK).before a0 Z = true) (F : Ins Z h a KK true) (hd : decode bytes pc = .ok (.checkcast index, 3)) (hp : pc + 3 = pc')
    (K : ∀ T', own_S p l e R s m args below meth c n0 T' h k n → own_G p e below s n0 kc ks Q T' (mkF m pc' Ls (.ref a :: st))) : own_G p e below s n0 kc ks Q T (mkF m pc Ls (.ref a :: st)) := by
  obtain ⟨locs, X, eT, N⟩ := S
  obtain ⟨hx, hby, hml, hown, -, -, -, hZ⟩ := A
  subst hp
  obtain ⟨T1, X1, e1, st1⟩ := castY X hx hZ hown w eT F (g := mkF m pc Ls (.ref a :: st)) rfl rfl (hb hby hd)
  exact own_st (T' := T1) (g' := mkF m _ Ls (.ref a :: st)) st1 (K T1 ⟨_, X1, e1, N⟩)
theorem s_aald (pc' : Nat) {a : Addr} {cl : Cell} {ty : FieldType} {j : Int32} {v : Value} (A : own_A p l e R s m args below meth c Z own name bytes maxL ret) (S : own_S p l e R s m args below meth c n0 T h k n)
    (Ar : Arr Z h a cl ty) (hty : ty.isReference = true) (hin : ¬ (j < 0 ∨ cl.slots.size ≤ j.toNatClampNeg)) (hv : cl.slots[j.toNatClampNeg]? = some v) (hd : decode bytes pc = .ok (.aaload, 1)) (hp : pc + 1 = pc') (K : own_G p e below s n0 kc ks Q T (mkF m pc' Ls (v :: st))) : own_G p e below s n0 kc ks Q T (mkF m pc Ls (.int j :: .ref a :: st)) := by
  obtain ⟨locs, X, eT, N⟩ := S
  obtain ⟨hx, hby, hml, hown, -, -, -, hZ⟩ := A
  subst hp
  exact own_st (T' := T) (g' := mkF m _ Ls (v :: st)) (X.aaload hx (by rw [eT]; exact Ar.1) (State.isArrayOf_alike hZ.alike Ar.2.1) hty Ar.2.2 hin hv (g := mkF m pc Ls (.int j :: .ref a :: st)) rfl rfl (hb hby hd)) K
theorem s_iald (pc' : Nat) {a : Addr} {cA : ClassId} {z j : Int32} {vs : List Value} {v dv : Value} (A : own_A p l e R s m args below meth c Z own name bytes maxL ret) (S : own_S p l e R s m args below meth c n0 T h k n)
    (V : Arv Z h a cA .int z vs dv) (hj : ¬ j < 0 ∧ j < z) (hv : vs.getD j.toNatClampNeg dv = v) (hd : decode bytes pc = .ok (.iaload, 1)) (hp : pc + 1 = pc') (K : own_G p e below s n0 kc ks Q T (mkF m pc' Ls (v :: st))) : own_G p e below s n0 kc ks Q T (mkF m pc Ls (.int j :: .ref a :: st)) := by
  obtain ⟨locs, X, eT, N⟩ := S
  obtain ⟨hx, hby, hml, hown, -, -, -, hZ⟩ := A
  obtain ⟨cl, Ar, -, S1, N1, H1, G1⟩ := V
  subst hp
  exact own_st (T' := T) (g' := mkF m _ Ls (v :: st)) (X.iaload hx (by rw [eT]; exact Ar.1) (State.isArrayOf_alike hZ.alike Ar.2.1) Ar.2.2 (inb_of S1 hj) (H1.at (inb_of S1 hj) hv) (g := mkF m pc Ls (.int j :: .ref a :: st)) rfl rfl (hb hby hd)) K
theorem s_lald (pc' : Nat) {a : Addr} {cA : ClassId} {z j : Int32} {vs : List Value} {v dv : Value} (A : own_A p l e R s m args below meth c Z own name bytes maxL ret) (S : own_S p l e R s m args below meth c n0 T h k n)
    (V : Arv Z h a cA .long z vs dv) (hj : ¬ j < 0 ∧ j < z) (hv : vs.getD j.toNatClampNeg dv = v) (hd : decode bytes pc = .ok (.laload, 1)) (hp : pc + 1 = pc') (K : own_G p e below s n0 kc ks Q T (mkF m pc' Ls (v :: st))) : own_G p e below s n0 kc ks Q T (mkF m pc Ls (.int j :: .ref a :: st)) := by
  obtain ⟨locs, X, eT, N⟩ := S
  obtain ⟨hx, hby, hml, hown, -, -, -, hZ⟩ := A
  obtain ⟨cl, Ar, -, S1, N1, H1, G1⟩ := V
  subst hp
  exact own_st (T' := T) (g' := mkF m _ Ls (v :: st)) (X.laload hx (by rw [eT]; exact Ar.1) (State.isArrayOf_alike hZ.alike Ar.2.1) Ar.2.2 (inb_of S1 hj) (H1.at (inb_of S1 hj) hv) (g := mkF m pc Ls (.int j :: .ref a :: st)) rfl rfl (hb hby hd)) K
theorem s_bald (pc' : Nat) {a : Addr} {cA : ClassId} {z j : Int32} {vs : List Value} {v dv : Value} (A : own_A p l e R s m args below meth c Z own name bytes maxL ret) (S : own_S p l e R s m args below meth c n0 T h k n)
    (V : Arv Z h a cA .byte z vs dv) (hj : ¬ j < 0 ∧ j < z) (hv : vs.getD j.toNatClampNeg dv = v) (hd : decode bytes pc = .ok (.baload, 1)) (hp : pc + 1 = pc') (K : own_G p e below s n0 kc ks Q T (mkF m pc' Ls (v :: st))) : own_G p e below s n0 kc ks Q T (mkF m pc Ls (.int j :: .ref a :: st)) := by
  obtain ⟨locs, X, eT, N⟩ := S
  obtain ⟨hx, hby, hml, hown, -, -, -, hZ⟩ := A
  obtain ⟨cl, Ar, -, S1, N1, H1, G1⟩ := V
  subst hp
  exact own_st (T' := T) (g' := mkF m _ Ls (v :: st)) (X.baloadBytes hx (by rw [eT]; exact Ar.1) (State.isArrayOf_alike hZ.alike Ar.2.1) Ar.2.2 (inb_of S1 hj) (H1.at (inb_of S1 hj) hv) (g := mkF m pc Ls (.int j :: .ref a :: st)) rfl rfl (hb hby hd)) K
theorem s_cald (pc' : Nat) {a : Addr} {cA : ClassId} {z j : Int32} {vs : List Value} {v dv : Value} (A : own_A p l e R s m args below meth c Z own name bytes maxL ret) (S : own_S p l e R s m args below meth c n0 T h k n)
    (V : Arv Z h a cA .char z vs dv) (hj : ¬ j < 0 ∧ j < z) (hv : vs.getD j.toNatClampNeg dv = v) (hd : decode bytes pc = .ok (.caload, 1)) (hp : pc + 1 = pc') (K : own_G p e below s n0 kc ks Q T (mkF m pc' Ls (v :: st))) : own_G p e below s n0 kc ks Q T (mkF m pc Ls (.int j :: .ref a :: st)) := by
  obtain ⟨locs, X, eT, N⟩ := S
  obtain ⟨hx, hby, hml, hown, -, -, -, hZ⟩ := A
  obtain ⟨cl, Ar, -, S1, N1, H1, G1⟩ := V
  subst hp
  exact own_st (T' := T) (g' := mkF m _ Ls (v :: st)) (X.caload hx (by rw [eT]; exact Ar.1) (State.isArrayOf_alike hZ.alike Ar.2.1) Ar.2.2 (inb_of S1 hj) (H1.at (inb_of S1 hj) hv) (g := mkF m pc Ls (.int j :: .ref a :: st)) rfl rfl (hb hby hd)) K
theorem s_iast (pc' : Nat) {a : Addr} {cA : ClassId} {z j : Int32} {x : Int32} {vs : List Value} {dv : Value} (A : own_A p l e R s m args below meth c Z own name bytes maxL ret) (S : own_S p l e R s m args below meth c n0 T h k n)
    (V : Arv Z h a cA .int z vs dv) (hj : ¬ j < 0 ∧ j < z) (i : Nat) (hi : j.toNatClampNeg = i) (hi' : i < vs.length) (hge : n0 ≤ a) (hd : decode bytes pc = .ok (.iastore, 1)) (hp : pc + 1 = pc')
    (K : ∀ T' h', Wr h h' a i (.int x) → Arv Z h' a cA .int z (vs.set i (.int x)) dv → own_S p l e R s m args below meth c n0 T' h' k n → own_G p e below s n0 kc ks Q T' (mkF m pc' Ls st)) : own_G p e below s n0 kc ks Q T (mkF m pc Ls (.int x :: .int j :: .ref a :: st)) := by
  obtain ⟨locs, X, eT, N⟩ := S
  obtain ⟨hx, hby, hml, hown, -, -, -, hZ⟩ := A
  obtain ⟨cl, Ar, q1, S1, N1, H1, G1⟩ := V
  subst hp
  obtain ⟨T1, h1, X1, e1, W1, st1⟩ := stI X hx hZ eT Ar (j := j) (inb_of S1 hj) (g := mkF m pc Ls (.int x :: .int j :: .ref a :: st)) rfl rfl (hb hby hd)
  have V1 := Arv.set Ar q1 S1 N1 H1 G1 rfl W1 i hi hi'
  rw [hi] at W1
  exact own_st (T' := T1) (g' := mkF m _ Ls st) st1 (K T1 h1 W1 V1 ⟨_, X1, e1, Fr.snoc X1 N hge⟩)
theorem s_last (pc' : Nat) {a : Addr} {cA : ClassId} {z j : Int32} {x : Int64} {vs : List Value} {dv : Value} (A : own_A p l e R s m args below meth c Z own name bytes maxL ret) (S : own_S p l e R s m args below meth c n0 T h k n)
    (V : Arv Z h a cA .long z vs dv) (hj : ¬ j < 0 ∧ j < z) (i : Nat) (hi : j.toNatClampNeg = i) (hi' : i < vs.length) (hge : n0 ≤ a) (hd : decode bytes pc = .ok (.lastore, 1)) (hp : pc + 1 = pc')
    (K : ∀ T' h', Wr h h' a i (.long x) → Arv Z h' a cA .long z (vs.set i (.long x)) dv → own_S p l e R s m args below meth c n0 T' h' k n → own_G p e below s n0 kc ks Q T' (mkF m pc' Ls st)) : own_G p e below s n0 kc ks Q T (mkF m pc Ls (.long x :: .int j :: .ref a :: st)) := by
  obtain ⟨locs, X, eT, N⟩ := S
  obtain ⟨hx, hby, hml, hown, -, -, -, hZ⟩ := A
  obtain ⟨cl, Ar, q1, S1, N1, H1, G1⟩ := V
  subst hp
  obtain ⟨T1, h1, X1, e1, W1, st1⟩ := stJ X hx hZ eT Ar (j := j) (inb_of S1 hj) (g := mkF m pc Ls (.long x :: .int j :: .ref a :: st)) rfl rfl (hb hby hd)
  have V1 := Arv.set Ar q1 S1 N1 H1 G1 rfl W1 i hi hi'
  rw [hi] at W1
  exact own_st (T' := T1) (g' := mkF m _ Ls st) st1 (K T1 h1 W1 V1 ⟨_, X1, e1, Fr.snoc X1 N hge⟩)
theorem s_bast (pc' : Nat) {a : Addr} {cA : ClassId} {z j : Int32} {x : Int32} {vs : List Value} {dv : Value} (A : own_A p l e R s m args below meth c Z own name bytes maxL ret) (S : own_S p l e R s m args below meth c n0 T h k n)
    (V : Arv Z h a cA .byte z vs dv) (hj : ¬ j < 0 ∧ j < z) (i : Nat) (hi : j.toNatClampNeg = i) (hi' : i < vs.length) (hge : n0 ≤ a) (hd : decode bytes pc = .ok (.bastore, 1)) (hp : pc + 1 = pc')
    (K : ∀ T' h', Wr h h' a i (.int (nar .byte x)) → Arv Z h' a cA .byte z (vs.set i (.int (nar .byte x))) dv → own_S p l e R s m args below meth c n0 T' h' k n → own_G p e below s n0 kc ks Q T' (mkF m pc' Ls st)) : own_G p e below s n0 kc ks Q T (mkF m pc Ls (.int x :: .int j :: .ref a :: st)) := by
  obtain ⟨locs, X, eT, N⟩ := S
  obtain ⟨hx, hby, hml, hown, -, -, -, hZ⟩ := A
  obtain ⟨cl, Ar, q1, S1, N1, H1, G1⟩ := V
  subst hp
  obtain ⟨T1, h1, X1, e1, W1, st1⟩ := stB X hx hZ eT Ar (j := j) (inb_of S1 hj) (g := mkF m pc Ls (.int x :: .int j :: .ref a :: st)) rfl rfl (hb hby hd)
  have V1 := Arv.set Ar q1 S1 N1 H1 G1 (fits_nar_byte _) W1 i hi hi'
  rw [hi] at W1
  exact own_st (T' := T1) (g' := mkF m _ Ls st) st1 (K T1 h1 W1 V1 ⟨_, X1, e1, Fr.snoc X1 N hge⟩)
theorem s_cast (pc' : Nat) {a : Addr} {cA : ClassId} {z j : Int32} {x : Int32} {vs : List Value} {dv : Value} (A : own_A p l e R s m args below meth c Z own name bytes maxL ret) (S : own_S p l e R s m args below meth c n0 T h k n)
    (V : Arv Z h a cA .char z vs dv) (hj : ¬ j < 0 ∧ j < z) (i : Nat) (hi : j.toNatClampNeg = i) (hi' : i < vs.length) (hge : n0 ≤ a) (hd : decode bytes pc = .ok (.castore, 1)) (hp : pc + 1 = pc')
    (K : ∀ T' h', Wr h h' a i (.int (nar .char x)) → Arv Z h' a cA .char z (vs.set i (.int (nar .char x))) dv → own_S p l e R s m args below meth c n0 T' h' k n → own_G p e below s n0 kc ks Q T' (mkF m pc' Ls st)) : own_G p e below s n0 kc ks Q T (mkF m pc Ls (.int x :: .int j :: .ref a :: st)) := by
  obtain ⟨locs, X, eT, N⟩ := S
  obtain ⟨hx, hby, hml, hown, -, -, -, hZ⟩ := A
  obtain ⟨cl, Ar, q1, S1, N1, H1, G1⟩ := V
  subst hp
  obtain ⟨T1, h1, X1, e1, W1, st1⟩ := stC X hx hZ eT Ar (j := j) (inb_of S1 hj) (g := mkF m pc Ls (.int x :: .int j :: .ref a :: st)) rfl rfl (hb hby hd)
  have V1 := Arv.set Ar q1 S1 N1 H1 G1 (fits_nar_char _) W1 i hi hi'
  rw [hi] at W1
  exact own_st (T' := T1) (g' := mkF m _ Ls st) st1 (K T1 h1 W1 V1 ⟨_, X1, e1, Fr.snoc X1 N hge⟩)
end OwnLayer
theorem own_eqv {args : Array Value} {s : State} {t : Term} {z : Int32} (hh : (Jvm.Cond.eq t (.int z)).value args s none s [] = some true) : t.eval args s none [] s = some (.int z) := by
  simp only [Cond.value, Term.eval] at hh
  cases ht : t.eval args s none [] s with
  | none => simp [ht] at hh
  | some x => cases x <;> simp [ht] at hh ⊢; exact hh

def own_cmp (e h : Int64) : Int32 := if e.toInt < h.toInt then -1 else if e = h then 0 else 1
def own_of2 (aN aL aH aM : Addr) (z i : Int32) : Addr := if ¬ z = 0 then aN else if i.toInt < 0 then aL else if i = 0 then aH else aM
def own_of (aN aL aH aM : Addr) (e h : Int64) : Addr := if e = 0 then aN else if e.toInt < h.toInt then aL else if e = h then aH else aM
theorem own_of_z (aN aL aH aM : Addr) (e h : Int64) (hh : e = 0) : own_of2 aN aL aH aM 1 (own_cmp e h) = own_of aN aL aH aM e h := by
  unfold own_of own_of2; rw [if_pos hh, if_pos (by decide)]
theorem own_of_n (aN aL aH aM : Addr) (e h : Int64) (hh : ¬ e = 0) : own_of2 aN aL aH aM 0 (own_cmp e h) = own_of aN aL aH aM e h := by
  unfold own_of own_of2 own_cmp; rw [if_neg hh, if_neg (by decide)]
  by_cases h1 : e.toInt < h.toInt
  · rw [if_pos h1, if_pos h1, if_pos (by decide)]
  · rw [if_neg h1, if_neg h1]
    by_cases h2 : e = h
    · rw [if_pos h2, if_pos h2, if_neg (by decide), if_pos rfl]
    · rw [if_neg h2, if_neg h2, if_neg (by decide), if_neg (by decide)]
theorem pd__JJ_I : parseMethodDescriptor "(JJ)I" = some ⟨[.long, .long], some .int⟩ := by decide +kernel
theorem pd__JJ_Lcom_example_recipro_recipro_rounding_Discarded_ : parseMethodDescriptor "(JJ)Lcom/example/recipro/recipro/rounding/Discarded;" = some ⟨[.long, .long], some (.object "com/example/recipro/recipro/rounding/Discarded")⟩ := by decide +kernel
theorem pd__ZI_Lcom_example_recipro_recipro_rounding_Discarded_ : parseMethodDescriptor "(ZI)Lcom/example/recipro/recipro/rounding/Discarded;" = some ⟨[.boolean, .int], some (.object "com/example/recipro/recipro/rounding/Discarded")⟩ := by decide +kernel
theorem d2_0 : decode jdk_35_method_42_code 0 = .ok (.lload_n 0, 1) := by decide +kernel
theorem d2_1 : decode jdk_35_method_42_code 1 = .ok (.lload_n 2, 1) := by decide +kernel
theorem d2_2 : decode jdk_35_method_42_code 2 = .ok (.lcmp, 1) := by decide +kernel
theorem d2_3 : decode jdk_35_method_42_code 3 = .ok (.ifCond .ge 7, 3) := by decide +kernel
theorem d2_6 : decode jdk_35_method_42_code 6 = .ok (.iconst (-1), 1) := by decide +kernel
theorem d2_7 : decode jdk_35_method_42_code 7 = .ok (.goto 14, 3) := by decide +kernel
theorem d2_10 : decode jdk_35_method_42_code 10 = .ok (.lload_n 0, 1) := by decide +kernel
theorem d2_11 : decode jdk_35_method_42_code 11 = .ok (.lload_n 2, 1) := by decide +kernel
theorem d2_12 : decode jdk_35_method_42_code 12 = .ok (.lcmp, 1) := by decide +kernel
theorem d2_13 : decode jdk_35_method_42_code 13 = .ok (.ifCond .ne 7, 3) := by decide +kernel
theorem d2_16 : decode jdk_35_method_42_code 16 = .ok (.iconst 0, 1) := by decide +kernel
theorem d2_17 : decode jdk_35_method_42_code 17 = .ok (.goto 4, 3) := by decide +kernel
theorem d2_20 : decode jdk_35_method_42_code 20 = .ok (.iconst 1, 1) := by decide +kernel
theorem d2_21 : decode jdk_35_method_42_code 21 = .ok (.ireturn, 1) := by decide +kernel
theorem pn_2 : plainFor (⟨"java/lang/Long", "compare", "(JJ)I"⟩ : MethodName) = true := plainFor_of_name (by first | (simp [plainName, overriddenIn]; done) | decide +kernel)
theorem ef_2 (m : MethodId) (x0 : Int64) (x1 : Int64) : entryFrame m #[(.long x0), (.long x1)] 4 = mkF m 0 #[.val (.long x0), .second, .val (.long x1), .second] [] := by first | (simp [entryFrame, mkF, argsToLocals, Value.category]; done) | rfl
set_option maxRecDepth 65536 in
set_option maxHeartbeats 40000000 in
theorem rm2 (l : Launch) (Z : State) (a0 : Array Value) (hw : ∀ d ∈ tables_1, d.before a0 Z = true) (ws : List Jvm.Cond) (q r : Int64) (h0 : Heap) (n0 : Nat) (Z0 : n0 ≤ h0.size)  :
    own_C l Z (⟨"java/lang/Long", "compare", "(JJ)I"⟩ : MethodName) jdk_35_method_42_code 4 (some .int) ({ frames := 0, cells := 0, slots := 0, locals := 0 } : Room) n0 ws #[(.long q), (.long r)] h0 (fun v h' => v = some (.int (own_cmp q r)) ∧ h' = h0) := by
  refine own_C.of pn_2 Z0 ?_
  intro p e s m below meth c T A S
  rw [ef_2]
  refine s_lloadN 1 A S d2_0 rfl rfl ?_
  refine s_lloadN 2 A S d2_1 rfl rfl ?_
  refine s_lifge 10 6 3 A S rfl rfl d2_2 rfl d2_3 (by decide) (by decide) rfl (fun c1 => ?_) (fun c1 => ?_)
  · refine s_lloadN 11 A S d2_10 rfl rfl ?_
    refine s_lloadN 12 A S d2_11 rfl rfl ?_
    refine s_lifne 20 16 13 A S rfl rfl d2_12 rfl d2_13 (by decide) (by decide) rfl (fun c2 tc2 => ?_) (fun c2 tc2 => ?_)
    · refine s_iconst (z := (1 : Int32)) 21 A S d2_20 rfl rfl ?_
      exact s_retI A S d2_21 (by decide) (by decide) ⟨by unfold own_cmp; rw [if_neg (Int.not_lt.mpr c1), if_neg c2], rfl⟩
    · refine s_iconst (z := (0 : Int32)) 17 A S d2_16 rfl rfl ?_
      refine s_goto 21 A S d2_17 (by decide) (by decide) ?_
      exact s_retI A S d2_21 (by decide) (by decide) ⟨by unfold own_cmp; rw [if_neg (Int.not_lt.mpr c1), if_pos c2], rfl⟩
  · refine s_iconst (z := (-1 : Int32)) 7 A S d2_6 rfl rfl ?_
    refine s_goto 21 A S d2_7 (by decide) (by decide) ?_
    exact s_retI A S d2_21 (by decide) (by decide) ⟨by unfold own_cmp; rw [if_pos c1], rfl⟩
theorem d3_0 : decode prog_28_method_5_code 0 = .ok (.iload_n 0, 1) := by decide +kernel
theorem d3_1 : decode prog_28_method_5_code 1 = .ok (.ifCond .eq 10, 3) := by decide +kernel
theorem d3_4 : decode prog_28_method_5_code 4 = .ok (.getstatic 3, 3) := by decide +kernel
theorem d3_7 : decode prog_28_method_5_code 7 = .ok (.astore_n 2, 1) := by decide +kernel
theorem d3_8 : decode prog_28_method_5_code 8 = .ok (.goto 29, 3) := by decide +kernel
theorem d3_11 : decode prog_28_method_5_code 11 = .ok (.iload_n 1, 1) := by decide +kernel
theorem d3_12 : decode prog_28_method_5_code 12 = .ok (.ifCond .ge 10, 3) := by decide +kernel
theorem d3_15 : decode prog_28_method_5_code 15 = .ok (.getstatic 7, 3) := by decide +kernel
theorem d3_18 : decode prog_28_method_5_code 18 = .ok (.astore_n 2, 1) := by decide +kernel
theorem d3_19 : decode prog_28_method_5_code 19 = .ok (.goto 18, 3) := by decide +kernel
theorem d3_22 : decode prog_28_method_5_code 22 = .ok (.iload_n 1, 1) := by decide +kernel
theorem d3_23 : decode prog_28_method_5_code 23 = .ok (.ifCond .ne 10, 3) := by decide +kernel
theorem d3_26 : decode prog_28_method_5_code 26 = .ok (.getstatic 10, 3) := by decide +kernel
theorem d3_29 : decode prog_28_method_5_code 29 = .ok (.astore_n 2, 1) := by decide +kernel
theorem d3_30 : decode prog_28_method_5_code 30 = .ok (.goto 7, 3) := by decide +kernel
theorem d3_33 : decode prog_28_method_5_code 33 = .ok (.getstatic 13, 3) := by decide +kernel
theorem d3_36 : decode prog_28_method_5_code 36 = .ok (.astore_n 2, 1) := by decide +kernel
theorem d3_37 : decode prog_28_method_5_code 37 = .ok (.aload_n 2, 1) := by decide +kernel
theorem d3_38 : decode prog_28_method_5_code 38 = .ok (.areturn, 1) := by decide +kernel
theorem pn_3 : plainFor (⟨"com/example/recipro/recipro/rounding/Discarded", "of", "(ZI)Lcom/example/recipro/recipro/rounding/Discarded;"⟩ : MethodName) = true := plainFor_of_name (by first | (simp [plainName, overriddenIn]; done) | decide +kernel)
theorem ef_3 (m : MethodId) (x0 : Int32) (x1 : Int32) : entryFrame m #[(.int x0), (.int x1)] 3 = mkF m 0 #[.val (.int x0), .val (.int x1), .unset] [] := by first | (simp [entryFrame, mkF, argsToLocals, Value.category]; done) | rfl
set_option maxRecDepth 65536 in
set_option maxHeartbeats 40000000 in
theorem rm3 (l : Launch) (Z : State) (a0 : Array Value) (hw : ∀ d ∈ tables_1, d.before a0 Z = true) (ws : List Jvm.Cond) (aN aL aH aM : Addr) (z i : Int32) (h0 : Heap) (n0 : Nat) (Z0 : n0 ≤ h0.size) (sN : Sta Z h0 "com/example/recipro/recipro/rounding/Discarded" "NOTHING" "Lcom/example/recipro/recipro/rounding/Discarded;" (.ref aN)) (sL : Sta Z h0 "com/example/recipro/recipro/rounding/Discarded" "LESS_THAN_HALF" "Lcom/example/recipro/recipro/rounding/Discarded;" (.ref aL)) (sH : Sta Z h0 "com/example/recipro/recipro/rounding/Discarded" "HALF" "Lcom/example/recipro/recipro/rounding/Discarded;" (.ref aH)) (sM : Sta Z h0 "com/example/recipro/recipro/rounding/Discarded" "MORE_THAN_HALF" "Lcom/example/recipro/recipro/rounding/Discarded;" (.ref aM))  :
    own_C l Z (⟨"com/example/recipro/recipro/rounding/Discarded", "of", "(ZI)Lcom/example/recipro/recipro/rounding/Discarded;"⟩ : MethodName) prog_28_method_5_code 3 (some (.object "com/example/recipro/recipro/rounding/Discarded")) ({ frames := 0, cells := 0, slots := 0, locals := 0 } : Room) n0 ws #[(.int z), (.int i)] h0 (fun v h' => v = some (.ref (own_of2 aN aL aH aM z i)) ∧ h' = h0) := by
  refine own_C.of pn_3 Z0 ?_
  intro p e s m below meth c T A S
  rw [ef_3]
  refine s_iloadN 1 A S d3_0 rfl rfl ?_
  refine s_ifeq 11 4 A S rfl d3_1 (by decide) (by decide) rfl (fun c1 tc1 => ?_) (fun c1 tc1 => ?_)
  · refine s_iloadN 12 A S d3_11 rfl rfl ?_
    refine s_ifge 22 15 A S rfl d3_12 (by decide) (by decide) rfl (fun c2 => ?_) (fun c2 => ?_)
    · refine s_iloadN 23 A S d3_22 rfl rfl ?_
      refine s_ifne 33 26 A S rfl d3_23 (by decide) (by decide) rfl (fun c3 tc3 => ?_) (fun c3 tc3 => ?_)
      · refine s_getS 36 A S (hw _ (List.mem_of_getElem? (i := 11) rfl)) sM d3_33 rfl fun T4 S5 => ?_
        refine s_astoreN (Ls' := #[.val (.int z), .val (.int i), .val (.ref aM)]) 37 A S5 d3_36 (by first | rfl | assumption) rfl rfl ?_
        refine s_aloadN 38 A S5 d3_37 rfl (by first | rfl | assumption) rfl ?_
        exact s_retA A S5 d3_38 rfl rfl (by first | rfl | assumption) (by decide) (by decide) ⟨by unfold own_of2; rw [if_neg (not_not_intro c1), if_neg (Int.not_lt.mpr c2), if_neg c3], rfl⟩
      · refine s_getS 29 A S (hw _ (List.mem_of_getElem? (i := 17) rfl)) sH d3_26 rfl fun T6 S7 => ?_
        refine s_astoreN (Ls' := #[.val (.int z), .val (.int i), .val (.ref aH)]) 30 A S7 d3_29 (by first | rfl | assumption) rfl rfl ?_
        refine s_goto 37 A S7 d3_30 (by decide) (by decide) ?_
        refine s_aloadN 38 A S7 d3_37 rfl (by first | rfl | assumption) rfl ?_
        exact s_retA A S7 d3_38 rfl rfl (by first | rfl | assumption) (by decide) (by decide) ⟨by unfold own_of2; rw [if_neg (not_not_intro c1), if_neg (Int.not_lt.mpr c2), if_pos c3], rfl⟩
    · refine s_getS 18 A S (hw _ (List.mem_of_getElem? (i := 14) rfl)) sL d3_15 rfl fun T8 S9 => ?_
      refine s_astoreN (Ls' := #[.val (.int z), .val (.int i), .val (.ref aL)]) 19 A S9 d3_18 (by first | rfl | assumption) rfl rfl ?_
      refine s_goto 37 A S9 d3_19 (by decide) (by decide) ?_
      refine s_aloadN 38 A S9 d3_37 rfl (by first | rfl | assumption) rfl ?_
      exact s_retA A S9 d3_38 rfl rfl (by first | rfl | assumption) (by decide) (by decide) ⟨by unfold own_of2; rw [if_neg (not_not_intro c1), if_pos c2], rfl⟩
  · refine s_getS 7 A S (hw _ (List.mem_of_getElem? (i := 20) rfl)) sN d3_4 rfl fun T10 S11 => ?_
    refine s_astoreN (Ls' := #[.val (.int z), .val (.int i), .val (.ref aN)]) 8 A S11 d3_7 (by first | rfl | assumption) rfl rfl ?_
    refine s_goto 37 A S11 d3_8 (by decide) (by decide) ?_
    refine s_aloadN 38 A S11 d3_37 rfl (by first | rfl | assumption) rfl ?_
    exact s_retA A S11 d3_38 rfl rfl (by first | rfl | assumption) (by decide) (by decide) ⟨by unfold own_of2; rw [if_pos c1], rfl⟩
theorem d1_0 : decode prog_28_method_4_code 0 = .ok (.lload_n 0, 1) := by decide +kernel
theorem d1_1 : decode prog_28_method_4_code 1 = .ok (.lconst 0, 1) := by decide +kernel
theorem d1_2 : decode prog_28_method_4_code 2 = .ok (.lcmp, 1) := by decide +kernel
theorem d1_3 : decode prog_28_method_4_code 3 = .ok (.ifCond .ne 7, 3) := by decide +kernel
theorem d1_6 : decode prog_28_method_4_code 6 = .ok (.iconst 1, 1) := by decide +kernel
theorem d1_7 : decode prog_28_method_4_code 7 = .ok (.goto 4, 3) := by decide +kernel
theorem d1_10 : decode prog_28_method_4_code 10 = .ok (.iconst 0, 1) := by decide +kernel
theorem d1_11 : decode prog_28_method_4_code 11 = .ok (.lload_n 0, 1) := by decide +kernel
theorem d1_12 : decode prog_28_method_4_code 12 = .ok (.lload_n 2, 1) := by decide +kernel
theorem d1_13 : decode prog_28_method_4_code 13 = .ok (.invokestatic 35, 3) := by decide +kernel
theorem d1_16 : decode prog_28_method_4_code 16 = .ok (.invokestatic 41, 3) := by decide +kernel
theorem d1_19 : decode prog_28_method_4_code 19 = .ok (.areturn, 1) := by decide +kernel
theorem pn_1 : plainFor (⟨"com/example/recipro/recipro/rounding/Discarded", "of", "(JJ)Lcom/example/recipro/recipro/rounding/Discarded;"⟩ : MethodName) = true := plainFor_of_name (by first | (simp [plainName, overriddenIn]; done) | decide +kernel)
theorem ef_1 (m : MethodId) (x0 : Int64) (x1 : Int64) : entryFrame m #[(.long x0), (.long x1)] 4 = mkF m 0 #[.val (.long x0), .second, .val (.long x1), .second] [] := by first | (simp [entryFrame, mkF, argsToLocals, Value.category]; done) | rfl
set_option maxRecDepth 65536 in
set_option maxHeartbeats 40000000 in
theorem rm1 (l : Launch) (Z : State) (a0 : Array Value) (hw : ∀ d ∈ tables_1, d.before a0 Z = true) (ws : List Jvm.Cond) (aN aL aH aM : Addr) (q r : Int64) (h0 : Heap) (n0 : Nat) (Z0 : n0 ≤ h0.size) (sN : Sta Z h0 "com/example/recipro/recipro/rounding/Discarded" "NOTHING" "Lcom/example/recipro/recipro/rounding/Discarded;" (.ref aN)) (sL : Sta Z h0 "com/example/recipro/recipro/rounding/Discarded" "LESS_THAN_HALF" "Lcom/example/recipro/recipro/rounding/Discarded;" (.ref aL)) (sH : Sta Z h0 "com/example/recipro/recipro/rounding/Discarded" "HALF" "Lcom/example/recipro/recipro/rounding/Discarded;" (.ref aH)) (sM : Sta Z h0 "com/example/recipro/recipro/rounding/Discarded" "MORE_THAN_HALF" "Lcom/example/recipro/recipro/rounding/Discarded;" (.ref aM))  :
    own_C l Z (⟨"com/example/recipro/recipro/rounding/Discarded", "of", "(JJ)Lcom/example/recipro/recipro/rounding/Discarded;"⟩ : MethodName) prog_28_method_4_code 4 (some (.object "com/example/recipro/recipro/rounding/Discarded")) ({ frames := 1, cells := 0, slots := 0, locals := 16 } : Room) n0 ws #[(.long q), (.long r)] h0 (fun v h' => v = some (.ref (own_of aN aL aH aM q r)) ∧ h' = h0) := by
  refine own_C.of pn_1 Z0 ?_
  intro p e s m below meth c T A S
  rw [ef_1]
  refine s_lloadN 1 A S d1_0 rfl rfl ?_
  refine s_lconst (z := (0 : Int64)) 2 A S d1_1 rfl rfl ?_
  refine s_lifne (yi := 0) 10 6 3 A S rfl rfl d1_2 rfl d1_3 (by decide) (by decide) rfl (fun c1 tc1 => ?_) (fun c1 tc1 => ?_)
  · refine s_iconst (z := (0 : Int32)) 11 A S d1_10 rfl rfl ?_
    refine s_lloadN 12 A S d1_11 rfl rfl ?_
    refine s_lloadN 13 A S d1_12 rfl rfl ?_
    refine s_callV (y := (⟨"java/lang/Long", "compare", "(JJ)I"⟩ : MethodName)) (argsL := [(.long q), (.long r)]) (rest := [(.int (0 : Int32))]) 16 A S (hw _ (List.mem_of_getElem? (i := 4) rfl)) (hw _ (List.mem_of_getElem? (i := 5) rfl)) (hw _ (List.mem_of_getElem? (i := 6) rfl)) (hw _ (List.mem_of_getElem? (i := 7) rfl)) (rm2 l Z a0 hw [] q r h0 n0 Z0) (lenOf pd__JJ_I rfl) d1_13 rfl rfl rfl (by decide) (by decide) (Nat.le_of_ble_eq_true rfl) (by decide) (by decide) fun T2 S3 => ?_
    refine s_callV (y := (⟨"com/example/recipro/recipro/rounding/Discarded", "of", "(ZI)Lcom/example/recipro/recipro/rounding/Discarded;"⟩ : MethodName)) (argsL := [(.int (0 : Int32)), (.int (own_cmp q r))]) (rest := []) 19 A S3 (hw _ (List.mem_of_getElem? (i := 8) rfl)) (hw _ (List.mem_of_getElem? (i := 9) rfl)) (hw _ (List.mem_of_getElem? (i := 2) rfl)) (hw _ (List.mem_of_getElem? (i := 10) rfl)) (rm3 l Z a0 hw [] aN aL aH aM (0 : Int32) (own_cmp q r) h0 n0 Z0 sN sL sH sM) (lenOf pd__ZI_Lcom_example_recipro_recipro_rounding_Discarded_ rfl) d1_16 rfl rfl rfl (by decide) (by decide) (Nat.le_of_ble_eq_true rfl) (by decide) (by decide) fun T4 S5 => ?_
    exact s_retA A S5 d1_19 rfl rfl (by first | rfl | assumption) (by decide) (by decide) ⟨by rw [own_of_n _ _ _ _ _ _ c1], rfl⟩
  · refine s_iconst (z := (1 : Int32)) 7 A S d1_6 rfl rfl ?_
    refine s_goto 11 A S d1_7 (by decide) (by decide) ?_
    refine s_lloadN 12 A S d1_11 rfl rfl ?_
    refine s_lloadN 13 A S d1_12 rfl rfl ?_
    refine s_callV (y := (⟨"java/lang/Long", "compare", "(JJ)I"⟩ : MethodName)) (argsL := [(.long q), (.long r)]) (rest := [(.int (1 : Int32))]) 16 A S (hw _ (List.mem_of_getElem? (i := 4) rfl)) (hw _ (List.mem_of_getElem? (i := 5) rfl)) (hw _ (List.mem_of_getElem? (i := 6) rfl)) (hw _ (List.mem_of_getElem? (i := 7) rfl)) (rm2 l Z a0 hw [] q r h0 n0 Z0) (lenOf pd__JJ_I rfl) d1_13 rfl rfl rfl (by decide) (by decide) (Nat.le_of_ble_eq_true rfl) (by decide) (by decide) fun T6 S7 => ?_
    refine s_callV (y := (⟨"com/example/recipro/recipro/rounding/Discarded", "of", "(ZI)Lcom/example/recipro/recipro/rounding/Discarded;"⟩ : MethodName)) (argsL := [(.int (1 : Int32)), (.int (own_cmp q r))]) (rest := []) 19 A S7 (hw _ (List.mem_of_getElem? (i := 8) rfl)) (hw _ (List.mem_of_getElem? (i := 9) rfl)) (hw _ (List.mem_of_getElem? (i := 2) rfl)) (hw _ (List.mem_of_getElem? (i := 10) rfl)) (rm3 l Z a0 hw [] aN aL aH aM (1 : Int32) (own_cmp q r) h0 n0 Z0 sN sL sH sM) (lenOf pd__ZI_Lcom_example_recipro_recipro_rounding_Discarded_ rfl) d1_16 rfl rfl rfl (by decide) (by decide) (Nat.le_of_ble_eq_true rfl) (by decide) (by decide) fun T8 S9 => ?_
    exact s_retA A S9 d1_19 rfl rfl (by first | rfl | assumption) (by decide) (by decide) ⟨by rw [own_of_z _ _ _ _ _ _ c1], rfl⟩
theorem pn_0 : plainFor (⟨"com/example/recipro/recipro/rounding/DiscardedOfPinLaw", "law", "(JJI)Z"⟩ : MethodName) = true := plainFor_of_name (by first | (simp [plainName, overriddenIn]; done) | decide +kernel)
theorem ef_0 (m : MethodId) (x0 : Int64) (x1 : Int64) (x2 : Int32) : entryFrame m #[(.long x0), (.long x1), (.int x2)] maxLocals = mkF m 0 #[.val (.long x0), .second, .val (.long x1), .second, .val (.int x2), .unset, .unset, .unset, .unset, .unset] [] := by first | (simp [entryFrame, mkF, argsToLocals, Value.category, maxLocals]; done) | rfl
set_option maxRecDepth 65536 in
set_option maxHeartbeats 40000000 in
theorem rm0 (l : Launch) (Z : State) (a0 : Array Value) (hw : ∀ d ∈ tables_1, d.before a0 Z = true) (ws : List Jvm.Cond) (i0 i1 : Int64) (i2 : Int32) (aN aL aH aM : Addr) (h0 : Heap) (n0 : Nat) (Z0 : n0 ≤ h0.size) (sN : Sta Z h0 "com/example/recipro/recipro/rounding/Discarded" "NOTHING" "Lcom/example/recipro/recipro/rounding/Discarded;" (.ref aN)) (sL : Sta Z h0 "com/example/recipro/recipro/rounding/Discarded" "LESS_THAN_HALF" "Lcom/example/recipro/recipro/rounding/Discarded;" (.ref aL)) (sH : Sta Z h0 "com/example/recipro/recipro/rounding/Discarded" "HALF" "Lcom/example/recipro/recipro/rounding/Discarded;" (.ref aH)) (sM : Sta Z h0 "com/example/recipro/recipro/rounding/Discarded" "MORE_THAN_HALF" "Lcom/example/recipro/recipro/rounding/Discarded;" (.ref aM))  :
    own_C l Z x code maxLocals ret room_1 n0 ws #[(.long i0), (.long i1), (.int i2)] h0 (fun v h' => v = some (.int 1)) := by
  refine own_C.of pn_0 Z0 ?_
  intro p e s m below meth c T A S
  rw [ef_0]
  refine s_iload 2 A S at_0 rfl rfl ?_
  refine s_iconst (z := (3 : Int32)) 3 A S at_2 rfl rfl ?_
  obtain ⟨ss, h_ss⟩ : ∃ z, (i2 &&& (3 : Int32)) = z := ⟨_, rfl⟩
  refine s_iand (z := ss) 4 A S at_3 h_ss rfl ?_
  refine s_istore (Ls' := #[.val (.long i0), .second, .val (.long i1), .second, .val (.int i2), .val (.int ss), .unset, .unset, .unset, .unset]) 6 A S at_4 rfl rfl ?_
  refine s_iload 8 A S at_6 rfl rfl ?_
  refine s_ifne 17 11 A S rfl at_8 (by decide) (by decide) rfl (fun c1 tc1 => ?_) (fun c1 tc1 => ?_)
  · refine s_iload 19 A S at_17 rfl rfl ?_
    refine s_iconst (z := (1 : Int32)) 20 A S at_19 rfl rfl ?_
    refine s_ine (yi := 1) 29 23 A S rfl rfl at_20 (by decide) (by decide) rfl (fun c2 tc2 => ?_) (fun c2 tc2 => ?_)
    · refine s_iload 31 A S at_29 rfl rfl ?_
      refine s_iconst (z := (2 : Int32)) 32 A S at_31 rfl rfl ?_
      refine s_ine (yi := 2) 41 35 A S rfl rfl at_32 (by decide) (by decide) rfl (fun c3 tc3 => ?_) (fun c3 tc3 => ?_)
      · refine s_lloadN 42 A S at_41 rfl rfl ?_
        refine s_lconst (z := (1 : Int64)) 43 A S at_42 rfl rfl ?_
        obtain ⟨ex, h_ex⟩ : ∃ z, (i1 - (1 : Int64)) = z := ⟨_, rfl⟩
        refine s_lsub (z := ex) 44 A S at_43 h_ex rfl ?_
        refine s_lstore (Ls' := #[.val (.long i0), .second, .val (.long i1), .second, .val (.int i2), .val (.int ss), .val (.long ex), .second, .unset, .unset]) 46 A S at_44 rfl rfl ?_
        refine s_lload 48 A S at_46 rfl rfl ?_
        refine s_lloadN 49 A S at_48 rfl rfl ?_
        refine s_callV (y := (⟨"com/example/recipro/recipro/rounding/Discarded", "of", "(JJ)Lcom/example/recipro/recipro/rounding/Discarded;"⟩ : MethodName)) (argsL := [(.long ex), (.long i1)]) (rest := []) 52 A S (hw _ (List.mem_of_getElem? (i := 0) rfl)) (hw _ (List.mem_of_getElem? (i := 1) rfl)) (hw _ (List.mem_of_getElem? (i := 2) rfl)) (hw _ (List.mem_of_getElem? (i := 3) rfl)) (rm1 l Z a0 hw [] aN aL aH aM ex i1 h0 n0 Z0 sN sL sH sM) (lenOf pd__JJ_Lcom_example_recipro_recipro_rounding_Discarded_ rfl) at_49 rfl rfl rfl (by decide) (by decide) (Nat.le_of_ble_eq_true rfl) (by decide) (by decide) fun T4 S5 => ?_
        refine s_astore (Ls' := #[.val (.long i0), .second, .val (.long i1), .second, .val (.int i2), .val (.int ss), .val (.long ex), .second, .val (.ref (own_of aN aL aH aM ex i1)), .unset]) 54 A S5 at_52 (by first | rfl | assumption) rfl rfl ?_
        refine s_lload 56 A S5 at_54 rfl rfl ?_
        refine s_lconst (z := (0 : Int64)) 57 A S5 at_56 rfl rfl ?_
        refine s_lifne (yi := 0) 69 61 58 A S5 rfl rfl at_57 rfl at_58 (by decide) (by decide) rfl (fun c6 tc6 => ?_) (fun c6 tc6 => ?_)
        · refine s_lload 71 A S5 at_69 rfl rfl ?_
          refine s_lloadN 72 A S5 at_71 rfl rfl ?_
          refine s_lifge 84 76 73 A S5 rfl rfl at_72 rfl at_73 (by decide) (by decide) rfl (fun c7 => ?_) (fun c7 => ?_)
          · refine s_lload 86 A S5 at_84 rfl rfl ?_
            refine s_lloadN 87 A S5 at_86 rfl rfl ?_
            refine s_lifne 99 91 88 A S5 rfl rfl at_87 rfl at_88 (by decide) (by decide) rfl (fun c8 tc8 => ?_) (fun c8 tc8 => ?_)
            · refine s_getS 102 A S5 (hw _ (List.mem_of_getElem? (i := 13) rfl)) sM at_99 rfl fun T9 S10 => ?_
              refine s_astore (Ls' := #[.val (.long i0), .second, .val (.long i1), .second, .val (.int i2), .val (.int ss), .val (.long ex), .second, .val (.ref (own_of aN aL aH aM ex i1)), .val (.ref aM)]) 104 A S10 at_102 (by first | rfl | assumption) rfl rfl ?_
              refine s_aload 106 A S10 at_104 rfl (by first | rfl | assumption) rfl ?_
              refine s_aload 108 A S10 at_106 rfl (by first | rfl | assumption) rfl ?_
              refine s_ane 115 111 A S10 (by first | rfl | assumption) (by first | rfl | assumption) at_108 (by decide) (by decide) rfl (fun c11 => (by exact c11 (by unfold own_of; rw [if_neg c6, if_neg (Int.not_lt.mpr c7), if_neg c8]) : False).elim) (fun c11 => ?_)
              refine s_iconst (z := (1 : Int32)) 112 A S10 at_111 rfl rfl ?_
              refine s_goto 116 A S10 at_112 (by decide) (by decide) ?_
              exact s_retZ A S10 at_116 rfl (by decide) (by decide) rfl
            · refine s_getS 94 A S5 (hw _ (List.mem_of_getElem? (i := 19) rfl)) sH at_91 rfl fun T12 S13 => ?_
              refine s_astore (Ls' := #[.val (.long i0), .second, .val (.long i1), .second, .val (.int i2), .val (.int ss), .val (.long ex), .second, .val (.ref (own_of aN aL aH aM ex i1)), .val (.ref aH)]) 96 A S13 at_94 (by first | rfl | assumption) rfl rfl ?_
              refine s_goto 104 A S13 at_96 (by decide) (by decide) ?_
              refine s_aload 106 A S13 at_104 rfl (by first | rfl | assumption) rfl ?_
              refine s_aload 108 A S13 at_106 rfl (by first | rfl | assumption) rfl ?_
              refine s_ane 115 111 A S13 (by first | rfl | assumption) (by first | rfl | assumption) at_108 (by decide) (by decide) rfl (fun c14 => (by exact c14 (by unfold own_of; rw [if_neg c6, if_neg (Int.not_lt.mpr c7), if_pos c8]) : False).elim) (fun c14 => ?_)
              refine s_iconst (z := (1 : Int32)) 112 A S13 at_111 rfl rfl ?_
              refine s_goto 116 A S13 at_112 (by decide) (by decide) ?_
              exact s_retZ A S13 at_116 rfl (by decide) (by decide) rfl
          · refine s_getS 79 A S5 (hw _ (List.mem_of_getElem? (i := 16) rfl)) sL at_76 rfl fun T15 S16 => ?_
            refine s_astore (Ls' := #[.val (.long i0), .second, .val (.long i1), .second, .val (.int i2), .val (.int ss), .val (.long ex), .second, .val (.ref (own_of aN aL aH aM ex i1)), .val (.ref aL)]) 81 A S16 at_79 (by first | rfl | assumption) rfl rfl ?_
            refine s_goto 104 A S16 at_81 (by decide) (by decide) ?_
            refine s_aload 106 A S16 at_104 rfl (by first | rfl | assumption) rfl ?_
            refine s_aload 108 A S16 at_106 rfl (by first | rfl | assumption) rfl ?_
            refine s_ane 115 111 A S16 (by first | rfl | assumption) (by first | rfl | assumption) at_108 (by decide) (by decide) rfl (fun c17 => (by exact c17 (by unfold own_of; rw [if_neg c6, if_pos c7]) : False).elim) (fun c17 => ?_)
            refine s_iconst (z := (1 : Int32)) 112 A S16 at_111 rfl rfl ?_
            refine s_goto 116 A S16 at_112 (by decide) (by decide) ?_
            exact s_retZ A S16 at_116 rfl (by decide) (by decide) rfl
        · refine s_getS 64 A S5 (hw _ (List.mem_of_getElem? (i := 22) rfl)) sN at_61 rfl fun T18 S19 => ?_
          refine s_astore (Ls' := #[.val (.long i0), .second, .val (.long i1), .second, .val (.int i2), .val (.int ss), .val (.long ex), .second, .val (.ref (own_of aN aL aH aM ex i1)), .val (.ref aN)]) 66 A S19 at_64 (by first | rfl | assumption) rfl rfl ?_
          refine s_goto 104 A S19 at_66 (by decide) (by decide) ?_
          refine s_aload 106 A S19 at_104 rfl (by first | rfl | assumption) rfl ?_
          refine s_aload 108 A S19 at_106 rfl (by first | rfl | assumption) rfl ?_
          refine s_ane 115 111 A S19 (by first | rfl | assumption) (by first | rfl | assumption) at_108 (by decide) (by decide) rfl (fun c20 => (by exact c20 (by unfold own_of; rw [if_pos c6]) : False).elim) (fun c20 => ?_)
          refine s_iconst (z := (1 : Int32)) 112 A S19 at_111 rfl rfl ?_
          refine s_goto 116 A S19 at_112 (by decide) (by decide) ?_
          exact s_retZ A S19 at_116 rfl (by decide) (by decide) rfl
      · refine s_lconst (z := (0 : Int64)) 36 A S at_35 rfl rfl ?_
        refine s_lstore (Ls' := #[.val (.long i0), .second, .val (.long i1), .second, .val (.int i2), .val (.int ss), .val (.long (0 : Int64)), .second, .unset, .unset]) 38 A S at_36 rfl rfl ?_
        refine s_goto 46 A S at_38 (by decide) (by decide) ?_
        refine s_lload 48 A S at_46 rfl rfl ?_
        refine s_lloadN 49 A S at_48 rfl rfl ?_
        refine s_callV (y := (⟨"com/example/recipro/recipro/rounding/Discarded", "of", "(JJ)Lcom/example/recipro/recipro/rounding/Discarded;"⟩ : MethodName)) (argsL := [(.long (0 : Int64)), (.long i1)]) (rest := []) 52 A S (hw _ (List.mem_of_getElem? (i := 0) rfl)) (hw _ (List.mem_of_getElem? (i := 1) rfl)) (hw _ (List.mem_of_getElem? (i := 2) rfl)) (hw _ (List.mem_of_getElem? (i := 3) rfl)) (rm1 l Z a0 hw [] aN aL aH aM (0 : Int64) i1 h0 n0 Z0 sN sL sH sM) (lenOf pd__JJ_Lcom_example_recipro_recipro_rounding_Discarded_ rfl) at_49 rfl rfl rfl (by decide) (by decide) (Nat.le_of_ble_eq_true rfl) (by decide) (by decide) fun T21 S22 => ?_
        refine s_astore (Ls' := #[.val (.long i0), .second, .val (.long i1), .second, .val (.int i2), .val (.int ss), .val (.long (0 : Int64)), .second, .val (.ref (own_of aN aL aH aM (0 : Int64) i1)), .unset]) 54 A S22 at_52 (by first | rfl | assumption) rfl rfl ?_
        refine s_lload 56 A S22 at_54 rfl rfl ?_
        refine s_lconst (z := (0 : Int64)) 57 A S22 at_56 rfl rfl ?_
        refine s_lifne (xi := 0) (yi := 0) 69 61 58 A S22 rfl rfl at_57 rfl at_58 (by decide) (by decide) rfl (fun c23 tc23 => (by exact absurd tc23 (by decide) : False).elim) (fun c23 tc23 => ?_)
        refine s_getS 64 A S22 (hw _ (List.mem_of_getElem? (i := 22) rfl)) sN at_61 rfl fun T24 S25 => ?_
        refine s_astore (Ls' := #[.val (.long i0), .second, .val (.long i1), .second, .val (.int i2), .val (.int ss), .val (.long (0 : Int64)), .second, .val (.ref (own_of aN aL aH aM (0 : Int64) i1)), .val (.ref aN)]) 66 A S25 at_64 (by first | rfl | assumption) rfl rfl ?_
        refine s_goto 104 A S25 at_66 (by decide) (by decide) ?_
        refine s_aload 106 A S25 at_104 rfl (by first | rfl | assumption) rfl ?_
        refine s_aload 108 A S25 at_106 rfl (by first | rfl | assumption) rfl ?_
        refine s_ane 115 111 A S25 (by first | rfl | assumption) (by first | rfl | assumption) at_108 (by decide) (by decide) rfl (fun c26 => (by exact c26 (by unfold own_of; rw [if_pos c23]) : False).elim) (fun c26 => ?_)
        refine s_iconst (z := (1 : Int32)) 112 A S25 at_111 rfl rfl ?_
        refine s_goto 116 A S25 at_112 (by decide) (by decide) ?_
        exact s_retZ A S25 at_116 rfl (by decide) (by decide) rfl
    · refine s_lloadN 24 A S at_23 rfl rfl ?_
      refine s_lstore (Ls' := #[.val (.long i0), .second, .val (.long i1), .second, .val (.int i2), .val (.int ss), .val (.long i1), .second, .unset, .unset]) 26 A S at_24 rfl rfl ?_
      refine s_goto 46 A S at_26 (by decide) (by decide) ?_
      refine s_lload 48 A S at_46 rfl rfl ?_
      refine s_lloadN 49 A S at_48 rfl rfl ?_
      refine s_callV (y := (⟨"com/example/recipro/recipro/rounding/Discarded", "of", "(JJ)Lcom/example/recipro/recipro/rounding/Discarded;"⟩ : MethodName)) (argsL := [(.long i1), (.long i1)]) (rest := []) 52 A S (hw _ (List.mem_of_getElem? (i := 0) rfl)) (hw _ (List.mem_of_getElem? (i := 1) rfl)) (hw _ (List.mem_of_getElem? (i := 2) rfl)) (hw _ (List.mem_of_getElem? (i := 3) rfl)) (rm1 l Z a0 hw [] aN aL aH aM i1 i1 h0 n0 Z0 sN sL sH sM) (lenOf pd__JJ_Lcom_example_recipro_recipro_rounding_Discarded_ rfl) at_49 rfl rfl rfl (by decide) (by decide) (Nat.le_of_ble_eq_true rfl) (by decide) (by decide) fun T27 S28 => ?_
      refine s_astore (Ls' := #[.val (.long i0), .second, .val (.long i1), .second, .val (.int i2), .val (.int ss), .val (.long i1), .second, .val (.ref (own_of aN aL aH aM i1 i1)), .unset]) 54 A S28 at_52 (by first | rfl | assumption) rfl rfl ?_
      refine s_lload 56 A S28 at_54 rfl rfl ?_
      refine s_lconst (z := (0 : Int64)) 57 A S28 at_56 rfl rfl ?_
      refine s_lifne (yi := 0) 69 61 58 A S28 rfl rfl at_57 rfl at_58 (by decide) (by decide) rfl (fun c29 tc29 => ?_) (fun c29 tc29 => ?_)
      · refine s_lload 71 A S28 at_69 rfl rfl ?_
        refine s_lloadN 72 A S28 at_71 rfl rfl ?_
        refine s_lifge 84 76 73 A S28 rfl rfl at_72 rfl at_73 (by decide) (by decide) rfl (fun c30 => ?_) (fun c30 => ?_)
        · refine s_lload 86 A S28 at_84 rfl rfl ?_
          refine s_lloadN 87 A S28 at_86 rfl rfl ?_
          refine s_lifne 99 91 88 A S28 rfl rfl at_87 rfl at_88 (by decide) (by decide) rfl (fun c31 tc31 => ?_) (fun c31 tc31 => ?_)
          · refine s_getS 102 A S28 (hw _ (List.mem_of_getElem? (i := 13) rfl)) sM at_99 rfl fun T32 S33 => ?_
            refine s_astore (Ls' := #[.val (.long i0), .second, .val (.long i1), .second, .val (.int i2), .val (.int ss), .val (.long i1), .second, .val (.ref (own_of aN aL aH aM i1 i1)), .val (.ref aM)]) 104 A S33 at_102 (by first | rfl | assumption) rfl rfl ?_
            refine s_aload 106 A S33 at_104 rfl (by first | rfl | assumption) rfl ?_
            refine s_aload 108 A S33 at_106 rfl (by first | rfl | assumption) rfl ?_
            refine s_ane 115 111 A S33 (by first | rfl | assumption) (by first | rfl | assumption) at_108 (by decide) (by decide) rfl (fun c34 => (by exact c34 (by unfold own_of; rw [if_neg c29, if_neg (Int.not_lt.mpr c30), if_neg c31]) : False).elim) (fun c34 => ?_)
            refine s_iconst (z := (1 : Int32)) 112 A S33 at_111 rfl rfl ?_
            refine s_goto 116 A S33 at_112 (by decide) (by decide) ?_
            exact s_retZ A S33 at_116 rfl (by decide) (by decide) rfl
          · refine s_getS 94 A S28 (hw _ (List.mem_of_getElem? (i := 19) rfl)) sH at_91 rfl fun T35 S36 => ?_
            refine s_astore (Ls' := #[.val (.long i0), .second, .val (.long i1), .second, .val (.int i2), .val (.int ss), .val (.long i1), .second, .val (.ref (own_of aN aL aH aM i1 i1)), .val (.ref aH)]) 96 A S36 at_94 (by first | rfl | assumption) rfl rfl ?_
            refine s_goto 104 A S36 at_96 (by decide) (by decide) ?_
            refine s_aload 106 A S36 at_104 rfl (by first | rfl | assumption) rfl ?_
            refine s_aload 108 A S36 at_106 rfl (by first | rfl | assumption) rfl ?_
            refine s_ane 115 111 A S36 (by first | rfl | assumption) (by first | rfl | assumption) at_108 (by decide) (by decide) rfl (fun c37 => (by exact c37 (by unfold own_of; rw [if_neg c29, if_neg (Int.not_lt.mpr c30), if_pos c31]) : False).elim) (fun c37 => ?_)
            refine s_iconst (z := (1 : Int32)) 112 A S36 at_111 rfl rfl ?_
            refine s_goto 116 A S36 at_112 (by decide) (by decide) ?_
            exact s_retZ A S36 at_116 rfl (by decide) (by decide) rfl
        · refine s_getS 79 A S28 (hw _ (List.mem_of_getElem? (i := 16) rfl)) sL at_76 rfl fun T38 S39 => ?_
          refine s_astore (Ls' := #[.val (.long i0), .second, .val (.long i1), .second, .val (.int i2), .val (.int ss), .val (.long i1), .second, .val (.ref (own_of aN aL aH aM i1 i1)), .val (.ref aL)]) 81 A S39 at_79 (by first | rfl | assumption) rfl rfl ?_
          refine s_goto 104 A S39 at_81 (by decide) (by decide) ?_
          refine s_aload 106 A S39 at_104 rfl (by first | rfl | assumption) rfl ?_
          refine s_aload 108 A S39 at_106 rfl (by first | rfl | assumption) rfl ?_
          refine s_ane 115 111 A S39 (by first | rfl | assumption) (by first | rfl | assumption) at_108 (by decide) (by decide) rfl (fun c40 => (by exact c40 (by unfold own_of; rw [if_neg c29, if_pos c30]) : False).elim) (fun c40 => ?_)
          refine s_iconst (z := (1 : Int32)) 112 A S39 at_111 rfl rfl ?_
          refine s_goto 116 A S39 at_112 (by decide) (by decide) ?_
          exact s_retZ A S39 at_116 rfl (by decide) (by decide) rfl
      · refine s_getS 64 A S28 (hw _ (List.mem_of_getElem? (i := 22) rfl)) sN at_61 rfl fun T41 S42 => ?_
        refine s_astore (Ls' := #[.val (.long i0), .second, .val (.long i1), .second, .val (.int i2), .val (.int ss), .val (.long i1), .second, .val (.ref (own_of aN aL aH aM i1 i1)), .val (.ref aN)]) 66 A S42 at_64 (by first | rfl | assumption) rfl rfl ?_
        refine s_goto 104 A S42 at_66 (by decide) (by decide) ?_
        refine s_aload 106 A S42 at_104 rfl (by first | rfl | assumption) rfl ?_
        refine s_aload 108 A S42 at_106 rfl (by first | rfl | assumption) rfl ?_
        refine s_ane 115 111 A S42 (by first | rfl | assumption) (by first | rfl | assumption) at_108 (by decide) (by decide) rfl (fun c43 => (by exact c43 (by unfold own_of; rw [if_pos c29]) : False).elim) (fun c43 => ?_)
        refine s_iconst (z := (1 : Int32)) 112 A S42 at_111 rfl rfl ?_
        refine s_goto 116 A S42 at_112 (by decide) (by decide) ?_
        exact s_retZ A S42 at_116 rfl (by decide) (by decide) rfl
  · refine s_lloadN 12 A S at_11 rfl rfl ?_
    refine s_lstore (Ls' := #[.val (.long i0), .second, .val (.long i1), .second, .val (.int i2), .val (.int ss), .val (.long i0), .second, .unset, .unset]) 14 A S at_12 rfl rfl ?_
    refine s_goto 46 A S at_14 (by decide) (by decide) ?_
    refine s_lload 48 A S at_46 rfl rfl ?_
    refine s_lloadN 49 A S at_48 rfl rfl ?_
    refine s_callV (y := (⟨"com/example/recipro/recipro/rounding/Discarded", "of", "(JJ)Lcom/example/recipro/recipro/rounding/Discarded;"⟩ : MethodName)) (argsL := [(.long i0), (.long i1)]) (rest := []) 52 A S (hw _ (List.mem_of_getElem? (i := 0) rfl)) (hw _ (List.mem_of_getElem? (i := 1) rfl)) (hw _ (List.mem_of_getElem? (i := 2) rfl)) (hw _ (List.mem_of_getElem? (i := 3) rfl)) (rm1 l Z a0 hw [] aN aL aH aM i0 i1 h0 n0 Z0 sN sL sH sM) (lenOf pd__JJ_Lcom_example_recipro_recipro_rounding_Discarded_ rfl) at_49 rfl rfl rfl (by decide) (by decide) (Nat.le_of_ble_eq_true rfl) (by decide) (by decide) fun T44 S45 => ?_
    refine s_astore (Ls' := #[.val (.long i0), .second, .val (.long i1), .second, .val (.int i2), .val (.int ss), .val (.long i0), .second, .val (.ref (own_of aN aL aH aM i0 i1)), .unset]) 54 A S45 at_52 (by first | rfl | assumption) rfl rfl ?_
    refine s_lload 56 A S45 at_54 rfl rfl ?_
    refine s_lconst (z := (0 : Int64)) 57 A S45 at_56 rfl rfl ?_
    refine s_lifne (yi := 0) 69 61 58 A S45 rfl rfl at_57 rfl at_58 (by decide) (by decide) rfl (fun c46 tc46 => ?_) (fun c46 tc46 => ?_)
    · refine s_lload 71 A S45 at_69 rfl rfl ?_
      refine s_lloadN 72 A S45 at_71 rfl rfl ?_
      refine s_lifge 84 76 73 A S45 rfl rfl at_72 rfl at_73 (by decide) (by decide) rfl (fun c47 => ?_) (fun c47 => ?_)
      · refine s_lload 86 A S45 at_84 rfl rfl ?_
        refine s_lloadN 87 A S45 at_86 rfl rfl ?_
        refine s_lifne 99 91 88 A S45 rfl rfl at_87 rfl at_88 (by decide) (by decide) rfl (fun c48 tc48 => ?_) (fun c48 tc48 => ?_)
        · refine s_getS 102 A S45 (hw _ (List.mem_of_getElem? (i := 13) rfl)) sM at_99 rfl fun T49 S50 => ?_
          refine s_astore (Ls' := #[.val (.long i0), .second, .val (.long i1), .second, .val (.int i2), .val (.int ss), .val (.long i0), .second, .val (.ref (own_of aN aL aH aM i0 i1)), .val (.ref aM)]) 104 A S50 at_102 (by first | rfl | assumption) rfl rfl ?_
          refine s_aload 106 A S50 at_104 rfl (by first | rfl | assumption) rfl ?_
          refine s_aload 108 A S50 at_106 rfl (by first | rfl | assumption) rfl ?_
          refine s_ane 115 111 A S50 (by first | rfl | assumption) (by first | rfl | assumption) at_108 (by decide) (by decide) rfl (fun c51 => (by exact c51 (by unfold own_of; rw [if_neg c46, if_neg (Int.not_lt.mpr c47), if_neg c48]) : False).elim) (fun c51 => ?_)
          refine s_iconst (z := (1 : Int32)) 112 A S50 at_111 rfl rfl ?_
          refine s_goto 116 A S50 at_112 (by decide) (by decide) ?_
          exact s_retZ A S50 at_116 rfl (by decide) (by decide) rfl
        · refine s_getS 94 A S45 (hw _ (List.mem_of_getElem? (i := 19) rfl)) sH at_91 rfl fun T52 S53 => ?_
          refine s_astore (Ls' := #[.val (.long i0), .second, .val (.long i1), .second, .val (.int i2), .val (.int ss), .val (.long i0), .second, .val (.ref (own_of aN aL aH aM i0 i1)), .val (.ref aH)]) 96 A S53 at_94 (by first | rfl | assumption) rfl rfl ?_
          refine s_goto 104 A S53 at_96 (by decide) (by decide) ?_
          refine s_aload 106 A S53 at_104 rfl (by first | rfl | assumption) rfl ?_
          refine s_aload 108 A S53 at_106 rfl (by first | rfl | assumption) rfl ?_
          refine s_ane 115 111 A S53 (by first | rfl | assumption) (by first | rfl | assumption) at_108 (by decide) (by decide) rfl (fun c54 => (by exact c54 (by unfold own_of; rw [if_neg c46, if_neg (Int.not_lt.mpr c47), if_pos c48]) : False).elim) (fun c54 => ?_)
          refine s_iconst (z := (1 : Int32)) 112 A S53 at_111 rfl rfl ?_
          refine s_goto 116 A S53 at_112 (by decide) (by decide) ?_
          exact s_retZ A S53 at_116 rfl (by decide) (by decide) rfl
      · refine s_getS 79 A S45 (hw _ (List.mem_of_getElem? (i := 16) rfl)) sL at_76 rfl fun T55 S56 => ?_
        refine s_astore (Ls' := #[.val (.long i0), .second, .val (.long i1), .second, .val (.int i2), .val (.int ss), .val (.long i0), .second, .val (.ref (own_of aN aL aH aM i0 i1)), .val (.ref aL)]) 81 A S56 at_79 (by first | rfl | assumption) rfl rfl ?_
        refine s_goto 104 A S56 at_81 (by decide) (by decide) ?_
        refine s_aload 106 A S56 at_104 rfl (by first | rfl | assumption) rfl ?_
        refine s_aload 108 A S56 at_106 rfl (by first | rfl | assumption) rfl ?_
        refine s_ane 115 111 A S56 (by first | rfl | assumption) (by first | rfl | assumption) at_108 (by decide) (by decide) rfl (fun c57 => (by exact c57 (by unfold own_of; rw [if_neg c46, if_pos c47]) : False).elim) (fun c57 => ?_)
        refine s_iconst (z := (1 : Int32)) 112 A S56 at_111 rfl rfl ?_
        refine s_goto 116 A S56 at_112 (by decide) (by decide) ?_
        exact s_retZ A S56 at_116 rfl (by decide) (by decide) rfl
    · refine s_getS 64 A S45 (hw _ (List.mem_of_getElem? (i := 22) rfl)) sN at_61 rfl fun T58 S59 => ?_
      refine s_astore (Ls' := #[.val (.long i0), .second, .val (.long i1), .second, .val (.int i2), .val (.int ss), .val (.long i0), .second, .val (.ref (own_of aN aL aH aM i0 i1)), .val (.ref aN)]) 66 A S59 at_64 (by first | rfl | assumption) rfl rfl ?_
      refine s_goto 104 A S59 at_66 (by decide) (by decide) ?_
      refine s_aload 106 A S59 at_104 rfl (by first | rfl | assumption) rfl ?_
      refine s_aload 108 A S59 at_106 rfl (by first | rfl | assumption) rfl ?_
      refine s_ane 115 111 A S59 (by first | rfl | assumption) (by first | rfl | assumption) at_108 (by decide) (by decide) rfl (fun c60 => (by exact c60 (by unfold own_of; rw [if_pos c46]) : False).elim) (fun c60 => ?_)
      refine s_iconst (z := (1 : Int32)) 112 A S59 at_111 rfl rfl ?_
      refine s_goto 116 A S59 at_112 (by decide) (by decide) ?_
      exact s_retZ A S59 at_116 rfl (by decide) (by decide) rfl
set_option maxRecDepth 65536 in
set_option maxHeartbeats 40000000 in
theorem comes_1 {Post : Tables → Env → Array Value → State → Outcome → State → Prop} (hpost : ∀ tb e args s v u, (limb_1_1.after args s (.returned v) u = true ∧ limb_1_2.after args s (.returned v) u = true ∧ True) → FrameEnd s (.returned v) u (Jvm.fieldLocs frame_1_writes args s ++ Jvm.arrayLocs frame_1_arrays args s ++ Jvm.staticLocs frame_1_statics s) 0 0 → Post tb e args s (.returned v) u) :
    ArmFor flags0 classFile x code maxLocals ret World_1 tables_1 room_1 Calls_1 rest_1 Pre_1 Post := by
  intro l hfl _ _ p e ha hc hk s m args below hf hA hF happ hP
  obtain ⟨hcalls, hrest, hpre⟩ := hP
  obtain ⟨-, -, -, hnamed, -, -, -, hat⟩ := (Spec.applies_iff hf).mp happ
  obtain ⟨hg, hn⟩ := and_e (Cond.before_iff.mp (show (Jvm.Cond.and given_1 narrow_1).before args s = true from hpre))
  obtain ⟨g0, k0⟩ := and_e hg
  obtain ⟨j0, k1⟩ := and_e k0
  obtain ⟨j1, k2⟩ := and_e k1
  obtain ⟨w0, w1, w2, rfl⟩ : ∃ w0 w1 w2 : Value, args = #[w0, w1, w2] := by
    have hs : args.size = 3 := by simpa [Cond.value, given_1] using g0
    obtain ⟨L⟩ := args
    match L, hs with
    | [w0, w1, w2], _ => exact ⟨w0, w1, w2, rfl⟩
  have hw := fun d (hd : d ∈ tables_1) => atoms_spec (ws := Jvm.Cond.code x code maxLocals ret :: tables_1) hat d (List.mem_cons_of_mem _ hd)
  have hfit : Fit s := fun {y c} hc i hi => by
    obtain ⟨ha, rfl⟩ := Array.getElem?_eq_some_iff.mp hc
    have q := List.all_eq_true.mp ((Array.all_eq_true_iff_forall_mem.mp hF) _ (Array.getElem_mem ha)) i (List.mem_range.mpr hi)
    simpa [Array.getElem?_eq_getElem hi] using q
  obtain ⟨i0, ei0⟩ := isL_v j0
  obtain rfl : w0 = (.long i0) := Option.some.inj ei0
  obtain ⟨i1, ei1⟩ := isL_v j1
  obtain rfl : w1 = (.long i1) := Option.some.inj ei1
  obtain ⟨i2, ei2⟩ := is_v k2
  obtain rfl : w2 = (.int i2) := Option.some.inj ei2
  obtain ⟨m0, hn⟩ := and_e hn
  obtain ⟨m1, hn⟩ := and_e hn
  obtain ⟨m2, hn⟩ := and_e hn
  have m3 := hn
  obtain ⟨a_MORE_THAN_HALF, ea_MORE_THAN_HALF⟩ := exa_v m0
  have s_MORE_THAN_HALF : Sta s s.heap "com/example/recipro/recipro/rounding/Discarded" "MORE_THAN_HALF" "Lcom/example/recipro/recipro/rounding/Discarded;" (.ref a_MORE_THAN_HALF) := Sta.start ea_MORE_THAN_HALF (Or.inr ⟨(hw _ (List.mem_of_getElem? (i := 2) rfl)), (hw _ (List.mem_of_getElem? (i := 12) rfl))⟩)
  have x_MORE_THAN_HALF : Exa s s.heap a_MORE_THAN_HALF "com/example/recipro/recipro/rounding/Discarded" := Exa.start ea_MORE_THAN_HALF m0
  obtain ⟨a_LESS_THAN_HALF, ea_LESS_THAN_HALF⟩ := exa_v m1
  have s_LESS_THAN_HALF : Sta s s.heap "com/example/recipro/recipro/rounding/Discarded" "LESS_THAN_HALF" "Lcom/example/recipro/recipro/rounding/Discarded;" (.ref a_LESS_THAN_HALF) := Sta.start ea_LESS_THAN_HALF (Or.inr ⟨(hw _ (List.mem_of_getElem? (i := 2) rfl)), (hw _ (List.mem_of_getElem? (i := 15) rfl))⟩)
  have x_LESS_THAN_HALF : Exa s s.heap a_LESS_THAN_HALF "com/example/recipro/recipro/rounding/Discarded" := Exa.start ea_LESS_THAN_HALF m1
  obtain ⟨a_HALF, ea_HALF⟩ := exa_v m2
  have s_HALF : Sta s s.heap "com/example/recipro/recipro/rounding/Discarded" "HALF" "Lcom/example/recipro/recipro/rounding/Discarded;" (.ref a_HALF) := Sta.start ea_HALF (Or.inr ⟨(hw _ (List.mem_of_getElem? (i := 2) rfl)), (hw _ (List.mem_of_getElem? (i := 18) rfl))⟩)
  have x_HALF : Exa s s.heap a_HALF "com/example/recipro/recipro/rounding/Discarded" := Exa.start ea_HALF m2
  obtain ⟨a_NOTHING, ea_NOTHING⟩ := exa_v m3
  have s_NOTHING : Sta s s.heap "com/example/recipro/recipro/rounding/Discarded" "NOTHING" "Lcom/example/recipro/recipro/rounding/Discarded;" (.ref a_NOTHING) := Sta.start ea_NOTHING (Or.inr ⟨(hw _ (List.mem_of_getElem? (i := 2) rfl)), (hw _ (List.mem_of_getElem? (i := 21) rfl))⟩)
  have x_NOTHING : Exa s s.heap a_NOTHING "com/example/recipro/recipro/rounding/Discarded" := Exa.start ea_NOTHING m3
  obtain ⟨n, o, h1, h2, h3, _, L, rfl, ⟨rfl, N⟩, hq⟩ := rm0 l s _ hw tables_1 i0 i1 i2 a_NOTHING a_LESS_THAN_HALF a_HALF a_MORE_THAN_HALF s.heap s.heap.size (Nat.le_refl _) s_NOTHING s_LESS_THAN_HALF s_HALF s_MORE_THAN_HALF p e ha hc hk s m _ below hf ((Spec.applies_iff_loose hf).mp happ).1 ⟨rfl, State.Warmed39.refl s, rfl⟩ trivial
  refine ⟨n, _, h1, h2, h3, hpost _ _ _ _ _ _ ⟨Cond.after_iff.mpr rfl, Cond.after_iff.mpr (eq_i res_at (Term.int_eval (1)) rfl), trivial⟩ ⟨hq.1, hq.2.1, (hq.2.2.sift fun y hy => Or.inr (N y hy)).mono (by decide) (by decide)⟩⟩
theorem main_1_1 : Claimed_1_1 := comes_1 fun _ _ _ _ _ _ h hF => ⟨h.1, hF⟩
theorem main_1_2 : Claimed_1_2 := comes_1 fun _ _ _ _ _ _ h hF => ⟨h.2.1, hF⟩
end Jvm.Pilot.@@N@@
namespace Jvm.Pilot.@@N@@
open Jvm Jvm.ClassFile Sem Op Lib Jvm.Free Jvm.Stand Jvm.Pilot.@@N@@.Jvm.D
/-! MADE BY PROGRAM (witnessworld.py) out of the Statement's table words and the real class files: 15 classes; the members and pool entries that the words name. The judged class is class 1, her method 1. -/
namespace start1
open Jvm.ClassFile
def u (s : String) : CpInfo := .utf8 (stringToUtf16 s)
/-- a pool by its gaps: so many unusable entries, then the entry; so many at the end -/
def gap : Nat → List CpInfo → List CpInfo
  | 0, r => r
  | n + 1, r => .unusable :: gap n r
def poolList (es : List (Nat × CpInfo)) (last : Nat) : List CpInfo := es.foldr (fun e r => gap e.1 (e.2 :: r)) (gap last [])
def pool (es : List (Nat × CpInfo)) (last : Nat) : Array CpInfo := ⟨poolList es last⟩
def fileOf (pool : Array CpInfo) (this : Nat) (attrs : Array Attribute := #[]) (ms : Array MethodInfo := #[]) (fl : Nat := 33) (sup : Nat := 0) (ifs : Array Nat := #[]) (fds : Array FieldInfo := #[]) : ClassFile where
  minorVersion := 0
  majorVersion := 65
  constantPool := pool
  accessFlags := fl
  thisClass := this
  superClass := sup
  interfaces := ifs
  fields := fds
  methods := ms
  attributes := attrs
def plain (name : String) (sup : Option ClassId) : Class where
  name := name
  kind := .ordinary
  loader := none
  accessFlags := 33
  super := sup
  interfaces := #[]
  cf := none
  fields := #[]
  methods := #[]
  instanceTypes := #[]
  staticTypes := #[]
  resolved := #[]
  callSites := []
  init := .initialized
  statics := none
  mirror := none

def pool0 : Array CpInfo := pool [(5, u "<init>"), (0, u "()V"), (1, .class_ 10), (1, u "java/lang/Object")] 113

def k0m0 : Method := { name := "<init>", desc := "()V", sig := { parameters := [], returnType := none }, accessFlags := 1, code := none }
/-- java/lang/Object -/
def k0 : Class := { plain "java/lang/Object" none with
  accessFlags := 33
  interfaces := #[]
  cf := some (fileOf pool0 8 #[] #[{ accessFlags := 1, nameIndex := 5, descriptorIndex := 6, attributes := #[] }] 33 0 #[] #[])
  fields := #[]
  methods := #[k0m0]
  instanceTypes := #[]
  staticTypes := #[]
  resolved := Array.replicate 124 none
  statics := none }

def pool1 : Array CpInfo := pool [(2, .class_ 4), (1, u "java/lang/Object"), (0, u "<init>"), (0, u "()V"), (0, .methodref 8 9), (0, .class_ 10), (0, .nameAndType 11 12), (0, u "com/example/recipro/recipro/rounding/Discarded"), (0, u "of"), (0, u "(JJ)Lcom/example/recipro/recipro/rounding/Discarded;"), (0, .fieldref 8 14), (0, .nameAndType 15 16), (0, u "NOTHING"), (0, u "Lcom/example/recipro/recipro/rounding/Discarded;"), (0, .fieldref 8 18), (0, .nameAndType 19 16), (0, u "LESS_THAN_HALF"), (0, .fieldref 8 21), (0, .nameAndType 22 16), (0, u "HALF"), (0, .fieldref 8 24), (0, .nameAndType 25 16), (0, u "MORE_THAN_HALF"), (0, .class_ 27), (0, u "com/example/recipro/recipro/rounding/DiscardedOfPinLaw"), (2, u "law"), (0, u "(JJI)Z")] 3

def k1m0 : Method := { name := "<init>", desc := "()V", sig := { parameters := [], returnType := none }, accessFlags := 1, code := none }
def k1c1 : Code := { maxStack := 4, maxLocals := 10, code := code, exceptionTable := #[], attributes := #[] }
def k1m1 : Method := { name := "law", desc := "(JJI)Z", sig := { parameters := [.long, .long, .int], returnType := some .boolean }, accessFlags := 9, code := some k1c1 }
/-- com/example/recipro/recipro/rounding/DiscardedOfPinLaw -/
def k1 : Class := { plain "com/example/recipro/recipro/rounding/DiscardedOfPinLaw" (some 0) with
  accessFlags := 49
  interfaces := #[]
  cf := some (fileOf pool1 26 #[] #[{ accessFlags := 1, nameIndex := 5, descriptorIndex := 6, attributes := #[] }, { accessFlags := 9, nameIndex := 30, descriptorIndex := 31, attributes := #[] }] 49 2 #[] #[])
  fields := #[]
  methods := #[k1m0, k1m1]
  instanceTypes := #[]
  staticTypes := #[]
  resolved := Array.replicate 35 none
  statics := none }

def pool2 : Array CpInfo := pool [(1, .class_ 2), (0, u "java/lang/constant/Constable"), (0, .class_ 4), (0, u "java/lang/Object")] 6

/-- java/lang/constant/Constable -/
def k2 : Class := { plain "java/lang/constant/Constable" (some 0) with
  accessFlags := 1537
  interfaces := #[]
  cf := some (fileOf pool2 1 #[] #[] 1537 3 #[] #[])
  fields := #[]
  methods := #[]
  instanceTypes := #[]
  staticTypes := #[]
  resolved := Array.replicate 11 none
  statics := none }

def pool3 : Array CpInfo := pool [(1, .class_ 2), (0, u "java/lang/Comparable"), (0, .class_ 4), (0, u "java/lang/Object")] 7

/-- java/lang/Comparable -/
def k3 : Class := { plain "java/lang/Comparable" (some 0) with
  accessFlags := 1537
  interfaces := #[]
  cf := some (fileOf pool3 1 #[] #[] 1537 3 #[] #[])
  fields := #[]
  methods := #[]
  instanceTypes := #[]
  staticTypes := #[]
  resolved := Array.replicate 12 none
  statics := none }

def pool4 : Array CpInfo := pool [(1, .class_ 2), (0, u "java/io/Serializable"), (0, .class_ 4), (0, u "java/lang/Object")] 2

/-- java/io/Serializable -/
def k4 : Class := { plain "java/io/Serializable" (some 0) with
  accessFlags := 1537
  interfaces := #[]
  cf := some (fileOf pool4 1 #[] #[] 1537 3 #[] #[])
  fields := #[]
  methods := #[]
  instanceTypes := #[]
  staticTypes := #[]
  resolved := Array.replicate 7 none
  statics := none }

def pool5 : Array CpInfo := pool [(2, .class_ 4), (1, u "java/lang/Enum"), (0, u "name"), (0, u "Ljava/lang/String;"), (2, u "ordinal"), (0, u "I"), (1, .class_ 14), (1, u "java/lang/Object"), (4, u "hash"), (86, .class_ 108), (1, u "java/lang/Enum$EnumDesc"), (2, .class_ 112), (0, u "java/lang/constant/Constable"), (0, .class_ 114), (0, u "java/lang/Comparable"), (0, .class_ 116), (0, u "java/io/Serializable")] 87

/-- java/lang/Enum -/
def k5 : Class := { plain "java/lang/Enum" (some 0) with
  accessFlags := 1057
  interfaces := #[2, 3, 4]
  cf := some (fileOf pool5 2 #[.nestMembers #[106]] #[] 1057 12 #[111, 113, 115] #[{ accessFlags := 18, nameIndex := 5, descriptorIndex := 6, attributes := #[] }, { accessFlags := 18, nameIndex := 9, descriptorIndex := 10, attributes := #[] }, { accessFlags := 2, nameIndex := 19, descriptorIndex := 10, attributes := #[] }])
  fields := #[{ name := "name", type := (.object "java/lang/String"), accessFlags := 18, slot := 0, constantValue := 0 }, { name := "ordinal", type := .int, accessFlags := 18, slot := 1, constantValue := 0 }, { name := "hash", type := .int, accessFlags := 2, slot := 2, constantValue := 0 }]
  methods := #[]
  instanceTypes := #[(.object "java/lang/String"), .int, .int]
  staticTypes := #[]
  resolved := Array.replicate 204 none
  statics := none }

def pool6 : Array CpInfo := pool [(1, .class_ 2), (0, u "com/example/recipro/recipro/rounding/Discarded"), (0, .fieldref 1 4), (0, .nameAndType 5 6), (0, u "NOTHING"), (0, u "Lcom/example/recipro/recipro/rounding/Discarded;"), (0, .fieldref 1 8), (0, .nameAndType 9 6), (0, u "LESS_THAN_HALF"), (0, .fieldref 1 11), (0, .nameAndType 12 6), (0, u "HALF"), (0, .fieldref 1 14), (0, .nameAndType 15 6), (0, u "MORE_THAN_HALF"), (2, u "$VALUES"), (0, u "[Lcom/example/recipro/recipro/rounding/Discarded;"), (6, .class_ 28), (1, u "java/lang/Enum"), (6, .methodref 36 37), (0, .class_ 38), (0, .nameAndType 39 40), (0, u "java/lang/Long"), (0, u "compare"), (0, u "(JJ)I"), (0, .methodref 1 42), (0, .nameAndType 43 44), (0, u "of"), (0, u "(ZI)Lcom/example/recipro/recipro/rounding/Discarded;"), (32, .class_ 79), (1, u "com/example/recipro/recipro/rounding/Discarded$1"), (27, u "(JJ)Lcom/example/recipro/recipro/rounding/Discarded;")] 10

def k6c0 : Code := { maxStack := 5, maxLocals := 4, code := prog_28_method_4_code, exceptionTable := #[], attributes := #[] }
def k6m0 : Method := { name := "of", desc := "(JJ)Lcom/example/recipro/recipro/rounding/Discarded;", sig := { parameters := [.long, .long], returnType := some (.object "com/example/recipro/recipro/rounding/Discarded") }, accessFlags := 9, code := some k6c0 }
def k6c1 : Code := { maxStack := 1, maxLocals := 3, code := prog_28_method_5_code, exceptionTable := #[], attributes := #[] }
def k6m1 : Method := { name := "of", desc := "(ZI)Lcom/example/recipro/recipro/rounding/Discarded;", sig := { parameters := [.boolean, .int], returnType := some (.object "com/example/recipro/recipro/rounding/Discarded") }, accessFlags := 9, code := some k6c1 }
/-- com/example/recipro/recipro/rounding/Discarded -/
def k6 : Class := { plain "com/example/recipro/recipro/rounding/Discarded" (some 5) with
  accessFlags := 16433
  interfaces := #[]
  cf := some (fileOf pool6 1 #[.nestMembers #[77]] #[{ accessFlags := 9, nameIndex := 43, descriptorIndex := 107, attributes := #[] }, { accessFlags := 9, nameIndex := 43, descriptorIndex := 44, attributes := #[] }] 16433 26 #[] #[{ accessFlags := 16409, nameIndex := 5, descriptorIndex := 6, attributes := #[] }, { accessFlags := 16409, nameIndex := 9, descriptorIndex := 6, attributes := #[] }, { accessFlags := 16409, nameIndex := 12, descriptorIndex := 6, attributes := #[] }, { accessFlags := 16409, nameIndex := 15, descriptorIndex := 6, attributes := #[] }, { accessFlags := 4122, nameIndex := 18, descriptorIndex := 19, attributes := #[] }])
  fields := #[{ name := "NOTHING", type := (.object "com/example/recipro/recipro/rounding/Discarded"), accessFlags := 16409, slot := 0, constantValue := 0 }, { name := "LESS_THAN_HALF", type := (.object "com/example/recipro/recipro/rounding/Discarded"), accessFlags := 16409, slot := 1, constantValue := 0 }, { name := "HALF", type := (.object "com/example/recipro/recipro/rounding/Discarded"), accessFlags := 16409, slot := 2, constantValue := 0 }, { name := "MORE_THAN_HALF", type := (.object "com/example/recipro/recipro/rounding/Discarded"), accessFlags := 16409, slot := 3, constantValue := 0 }, { name := "$VALUES", type := (.array (.object "com/example/recipro/recipro/rounding/Discarded")), accessFlags := 4122, slot := 4, constantValue := 0 }]
  methods := #[k6m0, k6m1]
  instanceTypes := #[(.object "java/lang/String"), .int, .int]
  staticTypes := #[(.object "com/example/recipro/recipro/rounding/Discarded"), (.object "com/example/recipro/recipro/rounding/Discarded"), (.object "com/example/recipro/recipro/rounding/Discarded"), (.object "com/example/recipro/recipro/rounding/Discarded"), (.array (.object "com/example/recipro/recipro/rounding/Discarded"))]
  resolved := Array.replicate 118 none
  statics := some 0 }

def pool7 : Array CpInfo := pool [(2, .class_ 4), (1, u "java/lang/Object"), (0, u "<init>"), (0, u "()V"), (1, .class_ 10), (1, u "java/lang/Number"), (2, .class_ 14), (0, u "java/io/Serializable"), (0, u "serialVersionUID"), (0, u "J")] 20

def k7m0 : Method := { name := "<init>", desc := "()V", sig := { parameters := [], returnType := none }, accessFlags := 1, code := none }
/-- java/lang/Number -/
def k7 : Class := { plain "java/lang/Number" (some 0) with
  accessFlags := 1057
  interfaces := #[4]
  cf := some (fileOf pool7 8 #[] #[{ accessFlags := 1, nameIndex := 5, descriptorIndex := 6, attributes := #[] }] 1057 2 #[13] #[{ accessFlags := 26, nameIndex := 15, descriptorIndex := 16, attributes := #[] }])
  fields := #[{ name := "serialVersionUID", type := .long, accessFlags := 26, slot := 0, constantValue := 0 }]
  methods := #[k7m0]
  instanceTypes := #[]
  staticTypes := #[.long]
  resolved := Array.replicate 37 none
  statics := none }

def pool8 : Array CpInfo := pool [(1, .class_ 2), (0, u "java/lang/constant/ConstantDesc"), (0, .class_ 4), (0, u "java/lang/Object")] 32

/-- java/lang/constant/ConstantDesc -/
def k8 : Class := { plain "java/lang/constant/ConstantDesc" (some 0) with
  accessFlags := 1537
  interfaces := #[]
  cf := some (fileOf pool8 1 #[] #[] 1537 3 #[] #[])
  fields := #[]
  methods := #[]
  instanceTypes := #[]
  staticTypes := #[]
  resolved := Array.replicate 37 none
  statics := none }

def pool9 : Array CpInfo := pool [(1, .class_ 2), (0, u "java/lang/Long"), (232, .class_ 237), (1, u "java/lang/Long$LongCache"), (33, .class_ 272), (0, u "java/lang/Number"), (2, u "value"), (0, u "J"), (27, u "compare"), (0, u "(JJ)I"), (55, u "TYPE"), (0, u "Ljava/lang/Class;"), (0, .class_ 364), (0, u "java/lang/Comparable"), (0, .class_ 366), (0, u "java/lang/constant/Constable"), (0, .class_ 368), (0, u "java/lang/constant/ConstantDesc"), (0, u "MIN_VALUE"), (1, u "MAX_VALUE"), (4, u "SIZE"), (0, u "I"), (1, u "BYTES"), (1, u "serialVersionUID")] 142

def k9c0 : Code := { maxStack := 4, maxLocals := 4, code := jdk_35_method_42_code, exceptionTable := #[], attributes := #[] }
def k9m0 : Method := { name := "compare", desc := "(JJ)I", sig := { parameters := [.long, .long], returnType := some .int }, accessFlags := 9, code := some k9c0 }
/-- java/lang/Long -/
def k9 : Class := { plain "java/lang/Long" (some 7) with
  accessFlags := 49
  interfaces := #[3, 2, 8]
  cf := some (fileOf pool9 1 #[.nestMembers #[235]] #[{ accessFlags := 9, nameIndex := 304, descriptorIndex := 305, attributes := #[] }] 49 271 #[363, 365, 367] #[{ accessFlags := 25, nameIndex := 369, descriptorIndex := 276, attributes := #[] }, { accessFlags := 25, nameIndex := 371, descriptorIndex := 276, attributes := #[] }, { accessFlags := 25, nameIndex := 361, descriptorIndex := 362, attributes := #[] }, { accessFlags := 18, nameIndex := 275, descriptorIndex := 276, attributes := #[] }, { accessFlags := 25, nameIndex := 376, descriptorIndex := 377, attributes := #[] }, { accessFlags := 25, nameIndex := 379, descriptorIndex := 377, attributes := #[] }, { accessFlags := 26, nameIndex := 381, descriptorIndex := 276, attributes := #[] }])
  fields := #[{ name := "MIN_VALUE", type := .long, accessFlags := 25, slot := 0, constantValue := 0 }, { name := "MAX_VALUE", type := .long, accessFlags := 25, slot := 1, constantValue := 0 }, { name := "TYPE", type := (.object "java/lang/Class"), accessFlags := 25, slot := 2, constantValue := 0 }, { name := "value", type := .long, accessFlags := 18, slot := 0, constantValue := 0 }, { name := "SIZE", type := .int, accessFlags := 25, slot := 3, constantValue := 0 }, { name := "BYTES", type := .int, accessFlags := 25, slot := 4, constantValue := 0 }, { name := "serialVersionUID", type := .long, accessFlags := 26, slot := 5, constantValue := 0 }]
  methods := #[k9m0]
  instanceTypes := #[.long]
  staticTypes := #[.long, .long, (.object "java/lang/Class"), .int, .int, .long]
  resolved := Array.replicate 524 none
  statics := none }

def pool10 : Array CpInfo := pool [(1, u "java/lang/Cloneable"), (0, .class_ 1), (0, u "java/lang/Object"), (0, .class_ 3)] 3

/-- java/lang/Cloneable -/
def k10 : Class := { plain "java/lang/Cloneable" (some 0) with
  accessFlags := 1537
  interfaces := #[]
  cf := some (fileOf pool10 2 #[] #[] 1537 4 #[] #[])
  fields := #[]
  methods := #[]
  instanceTypes := #[]
  staticTypes := #[]
  resolved := Array.replicate 8 none
  statics := none }

/-- the primitive byte -/
def k11 : Class := { plain "byte" none with kind := .primitive 'B', accessFlags := 0x411 }
/-- [B -/
def k12 : Class := { plain "[B" (some 0) with kind := .array 11 .byte, interfaces := #[10, 4], accessFlags := 1041 }

/-- the primitive int -/
def k13 : Class := { plain "int" none with kind := .primitive 'I', accessFlags := 0x411 }
/-- [I -/
def k14 : Class := { plain "[I" (some 0) with kind := .array 13 .int, interfaces := #[10, 4], accessFlags := 1041 }

def heap : Heap := #[{ cls := 6, slots := #[.ref 1, .ref 2, .ref 3, .ref 4, .null], vm := .statics 6 },
  { cls := 6, slots := #[.null, .int 0, .int 0], vm := .none },
  { cls := 6, slots := #[.null, .int 1, .int 0], vm := .none },
  { cls := 6, slots := #[.null, .int 2, .int 0], vm := .none },
  { cls := 6, slots := #[.null, .int 3, .int 0], vm := .none }]
def classes : Array Class := #[k0, k1, k2, k3, k4, k5, k6, k7, k8, k9, k10, k11, k12, k13, k14]
def interned : List (Array UInt16 × Addr) := []
def slotsUsed : Nat := 17
def theMethod : MethodId := ⟨1, 1⟩
def args0 : Array Value := #[.long 5, .long 7, .int 1]
def aboutOver (below : List Frame) : State where
  vm := { classes := classes, interned := interned.toArray }
  heap := heap
  slotsUsed := slotsUsed
  threads := #[{ frames := .invoking theMethod args0 :: below }]
def below0 : List Frame := [.native { method := ⟨0, 0⟩, args := #[] }]
def about1 : State := aboutOver below0
def p0 : Program := .bare "" "" ""
def e0 : Env := launch0.env 0 0 0
theorem w_frames : about1.frames = Frame.invoking theMethod args0 :: below0 := rfl
set_option maxRecDepth 65536 in
theorem w_args : argsFit about1.vm theMethod args0 = true := by decide +kernel
set_option maxRecDepth 65536 in
theorem w_heap : heapFits about1 = true := by decide +kernel
set_option maxRecDepth 65536 in
theorem w_runnable : about1.curStatus? = some .runnable := by decide +kernel
set_option maxRecDepth 65536 in
theorem w_alone : about1.alone = true := by decide +kernel
set_option maxRecDepth 65536 in
theorem w_named : about1.methodNamed? x = some theMethod := by decide +kernel
set_option maxRecDepth 65536 in
theorem w_hears : about1.hears theMethod below0 = true := by decide +kernel
set_option maxRecDepth 65536 in
theorem w_ripe : about1.ripe theMethod args0 below0 = true := by decide +kernel
theorem w_running : about1.status = .running := rfl
set_option maxRecDepth 65536 in
theorem w_room : about1.hasRoom e0.platform room_1 = true :=
  launch0.hasRoom_least _ room_1 (by decide +kernel) (by decide +kernel) (by decide +kernel) (by decide +kernel) (by decide +kernel) (by decide +kernel)
theorem allAtoms_all (ts : List Jvm.Cond) (a : Array Jvm.Value) (st : Jvm.State) : (allAtoms ts).before a st = ts.all (fun c => c.before a st) := by
  induction ts with
  | nil => rfl
  | cons c t ih =>
    show (Jvm.Cond.and c (allAtoms t)).before a st = _
    rw [Jvm.Cond.before_and, ih, List.all_cons]
def words1 : List Jvm.Cond := Jvm.Cond.code x code maxLocals ret :: tables_1
/-- a 'code' word, met by the world's own term for the bytes: nothing is compared byte by byte -/
theorem code_word {y : MethodName} {bytes : ByteArray} {mx : Nat} {rt : Option FieldType} {a : Array Value} {s : State} {m : MethodId} {meth : Method} {c : Code} (h1 : s.methodNamed? y = some m) (h2 : s.vm.method? m = some meth) (h3 : meth.code = some c) (h4 : c.code = bytes)
    (h5 : (c.maxLocals == mx && c.exceptionTable.isEmpty && decide (c.maxStack ≤ mostOperands) && decide (meth.sig.returnType = rt) && !meth.locks && decide (parseMethodDescriptor y.desc = some meth.sig)) = true) : (Jvm.Cond.code y bytes mx rt).before a s = true := by
  simp only [Bool.and_eq_true, beq_iff_eq, Bool.not_eq_true', decide_eq_true_eq] at h5
  obtain ⟨⟨⟨⟨⟨g1, g2⟩, g3⟩, g4⟩, g5⟩, g6⟩ := h5
  simp [Cond.before, Cond.holds, Cond.value, h1, h2, h3, h4, g1, g2, g3, g4, g5, g6]
def isCode : Jvm.Cond → Bool
  | .code _ _ _ _ => true
  | _ => false
theorem all_split {L : List Jvm.Cond} {P : Jvm.Cond → Bool} (h1 : L.all (fun c => isCode c || P c) = true) (h2 : ∀ c ∈ L.filter isCode, P c = true) : L.all P = true := by
  refine List.all_eq_true.mpr fun c hc => ?_
  have h := List.all_eq_true.mp h1 c hc
  rcases Bool.eq_false_or_eq_true (isCode c) with hi | hi
  · exact h2 c (List.mem_filter.mpr ⟨hc, hi⟩)
  · simpa [hi] using h
set_option maxRecDepth 65536 in
theorem w_c0 : (Jvm.Cond.code x code maxLocals ret).before args0 about1 = true := code_word (m := ⟨1, 1⟩) (meth := k1m1) (c := k1c1) (by decide +kernel) rfl rfl rfl (by decide +kernel)
set_option maxRecDepth 65536 in
theorem w_c1 : (Jvm.Cond.code ({ cls := "com/example/recipro/recipro/rounding/Discarded", name := "of", desc := "(JJ)Lcom/example/recipro/recipro/rounding/Discarded;" } : Jvm.MethodName) prog_28_method_4_code (4 : Nat) (Option.some (Jvm.ClassFile.FieldType.object "com/example/recipro/recipro/rounding/Discarded"))).before args0 about1 = true := code_word (m := ⟨6, 0⟩) (meth := k6m0) (c := k6c0) (by decide +kernel) rfl rfl rfl (by decide +kernel)
set_option maxRecDepth 65536 in
theorem w_c2 : (Jvm.Cond.code ({ cls := "java/lang/Long", name := "compare", desc := "(JJ)I" } : Jvm.MethodName) jdk_35_method_42_code (4 : Nat) (Option.some Jvm.ClassFile.FieldType.int)).before args0 about1 = true := code_word (m := ⟨9, 0⟩) (meth := k9m0) (c := k9c0) (by decide +kernel) rfl rfl rfl (by decide +kernel)
set_option maxRecDepth 65536 in
theorem w_c3 : (Jvm.Cond.code ({ cls := "com/example/recipro/recipro/rounding/Discarded", name := "of", desc := "(ZI)Lcom/example/recipro/recipro/rounding/Discarded;" } : Jvm.MethodName) prog_28_method_5_code (3 : Nat) (Option.some (Jvm.ClassFile.FieldType.object "com/example/recipro/recipro/rounding/Discarded"))).before args0 about1 = true := code_word (m := ⟨6, 1⟩) (meth := k6m1) (c := k6c1) (by decide +kernel) rfl rfl rfl (by decide +kernel)
def codes1 : List Jvm.Cond := [Jvm.Cond.code x code maxLocals ret, Jvm.Cond.code ({ cls := "com/example/recipro/recipro/rounding/Discarded", name := "of", desc := "(JJ)Lcom/example/recipro/recipro/rounding/Discarded;" } : Jvm.MethodName) prog_28_method_4_code (4 : Nat) (Option.some (Jvm.ClassFile.FieldType.object "com/example/recipro/recipro/rounding/Discarded")), Jvm.Cond.code ({ cls := "java/lang/Long", name := "compare", desc := "(JJ)I" } : Jvm.MethodName) jdk_35_method_42_code (4 : Nat) (Option.some Jvm.ClassFile.FieldType.int), Jvm.Cond.code ({ cls := "com/example/recipro/recipro/rounding/Discarded", name := "of", desc := "(ZI)Lcom/example/recipro/recipro/rounding/Discarded;" } : Jvm.MethodName) prog_28_method_5_code (3 : Nat) (Option.some (Jvm.ClassFile.FieldType.object "com/example/recipro/recipro/rounding/Discarded"))]
set_option maxRecDepth 65536 in
theorem codes_eq : words1.filter isCode = codes1 := rfl
theorem w_codes : ∀ c ∈ words1.filter isCode, c.before args0 about1 = true := by
  rw [codes_eq]
  intro c hc
  simp only [codes1, List.mem_cons, List.not_mem_nil, or_false] at hc
  rcases hc with rfl | rfl | rfl | rfl
  · exact w_c0
  · exact w_c1
  · exact w_c2
  · exact w_c3
set_option maxRecDepth 65536 in
theorem w_t1 : words1.all (fun c => isCode c || c.before args0 about1) = true := by decide +kernel
theorem w_tables : (allAtoms (Jvm.Cond.code x code maxLocals ret :: tables_1)).before args0 about1 = true := by
  rw [allAtoms_all]
  show words1.all (fun c => c.before args0 about1) = true
  refine all_split ?_ w_codes
  rw [w_t1]
set_option maxRecDepth 65536 in
theorem w_case : (Jvm.Cond.and given_1 narrow_1).before args0 about1 = true := by decide +kernel
theorem w_applies : (headSpec (Jvm.Cond.code x code maxLocals ret :: tables_1) room_1).applies x e0.platform about1 = true :=
  (Spec.applies_iff w_frames).mpr ⟨w_running, w_runnable, w_alone, w_named, w_hears, w_ripe, w_room, w_tables⟩
theorem atStart : AtStart classFile x code maxLocals ret World_1 tables_1 room_1 Calls_1 rest_1 Pre_1 launch0 p0 e0 about1 theMethod args0 below0 :=
  ⟨lists_1, trivial, launch0.admits_env _ _ _, launch0.least_env, fairChoices_fair.cas, fairChoices_fair.clock, w_frames, w_args, w_heap, w_applies, trivial, trivial, w_case⟩
end start1
theorem witness_1 : WitnessClaimed_1 := ⟨start1.p0, start1.e0, start1.about1, start1.theMethod, start1.args0, start1.below0, start1.atStart⟩
end Jvm.Pilot.@@N@@
