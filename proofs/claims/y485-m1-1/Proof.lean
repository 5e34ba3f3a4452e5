import JvmDerived
import JvmDerived.Pilot.@@N@@Statement
import JvmDerived.Pilot.@@N@@Code
set_option linter.unusedVariables false
set_option linter.unusedSimpArgs false
namespace Jvm.Pilot.@@N@@
open Jvm Jvm.ClassFile Sem Op Lib Jvm.Free Jvm.Stand Jvm.LawKit Jvm.RoadKit Bundle Jvm.Pilot.@@N@@.Jvm.D
def own_A (p : Program) (l : Launch) (e : Env) (R : Room) (s : State) (m : MethodId) (args : Array Value) (below : List Frame) (meth : Method) (c : Code) (Z : State) (own name : String) (bytes : ByteArray) (maxL : Nat) (ret : Option FieldType) : Prop :=
  p.tables.exec = Jvm.exec ∧ c.code = bytes ∧ c.maxLocals = maxL ∧ s.vm.findClass own = some m.cls ∧ meth.name = name ∧ meth.sig.returnType = ret ∧ meth.locks = false ∧ Z.Warmed39 s.vm
def own_S (p : Program) (l : Launch) (e : Env) (R : Room) (s : State) (m : MethodId) (args : Array Value) (below : List Frame) (meth : Method) (c : Code) (n0 : Nat) (T : State) (h : Heap) (k n : Nat) : Prop :=
  ∃ locs, Stand p l e R s m args below meth c T locs k n ∧ T.heap = h ∧ Fr n0 locs
def own_G (p : Program) (e : Env) (below : List Frame) (s : State) (n0 kc ks : Nat) (Q : Option Value → Heap → Prop) (T : State) (g : JFrame) : Prop :=
  ∃ s₂ o, Steps p.tables e below (T.setTop g) s₂ ∧ s₂.status = .running ∧ Ended s₂ below o ∧ ∃ v L, o = .returned v ∧ (Q v s₂.heap ∧ Fr n0 L) ∧ FrameEnd s o s₂ L kc ks
def own_C (l : Launch) (Z : State) (y : MethodName) (bytes : ByteArray) (maxL : Nat) (ret : Option FieldType) (rm : Room) (n0 : Nat) (ws : List Jvm.Cond) (as' : Array Value) (h0 : Heap) (Q : Option Value → Heap → Prop) : Prop :=
  MetFree l y (head1 (Jvm.Cond.code y bytes maxL ret :: ws) rm) (fun a U => a = as' ∧ Z.Warmed39 U.vm ∧ U.heap = h0) (fun _ _ _ _ _ => True) (fun _ U o U' => ∃ v L, o = .returned v ∧ (Q v U'.heap ∧ Fr n0 L) ∧ FrameEnd U o U' L rm.cells rm.slots)
section OwnLayer
variable {p : Program} {l : Launch} {e : Env} {R : Room} {s : State} {m : MethodId} {args : Array Value} {below : List Frame} {meth : Method} {c : Code} {Z : State} {own name : String} {bytes : ByteArray} {maxL : Nat} {ret : Option FieldType} {T T' : State} {h : Heap} {k n n0 kc ks pc : Nat} {Ls Ls' : Array Slot} {st : List Value} {Q : Option Value → Heap → Prop} {g g' : JFrame} {a0 : Array Value}
theorem own_st (q : ∀ t, Steps p.tables e below (T'.setTop g') t → Steps p.tables e below (T.setTop g) t) (K : own_G p e below s n0 kc ks Q T' g') : own_G p e below s n0 kc ks Q T g := by
  obtain ⟨s2, o, a, b⟩ := K; exact ⟨s2, o, q _ a, b⟩
theorem own_C.of {y : MethodName} {rm : Room} {ws : List Jvm.Cond} {as' : Array Value} {h0 : Heap} (pn : plainFor y = true) (hn : n0 ≤ h0.size)
    (body : ∀ (p : Program) (e : Env) (s : State) (m : MethodId) (below : List Frame) (meth : Method) (c : Code) (T : State), own_A p l e rm s m as' below meth c Z y.cls y.name bytes maxL ret → own_S p l e rm s m as' below meth c n0 T h0 0 0 → own_G p e below s n0 rm.cells rm.slots Q T (entryFrame m as' maxL)) :
    own_C l Z y bytes maxL ret rm n0 ws as' h0 Q := by
  refine MetFree.of_bodySF pn hisR ?_
  intro p e s m args below meth c s₁ Bd hml0 hP hK
  obtain ⟨rfl, hZ, hh⟩ := hP
  have e0 : s₁.heap = h0 := by rw [← hh, Bd.state]; rfl
  exact body p e s m below meth c s₁ ⟨Bd.exec, Bd.bytes, hml0, findClass_of_methodNamed Bd.named, (name_of_methodNamed Bd.named Bd.method).1, Bd.returns, Bd.notSynchronized, hZ⟩ ⟨[], Stand.of_body Bd, e0, Fr.nil n0⟩
def own_ushr (x y : Int32) : Int32 := (x.toUInt32 >>> (y &&& 31).toUInt32).toInt32
def own_ushrL (x : Int64) (y : Int32) : Int64 := (x.toUInt64 >>> (y &&& 0x3f).toInt64.toUInt64).toInt64
theorem own_toInt {x y : Int32} (hh : ¬ x = y) : x.toInt ≠ y.toInt := fun q => hh (Int32.toInt_inj.mp q)
theorem own_toIntL {x y : Int64} (hh : ¬ x = y) : x.toInt ≠ y.toInt := fun q => hh (Int64.toInt_inj.mp q)
theorem s_iloadN (pc' : Nat) {i : Fin 4} {v : Int32} (A : own_A p l e R s m args below meth c Z own name bytes maxL ret) (S : own_S p l e R s m args below meth c n0 T h k n) (hd : decode bytes pc = .ok (.iload_n i, 1)) (hl : Ls[i.val]? = some (.val (.int v))) (hp : pc + 1 = pc') (K : own_G p e below s n0 kc ks Q T (mkF m pc' Ls (.int v :: st))) : own_G p e below s n0 kc ks Q T (mkF m pc Ls st) := by
  obtain ⟨_, X, -, -⟩ := S
  subst hp
  exact own_st (T' := T) (g' := mkF m _ Ls (.int v :: st)) (fun t ht => XS.iloadN X.here A.1 rfl (hb A.2.1 hd) hl ht) K
theorem s_iload (pc' : Nat) {i : Nat} {v : Int32} (A : own_A p l e R s m args below meth c Z own name bytes maxL ret) (S : own_S p l e R s m args below meth c n0 T h k n) (hd : decode bytes pc = .ok (.iload i, 2)) (hl : Ls[i]? = some (.val (.int v))) (hp : pc + 2 = pc') (K : own_G p e below s n0 kc ks Q T (mkF m pc' Ls (.int v :: st))) : own_G p e below s n0 kc ks Q T (mkF m pc Ls st) := by
  obtain ⟨_, X, -, -⟩ := S
  subst hp
  exact own_st (T' := T) (g' := mkF m _ Ls (.int v :: st)) (fun t ht => XS.iload X.here A.1 rfl (hb A.2.1 hd) hl ht) K
theorem s_istoreN (pc' : Nat) {i : Fin 4} {v : Int32} (A : own_A p l e R s m args below meth c Z own name bytes maxL ret) (S : own_S p l e R s m args below meth c n0 T h k n) (hd : decode bytes pc = .ok (.istore_n i, 1)) (hl : storeLocals Ls i.val (.int v) = some Ls') (hp : pc + 1 = pc') (K : own_G p e below s n0 kc ks Q T (mkF m pc' Ls' st)) : own_G p e below s n0 kc ks Q T (mkF m pc Ls (.int v :: st)) := by
  obtain ⟨_, X, -, -⟩ := S
  subst hp
  exact own_st (T' := T) (g' := mkF m _ Ls' st) (fun t ht => XS.istoreN X.here A.1 rfl (hb A.2.1 hd) rfl hl ht) K
theorem s_istore (pc' : Nat) {i : Nat} {v : Int32} (A : own_A p l e R s m args below meth c Z own name bytes maxL ret) (S : own_S p l e R s m args below meth c n0 T h k n) (hd : decode bytes pc = .ok (.istore i, 2)) (hl : storeLocals Ls i (.int v) = some Ls') (hp : pc + 2 = pc') (K : own_G p e below s n0 kc ks Q T (mkF m pc' Ls' st)) : own_G p e below s n0 kc ks Q T (mkF m pc Ls (.int v :: st)) := by
  obtain ⟨_, X, -, -⟩ := S
  subst hp
  exact own_st (T' := T) (g' := mkF m _ Ls' st) (fun t ht => XS.istore X.here A.1 rfl (hb A.2.1 hd) rfl hl ht) K
theorem s_lloadN (pc' : Nat) {i : Fin 4} {v : Int64} (A : own_A p l e R s m args below meth c Z own name bytes maxL ret) (S : own_S p l e R s m args below meth c n0 T h k n) (hd : decode bytes pc = .ok (.lload_n i, 1)) (hl : Ls[i.val]? = some (.val (.long v))) (hp : pc + 1 = pc') (K : own_G p e below s n0 kc ks Q T (mkF m pc' Ls (.long v :: st))) : own_G p e below s n0 kc ks Q T (mkF m pc Ls st) := by
  obtain ⟨_, X, -, -⟩ := S
  subst hp
  exact own_st (T' := T) (g' := mkF m _ Ls (.long v :: st)) (fun t ht => XS.lloadN X.here A.1 rfl (hb A.2.1 hd) hl ht) K
theorem s_lload (pc' : Nat) {i : Nat} {v : Int64} (A : own_A p l e R s m args below meth c Z own name bytes maxL ret) (S : own_S p l e R s m args below meth c n0 T h k n) (hd : decode bytes pc = .ok (.lload i, 2)) (hl : Ls[i]? = some (.val (.long v))) (hp : pc + 2 = pc') (K : own_G p e below s n0 kc ks Q T (mkF m pc' Ls (.long v :: st))) : own_G p e below s n0 kc ks Q T (mkF m pc Ls st) := by
  obtain ⟨_, X, -, -⟩ := S
  subst hp
  exact own_st (T' := T) (g' := mkF m _ Ls (.long v :: st)) (fun t ht => XS.lload X.here A.1 rfl (hb A.2.1 hd) hl ht) K
theorem s_lstoreN (pc' : Nat) {i : Fin 4} {v : Int64} (A : own_A p l e R s m args below meth c Z own name bytes maxL ret) (S : own_S p l e R s m args below meth c n0 T h k n) (hd : decode bytes pc = .ok (.lstore_n i, 1)) (hl : storeLocals Ls i.val (.long v) = some Ls') (hp : pc + 1 = pc') (K : own_G p e below s n0 kc ks Q T (mkF m pc' Ls' st)) : own_G p e below s n0 kc ks Q T (mkF m pc Ls (.long v :: st)) := by
  obtain ⟨_, X, -, -⟩ := S
  subst hp
  exact own_st (T' := T) (g' := mkF m _ Ls' st) (fun t ht => XS.lstoreN X.here A.1 rfl (hb A.2.1 hd) rfl hl ht) K
theorem s_lstore (pc' : Nat) {i : Nat} {v : Int64} (A : own_A p l e R s m args below meth c Z own name bytes maxL ret) (S : own_S p l e R s m args below meth c n0 T h k n) (hd : decode bytes pc = .ok (.lstore i, 2)) (hl : storeLocals Ls i (.long v) = some Ls') (hp : pc + 2 = pc') (K : own_G p e below s n0 kc ks Q T (mkF m pc' Ls' st)) : own_G p e below s n0 kc ks Q T (mkF m pc Ls (.long v :: st)) := by
  obtain ⟨_, X, -, -⟩ := S
  subst hp
  exact own_st (T' := T) (g' := mkF m _ Ls' st) (fun t ht => XS.lstore X.here A.1 rfl (hb A.2.1 hd) rfl hl ht) K
theorem s_aloadN (pc' : Nat) {i : Fin 4} {v : Value} (A : own_A p l e R s m args below meth c Z own name bytes maxL ret) (S : own_S p l e R s m args below meth c n0 T h k n) (hd : decode bytes pc = .ok (.aload_n i, 1)) (hl : Ls[i.val]? = some (.val v)) (hv : v.isRef = true) (hp : pc + 1 = pc') (K : own_G p e below s n0 kc ks Q T (mkF m pc' Ls (v :: st))) : own_G p e below s n0 kc ks Q T (mkF m pc Ls st) := by
  obtain ⟨_, X, -, -⟩ := S
  subst hp
  exact own_st (T' := T) (g' := mkF m _ Ls (v :: st)) (fun t ht => XS.aloadN X.here A.1 rfl (hb A.2.1 hd) hl hv ht) K
theorem s_aload (pc' : Nat) {i : Nat} {v : Value} (A : own_A p l e R s m args below meth c Z own name bytes maxL ret) (S : own_S p l e R s m args below meth c n0 T h k n) (hd : decode bytes pc = .ok (.aload i, 2)) (hl : Ls[i]? = some (.val v)) (hv : v.isRef = true) (hp : pc + 2 = pc') (K : own_G p e below s n0 kc ks Q T (mkF m pc' Ls (v :: st))) : own_G p e below s n0 kc ks Q T (mkF m pc Ls st) := by
  obtain ⟨_, X, -, -⟩ := S
  subst hp
  exact own_st (T' := T) (g' := mkF m _ Ls (v :: st)) (fun t ht => XS.aload X.here A.1 rfl (hb A.2.1 hd) hl hv ht) K
theorem s_astoreN (pc' : Nat) {i : Fin 4} {v : Value} (A : own_A p l e R s m args below meth c Z own name bytes maxL ret) (S : own_S p l e R s m args below meth c n0 T h k n) (hd : decode bytes pc = .ok (.astore_n i, 1)) (hv : v.isRef = true) (hl : storeLocals Ls i.val v = some Ls') (hp : pc + 1 = pc') (K : own_G p e below s n0 kc ks Q T (mkF m pc' Ls' st)) : own_G p e below s n0 kc ks Q T (mkF m pc Ls (v :: st)) := by
  obtain ⟨_, X, -, -⟩ := S
  subst hp
  exact own_st (T' := T) (g' := mkF m _ Ls' st) (fun t ht => XS.astoreN X.here A.1 rfl (hb A.2.1 hd) rfl hv hl ht) K
theorem s_astore (pc' : Nat) {i : Nat} {v : Value} (A : own_A p l e R s m args below meth c Z own name bytes maxL ret) (S : own_S p l e R s m args below meth c n0 T h k n) (hd : decode bytes pc = .ok (.astore i, 2)) (hv : v.isRef = true) (hl : storeLocals Ls i v = some Ls') (hp : pc + 2 = pc') (K : own_G p e below s n0 kc ks Q T (mkF m pc' Ls' st)) : own_G p e below s n0 kc ks Q T (mkF m pc Ls (v :: st)) := by
  obtain ⟨_, X, -, -⟩ := S
  subst hp
  exact own_st (T' := T) (g' := mkF m _ Ls' st) (fun t ht => XS.astore X.here A.1 rfl (hb A.2.1 hd) rfl hv hl ht) K
theorem s_iconst (pc' : Nat) {i : Int} {z : Int32} (A : own_A p l e R s m args below meth c Z own name bytes maxL ret) (S : own_S p l e R s m args below meth c n0 T h k n) (hd : decode bytes pc = .ok (.iconst i, 1)) (hz : Int32.ofInt i = z) (hp : pc + 1 = pc') (K : own_G p e below s n0 kc ks Q T (mkF m pc' Ls (.int z :: st))) : own_G p e below s n0 kc ks Q T (mkF m pc Ls st) := by
  obtain ⟨_, X, -, -⟩ := S
  subst hp hz
  exact own_st (T' := T) (g' := mkF m _ Ls (.int _ :: st)) (fun t ht => XS.iconst X.here A.1 rfl (hb A.2.1 hd) ht) K
theorem s_bipush (pc' : Nat) {i : Int} {z : Int32} (A : own_A p l e R s m args below meth c Z own name bytes maxL ret) (S : own_S p l e R s m args below meth c n0 T h k n) (hd : decode bytes pc = .ok (.bipush i, 2)) (hz : (Int8.ofInt i).toInt32 = z) (hp : pc + 2 = pc') (K : own_G p e below s n0 kc ks Q T (mkF m pc' Ls (.int z :: st))) : own_G p e below s n0 kc ks Q T (mkF m pc Ls st) := by
  obtain ⟨_, X, -, -⟩ := S
  subst hp hz
  exact own_st (T' := T) (g' := mkF m _ Ls (.int _ :: st)) (fun t ht => XS.bipush X.here A.1 rfl (hb A.2.1 hd) ht) K
theorem s_sipush (pc' : Nat) {i : Int} {z : Int32} (A : own_A p l e R s m args below meth c Z own name bytes maxL ret) (S : own_S p l e R s m args below meth c n0 T h k n) (hd : decode bytes pc = .ok (.sipush i, 3)) (hz : (Int16.ofInt i).toInt32 = z) (hp : pc + 3 = pc') (K : own_G p e below s n0 kc ks Q T (mkF m pc' Ls (.int z :: st))) : own_G p e below s n0 kc ks Q T (mkF m pc Ls st) := by
  obtain ⟨_, X, -, -⟩ := S
  subst hp hz
  exact own_st (T' := T) (g' := mkF m _ Ls (.int _ :: st)) (fun t ht => XS.sipush X.here A.1 rfl (hb A.2.1 hd) ht) K
theorem s_lconst (pc' : Nat) {i : Fin 2} {z : Int64} (A : own_A p l e R s m args below meth c Z own name bytes maxL ret) (S : own_S p l e R s m args below meth c n0 T h k n) (hd : decode bytes pc = .ok (.lconst i, 1)) (hz : Int64.ofNat i = z) (hp : pc + 1 = pc') (K : own_G p e below s n0 kc ks Q T (mkF m pc' Ls (.long z :: st))) : own_G p e below s n0 kc ks Q T (mkF m pc Ls st) := by
  obtain ⟨_, X, -, -⟩ := S
  subst hp hz
  exact own_st (T' := T) (g' := mkF m _ Ls (.long _ :: st)) (fun t ht => XS.lconst X.here A.1 rfl (hb A.2.1 hd) ht) K
theorem s_aconstNull (pc' : Nat)  (A : own_A p l e R s m args below meth c Z own name bytes maxL ret) (S : own_S p l e R s m args below meth c n0 T h k n) (hd : decode bytes pc = .ok (.aconst_null, 1)) (hp : pc + 1 = pc') (K : own_G p e below s n0 kc ks Q T (mkF m pc' Ls (.null :: st))) : own_G p e below s n0 kc ks Q T (mkF m pc Ls st) := by
  obtain ⟨_, X, -, -⟩ := S
  subst hp
  exact own_st (T' := T) (g' := mkF m _ Ls (.null :: st)) (fun t ht => XS.aconstNull X.here A.1 rfl (hb A.2.1 hd)  ht) K
theorem s_ldc (pc' : Nat) {i : Nat} {v : Int32} (A : own_A p l e R s m args below meth c Z own name bytes maxL ret) (S : own_S p l e R s m args below meth c n0 T h k n) (w : (Jvm.Cond.constant own i v).before a0 Z = true) (hd : decode bytes pc = .ok (.ldc i, 2)) (hp : pc + 2 = pc') (K : own_G p e below s n0 kc ks Q T (mkF m pc' Ls (.int v :: st))) : own_G p e below s n0 kc ks Q T (mkF m pc Ls st) := by
  obtain ⟨_, X, -, -⟩ := S
  obtain ⟨hx, hby, -, hown, -, -, -, hZ⟩ := A
  subst hp
  exact own_st (T' := T) (g' := mkF m _ Ls (.int v :: st)) (X.ldcInt hx hown (mvT hZ w) (g := mkF m pc Ls st) rfl (hb hby hd)) K
theorem s_ldc2 (pc' : Nat) {i : Nat} {v : Int64} (A : own_A p l e R s m args below meth c Z own name bytes maxL ret) (S : own_S p l e R s m args below meth c n0 T h k n) (w : (Jvm.Cond.constantLong own i v).before a0 Z = true) (hd : decode bytes pc = .ok (.ldc2_w i, 3)) (hp : pc + 3 = pc') (K : own_G p e below s n0 kc ks Q T (mkF m pc' Ls (.long v :: st))) : own_G p e below s n0 kc ks Q T (mkF m pc Ls st) := by
  obtain ⟨_, X, -, -⟩ := S
  obtain ⟨hx, hby, -, hown, -, -, -, hZ⟩ := A
  subst hp
  exact own_st (T' := T) (g' := mkF m _ Ls (.long v :: st)) (X.ldc2Long hx hown (mvT hZ w) (g := mkF m pc Ls st) rfl (hb hby hd)) K
theorem s_iadd (pc' : Nat) {x y : Int32} {z : Int32} (A : own_A p l e R s m args below meth c Z own name bytes maxL ret) (S : own_S p l e R s m args below meth c n0 T h k n) (hd : decode bytes pc = .ok (.iadd, 1)) (hz : x + y = z) (hp : pc + 1 = pc') (K : own_G p e below s n0 kc ks Q T (mkF m pc' Ls (.int z :: st))) : own_G p e below s n0 kc ks Q T (mkF m pc Ls (.int y :: .int x :: st)) := by
  obtain ⟨_, X, -, -⟩ := S
  subst hp hz
  exact own_st (T' := T) (g' := mkF m _ Ls (.int _ :: st)) (fun t ht => XS.iadd X.here A.1 rfl (hb A.2.1 hd) rfl  ht) K
theorem s_isub (pc' : Nat) {x y : Int32} {z : Int32} (A : own_A p l e R s m args below meth c Z own name bytes maxL ret) (S : own_S p l e R s m args below meth c n0 T h k n) (hd : decode bytes pc = .ok (.isub, 1)) (hz : x - y = z) (hp : pc + 1 = pc') (K : own_G p e below s n0 kc ks Q T (mkF m pc' Ls (.int z :: st))) : own_G p e below s n0 kc ks Q T (mkF m pc Ls (.int y :: .int x :: st)) := by
  obtain ⟨_, X, -, -⟩ := S
  subst hp hz
  exact own_st (T' := T) (g' := mkF m _ Ls (.int _ :: st)) (fun t ht => XS.isub X.here A.1 rfl (hb A.2.1 hd) rfl  ht) K
theorem s_imul (pc' : Nat) {x y : Int32} {z : Int32} (A : own_A p l e R s m args below meth c Z own name bytes maxL ret) (S : own_S p l e R s m args below meth c n0 T h k n) (hd : decode bytes pc = .ok (.imul, 1)) (hz : x * y = z) (hp : pc + 1 = pc') (K : own_G p e below s n0 kc ks Q T (mkF m pc' Ls (.int z :: st))) : own_G p e below s n0 kc ks Q T (mkF m pc Ls (.int y :: .int x :: st)) := by
  obtain ⟨_, X, -, -⟩ := S
  subst hp hz
  exact own_st (T' := T) (g' := mkF m _ Ls (.int _ :: st)) (fun t ht => XS.imul X.here A.1 rfl (hb A.2.1 hd) rfl  ht) K
theorem s_iand (pc' : Nat) {x y : Int32} {z : Int32} (A : own_A p l e R s m args below meth c Z own name bytes maxL ret) (S : own_S p l e R s m args below meth c n0 T h k n) (hd : decode bytes pc = .ok (.iand, 1)) (hz : x &&& y = z) (hp : pc + 1 = pc') (K : own_G p e below s n0 kc ks Q T (mkF m pc' Ls (.int z :: st))) : own_G p e below s n0 kc ks Q T (mkF m pc Ls (.int y :: .int x :: st)) := by
  obtain ⟨_, X, -, -⟩ := S
  subst hp hz
  exact own_st (T' := T) (g' := mkF m _ Ls (.int _ :: st)) (fun t ht => XS.iand X.here A.1 rfl (hb A.2.1 hd) rfl  ht) K
theorem s_ior (pc' : Nat) {x y : Int32} {z : Int32} (A : own_A p l e R s m args below meth c Z own name bytes maxL ret) (S : own_S p l e R s m args below meth c n0 T h k n) (hd : decode bytes pc = .ok (.ior, 1)) (hz : x ||| y = z) (hp : pc + 1 = pc') (K : own_G p e below s n0 kc ks Q T (mkF m pc' Ls (.int z :: st))) : own_G p e below s n0 kc ks Q T (mkF m pc Ls (.int y :: .int x :: st)) := by
  obtain ⟨_, X, -, -⟩ := S
  subst hp hz
  exact own_st (T' := T) (g' := mkF m _ Ls (.int _ :: st)) (fun t ht => XS.ior X.here A.1 rfl (hb A.2.1 hd) rfl  ht) K
theorem s_ixor (pc' : Nat) {x y : Int32} {z : Int32} (A : own_A p l e R s m args below meth c Z own name bytes maxL ret) (S : own_S p l e R s m args below meth c n0 T h k n) (hd : decode bytes pc = .ok (.ixor, 1)) (hz : x ^^^ y = z) (hp : pc + 1 = pc') (K : own_G p e below s n0 kc ks Q T (mkF m pc' Ls (.int z :: st))) : own_G p e below s n0 kc ks Q T (mkF m pc Ls (.int y :: .int x :: st)) := by
  obtain ⟨_, X, -, -⟩ := S
  subst hp hz
  exact own_st (T' := T) (g' := mkF m _ Ls (.int _ :: st)) (fun t ht => XS.ixor X.here A.1 rfl (hb A.2.1 hd) rfl  ht) K
theorem s_ishl (pc' : Nat) {x y : Int32} {z : Int32} (A : own_A p l e R s m args below meth c Z own name bytes maxL ret) (S : own_S p l e R s m args below meth c n0 T h k n) (hd : decode bytes pc = .ok (.ishl, 1)) (hz : x <<< (y &&& 31) = z) (hp : pc + 1 = pc') (K : own_G p e below s n0 kc ks Q T (mkF m pc' Ls (.int z :: st))) : own_G p e below s n0 kc ks Q T (mkF m pc Ls (.int y :: .int x :: st)) := by
  obtain ⟨_, X, -, -⟩ := S
  subst hp hz
  exact own_st (T' := T) (g' := mkF m _ Ls (.int _ :: st)) (fun t ht => XS.ishl X.here A.1 rfl (hb A.2.1 hd) rfl  ht) K
theorem s_ishr (pc' : Nat) {x y : Int32} {z : Int32} (A : own_A p l e R s m args below meth c Z own name bytes maxL ret) (S : own_S p l e R s m args below meth c n0 T h k n) (hd : decode bytes pc = .ok (.ishr, 1)) (hz : x >>> (y &&& 31) = z) (hp : pc + 1 = pc') (K : own_G p e below s n0 kc ks Q T (mkF m pc' Ls (.int z :: st))) : own_G p e below s n0 kc ks Q T (mkF m pc Ls (.int y :: .int x :: st)) := by
  obtain ⟨_, X, -, -⟩ := S
  subst hp hz
  exact own_st (T' := T) (g' := mkF m _ Ls (.int _ :: st)) (fun t ht => XS.ishr X.here A.1 rfl (hb A.2.1 hd) rfl  ht) K
theorem s_iushr (pc' : Nat) {x y : Int32} {z : Int32} (A : own_A p l e R s m args below meth c Z own name bytes maxL ret) (S : own_S p l e R s m args below meth c n0 T h k n) (hd : decode bytes pc = .ok (.iushr, 1)) (hz : own_ushr x y = z) (hp : pc + 1 = pc') (K : own_G p e below s n0 kc ks Q T (mkF m pc' Ls (.int z :: st))) : own_G p e below s n0 kc ks Q T (mkF m pc Ls (.int y :: .int x :: st)) := by
  obtain ⟨_, X, -, -⟩ := S
  subst hp hz
  exact own_st (T' := T) (g' := mkF m _ Ls (.int _ :: st)) (fun t ht => XS.iushr X.here A.1 rfl (hb A.2.1 hd) rfl  ht) K
theorem s_idiv (pc' : Nat) {x y : Int32} {z : Int32} (A : own_A p l e R s m args below meth c Z own name bytes maxL ret) (S : own_S p l e R s m args below meth c n0 T h k n) (hd : decode bytes pc = .ok (.idiv, 1)) (hy : y ≠ 0) (hz : x / y = z) (hp : pc + 1 = pc') (K : own_G p e below s n0 kc ks Q T (mkF m pc' Ls (.int z :: st))) : own_G p e below s n0 kc ks Q T (mkF m pc Ls (.int y :: .int x :: st)) := by
  obtain ⟨_, X, -, -⟩ := S
  subst hp hz
  exact own_st (T' := T) (g' := mkF m _ Ls (.int _ :: st)) (fun t ht => XS.idiv X.here A.1 rfl (hb A.2.1 hd) rfl hy ht) K
theorem s_irem (pc' : Nat) {x y : Int32} {z : Int32} (A : own_A p l e R s m args below meth c Z own name bytes maxL ret) (S : own_S p l e R s m args below meth c n0 T h k n) (hd : decode bytes pc = .ok (.irem, 1)) (hy : y ≠ 0) (hz : x % y = z) (hp : pc + 1 = pc') (K : own_G p e below s n0 kc ks Q T (mkF m pc' Ls (.int z :: st))) : own_G p e below s n0 kc ks Q T (mkF m pc Ls (.int y :: .int x :: st)) := by
  obtain ⟨_, X, -, -⟩ := S
  subst hp hz
  exact own_st (T' := T) (g' := mkF m _ Ls (.int _ :: st)) (fun t ht => iremM X A.1 rfl (hb A.2.1 hd) rfl hy ht) K
theorem s_ladd (pc' : Nat) {x y : Int64} {z : Int64} (A : own_A p l e R s m args below meth c Z own name bytes maxL ret) (S : own_S p l e R s m args below meth c n0 T h k n) (hd : decode bytes pc = .ok (.ladd, 1)) (hz : x + y = z) (hp : pc + 1 = pc') (K : own_G p e below s n0 kc ks Q T (mkF m pc' Ls (.long z :: st))) : own_G p e below s n0 kc ks Q T (mkF m pc Ls (.long y :: .long x :: st)) := by
  obtain ⟨_, X, -, -⟩ := S
  subst hp hz
  exact own_st (T' := T) (g' := mkF m _ Ls (.long _ :: st)) (fun t ht => XS.ladd X.here A.1 rfl (hb A.2.1 hd) rfl  ht) K
theorem s_lsub (pc' : Nat) {x y : Int64} {z : Int64} (A : own_A p l e R s m args below meth c Z own name bytes maxL ret) (S : own_S p l e R s m args below meth c n0 T h k n) (hd : decode bytes pc = .ok (.lsub, 1)) (hz : x - y = z) (hp : pc + 1 = pc') (K : own_G p e below s n0 kc ks Q T (mkF m pc' Ls (.long z :: st))) : own_G p e below s n0 kc ks Q T (mkF m pc Ls (.long y :: .long x :: st)) := by
  obtain ⟨_, X, -, -⟩ := S
  subst hp hz
  exact own_st (T' := T) (g' := mkF m _ Ls (.long _ :: st)) (fun t ht => XS.lsub X.here A.1 rfl (hb A.2.1 hd) rfl  ht) K
theorem s_lmul (pc' : Nat) {x y : Int64} {z : Int64} (A : own_A p l e R s m args below meth c Z own name bytes maxL ret) (S : own_S p l e R s m args below meth c n0 T h k n) (hd : decode bytes pc = .ok (.lmul, 1)) (hz : x * y = z) (hp : pc + 1 = pc') (K : own_G p e below s n0 kc ks Q T (mkF m pc' Ls (.long z :: st))) : own_G p e below s n0 kc ks Q T (mkF m pc Ls (.long y :: .long x :: st)) := by
  obtain ⟨_, X, -, -⟩ := S
  subst hp hz
  exact own_st (T' := T) (g' := mkF m _ Ls (.long _ :: st)) (fun t ht => XS.lmul X.here A.1 rfl (hb A.2.1 hd) rfl  ht) K
theorem s_land (pc' : Nat) {x y : Int64} {z : Int64} (A : own_A p l e R s m args below meth c Z own name bytes maxL ret) (S : own_S p l e R s m args below meth c n0 T h k n) (hd : decode bytes pc = .ok (.land, 1)) (hz : x &&& y = z) (hp : pc + 1 = pc') (K : own_G p e below s n0 kc ks Q T (mkF m pc' Ls (.long z :: st))) : own_G p e below s n0 kc ks Q T (mkF m pc Ls (.long y :: .long x :: st)) := by
  obtain ⟨_, X, -, -⟩ := S
  subst hp hz
  exact own_st (T' := T) (g' := mkF m _ Ls (.long _ :: st)) (fun t ht => XS.land X.here A.1 rfl (hb A.2.1 hd) rfl  ht) K
theorem s_lor (pc' : Nat) {x y : Int64} {z : Int64} (A : own_A p l e R s m args below meth c Z own name bytes maxL ret) (S : own_S p l e R s m args below meth c n0 T h k n) (hd : decode bytes pc = .ok (.lor, 1)) (hz : x ||| y = z) (hp : pc + 1 = pc') (K : own_G p e below s n0 kc ks Q T (mkF m pc' Ls (.long z :: st))) : own_G p e below s n0 kc ks Q T (mkF m pc Ls (.long y :: .long x :: st)) := by
  obtain ⟨_, X, -, -⟩ := S
  subst hp hz
  exact own_st (T' := T) (g' := mkF m _ Ls (.long _ :: st)) (fun t ht => XS.lor X.here A.1 rfl (hb A.2.1 hd) rfl  ht) K
theorem s_lxor (pc' : Nat) {x y : Int64} {z : Int64} (A : own_A p l e R s m args below meth c Z own name bytes maxL ret) (S : own_S p l e R s m args below meth c n0 T h k n) (hd : decode bytes pc = .ok (.lxor, 1)) (hz : x ^^^ y = z) (hp : pc + 1 = pc') (K : own_G p e below s n0 kc ks Q T (mkF m pc' Ls (.long z :: st))) : own_G p e below s n0 kc ks Q T (mkF m pc Ls (.long y :: .long x :: st)) := by
  obtain ⟨_, X, -, -⟩ := S
  subst hp hz
  exact own_st (T' := T) (g' := mkF m _ Ls (.long _ :: st)) (fun t ht => XS.lxor X.here A.1 rfl (hb A.2.1 hd) rfl  ht) K
theorem s_ldiv (pc' : Nat) {x y : Int64} {z : Int64} (A : own_A p l e R s m args below meth c Z own name bytes maxL ret) (S : own_S p l e R s m args below meth c n0 T h k n) (hd : decode bytes pc = .ok (.ldiv, 1)) (hy : y ≠ 0) (hz : x / y = z) (hp : pc + 1 = pc') (K : own_G p e below s n0 kc ks Q T (mkF m pc' Ls (.long z :: st))) : own_G p e below s n0 kc ks Q T (mkF m pc Ls (.long y :: .long x :: st)) := by
  obtain ⟨_, X, -, -⟩ := S
  subst hp hz
  exact own_st (T' := T) (g' := mkF m _ Ls (.long _ :: st)) (fun t ht => XS.ldiv X.here A.1 rfl (hb A.2.1 hd) rfl hy ht) K
theorem s_lrem (pc' : Nat) {x y : Int64} {z : Int64} (A : own_A p l e R s m args below meth c Z own name bytes maxL ret) (S : own_S p l e R s m args below meth c n0 T h k n) (hd : decode bytes pc = .ok (.lrem, 1)) (hy : y ≠ 0) (hz : x - (x / y) * y = z) (hp : pc + 1 = pc') (K : own_G p e below s n0 kc ks Q T (mkF m pc' Ls (.long z :: st))) : own_G p e below s n0 kc ks Q T (mkF m pc Ls (.long y :: .long x :: st)) := by
  obtain ⟨_, X, -, -⟩ := S
  subst hp hz
  exact own_st (T' := T) (g' := mkF m _ Ls (.long _ :: st)) (fun t ht => XS.lrem X.here A.1 rfl (hb A.2.1 hd) rfl hy ht) K
theorem s_lshl (pc' : Nat) {x : Int64} {y : Int32} {z : Int64} (A : own_A p l e R s m args below meth c Z own name bytes maxL ret) (S : own_S p l e R s m args below meth c n0 T h k n) (hd : decode bytes pc = .ok (.lshl, 1)) (hz : x <<< (y &&& 63).toInt64 = z) (hp : pc + 1 = pc') (K : own_G p e below s n0 kc ks Q T (mkF m pc' Ls (.long z :: st))) : own_G p e below s n0 kc ks Q T (mkF m pc Ls (.int y :: .long x :: st)) := by
  obtain ⟨_, X, -, -⟩ := S
  subst hp hz
  exact own_st (T' := T) (g' := mkF m _ Ls (.long _ :: st)) (fun t ht => XS.lshl X.here A.1 rfl (hb A.2.1 hd) rfl  ht) K
theorem s_lshr (pc' : Nat) {x : Int64} {y : Int32} {z : Int64} (A : own_A p l e R s m args below meth c Z own name bytes maxL ret) (S : own_S p l e R s m args below meth c n0 T h k n) (hd : decode bytes pc = .ok (.lshr, 1)) (hz : x >>> (y &&& 63).toInt64 = z) (hp : pc + 1 = pc') (K : own_G p e below s n0 kc ks Q T (mkF m pc' Ls (.long z :: st))) : own_G p e below s n0 kc ks Q T (mkF m pc Ls (.int y :: .long x :: st)) := by
  obtain ⟨_, X, -, -⟩ := S
  subst hp hz
  exact own_st (T' := T) (g' := mkF m _ Ls (.long _ :: st)) (fun t ht => XS.lshr X.here A.1 rfl (hb A.2.1 hd) rfl  ht) K
theorem s_lushr (pc' : Nat) {x : Int64} {y : Int32} {z : Int64} (A : own_A p l e R s m args below meth c Z own name bytes maxL ret) (S : own_S p l e R s m args below meth c n0 T h k n) (hd : decode bytes pc = .ok (.lushr, 1)) (hz : own_ushrL x y = z) (hp : pc + 1 = pc') (K : own_G p e below s n0 kc ks Q T (mkF m pc' Ls (.long z :: st))) : own_G p e below s n0 kc ks Q T (mkF m pc Ls (.int y :: .long x :: st)) := by
  obtain ⟨_, X, -, -⟩ := S
  subst hp hz
  exact own_st (T' := T) (g' := mkF m _ Ls (.long _ :: st)) (fun t ht => XS.lushr X.here A.1 rfl (hb A.2.1 hd) rfl  ht) K
theorem s_ineg (pc' : Nat) {x : Int32} {z : Int32} (A : own_A p l e R s m args below meth c Z own name bytes maxL ret) (S : own_S p l e R s m args below meth c n0 T h k n) (hd : decode bytes pc = .ok (.ineg, 1)) (hz : -x = z) (hp : pc + 1 = pc') (K : own_G p e below s n0 kc ks Q T (mkF m pc' Ls (.int z :: st))) : own_G p e below s n0 kc ks Q T (mkF m pc Ls (.int x :: st)) := by
  obtain ⟨_, X, -, -⟩ := S
  subst hp hz
  exact own_st (T' := T) (g' := mkF m _ Ls (.int _ :: st)) (fun t ht => XS.ineg X.here A.1 rfl (hb A.2.1 hd) rfl  ht) K
theorem s_lneg (pc' : Nat) {x : Int64} {z : Int64} (A : own_A p l e R s m args below meth c Z own name bytes maxL ret) (S : own_S p l e R s m args below meth c n0 T h k n) (hd : decode bytes pc = .ok (.lneg, 1)) (hz : -x = z) (hp : pc + 1 = pc') (K : own_G p e below s n0 kc ks Q T (mkF m pc' Ls (.long z :: st))) : own_G p e below s n0 kc ks Q T (mkF m pc Ls (.long x :: st)) := by
  obtain ⟨_, X, -, -⟩ := S
  subst hp hz
  exact own_st (T' := T) (g' := mkF m _ Ls (.long _ :: st)) (fun t ht => XS.lneg X.here A.1 rfl (hb A.2.1 hd) rfl  ht) K
theorem s_i2l (pc' : Nat) {x : Int32} {z : Int64} (A : own_A p l e R s m args below meth c Z own name bytes maxL ret) (S : own_S p l e R s m args below meth c n0 T h k n) (hd : decode bytes pc = .ok (.i2l, 1)) (hz : x.toInt64 = z) (hp : pc + 1 = pc') (K : own_G p e below s n0 kc ks Q T (mkF m pc' Ls (.long z :: st))) : own_G p e below s n0 kc ks Q T (mkF m pc Ls (.int x :: st)) := by
  obtain ⟨_, X, -, -⟩ := S
  subst hp hz
  exact own_st (T' := T) (g' := mkF m _ Ls (.long _ :: st)) (fun t ht => XS.i2l X.here A.1 rfl (hb A.2.1 hd) rfl  ht) K
theorem s_l2i (pc' : Nat) {x : Int64} {z : Int32} (A : own_A p l e R s m args below meth c Z own name bytes maxL ret) (S : own_S p l e R s m args below meth c n0 T h k n) (hd : decode bytes pc = .ok (.l2i, 1)) (hz : x.toInt32 = z) (hp : pc + 1 = pc') (K : own_G p e below s n0 kc ks Q T (mkF m pc' Ls (.int z :: st))) : own_G p e below s n0 kc ks Q T (mkF m pc Ls (.long x :: st)) := by
  obtain ⟨_, X, -, -⟩ := S
  subst hp hz
  exact own_st (T' := T) (g' := mkF m _ Ls (.int _ :: st)) (fun t ht => XS.l2i X.here A.1 rfl (hb A.2.1 hd) rfl  ht) K
theorem s_i2b (pc' : Nat) {x : Int32} {z : Int32} (A : own_A p l e R s m args below meth c Z own name bytes maxL ret) (S : own_S p l e R s m args below meth c n0 T h k n) (hd : decode bytes pc = .ok (.i2b, 1)) (hz : x.toInt8.toInt32 = z) (hp : pc + 1 = pc') (K : own_G p e below s n0 kc ks Q T (mkF m pc' Ls (.int z :: st))) : own_G p e below s n0 kc ks Q T (mkF m pc Ls (.int x :: st)) := by
  obtain ⟨_, X, -, -⟩ := S
  subst hp hz
  exact own_st (T' := T) (g' := mkF m _ Ls (.int _ :: st)) (fun t ht => XS.i2b X.here A.1 rfl (hb A.2.1 hd) rfl  ht) K
theorem s_i2c (pc' : Nat) {x : Int32} {z : Int32} (A : own_A p l e R s m args below meth c Z own name bytes maxL ret) (S : own_S p l e R s m args below meth c n0 T h k n) (hd : decode bytes pc = .ok (.i2c, 1)) (hz : x.toUInt32.toUInt16.toUInt32.toInt32 = z) (hp : pc + 1 = pc') (K : own_G p e below s n0 kc ks Q T (mkF m pc' Ls (.int z :: st))) : own_G p e below s n0 kc ks Q T (mkF m pc Ls (.int x :: st)) := by
  obtain ⟨_, X, -, -⟩ := S
  subst hp hz
  exact own_st (T' := T) (g' := mkF m _ Ls (.int _ :: st)) (fun t ht => XS.i2c X.here A.1 rfl (hb A.2.1 hd) rfl  ht) K
theorem s_i2s (pc' : Nat) {x : Int32} {z : Int32} (A : own_A p l e R s m args below meth c Z own name bytes maxL ret) (S : own_S p l e R s m args below meth c n0 T h k n) (hd : decode bytes pc = .ok (.i2s, 1)) (hz : x.toInt16.toInt32 = z) (hp : pc + 1 = pc') (K : own_G p e below s n0 kc ks Q T (mkF m pc' Ls (.int z :: st))) : own_G p e below s n0 kc ks Q T (mkF m pc Ls (.int x :: st)) := by
  obtain ⟨_, X, -, -⟩ := S
  subst hp hz
  exact own_st (T' := T) (g' := mkF m _ Ls (.int _ :: st)) (fun t ht => XS.i2s X.here A.1 rfl (hb A.2.1 hd) rfl  ht) K
theorem s_lcmp (pc' : Nat) {x y : Int64} {z : Int32} (A : own_A p l e R s m args below meth c Z own name bytes maxL ret) (S : own_S p l e R s m args below meth c n0 T h k n) (hd : decode bytes pc = .ok (.lcmp, 1)) (hz : lcmpW x y = z) (hp : pc + 1 = pc') (K : own_G p e below s n0 kc ks Q T (mkF m pc' Ls (.int z :: st))) : own_G p e below s n0 kc ks Q T (mkF m pc Ls (.long y :: .long x :: st)) := by
  obtain ⟨_, X, -, -⟩ := S
  subst hp hz
  exact own_st (T' := T) (g' := mkF m _ Ls (.int _ :: st)) (fun t ht => XS.lcmp X.here A.1 rfl (hb A.2.1 hd) rfl  ht) K
theorem s_dup (pc' : Nat) {v : Value} (A : own_A p l e R s m args below meth c Z own name bytes maxL ret) (S : own_S p l e R s m args below meth c n0 T h k n) (hd : decode bytes pc = .ok (.dup, 1)) (hv : v.category = 1) (hp : pc + 1 = pc') (K : own_G p e below s n0 kc ks Q T (mkF m pc' Ls (v :: v :: st))) : own_G p e below s n0 kc ks Q T (mkF m pc Ls (v :: st)) := by
  obtain ⟨_, X, -, -⟩ := S
  subst hp
  exact own_st (T' := T) (g' := mkF m _ Ls (v :: v :: st)) (fun t ht => XS.dup X.here A.1 rfl (hb A.2.1 hd) rfl hv ht) K
theorem s_dup2 (pc' : Nat) {v w : Value} (A : own_A p l e R s m args below meth c Z own name bytes maxL ret) (S : own_S p l e R s m args below meth c n0 T h k n) (hd : decode bytes pc = .ok (.dup2, 1)) (hv : v.category = 1) (hv' : w.category = 1) (hp : pc + 1 = pc') (K : own_G p e below s n0 kc ks Q T (mkF m pc' Ls (v :: w :: v :: w :: st))) : own_G p e below s n0 kc ks Q T (mkF m pc Ls (v :: w :: st)) := by
  obtain ⟨_, X, -, -⟩ := S
  subst hp
  exact own_st (T' := T) (g' := mkF m _ Ls (v :: w :: v :: w :: st)) (fun t ht => Jvm.Free.XT.dup2 X.here A.1 rfl (hb A.2.1 hd) rfl hv hv' ht) K
theorem s_dup2L (pc' : Nat) {v : Int64} (A : own_A p l e R s m args below meth c Z own name bytes maxL ret) (S : own_S p l e R s m args below meth c n0 T h k n) (hd : decode bytes pc = .ok (.dup2, 1)) (hp : pc + 1 = pc') (K : own_G p e below s n0 kc ks Q T (mkF m pc' Ls (.long v :: .long v :: st))) : own_G p e below s n0 kc ks Q T (mkF m pc Ls (.long v :: st)) := by
  obtain ⟨_, X, -, -⟩ := S
  subst hp
  exact own_st (T' := T) (g' := mkF m _ Ls (.long v :: .long v :: st)) (fun t ht => Jvm.Free.XT.dup2L X.here A.1 rfl (hb A.2.1 hd) rfl ht) K
theorem s_dupX1 (pc' : Nat) {v w : Value} (A : own_A p l e R s m args below meth c Z own name bytes maxL ret) (S : own_S p l e R s m args below meth c n0 T h k n) (hd : decode bytes pc = .ok (.dup_x1, 1)) (hv : v.category = 1) (hv' : w.category = 1) (hp : pc + 1 = pc') (K : own_G p e below s n0 kc ks Q T (mkF m pc' Ls (v :: w :: v :: st))) : own_G p e below s n0 kc ks Q T (mkF m pc Ls (v :: w :: st)) := by
  obtain ⟨_, X, -, -⟩ := S
  subst hp
  exact own_st (T' := T) (g' := mkF m _ Ls (v :: w :: v :: st)) (fun t ht => XS.dupX1 X.here A.1 rfl (hb A.2.1 hd) rfl hv hv' ht) K
theorem s_pop (pc' : Nat) {v : Value} (A : own_A p l e R s m args below meth c Z own name bytes maxL ret) (S : own_S p l e R s m args below meth c n0 T h k n) (hd : decode bytes pc = .ok (.pop, 1)) (hv : v.category = 1) (hp : pc + 1 = pc') (K : own_G p e below s n0 kc ks Q T (mkF m pc' Ls st)) : own_G p e below s n0 kc ks Q T (mkF m pc Ls (v :: st)) := by
  obtain ⟨_, X, -, -⟩ := S
  subst hp
  exact own_st (T' := T) (g' := mkF m _ Ls st) (fun t ht => XS.pop X.here A.1 rfl (hb A.2.1 hd) rfl hv ht) K
theorem s_iinc (pc' : Nat) {i : Nat} {cst : Int} {x z : Int32} (A : own_A p l e R s m args below meth c Z own name bytes maxL ret) (S : own_S p l e R s m args below meth c n0 T h k n) (hd : decode bytes pc = .ok (.iinc i cst, 3)) (hl : Ls[i]? = some (.val (.int x))) (hz : x + Int32.ofInt cst = z) (hl' : storeLocals Ls i (.int z) = some Ls') (hp : pc + 3 = pc') (K : own_G p e below s n0 kc ks Q T (mkF m pc' Ls' st)) : own_G p e below s n0 kc ks Q T (mkF m pc Ls st) := by
  obtain ⟨_, X, -, -⟩ := S
  subst hp hz
  exact own_st (T' := T) (g' := mkF m _ Ls' st) (fun t ht => XS.iinc X.here A.1 rfl (hb A.2.1 hd) hl hl' ht) K
theorem s_goto (pc' : Nat) {o : Int} (A : own_A p l e R s m args below meth c Z own name bytes maxL ret) (S : own_S p l e R s m args below meth c n0 T h k n) (hd : decode bytes pc = .ok (.goto o, 3)) (ho : 0 ≤ (pc : Int) + o) (hp : ((pc : Int) + o).toNat = pc') (K : own_G p e below s n0 kc ks Q T (mkF m pc' Ls st)) : own_G p e below s n0 kc ks Q T (mkF m pc Ls st) := by
  obtain ⟨_, X, -, -⟩ := S
  exact own_st (T' := T) (g' := mkF m pc' Ls st) (fun t ht => XS.goto X.here A.1 rfl (pc0 := pc) (pc' := pc') rfl (hb A.2.1 hd) ho hp ht) K
theorem s_icmp (pcY pcN : Nat) {cd : ClassFile.Cond} {o : Int} {x y : Int32} (A : own_A p l e R s m args below meth c Z own name bytes maxL ret) (S : own_S p l e R s m args below meth c n0 T h k n) (hd : decode bytes pc = .ok (.if_icmp cd o, 3)) (ho : 0 ≤ (pc : Int) + o) (hp : ((pc : Int) + o).toNat = pcY) (hn : pc + 3 = pcN) (KY : if_icmp.holds cd x y = true → own_G p e below s n0 kc ks Q T (mkF m pcY Ls st)) (KN : if_icmp.holds cd x y = false → own_G p e below s n0 kc ks Q T (mkF m pcN Ls st)) : own_G p e below s n0 kc ks Q T (mkF m pc Ls (.int y :: .int x :: st)) := by
  obtain ⟨_, X, -, -⟩ := S
  subst hn
  rcases Bool.eq_false_or_eq_true (if_icmp.holds cd x y) with hc | hc
  · exact own_st (T' := T) (g' := mkF m pcY Ls st) (fun t ht => XS.icmpYes X.here A.1 rfl (pc0 := pc) (pc' := pcY) rfl (hb A.2.1 hd) rfl hc ho hp ht) (KY hc)
  · exact own_st (T' := T) (g' := mkF m _ Ls st) (fun t ht => XS.icmpNo X.here A.1 rfl (hb A.2.1 hd) rfl hc ht) (KN hc)
theorem s_ifc (pcY pcN : Nat) {cd : ClassFile.Cond} {o : Int} {x : Int32} (A : own_A p l e R s m args below meth c Z own name bytes maxL ret) (S : own_S p l e R s m args below meth c n0 T h k n) (hd : decode bytes pc = .ok (.ifCond cd o, 3)) (ho : 0 ≤ (pc : Int) + o) (hp : ((pc : Int) + o).toNat = pcY) (hn : pc + 3 = pcN) (KY : ifCond.holds cd x = true → own_G p e below s n0 kc ks Q T (mkF m pcY Ls st)) (KN : ifCond.holds cd x = false → own_G p e below s n0 kc ks Q T (mkF m pcN Ls st)) : own_G p e below s n0 kc ks Q T (mkF m pc Ls (.int x :: st)) := by
  obtain ⟨_, X, -, -⟩ := S
  subst hn
  rcases Bool.eq_false_or_eq_true (ifCond.holds cd x) with hc | hc
  · exact own_st (T' := T) (g' := mkF m pcY Ls st) (fun t ht => XS.ifYes X.here A.1 rfl (pc0 := pc) (pc' := pcY) rfl (hb A.2.1 hd) rfl hc ho hp ht) (KY hc)
  · exact own_st (T' := T) (g' := mkF m _ Ls st) (fun t ht => XS.ifNo X.here A.1 rfl (hb A.2.1 hd) rfl hc ht) (KN hc)
theorem own_eqY {x y : Int32} : if_icmp.holds .eq x y = true → x = y := by simp [if_icmp.holds]
theorem own_eqN {x y : Int32} : if_icmp.holds .eq x y = false → ¬ x = y := by simp [if_icmp.holds]
theorem own_neY {x y : Int32} : if_icmp.holds .ne x y = true → ¬ x = y := by simp [if_icmp.holds]
theorem own_neN {x y : Int32} : if_icmp.holds .ne x y = false → x = y := by simp [if_icmp.holds]
theorem own_ltY {x y : Int32} : if_icmp.holds .lt x y = true → x.toInt < y.toInt := by simp [if_icmp.holds, Int32.lt_iff_toInt_lt]
theorem own_ltN {x y : Int32} : if_icmp.holds .lt x y = false → y.toInt ≤ x.toInt := by simp [if_icmp.holds, Int32.le_iff_toInt_le]
theorem own_geY {x y : Int32} : if_icmp.holds .ge x y = true → y.toInt ≤ x.toInt := by simp [if_icmp.holds, Int32.le_iff_toInt_le]
theorem own_geN {x y : Int32} : if_icmp.holds .ge x y = false → x.toInt < y.toInt := by simp [if_icmp.holds, Int32.lt_iff_toInt_lt]
theorem own_gtY {x y : Int32} : if_icmp.holds .gt x y = true → y.toInt < x.toInt := by simp [if_icmp.holds, Int32.lt_iff_toInt_lt]
theorem own_gtN {x y : Int32} : if_icmp.holds .gt x y = false → x.toInt ≤ y.toInt := by simp [if_icmp.holds, Int32.le_iff_toInt_le]
theorem own_leY {x y : Int32} : if_icmp.holds .le x y = true → x.toInt ≤ y.toInt := by simp [if_icmp.holds, Int32.le_iff_toInt_le]
theorem own_leN {x y : Int32} : if_icmp.holds .le x y = false → y.toInt < x.toInt := by simp [if_icmp.holds, Int32.lt_iff_toInt_lt]
theorem own_lcmp_lt (x y : Int64) : lcmpW x y < 0 ↔ x.toInt < y.toInt := by rw [lw_lt, Int64.lt_iff_toInt_lt]
theorem own_lcmp_gt (x y : Int64) : 0 < lcmpW x y ↔ y.toInt < x.toInt := by rw [lw_gt, Int64.lt_iff_toInt_lt]
theorem own_lcmp_eq (x y : Int64) : lcmpW x y = 0 ↔ x = y := by rw [lw_eq]
theorem s_ieq (pcY pcN : Nat) {o : Int} {x y : Int32} {xi yi : Int} (A : own_A p l e R s m args below meth c Z own name bytes maxL ret) (S : own_S p l e R s m args below meth c n0 T h k n) (hxi : x.toInt = xi) (hyi : y.toInt = yi) (hd : decode bytes pc = .ok (.if_icmp .eq o, 3)) (ho : 0 ≤ (pc : Int) + o) (hp : ((pc : Int) + o).toNat = pcY) (hn : pc + 3 = pcN) (KY : x = y → xi = yi → own_G p e below s n0 kc ks Q T (mkF m pcY Ls st)) (KN : ¬ x = y → xi ≠ yi → own_G p e below s n0 kc ks Q T (mkF m pcN Ls st)) : own_G p e below s n0 kc ks Q T (mkF m pc Ls (.int y :: .int x :: st)) :=
  s_icmp pcY pcN A S hd ho hp hn (fun q => by have q := own_eqY q; exact KY q (by subst hxi hyi; rw [q])) (fun q => by have q := own_eqN q; exact KN q (by subst hxi hyi; exact own_toInt q))
theorem s_ifeq (pcY pcN : Nat) {o : Int} {x : Int32} {xi : Int} (A : own_A p l e R s m args below meth c Z own name bytes maxL ret) (S : own_S p l e R s m args below meth c n0 T h k n) (hxi : x.toInt = xi) (hd : decode bytes pc = .ok (.ifCond .eq o, 3)) (ho : 0 ≤ (pc : Int) + o) (hp : ((pc : Int) + o).toNat = pcY) (hn : pc + 3 = pcN) (KY : x = 0 → xi = 0 → own_G p e below s n0 kc ks Q T (mkF m pcY Ls st)) (KN : ¬ x = 0 → xi ≠ 0 → own_G p e below s n0 kc ks Q T (mkF m pcN Ls st)) : own_G p e below s n0 kc ks Q T (mkF m pc Ls (.int x :: st)) :=
  s_ifc pcY pcN A S hd ho hp hn (fun q => by have q := own_eqY (y := 0) ((if0 _ _).symm.trans q); exact KY q (by subst hxi; rw [q]; rfl)) (fun q => by have q := own_eqN (y := 0) ((if0 _ _).symm.trans q); exact KN q (by subst hxi; exact own_toInt q))
theorem s_lifeq (pcY pcN pcM : Nat) {o : Int} {x y : Int64} {xi yi : Int} (A : own_A p l e R s m args below meth c Z own name bytes maxL ret) (S : own_S p l e R s m args below meth c n0 T h k n) (hxi : x.toInt = xi) (hyi : y.toInt = yi) (hd0 : decode bytes pc = .ok (.lcmp, 1)) (hm : pc + 1 = pcM) (hd : decode bytes pcM = .ok (.ifCond .eq o, 3)) (ho : 0 ≤ (pcM : Int) + o) (hp : ((pcM : Int) + o).toNat = pcY) (hn : pcM + 3 = pcN) (KY : x = y → xi = yi → own_G p e below s n0 kc ks Q T (mkF m pcY Ls st)) (KN : ¬ x = y → xi ≠ yi → own_G p e below s n0 kc ks Q T (mkF m pcN Ls st)) : own_G p e below s n0 kc ks Q T (mkF m pc Ls (.long y :: .long x :: st)) :=
  s_lcmp pcM A S hd0 rfl hm (s_ifeq pcY pcN A S rfl hd ho hp hn (fun q _ => by have q : x = y := (own_lcmp_eq x y).mp q; exact KY q (by subst hxi hyi; rw [q])) (fun q _ => by have q : ¬ x = y := fun w => q ((own_lcmp_eq x y).mpr w); exact KN q (by subst hxi hyi; exact own_toIntL q)))
theorem s_ine (pcY pcN : Nat) {o : Int} {x y : Int32} {xi yi : Int} (A : own_A p l e R s m args below meth c Z own name bytes maxL ret) (S : own_S p l e R s m args below meth c n0 T h k n) (hxi : x.toInt = xi) (hyi : y.toInt = yi) (hd : decode bytes pc = .ok (.if_icmp .ne o, 3)) (ho : 0 ≤ (pc : Int) + o) (hp : ((pc : Int) + o).toNat = pcY) (hn : pc + 3 = pcN) (KY : ¬ x = y → xi ≠ yi → own_G p e below s n0 kc ks Q T (mkF m pcY Ls st)) (KN : x = y → xi = yi → own_G p e below s n0 kc ks Q T (mkF m pcN Ls st)) : own_G p e below s n0 kc ks Q T (mkF m pc Ls (.int y :: .int x :: st)) :=
  s_icmp pcY pcN A S hd ho hp hn (fun q => by have q := own_neY q; exact KY q (by subst hxi hyi; exact own_toInt q)) (fun q => by have q := own_neN q; exact KN q (by subst hxi hyi; rw [q]))
theorem s_ifne (pcY pcN : Nat) {o : Int} {x : Int32} {xi : Int} (A : own_A p l e R s m args below meth c Z own name bytes maxL ret) (S : own_S p l e R s m args below meth c n0 T h k n) (hxi : x.toInt = xi) (hd : decode bytes pc = .ok (.ifCond .ne o, 3)) (ho : 0 ≤ (pc : Int) + o) (hp : ((pc : Int) + o).toNat = pcY) (hn : pc + 3 = pcN) (KY : ¬ x = 0 → xi ≠ 0 → own_G p e below s n0 kc ks Q T (mkF m pcY Ls st)) (KN : x = 0 → xi = 0 → own_G p e below s n0 kc ks Q T (mkF m pcN Ls st)) : own_G p e below s n0 kc ks Q T (mkF m pc Ls (.int x :: st)) :=
  s_ifc pcY pcN A S hd ho hp hn (fun q => by have q := own_neY (y := 0) ((if0 _ _).symm.trans q); exact KY q (by subst hxi; exact own_toInt q)) (fun q => by have q := own_neN (y := 0) ((if0 _ _).symm.trans q); exact KN q (by subst hxi; rw [q]; rfl))
theorem s_lifne (pcY pcN pcM : Nat) {o : Int} {x y : Int64} {xi yi : Int} (A : own_A p l e R s m args below meth c Z own name bytes maxL ret) (S : own_S p l e R s m args below meth c n0 T h k n) (hxi : x.toInt = xi) (hyi : y.toInt = yi) (hd0 : decode bytes pc = .ok (.lcmp, 1)) (hm : pc + 1 = pcM) (hd : decode bytes pcM = .ok (.ifCond .ne o, 3)) (ho : 0 ≤ (pcM : Int) + o) (hp : ((pcM : Int) + o).toNat = pcY) (hn : pcM + 3 = pcN) (KY : ¬ x = y → xi ≠ yi → own_G p e below s n0 kc ks Q T (mkF m pcY Ls st)) (KN : x = y → xi = yi → own_G p e below s n0 kc ks Q T (mkF m pcN Ls st)) : own_G p e below s n0 kc ks Q T (mkF m pc Ls (.long y :: .long x :: st)) :=
  s_lcmp pcM A S hd0 rfl hm (s_ifne pcY pcN A S rfl hd ho hp hn (fun q _ => by have q : ¬ x = y := fun w => q ((own_lcmp_eq x y).mpr w); exact KY q (by subst hxi hyi; exact own_toIntL q)) (fun q _ => by have q : x = y := (own_lcmp_eq x y).mp q; exact KN q (by subst hxi hyi; rw [q])))
theorem s_ilt (pcY pcN : Nat) {o : Int} {x y : Int32} {xi yi : Int} (A : own_A p l e R s m args below meth c Z own name bytes maxL ret) (S : own_S p l e R s m args below meth c n0 T h k n) (hxi : x.toInt = xi) (hyi : y.toInt = yi) (hd : decode bytes pc = .ok (.if_icmp .lt o, 3)) (ho : 0 ≤ (pc : Int) + o) (hp : ((pc : Int) + o).toNat = pcY) (hn : pc + 3 = pcN) (KY : xi < yi → own_G p e below s n0 kc ks Q T (mkF m pcY Ls st)) (KN : yi ≤ xi → own_G p e below s n0 kc ks Q T (mkF m pcN Ls st)) : own_G p e below s n0 kc ks Q T (mkF m pc Ls (.int y :: .int x :: st)) :=
  s_icmp pcY pcN A S hd ho hp hn (fun q => by have q := own_ltY q; exact KY (by subst hxi hyi; exact q)) (fun q => by have q := own_ltN q; exact KN (by subst hxi hyi; exact q))
theorem s_iflt (pcY pcN : Nat) {o : Int} {x : Int32} {xi : Int} (A : own_A p l e R s m args below meth c Z own name bytes maxL ret) (S : own_S p l e R s m args below meth c n0 T h k n) (hxi : x.toInt = xi) (hd : decode bytes pc = .ok (.ifCond .lt o, 3)) (ho : 0 ≤ (pc : Int) + o) (hp : ((pc : Int) + o).toNat = pcY) (hn : pc + 3 = pcN) (KY : xi < 0 → own_G p e below s n0 kc ks Q T (mkF m pcY Ls st)) (KN : 0 ≤ xi → own_G p e below s n0 kc ks Q T (mkF m pcN Ls st)) : own_G p e below s n0 kc ks Q T (mkF m pc Ls (.int x :: st)) :=
  s_ifc pcY pcN A S hd ho hp hn (fun q => by have q := own_ltY (y := 0) ((if0 _ _).symm.trans q); exact KY (by subst hxi; exact q)) (fun q => by have q := own_ltN (y := 0) ((if0 _ _).symm.trans q); exact KN (by subst hxi; exact q))
theorem s_liflt (pcY pcN pcM : Nat) {o : Int} {x y : Int64} {xi yi : Int} (A : own_A p l e R s m args below meth c Z own name bytes maxL ret) (S : own_S p l e R s m args below meth c n0 T h k n) (hxi : x.toInt = xi) (hyi : y.toInt = yi) (hd0 : decode bytes pc = .ok (.lcmp, 1)) (hm : pc + 1 = pcM) (hd : decode bytes pcM = .ok (.ifCond .lt o, 3)) (ho : 0 ≤ (pcM : Int) + o) (hp : ((pcM : Int) + o).toNat = pcY) (hn : pcM + 3 = pcN) (KY : xi < yi → own_G p e below s n0 kc ks Q T (mkF m pcY Ls st)) (KN : yi ≤ xi → own_G p e below s n0 kc ks Q T (mkF m pcN Ls st)) : own_G p e below s n0 kc ks Q T (mkF m pc Ls (.long y :: .long x :: st)) :=
  s_lcmp pcM A S hd0 rfl hm (s_iflt pcY pcN A S rfl hd ho hp hn (fun q => by have q : x.toInt < y.toInt := (own_lcmp_lt x y).mp (Int32.lt_iff_toInt_lt.mpr q); exact KY (by subst hxi hyi; exact q)) (fun q => by have q : y.toInt ≤ x.toInt := Int.not_lt.mp fun w => Int.not_lt.mpr q (Int32.lt_iff_toInt_lt.mp ((own_lcmp_lt x y).mpr w)); exact KN (by subst hxi hyi; exact q)))
theorem s_ige (pcY pcN : Nat) {o : Int} {x y : Int32} {xi yi : Int} (A : own_A p l e R s m args below meth c Z own name bytes maxL ret) (S : own_S p l e R s m args below meth c n0 T h k n) (hxi : x.toInt = xi) (hyi : y.toInt = yi) (hd : decode bytes pc = .ok (.if_icmp .ge o, 3)) (ho : 0 ≤ (pc : Int) + o) (hp : ((pc : Int) + o).toNat = pcY) (hn : pc + 3 = pcN) (KY : yi ≤ xi → own_G p e below s n0 kc ks Q T (mkF m pcY Ls st)) (KN : xi < yi → own_G p e below s n0 kc ks Q T (mkF m pcN Ls st)) : own_G p e below s n0 kc ks Q T (mkF m pc Ls (.int y :: .int x :: st)) :=
  s_icmp pcY pcN A S hd ho hp hn (fun q => by have q := own_geY q; exact KY (by subst hxi hyi; exact q)) (fun q => by have q := own_geN q; exact KN (by subst hxi hyi; exact q))
theorem s_ifge (pcY pcN : Nat) {o : Int} {x : Int32} {xi : Int} (A : own_A p l e R s m args below meth c Z own name bytes maxL ret) (S : own_S p l e R s m args below meth c n0 T h k n) (hxi : x.toInt = xi) (hd : decode bytes pc = .ok (.ifCond .ge o, 3)) (ho : 0 ≤ (pc : Int) + o) (hp : ((pc : Int) + o).toNat = pcY) (hn : pc + 3 = pcN) (KY : 0 ≤ xi → own_G p e below s n0 kc ks Q T (mkF m pcY Ls st)) (KN : xi < 0 → own_G p e below s n0 kc ks Q T (mkF m pcN Ls st)) : own_G p e below s n0 kc ks Q T (mkF m pc Ls (.int x :: st)) :=
  s_ifc pcY pcN A S hd ho hp hn (fun q => by have q := own_geY (y := 0) ((if0 _ _).symm.trans q); exact KY (by subst hxi; exact q)) (fun q => by have q := own_geN (y := 0) ((if0 _ _).symm.trans q); exact KN (by subst hxi; exact q))
theorem s_lifge (pcY pcN pcM : Nat) {o : Int} {x y : Int64} {xi yi : Int} (A : own_A p l e R s m args below meth c Z own name bytes maxL ret) (S : own_S p l e R s m args below meth c n0 T h k n) (hxi : x.toInt = xi) (hyi : y.toInt = yi) (hd0 : decode bytes pc = .ok (.lcmp, 1)) (hm : pc + 1 = pcM) (hd : decode bytes pcM = .ok (.ifCond .ge o, 3)) (ho : 0 ≤ (pcM : Int) + o) (hp : ((pcM : Int) + o).toNat = pcY) (hn : pcM + 3 = pcN) (KY : yi ≤ xi → own_G p e below s n0 kc ks Q T (mkF m pcY Ls st)) (KN : xi < yi → own_G p e below s n0 kc ks Q T (mkF m pcN Ls st)) : own_G p e below s n0 kc ks Q T (mkF m pc Ls (.long y :: .long x :: st)) :=
  s_lcmp pcM A S hd0 rfl hm (s_ifge pcY pcN A S rfl hd ho hp hn (fun q => by have q : y.toInt ≤ x.toInt := Int.not_lt.mp fun w => Int.not_lt.mpr q (Int32.lt_iff_toInt_lt.mp ((own_lcmp_lt x y).mpr w)); exact KY (by subst hxi hyi; exact q)) (fun q => by have q : x.toInt < y.toInt := (own_lcmp_lt x y).mp (Int32.lt_iff_toInt_lt.mpr q); exact KN (by subst hxi hyi; exact q)))
theorem s_igt (pcY pcN : Nat) {o : Int} {x y : Int32} {xi yi : Int} (A : own_A p l e R s m args below meth c Z own name bytes maxL ret) (S : own_S p l e R s m args below meth c n0 T h k n) (hxi : x.toInt = xi) (hyi : y.toInt = yi) (hd : decode bytes pc = .ok (.if_icmp .gt o, 3)) (ho : 0 ≤ (pc : Int) + o) (hp : ((pc : Int) + o).toNat = pcY) (hn : pc + 3 = pcN) (KY : yi < xi → own_G p e below s n0 kc ks Q T (mkF m pcY Ls st)) (KN : xi ≤ yi → own_G p e below s n0 kc ks Q T (mkF m pcN Ls st)) : own_G p e below s n0 kc ks Q T (mkF m pc Ls (.int y :: .int x :: st)) :=
  s_icmp pcY pcN A S hd ho hp hn (fun q => by have q := own_gtY q; exact KY (by subst hxi hyi; exact q)) (fun q => by have q := own_gtN q; exact KN (by subst hxi hyi; exact q))
theorem s_ifgt (pcY pcN : Nat) {o : Int} {x : Int32} {xi : Int} (A : own_A p l e R s m args below meth c Z own name bytes maxL ret) (S : own_S p l e R s m args below meth c n0 T h k n) (hxi : x.toInt = xi) (hd : decode bytes pc = .ok (.ifCond .gt o, 3)) (ho : 0 ≤ (pc : Int) + o) (hp : ((pc : Int) + o).toNat = pcY) (hn : pc + 3 = pcN) (KY : 0 < xi → own_G p e below s n0 kc ks Q T (mkF m pcY Ls st)) (KN : xi ≤ 0 → own_G p e below s n0 kc ks Q T (mkF m pcN Ls st)) : own_G p e below s n0 kc ks Q T (mkF m pc Ls (.int x :: st)) :=
  s_ifc pcY pcN A S hd ho hp hn (fun q => by have q := own_gtY (y := 0) ((if0 _ _).symm.trans q); exact KY (by subst hxi; exact q)) (fun q => by have q := own_gtN (y := 0) ((if0 _ _).symm.trans q); exact KN (by subst hxi; exact q))
theorem s_lifgt (pcY pcN pcM : Nat) {o : Int} {x y : Int64} {xi yi : Int} (A : own_A p l e R s m args below meth c Z own name bytes maxL ret) (S : own_S p l e R s m args below meth c n0 T h k n) (hxi : x.toInt = xi) (hyi : y.toInt = yi) (hd0 : decode bytes pc = .ok (.lcmp, 1)) (hm : pc + 1 = pcM) (hd : decode bytes pcM = .ok (.ifCond .gt o, 3)) (ho : 0 ≤ (pcM : Int) + o) (hp : ((pcM : Int) + o).toNat = pcY) (hn : pcM + 3 = pcN) (KY : yi < xi → own_G p e below s n0 kc ks Q T (mkF m pcY Ls st)) (KN : xi ≤ yi → own_G p e below s n0 kc ks Q T (mkF m pcN Ls st)) : own_G p e below s n0 kc ks Q T (mkF m pc Ls (.long y :: .long x :: st)) :=
  s_lcmp pcM A S hd0 rfl hm (s_ifgt pcY pcN A S rfl hd ho hp hn (fun q => by have q : y.toInt < x.toInt := (own_lcmp_gt x y).mp (Int32.lt_iff_toInt_lt.mpr q); exact KY (by subst hxi hyi; exact q)) (fun q => by have q : x.toInt ≤ y.toInt := Int.not_lt.mp fun w => Int.not_lt.mpr q (Int32.lt_iff_toInt_lt.mp ((own_lcmp_gt x y).mpr w)); exact KN (by subst hxi hyi; exact q)))
theorem s_ile (pcY pcN : Nat) {o : Int} {x y : Int32} {xi yi : Int} (A : own_A p l e R s m args below meth c Z own name bytes maxL ret) (S : own_S p l e R s m args below meth c n0 T h k n) (hxi : x.toInt = xi) (hyi : y.toInt = yi) (hd : decode bytes pc = .ok (.if_icmp .le o, 3)) (ho : 0 ≤ (pc : Int) + o) (hp : ((pc : Int) + o).toNat = pcY) (hn : pc + 3 = pcN) (KY : xi ≤ yi → own_G p e below s n0 kc ks Q T (mkF m pcY Ls st)) (KN : yi < xi → own_G p e below s n0 kc ks Q T (mkF m pcN Ls st)) : own_G p e below s n0 kc ks Q T (mkF m pc Ls (.int y :: .int x :: st)) :=
  s_icmp pcY pcN A S hd ho hp hn (fun q => by have q := own_leY q; exact KY (by subst hxi hyi; exact q)) (fun q => by have q := own_leN q; exact KN (by subst hxi hyi; exact q))
theorem s_ifle (pcY pcN : Nat) {o : Int} {x : Int32} {xi : Int} (A : own_A p l e R s m args below meth c Z own name bytes maxL ret) (S : own_S p l e R s m args below meth c n0 T h k n) (hxi : x.toInt = xi) (hd : decode bytes pc = .ok (.ifCond .le o, 3)) (ho : 0 ≤ (pc : Int) + o) (hp : ((pc : Int) + o).toNat = pcY) (hn : pc + 3 = pcN) (KY : xi ≤ 0 → own_G p e below s n0 kc ks Q T (mkF m pcY Ls st)) (KN : 0 < xi → own_G p e below s n0 kc ks Q T (mkF m pcN Ls st)) : own_G p e below s n0 kc ks Q T (mkF m pc Ls (.int x :: st)) :=
  s_ifc pcY pcN A S hd ho hp hn (fun q => by have q := own_leY (y := 0) ((if0 _ _).symm.trans q); exact KY (by subst hxi; exact q)) (fun q => by have q := own_leN (y := 0) ((if0 _ _).symm.trans q); exact KN (by subst hxi; exact q))
theorem s_lifle (pcY pcN pcM : Nat) {o : Int} {x y : Int64} {xi yi : Int} (A : own_A p l e R s m args below meth c Z own name bytes maxL ret) (S : own_S p l e R s m args below meth c n0 T h k n) (hxi : x.toInt = xi) (hyi : y.toInt = yi) (hd0 : decode bytes pc = .ok (.lcmp, 1)) (hm : pc + 1 = pcM) (hd : decode bytes pcM = .ok (.ifCond .le o, 3)) (ho : 0 ≤ (pcM : Int) + o) (hp : ((pcM : Int) + o).toNat = pcY) (hn : pcM + 3 = pcN) (KY : xi ≤ yi → own_G p e below s n0 kc ks Q T (mkF m pcY Ls st)) (KN : yi < xi → own_G p e below s n0 kc ks Q T (mkF m pcN Ls st)) : own_G p e below s n0 kc ks Q T (mkF m pc Ls (.long y :: .long x :: st)) :=
  s_lcmp pcM A S hd0 rfl hm (s_ifle pcY pcN A S rfl hd ho hp hn (fun q => by have q : x.toInt ≤ y.toInt := Int.not_lt.mp fun w => Int.not_lt.mpr q (Int32.lt_iff_toInt_lt.mp ((own_lcmp_gt x y).mpr w)); exact KY (by subst hxi hyi; exact q)) (fun q => by have q : y.toInt < x.toInt := (own_lcmp_gt x y).mp (Int32.lt_iff_toInt_lt.mpr q); exact KN (by subst hxi hyi; exact q)))
theorem s_aeq (pcY pcN : Nat) {o : Int} {v w : Value} (A : own_A p l e R s m args below meth c Z own name bytes maxL ret) (S : own_S p l e R s m args below meth c n0 T h k n) (hv : v.isRef = true) (hw' : w.isRef = true) (hd : decode bytes pc = .ok (.if_acmp .eq o, 3)) (ho : 0 ≤ (pc : Int) + o) (hp : ((pc : Int) + o).toNat = pcY) (hn : pc + 3 = pcN) (KY : v = w → own_G p e below s n0 kc ks Q T (mkF m pcY Ls st)) (KN : ¬ v = w → own_G p e below s n0 kc ks Q T (mkF m pcN Ls st)) : own_G p e below s n0 kc ks Q T (mkF m pc Ls (w :: v :: st)) := by
  obtain ⟨_, X, -, -⟩ := S
  subst hn
  by_cases q : v = w
  · exact own_st (T' := T) (g' := mkF m pcY Ls st) (fun t ht => RoadKit.acmp X A.1 rfl hv hw' (pc0 := pc) (same := true) rfl (hb A.2.1 hd) rfl (decide_eq_true q) ho hp.symm ht) (KY q)
  · exact own_st (T' := T) (g' := mkF m _ Ls st) (fun t ht => RoadKit.acmp X A.1 rfl hv hw' (pc0 := pc) (same := false) rfl (hb A.2.1 hd) rfl (decide_eq_false q) ho rfl ht) (KN q)
theorem s_ane (pcY pcN : Nat) {o : Int} {v w : Value} (A : own_A p l e R s m args below meth c Z own name bytes maxL ret) (S : own_S p l e R s m args below meth c n0 T h k n) (hv : v.isRef = true) (hw' : w.isRef = true) (hd : decode bytes pc = .ok (.if_acmp .ne o, 3)) (ho : 0 ≤ (pc : Int) + o) (hp : ((pc : Int) + o).toNat = pcY) (hn : pc + 3 = pcN) (KY : ¬ v = w → own_G p e below s n0 kc ks Q T (mkF m pcY Ls st)) (KN : v = w → own_G p e below s n0 kc ks Q T (mkF m pcN Ls st)) : own_G p e below s n0 kc ks Q T (mkF m pc Ls (w :: v :: st)) := by
  obtain ⟨_, X, -, -⟩ := S
  subst hn
  by_cases q : v = w
  · exact own_st (T' := T) (g' := mkF m _ Ls st) (fun t ht => RoadKit.acmp X A.1 rfl hv hw' (pc0 := pc) (same := true) rfl (hb A.2.1 hd) rfl (decide_eq_true q) ho rfl ht) (KN q)
  · exact own_st (T' := T) (g' := mkF m pcY Ls st) (fun t ht => RoadKit.acmp X A.1 rfl hv hw' (pc0 := pc) (same := false) rfl (hb A.2.1 hd) rfl (decide_eq_false q) ho hp.symm ht) (KY q)
theorem own_leave {v : Option Value} (A : own_A p l e R s m args below meth c Z own name bytes maxL ret) (S : own_S p l e R s m args below meth c n0 T h k n) (hv : meth.sig.returnType = none → v = none) (hk : k ≤ kc) (hn : n ≤ ks) (hq : Q v h)
    (go : ∀ (locs : List Loc) (X : Stand p l e R s m args below meth c T locs k n) (fs : List Frame), (∀ (f : JFrame) (acts : List Action), f.method = m → f.locked = none → f.entered = [] → (doReturn e (T.setTop f) acts v).1 = T.setFrames fs) → Steps p.tables e below (T.setTop g) (T.setFrames fs)) : own_G p e below s n0 kc ks Q T g := by
  obtain ⟨locs, X, hh, N⟩ := S
  obtain ⟨-, -, -, -, -, -, hlk, -⟩ := A
  obtain ⟨fs, hr, hrun, hended, hW, hsame⟩ := X.leave (v := v) hv hlk
  exact ⟨_, _, go locs X fs hr, hrun, hended, v, locs, rfl, ⟨by show Q v T.heap; rw [hh]; exact hq, N⟩, ⟨v, rfl⟩, hW, hsame.mono hk hn⟩
theorem s_ret (A : own_A p l e R s m args below meth c Z own name bytes maxL none) (S : own_S p l e R s m args below meth c n0 T h k n) (hd : decode bytes pc = .ok (.return_, 1)) (hk : k ≤ kc) (hn : n ≤ ks) (hq : Q none h) : own_G p e below s n0 kc ks Q T (mkF m pc Ls []) :=
  own_leave A S (fun _ => rfl) hk hn hq fun locs X fs hr => X.returnOut A.1 A.2.2.2.2.2.1 (hb A.2.1 hd) hr
theorem s_retV {w : Value} {t : FieldType} {i : Instr} (A : own_A p l e R s m args below meth c Z own name bytes maxL (some t)) (S : own_S p l e R s m args below meth c n0 T h k n) (hd : decode bytes pc = .ok (i, 1)) (hn' : narrow t w = w) (hi : (i = .ireturn ∧ (t = .int ∨ t = .boolean ∨ t = .byte ∨ t = .char ∨ t = .short) ∧ ∃ z, w = .int z) ∨ (i = .lreturn ∧ t = .long ∧ ∃ z, w = .long z) ∨ (i = .dreturn ∧ t = .double ∧ ∃ z, w = .double z) ∨ (i = .freturn ∧ t = .float ∧ ∃ z, w = .float z) ∨ (i = .areturn ∧ t.isReference = true ∧ w.isRef = true)) (hk : k ≤ kc) (hn : n ≤ ks) (hq : Q (some w) h) : own_G p e below s n0 kc ks Q T (mkF m pc Ls (w :: st)) :=
  own_leave A S (fun q => by rw [A.2.2.2.2.2.1] at q; cases q) hk hn hq fun locs X fs hr => retOut X A.1 A.2.2.2.2.2.1 hn' hi (hb A.2.1 hd) hr
theorem s_retI {z : Int32} (A : own_A p l e R s m args below meth c Z own name bytes maxL (some .int)) (S : own_S p l e R s m args below meth c n0 T h k n) (hd : decode bytes pc = .ok (.ireturn, 1)) (hk : k ≤ kc) (hn : n ≤ ks) (hq : Q (some (.int z)) h) : own_G p e below s n0 kc ks Q T (mkF m pc Ls (.int z :: st)) :=
  s_retV A S hd rfl (Or.inl ⟨rfl, Or.inl rfl, z, rfl⟩) hk hn hq
theorem s_retZ {z : Int32} (A : own_A p l e R s m args below meth c Z own name bytes maxL (some .boolean)) (S : own_S p l e R s m args below meth c n0 T h k n) (hd : decode bytes pc = .ok (.ireturn, 1)) (hz : narrow .boolean (.int z) = .int z) (hk : k ≤ kc) (hn : n ≤ ks) (hq : Q (some (.int z)) h) : own_G p e below s n0 kc ks Q T (mkF m pc Ls (.int z :: st)) :=
  s_retV A S hd hz (Or.inl ⟨rfl, Or.inr (Or.inl rfl), z, rfl⟩) hk hn hq
theorem s_retJ {z : Int64} (A : own_A p l e R s m args below meth c Z own name bytes maxL (some .long)) (S : own_S p l e R s m args below meth c n0 T h k n) (hd : decode bytes pc = .ok (.lreturn, 1)) (hk : k ≤ kc) (hn : n ≤ ks) (hq : Q (some (.long z)) h) : own_G p e below s n0 kc ks Q T (mkF m pc Ls (.long z :: st)) :=
  s_retV A S hd rfl (Or.inr (Or.inl ⟨rfl, rfl, z, rfl⟩)) hk hn hq
theorem s_retA {w : Value} {t : FieldType} (A : own_A p l e R s m args below meth c Z own name bytes maxL (some t)) (S : own_S p l e R s m args below meth c n0 T h k n) (hd : decode bytes pc = .ok (.areturn, 1)) (ht : t.isReference = true) (hn' : narrow t w = w) (hw' : w.isRef = true) (hk : k ≤ kc) (hn : n ≤ ks) (hq : Q (some w) h) : own_G p e below s n0 kc ks Q T (mkF m pc Ls (w :: st)) :=
  s_retV A S hd hn' (Or.inr (Or.inr (Or.inr (Or.inr ⟨rfl, ht, hw'⟩)))) hk hn hq
theorem s_callS (pc' : Nat) {y : MethodName} {index : Nat} {bytes' : ByteArray} {maxL' : Nat} {ret' : Option FieldType} {rm : Room} {argsL rest stk : List Value} {Q' : Option Value → Heap → Prop}
    (A : own_A p l e R s m args below meth c Z own name bytes maxL ret) (S : own_S p l e R s m args below meth c n0 T h k n)
    (w1 : (Jvm.Cond.methodLink own index y).before a0 Z = true) (w2 : (Jvm.Cond.static y).before a0 Z = true) (w3 : (Jvm.Cond.initialized y.cls).before a0 Z = true) (w4 : (Jvm.Cond.code y bytes' maxL' ret').before a0 Z = true)
    (C : own_C l Z y bytes' maxL' ret' rm n0 [] argsL.toArray h Q') (hlen : ∀ sig, parseMethodDescriptor y.desc = some sig → argsL.length = sig.parameters.length)
    (hd : decode bytes pc = .ok (.invokestatic index, 3)) (hst : stk = argsL.reverse ++ rest) (hp : pc + 3 = pc') (hsize : Ls.size = maxL) (hy : y.cls ≠ "java/lang/invoke/MethodHandle" ∧ y.cls ≠ "java/lang/invoke/VarHandle")
    (hf : rm.frames + 1 ≤ R.frames) (hl : (rest.map fun v => v.category).sum + (maxL' + 11) + rm.locals ≤ R.locals) (hc : k + rm.cells ≤ R.cells) (hs : n + rm.slots ≤ R.slots)
    (K : ∀ (T' : State) (h' : Heap) (v : Option Value), Q' v h' → own_S p l e R s m args below meth c n0 T' h' (k + rm.cells) (n + rm.slots) → own_G p e below s n0 kc ks Q T' (mkF m pc' Ls (v.toList ++ rest))) : own_G p e below s n0 kc ks Q T (mkF m pc Ls stk) := by
  obtain ⟨locs, X, eT, N⟩ := S
  obtain ⟨hx, hby, hml, hown, -, -, -, hZ⟩ := A
  subst hp
  obtain ⟨v, _, ⟨T1, L1, k1, n1⟩, -, X1, ⟨Lc, hQ1, l1, y1, z1⟩, st1⟩ := Jvm.LawKit.callS X hx (y := y) hown (mvT hZ w1) (mvT hZ w2) (mvT hZ w3) (mvT hZ w4) hy (backOf (W := (rest.map fun v => v.category).sum) (Q := fun v h L => Q' v h ∧ Fr n0 L) C hZ w4 w3 hf hl) (g := mkF m pc Ls stk) rfl (by rw [hml]; exact hsize) (argsL := argsL) (rest := rest) hlen hst (by show 2 * 0 + _ ≤ _; omega) (hb hby hd) (fun _ _ => ⟨rfl, eT, hc, hs⟩)
  dsimp only [Pt.U, Pt.locs, Pt.cells, Pt.slots] at X1 l1 y1 z1 st1 hQ1
  subst l1 y1 z1
  exact own_st (T' := T1) (g' := mkF m _ Ls (v.toList ++ rest)) st1 (K T1 T1.heap v hQ1.1 ⟨_, X1, rfl, Fr.app N hQ1.2⟩)
theorem s_callV (pc' : Nat) {y : MethodName} {index : Nat} {bytes' : ByteArray} {maxL' : Nat} {ret' : Option FieldType} {rm : Room} {argsL rest stk : List Value} {w : Value}
    (A : own_A p l e R s m args below meth c Z own name bytes maxL ret) (S : own_S p l e R s m args below meth c n0 T h k n)
    (w1 : (Jvm.Cond.methodLink own index y).before a0 Z = true) (w2 : (Jvm.Cond.static y).before a0 Z = true) (w3 : (Jvm.Cond.initialized y.cls).before a0 Z = true) (w4 : (Jvm.Cond.code y bytes' maxL' ret').before a0 Z = true)
    (C : own_C l Z y bytes' maxL' ret' rm n0 [] argsL.toArray h (fun v h' => v = some w ∧ h' = h)) (hlen : ∀ sig, parseMethodDescriptor y.desc = some sig → argsL.length = sig.parameters.length)
    (hd : decode bytes pc = .ok (.invokestatic index, 3)) (hst : stk = argsL.reverse ++ rest) (hp : pc + 3 = pc') (hsize : Ls.size = maxL) (hy : y.cls ≠ "java/lang/invoke/MethodHandle" ∧ y.cls ≠ "java/lang/invoke/VarHandle")
    (hf : rm.frames + 1 ≤ R.frames) (hl : (rest.map fun v => v.category).sum + (maxL' + 11) + rm.locals ≤ R.locals) (hc : k + rm.cells ≤ R.cells) (hs : n + rm.slots ≤ R.slots)
    (K : ∀ (T' : State), own_S p l e R s m args below meth c n0 T' h (k + rm.cells) (n + rm.slots) → own_G p e below s n0 kc ks Q T' (mkF m pc' Ls (w :: rest))) : own_G p e below s n0 kc ks Q T (mkF m pc Ls stk) :=
  s_callS pc' A S w1 w2 w3 w4 C hlen hd hst hp hsize hy hf hl hc hs (fun T' h' v q S' => by obtain ⟨rfl, rfl⟩ := q; exact K T' S')
theorem s_callN (pc' : Nat) {y : MethodName} {index : Nat} {bytes' : ByteArray} {maxL' : Nat} {ret' : Option FieldType} {rm : Room} {argsL rest stk : List Value}
    (A : own_A p l e R s m args below meth c Z own name bytes maxL ret) (S : own_S p l e R s m args below meth c n0 T h k n)
    (w1 : (Jvm.Cond.methodLink own index y).before a0 Z = true) (w2 : (Jvm.Cond.static y).before a0 Z = true) (w3 : (Jvm.Cond.initialized y.cls).before a0 Z = true) (w4 : (Jvm.Cond.code y bytes' maxL' ret').before a0 Z = true)
    (C : own_C l Z y bytes' maxL' ret' rm n0 [] argsL.toArray h (fun v h' => v = none ∧ h' = h)) (hlen : ∀ sig, parseMethodDescriptor y.desc = some sig → argsL.length = sig.parameters.length)
    (hd : decode bytes pc = .ok (.invokestatic index, 3)) (hst : stk = argsL.reverse ++ rest) (hp : pc + 3 = pc') (hsize : Ls.size = maxL) (hy : y.cls ≠ "java/lang/invoke/MethodHandle" ∧ y.cls ≠ "java/lang/invoke/VarHandle")
    (hf : rm.frames + 1 ≤ R.frames) (hl : (rest.map fun v => v.category).sum + (maxL' + 11) + rm.locals ≤ R.locals) (hc : k + rm.cells ≤ R.cells) (hs : n + rm.slots ≤ R.slots)
    (K : ∀ (T' : State), own_S p l e R s m args below meth c n0 T' h (k + rm.cells) (n + rm.slots) → own_G p e below s n0 kc ks Q T' (mkF m pc' Ls rest)) : own_G p e below s n0 kc ks Q T (mkF m pc Ls stk) :=
  s_callS pc' A S w1 w2 w3 w4 C hlen hd hst hp hsize hy hf hl hc hs (fun T' h' v q S' => by obtain ⟨rfl, rfl⟩ := q; exact K T' S')
theorem s_virt (pc' : Nat) {y z : MethodName} {CC : String} {index : Nat} {bytes' : ByteArray} {maxL' : Nat} {ret' : Option FieldType} {rm : Room} {argsL rest stk : List Value} {b : Addr} {Q' : Option Value → Heap → Prop}
    (A : own_A p l e R s m args below meth c Z own name bytes maxL ret) (S : own_S p l e R s m args below meth c n0 T h k n) (E : Exa Z h b CC)
    (w1 : (Jvm.Cond.methodLink own index y).before a0 Z = true) (w2 : (Jvm.Cond.declares y).before a0 Z = true) (nf : NotFace s y) (w5 : (Jvm.Cond.selects CC y z).before a0 Z = true) (w6 : (Jvm.Cond.instanceMethod z).before a0 Z = true) (w3 : (Jvm.Cond.initialized z.cls).before a0 Z = true) (w4 : (Jvm.Cond.code z bytes' maxL' ret').before a0 Z = true)
    (C : own_C l Z z bytes' maxL' ret' rm n0 [] (Value.ref b :: argsL).toArray h Q') (hlen : ∀ sig, parseMethodDescriptor y.desc = some sig → argsL.length = sig.parameters.length)
    (hd : decode bytes pc = .ok (.invokevirtual index, 3)) (hst : stk = argsL.reverse ++ Value.ref b :: rest) (hp : pc + 3 = pc') (hsize : Ls.size = maxL) (hy : y.cls ≠ "java/lang/invoke/MethodHandle" ∧ y.cls ≠ "java/lang/invoke/VarHandle")
    (hf : rm.frames + 1 ≤ R.frames) (hl : (rest.map fun v => v.category).sum + (maxL' + 11) + rm.locals ≤ R.locals) (hc : k + rm.cells ≤ R.cells) (hs : n + rm.slots ≤ R.slots)
    (K : ∀ (T' : State) (h' : Heap) (v : Option Value), Q' v h' → own_S p l e R s m args below meth c n0 T' h' (k + rm.cells) (n + rm.slots) → own_G p e below s n0 kc ks Q T' (mkF m pc' Ls (v.toList ++ rest))) : own_G p e below s n0 kc ks Q T (mkF m pc Ls stk) := by
  obtain ⟨locs, X, eT, N⟩ := S
  obtain ⟨hx, hby, hml, hown, -, -, -, hZ⟩ := A
  subst hp
  obtain ⟨cq, kq, qa, qb, qc⟩ := isOf hZ eT E
  obtain ⟨v, _, ⟨T1, L1, k1, n1⟩, -, X1, ⟨Lc, hQ1, l1, y1, z1⟩, st1⟩ := X.virtualBack hx (y := y) (z := z) hown (mvT hZ w1) (mvT hZ w2) nf (mvT hZ w5) (mvT hZ w6) hy (backOf (W := (rest.map fun v => v.category).sum) (Q := fun v h L => Q' v h ∧ Fr n0 L) C hZ w4 w3 hf hl) qa qc (g := mkF m pc Ls stk) rfl (by rw [hml]; exact hsize) (Steps.refl _) (argsL := argsL) (rest := rest) hlen hst (by show 2 * 0 + _ ≤ _; omega) (hb hby hd) (fun _ _ => ⟨rfl, eT, hc, hs⟩)
  dsimp only [Pt.U, Pt.locs, Pt.cells, Pt.slots] at X1 l1 y1 z1 st1 hQ1
  subst l1 y1 z1
  exact own_st (T' := T1) (g' := mkF m _ Ls (v.toList ++ rest)) (fun t => st1.trans) (K T1 T1.heap v hQ1.1 ⟨_, X1, rfl, Fr.app N hQ1.2⟩)
theorem s_virtV (pc' : Nat) {y z : MethodName} {CC : String} {index : Nat} {bytes' : ByteArray} {maxL' : Nat} {ret' : Option FieldType} {rm : Room} {argsL rest stk : List Value} {b : Addr} {w : Value}
    (A : own_A p l e R s m args below meth c Z own name bytes maxL ret) (S : own_S p l e R s m args below meth c n0 T h k n) (E : Exa Z h b CC)
    (w1 : (Jvm.Cond.methodLink own index y).before a0 Z = true) (w2 : (Jvm.Cond.declares y).before a0 Z = true) (nf : NotFace s y) (w5 : (Jvm.Cond.selects CC y z).before a0 Z = true) (w6 : (Jvm.Cond.instanceMethod z).before a0 Z = true) (w3 : (Jvm.Cond.initialized z.cls).before a0 Z = true) (w4 : (Jvm.Cond.code z bytes' maxL' ret').before a0 Z = true)
    (C : own_C l Z z bytes' maxL' ret' rm n0 [] (Value.ref b :: argsL).toArray h (fun v h' => v = some w ∧ h' = h)) (hlen : ∀ sig, parseMethodDescriptor y.desc = some sig → argsL.length = sig.parameters.length)
    (hd : decode bytes pc = .ok (.invokevirtual index, 3)) (hst : stk = argsL.reverse ++ Value.ref b :: rest) (hp : pc + 3 = pc') (hsize : Ls.size = maxL) (hy : y.cls ≠ "java/lang/invoke/MethodHandle" ∧ y.cls ≠ "java/lang/invoke/VarHandle")
    (hf : rm.frames + 1 ≤ R.frames) (hl : (rest.map fun v => v.category).sum + (maxL' + 11) + rm.locals ≤ R.locals) (hc : k + rm.cells ≤ R.cells) (hs : n + rm.slots ≤ R.slots)
    (K : ∀ (T' : State), own_S p l e R s m args below meth c n0 T' h (k + rm.cells) (n + rm.slots) → own_G p e below s n0 kc ks Q T' (mkF m pc' Ls (w :: rest))) : own_G p e below s n0 kc ks Q T (mkF m pc Ls stk) :=
  s_virt pc' A S E w1 w2 nf w5 w6 w3 w4 C hlen hd hst hp hsize hy hf hl hc hs (fun T' h' v q S' => by obtain ⟨rfl, rfl⟩ := q; exact K T' S')
theorem s_virtN (pc' : Nat) {y z : MethodName} {CC : String} {index : Nat} {bytes' : ByteArray} {maxL' : Nat} {ret' : Option FieldType} {rm : Room} {argsL rest stk : List Value} {b : Addr}
    (A : own_A p l e R s m args below meth c Z own name bytes maxL ret) (S : own_S p l e R s m args below meth c n0 T h k n) (E : Exa Z h b CC)
    (w1 : (Jvm.Cond.methodLink own index y).before a0 Z = true) (w2 : (Jvm.Cond.declares y).before a0 Z = true) (nf : NotFace s y) (w5 : (Jvm.Cond.selects CC y z).before a0 Z = true) (w6 : (Jvm.Cond.instanceMethod z).before a0 Z = true) (w3 : (Jvm.Cond.initialized z.cls).before a0 Z = true) (w4 : (Jvm.Cond.code z bytes' maxL' ret').before a0 Z = true)
    (C : own_C l Z z bytes' maxL' ret' rm n0 [] (Value.ref b :: argsL).toArray h (fun v h' => v = none ∧ h' = h)) (hlen : ∀ sig, parseMethodDescriptor y.desc = some sig → argsL.length = sig.parameters.length)
    (hd : decode bytes pc = .ok (.invokevirtual index, 3)) (hst : stk = argsL.reverse ++ Value.ref b :: rest) (hp : pc + 3 = pc') (hsize : Ls.size = maxL) (hy : y.cls ≠ "java/lang/invoke/MethodHandle" ∧ y.cls ≠ "java/lang/invoke/VarHandle")
    (hf : rm.frames + 1 ≤ R.frames) (hl : (rest.map fun v => v.category).sum + (maxL' + 11) + rm.locals ≤ R.locals) (hc : k + rm.cells ≤ R.cells) (hs : n + rm.slots ≤ R.slots)
    (K : ∀ (T' : State), own_S p l e R s m args below meth c n0 T' h (k + rm.cells) (n + rm.slots) → own_G p e below s n0 kc ks Q T' (mkF m pc' Ls rest)) : own_G p e below s n0 kc ks Q T (mkF m pc Ls stk) :=
  s_virt pc' A S E w1 w2 nf w5 w6 w3 w4 C hlen hd hst hp hsize hy hf hl hc hs (fun T' h' v q S' => by obtain ⟨rfl, rfl⟩ := q; exact K T' S')
theorem s_spec (pc' : Nat) {y : MethodName} {index : Nat} {bytes' : ByteArray} {maxL' : Nat} {rm : Room} {argsL rest stk : List Value} {b : Addr} {Q' : Option Value → Heap → Prop}
    (A : own_A p l e R s m args below meth c Z own name bytes maxL ret) (S : own_S p l e R s m args below meth c n0 T h k n)
    (w1 : (Jvm.Cond.methodLink own index y).before a0 Z = true) (w2 : (Jvm.Cond.instanceMethod y).before a0 Z = true) (w3 : (Jvm.Cond.initialized y.cls).before a0 Z = true) (w4 : (Jvm.Cond.code y bytes' maxL' none).before a0 Z = true)
    (C : own_C l Z y bytes' maxL' none rm n0 [] (Value.ref b :: argsL).toArray h Q') (hlen : ∀ sig, parseMethodDescriptor y.desc = some sig → argsL.length = sig.parameters.length)
    (hd : decode bytes pc = .ok (.invokespecial index, 3)) (hst : stk = argsL.reverse ++ Value.ref b :: rest) (hp : pc + 3 = pc') (hsize : Ls.size = maxL) (hy1 : y.name = "<init>") (hy : y.cls ≠ "java/lang/invoke/MethodHandle" ∧ y.cls ≠ "java/lang/invoke/VarHandle")
    (hf : rm.frames + 1 ≤ R.frames) (hl : (rest.map fun v => v.category).sum + (maxL' + 11) + rm.locals ≤ R.locals) (hc : k + rm.cells ≤ R.cells) (hs : n + rm.slots ≤ R.slots)
    (K : ∀ (T' : State) (h' : Heap) (v : Option Value), Q' v h' → own_S p l e R s m args below meth c n0 T' h' (k + rm.cells) (n + rm.slots) → own_G p e below s n0 kc ks Q T' (mkF m pc' Ls (v.toList ++ rest))) : own_G p e below s n0 kc ks Q T (mkF m pc Ls stk) := by
  obtain ⟨locs, X, eT, N⟩ := S
  obtain ⟨hx, hby, hml, hown, -, -, -, hZ⟩ := A
  subst hp
  obtain ⟨v, _, ⟨T1, L1, k1, n1⟩, -, X1, ⟨Lc, hQ1, l1, y1, z1⟩, st1⟩ := X.specialBack hx (y := y) hy1 hown (mvT hZ w1) (mvT hZ w2) (mvT hZ w4) hy (backOf (W := (rest.map fun v => v.category).sum) (Q := fun v h L => Q' v h ∧ Fr n0 L) C hZ w4 w3 hf hl) (g := mkF m pc Ls stk) rfl (by rw [hml]; exact hsize) (Steps.refl _) (a := b) (argsL := argsL) (rest := rest) hlen hst (by show 2 * 0 + _ ≤ _; omega) (hb hby hd) (fun _ _ => ⟨rfl, eT, hc, hs⟩)
  dsimp only [Pt.U, Pt.locs, Pt.cells, Pt.slots] at X1 l1 y1 z1 st1 hQ1
  subst l1 y1 z1
  exact own_st (T' := T1) (g' := mkF m _ Ls (v.toList ++ rest)) (fun t => st1.trans) (K T1 T1.heap v hQ1.1 ⟨_, X1, rfl, Fr.app N hQ1.2⟩)
theorem s_specN (pc' : Nat) {y : MethodName} {index : Nat} {bytes' : ByteArray} {maxL' : Nat} {rm : Room} {argsL rest stk : List Value} {b : Addr}
    (A : own_A p l e R s m args below meth c Z own name bytes maxL ret) (S : own_S p l e R s m args below meth c n0 T h k n)
    (w1 : (Jvm.Cond.methodLink own index y).before a0 Z = true) (w2 : (Jvm.Cond.instanceMethod y).before a0 Z = true) (w3 : (Jvm.Cond.initialized y.cls).before a0 Z = true) (w4 : (Jvm.Cond.code y bytes' maxL' none).before a0 Z = true)
    (C : own_C l Z y bytes' maxL' none rm n0 [] (Value.ref b :: argsL).toArray h (fun v h' => v = none ∧ h' = h)) (hlen : ∀ sig, parseMethodDescriptor y.desc = some sig → argsL.length = sig.parameters.length)
    (hd : decode bytes pc = .ok (.invokespecial index, 3)) (hst : stk = argsL.reverse ++ Value.ref b :: rest) (hp : pc + 3 = pc') (hsize : Ls.size = maxL) (hy1 : y.name = "<init>") (hy : y.cls ≠ "java/lang/invoke/MethodHandle" ∧ y.cls ≠ "java/lang/invoke/VarHandle")
    (hf : rm.frames + 1 ≤ R.frames) (hl : (rest.map fun v => v.category).sum + (maxL' + 11) + rm.locals ≤ R.locals) (hc : k + rm.cells ≤ R.cells) (hs : n + rm.slots ≤ R.slots)
    (K : ∀ (T' : State), own_S p l e R s m args below meth c n0 T' h (k + rm.cells) (n + rm.slots) → own_G p e below s n0 kc ks Q T' (mkF m pc' Ls rest)) : own_G p e below s n0 kc ks Q T (mkF m pc Ls stk) :=
  s_spec pc' A S w1 w2 w3 w4 C hlen hd hst hp hsize hy1 hy hf hl hc hs (fun T' h' v q S' => by obtain ⟨rfl, rfl⟩ := q; exact K T' S')
theorem s_getS (pc' : Nat) {O nm dd : String} {index : Nat} {v : Value} (A : own_A p l e R s m args below meth c Z own name bytes maxL ret) (S : own_S p l e R s m args below meth c n0 T h k n)
    (w : (Jvm.Cond.fieldLink own index O nm dd).before a0 Z = true) (F : Sta Z h O nm dd v) (hd : decode bytes pc = .ok (.getstatic index, 3)) (hp : pc + 3 = pc')
    (K : ∀ T', own_S p l e R s m args below meth c n0 T' h k n → own_G p e below s n0 kc ks Q T' (mkF m pc' Ls (v :: st))) : own_G p e below s n0 kc ks Q T (mkF m pc Ls st) := by
  obtain ⟨locs, X, eT, N⟩ := S
  obtain ⟨hx, hby, hml, hown, -, -, -, hZ⟩ := A
  subst hp
  obtain ⟨T1, X1, e1, st1⟩ := getS (host := "") X hx hZ hown w Via.refl eT F (g := mkF m pc Ls st) rfl (hb hby hd)
  exact own_st (T' := T1) (g' := mkF m _ Ls (v :: st)) st1 (K T1 ⟨_, X1, e1, N⟩)
theorem s_getF (pc' : Nat) {O nm dd : String} {index : Nat} {v : Value} {a : Addr} (A : own_A p l e R s m args below meth c Z own name bytes maxL ret) (S : own_S p l e R s m args below meth c n0 T h k n)
    (w : (Jvm.Cond.fieldLink own index O nm dd).before a0 Z = true) (F : Fld Z h a O nm dd v) (hd : decode bytes pc = .ok (.getfield index, 3)) (hp : pc + 3 = pc')
    (K : ∀ T', own_S p l e R s m args below meth c n0 T' h k n → own_G p e below s n0 kc ks Q T' (mkF m pc' Ls (v :: st))) : own_G p e below s n0 kc ks Q T (mkF m pc Ls (.ref a :: st)) := by
  obtain ⟨locs, X, eT, N⟩ := S
  obtain ⟨hx, hby, hml, hown, -, -, -, hZ⟩ := A
  subst hp
  obtain ⟨T1, X1, e1, st1⟩ := getF X hx hZ hown (host := "") (Or.inl w) Via.refl eT F (g := mkF m pc Ls (.ref a :: st)) rfl rfl (hb hby hd)
  exact own_st (T' := T1) (g' := mkF m _ Ls (v :: st)) st1 (K T1 ⟨_, X1, e1, N⟩)
theorem s_putF (pc' : Nat) {O nm dd CC : String} {index kk : Nat} {v old : Value} {a : Addr} {ty : FieldType} (A : own_A p l e R s m args below meth c Z own name bytes maxL ret) (S : own_S p l e R s m args below meth c n0 T h k n)
    (w : (Jvm.Cond.fieldLink own index O nm dd).before a0 Z = true) (F : Fld Z h a O nm dd old) (E : Exa Z h a CC) (L : (Jvm.Cond.lays CC O nm dd).before a0 Z = true ∨ ((Jvm.Cond.laysFinal CC O nm dd).before a0 Z = true ∧ own = O ∧ name = "<init>")) (wi : (Jvm.Cond.instantiable CC kk).before a0 Z = true) (hge : n0 ≤ a)
    (hd : decode bytes pc = .ok (.putfield index, 3)) (hty : parseFieldDescriptor dd = some ty) (hn : narrow ty v = v) (hf : fits ty v = true) (hp : pc + 3 = pc')
    (K : ∀ T' h', Wr h h' a (RoadKit.slotOf Z O nm dd) v → own_S p l e R s m args below meth c n0 T' h' k n → own_G p e below s n0 kc ks Q T' (mkF m pc' Ls st)) : own_G p e below s n0 kc ks Q T (mkF m pc Ls (v :: .ref a :: st)) := by
  obtain ⟨locs, X, eT, N⟩ := S
  obtain ⟨hx, hby, hml, hown, hnm, -, -, hZ⟩ := A
  subst hp
  obtain ⟨T1, h1, X1, e1, W1, st1⟩ := putF X hx hZ hown (host := "") (Or.inl w) Via.refl eT F E (L.imp id fun q => ⟨q.1, q.2.1, hnm.trans q.2.2⟩) wi hty hn hf (g := mkF m pc Ls (v :: .ref a :: st)) rfl rfl (hb hby hd)
  exact own_st (T' := T1) (g' := mkF m _ Ls st) st1 (K T1 h1 W1 ⟨_, X1, e1, Fr.snoc X1 N hge⟩)
theorem s_new (pc' : Nat) {CC : String} {index nn : Nat} (A : own_A p l e R s m args below meth c Z own name bytes maxL ret) (S : own_S p l e R s m args below meth c n0 T h k n)
    (w : (Jvm.Cond.classLink own index CC).before a0 Z = true) (wi : (Jvm.Cond.instantiable CC nn).before a0 Z = true) (wz : (Jvm.Cond.initialized CC).before a0 Z = true) (hd : decode bytes pc = .ok (.new index, 3)) (hp : pc + 3 = pc') (hc : k + 1 ≤ R.cells) (hl : n + nn ≤ R.slots)
    (K : ∀ T' h' (a : Addr), a = h.size → Ext h h' → Exa Z h' a CC → (∀ {O nm dd : String} {ty : FieldType}, Laid Z a0 CC O nm dd → parseFieldDescriptor dd = some ty → Fld Z h' a O nm dd (defaultValue ty)) → own_S p l e R s m args below meth c n0 T' h' (k + 1) (n + nn) → own_G p e below s n0 kc ks Q T' (mkF m pc' Ls (.ref a :: st))) : own_G p e below s n0 kc ks Q T (mkF m pc Ls st) := by
  obtain ⟨locs, X, eT, N⟩ := S
  obtain ⟨hx, hby, hml, hown, -, -, -, hZ⟩ := A
  subst hp
  obtain ⟨T1, h1, X1, e1, E1, A1, D1, -, st1⟩ := newO X hx hZ hown w wi wz eT (g := mkF m pc Ls st) rfl (hb hby hd) hc hl
  exact own_st (T' := T1) (g' := mkF m _ Ls (.ref h.size :: st)) st1 (K T1 h1 h.size rfl E1 A1 D1 ⟨_, X1, e1, N⟩)
theorem s_initO (pc' : Nat) {idx : Nat} {a : Addr} (A : own_A p l e R s m args below meth c Z own name bytes maxL ret) (S : own_S p l e R s m args below meth c n0 T h k n)
    (w1 : (Jvm.Cond.methodLink own idx Lib.objectInit).before a0 Z = true) (w2 : (Jvm.Cond.instanceMethod Lib.objectInit).before a0 Z = true) (w3 : (Jvm.Cond.code Lib.objectInit ⟨#[0xb1]⟩ 1 none).before a0 Z = true) (hd : decode bytes pc = .ok (.invokespecial idx, 3)) (hp : pc + 3 = pc') (hsize : Ls.size = maxL) (hf : 1 ≤ R.frames) (hl : (st.map fun v => v.category).sum + 12 ≤ R.locals)
    (K : ∀ T', own_S p l e R s m args below meth c n0 T' h k n → own_G p e below s n0 kc ks Q T' (mkF m pc' Ls st)) : own_G p e below s n0 kc ks Q T (mkF m pc Ls (.ref a :: st)) := by
  obtain ⟨locs, X, eT, N⟩ := S
  obtain ⟨hx, hby, hml, hown, -, -, -, hZ⟩ := A
  subst hp
  obtain ⟨T1, X1, e1, st1⟩ := initO X hx hZ hown w1 w2 w3 eT (g := mkF m pc Ls (.ref a :: st)) rfl (by rw [hml]; exact hsize) rfl (hb hby hd) hf (W := (st.map fun v => v.category).sum) (by show 2 * 0 + _ ≤ _; omega) hl
  exact own_st (T' := T1) (g' := mkF m _ Ls st) st1 (K T1 ⟨_, X1, e1, N⟩)
theorem s_newP (pc' : Nat) {aty : ArrayType} {z : Int32} {cap : Nat} (A : own_A p l e R s m args below meth c Z own name bytes maxL ret) (S : own_S p l e R s m args below meth c n0 T h k n)
    (w : (Jvm.Cond.arrayClass (newarray.typeOf aty)).before a0 Z = true) (hd : decode bytes pc = .ok (.newarray aty, 2)) (hn : ¬ z < 0) (hcap : z.toNatClampNeg ≤ cap) (hbb : cap * 8 ≤ 536870912) (hp : pc + 2 = pc') (hc : k + 1 ≤ R.cells) (hl : n + cap ≤ R.slots)
    (K : ∀ T' h' (cA : ClassId) (a : Addr), a = h.size → Ext h h' → Arv Z h' a cA (newarray.typeOf aty) z [] (defaultValue (newarray.typeOf aty)) → own_S p l e R s m args below meth c n0 T' h' (k + 1) (n + cap) → own_G p e below s n0 kc ks Q T' (mkF m pc' Ls (.ref a :: st))) : own_G p e below s n0 kc ks Q T (mkF m pc Ls (.int z :: st)) := by
  obtain ⟨locs, X, eT, N⟩ := S
  obtain ⟨hx, hby, hml, hown, -, -, -, hZ⟩ := A
  subst hp
  obtain ⟨T1, h1, cA, X1, e1, E1, A1, st1⟩ := newP X hx hZ w eT (g := mkF m pc Ls (.int z :: st)) rfl (hb hby hd) rfl hn (cap := cap) hcap hbb hc hl
  exact own_st (T' := T1) (g' := mkF m _ Ls (.ref h.size :: st)) st1 (K T1 h1 cA h.size rfl E1 (Arv.new A1 hn) ⟨_, X1, e1, N⟩)
theorem s_alen (pc' : Nat) {a : Addr} {cA : ClassId} {ty : FieldType} {z : Int32} {vs : List Value} {dv : Value} (A : own_A p l e R s m args below meth c Z own name bytes maxL ret) (S : own_S p l e R s m args below meth c n0 T h k n)
    (V : Arv Z h a cA ty z vs dv) (hd : decode bytes pc = .ok (.arraylength, 1)) (hp : pc + 1 = pc') (K : own_G p e below s n0 kc ks Q T (mkF m pc' Ls (.int z :: st))) : own_G p e below s n0 kc ks Q T (mkF m pc Ls (.ref a :: st)) := by
  obtain ⟨locs, X, eT, N⟩ := S
  obtain ⟨hx, hby, hml, hown, -, -, -, hZ⟩ := A
  obtain ⟨cl, Ar, -, S1, N1, -, -⟩ := V
  subst hp
  rw [← len_of S1 N1] at K
  exact own_st (T' := T) (g' := mkF m _ Ls (.int cl.slots.size.toInt32 :: st)) (X.arraylength hx (by rw [eT]; exact Ar.1) (State.isArrayOf_alike hZ.alike Ar.2.1) (g := mkF m pc Ls (.ref a :: st)) rfl rfl (hb hby hd)) K
theorem s_instY (pc' : Nat) {KK : String} {index : Nat} {a : Addr} (A : own_A p l e R s m args below meth c Z own name bytes maxL ret) (S : own_S p l e R s m args below meth c n0 T h k n)
    (w : (Jvm.Cond.classLink own index KK).before a0 Z = true) (F : Ins Z h a KK true) (hd : decode bytes pc = .ok (.instanceof index, 3)) (hp : pc + 3 = pc')
    (K : ∀ T', own_S p l e R s m args below meth c n0 T' h k n → own_G p e below s n0 kc ks Q T' (mkF m pc' Ls (.int 1 :: st))) : own_G p e below s n0 kc ks Q T (mkF m pc Ls (.ref a :: st)) := by
  obtain ⟨locs, X, eT, N⟩ := S
  obtain ⟨hx, hby, hml, hown, -, -, -, hZ⟩ := A
  subst hp
  obtain ⟨T1, X1, e1, st1⟩ := instY X hx hZ hown w eT F (g := mkF m pc Ls (.ref a :: st)) rfl rfl (hb hby hd)
  exact own_st (T' := T1) (g' := mkF m _ Ls (.int 1 :: st)) st1 (K T1 ⟨_, X1, e1, N⟩)
theorem s_instNo (pc' : Nat) {KK CC : String} {index : Nat} {a : Addr} (A : own_A p l e R s m args below meth c Z own name bytes maxL ret) (S : own_S p l e R s m args below meth c n0 T h k n)
    (w : (Jvm.Cond.classLink own index KK).before a0 Z = true) (E : Exa Z h a CC) (F : ∃ c t, Z.vm.findClass CC = some c ∧ Z.vm.findClass KK = some t ∧ Z.vm.assignable c t = false) (hd : decode bytes pc = .ok (.instanceof index, 3)) (hp : pc + 3 = pc')
    (K : ∀ T', own_S p l e R s m args below meth c n0 T' h k n → own_G p e below s n0 kc ks Q T' (mkF m pc' Ls (.int 0 :: st))) : own_G p e below s n0 kc ks Q T (mkF m pc Ls (.ref a :: st)) := by
  obtain ⟨locs, X, eT, N⟩ := S
  obtain ⟨hx, hby, hml, hown, -, -, -, hZ⟩ := A
  subst hp
  obtain ⟨T1, X1, e1, st1⟩ := instNo X hx hZ hown w eT E F (g := mkF m pc Ls (.ref a :: st)) rfl rfl (hb hby hd)
  exact own_st (T' := T1) (g' := mkF m _ Ls (.int 0 :: st)) st1 (K T1 ⟨_, X1, e1, N⟩)
theorem s_instNull (pc' : Nat) {index : Nat} (A : own_A p l e R s m args below meth c Z own name bytes maxL ret) (S : own_S p l e R s m args below meth c n0 T h k n)
    (hd : decode bytes pc = .ok (.instanceof index, 3)) (hp : pc + 3 = pc') (K : own_G p e below s n0 kc ks Q T (mkF m pc' Ls (.int 0 :: st))) : own_G p e below s n0 kc ks Q T (mkF m pc Ls (.null :: st)) := by
  obtain ⟨locs, X, eT, N⟩ := S
  obtain ⟨hx, hby, hml, hown, -, -, -, hZ⟩ := A
  subst hp
  exact own_st (T' := T) (g' := mkF m _ Ls (.int 0 :: st)) (X.instanceofNull hx (g := mkF m pc Ls (.null :: st)) rfl rfl (hb hby hd)) K
theorem s_castY (pc' : Nat) {KK : String} {index : Nat} {a : Addr} (A : own_A p l e R s m args below meth c Z own name bytes maxL ret) (S : own_S p l e R s m args below meth c n0 T h k n)
    (w : (Jvm.Cond.classLink own index KK).before a0 Z = true) (F : Ins Z h a KK true) (hd : decode bytes pc = .ok (.checkcast index, 3)) (hp : pc + 3 = pc')
    (K : ∀ T', own_S p l e R s m args below meth c n0 T' h k n → own_G p e below s n0 kc ks Q T' (mkF m pc' Ls (.ref a :: st))) : own_G p e below s n0 kc ks Q T (mkF m pc Ls (.ref a :: st)) := by
  obtain ⟨locs, X, eT, N⟩ := S
  obtain ⟨hx, hby, hml, hown, -, -, -, hZ⟩ := A
  subst hp
  obtain ⟨T1, X1, e1, st1⟩ := castY X hx hZ hown w eT F (g := mkF m pc Ls (.ref a :: st)) rfl rfl (hb hby hd)
  exact own_st (T' := T1) (g' := mkF m _ Ls (.ref a :: st)) st1 (K T1 ⟨_, X1, e1, N⟩)
theorem s_aald (pc' : Nat) {a : Addr} {cl : Cell} {ty : FieldType} {j : Int32} {v : Value} (A : own_A p l e R s m args below meth c Z own name bytes maxL ret) (S : own_S p l e R s m args below meth c n0 T h k n)
    (Ar : Arr Z h a cl ty) (hty : ty.isReference = true) (hin : ¬ (j < 0 ∨ cl.slots.size ≤ j.toNatClampNeg)) (hv : cl.slots[j.toNatClampNeg]? = some v) (hd : decode bytes pc = .ok (.aaload, 1)) (hp : pc + 1 = pc') (K : own_G p e below s n0 kc ks Q T (mkF m pc' Ls (v :: st))) : own_G p e below s n0 kc ks Q T (mkF m pc Ls (.int j :: .ref a :: st)) := by
  obtain ⟨locs, X, eT, N⟩ := S
  obtain ⟨hx, hby, hml, hown, -, -, -, hZ⟩ := A
  subst hp
  exact own_st (T' := T) (g' := mkF m _ Ls (v :: st)) (X.aaload hx (by rw [eT]; exact Ar.1) (State.isArrayOf_alike hZ.alike Ar.2.1) hty Ar.2.2 hin hv (g := mkF m pc Ls (.int j :: .ref a :: st)) rfl rfl (hb hby hd)) K
theorem s_iald (pc' : Nat) {a : Addr} {cA : ClassId} {z j : Int32} {vs : List Value} {v dv : Value} (A : own_A p l e R s m args below meth c Z own name bytes maxL ret) (S : own_S p l e R s m args below meth c n0 T h k n)
    (V : Arv Z h a cA .int z vs dv) (hj : ¬ j < 0 ∧ j < z) (hv : vs.getD j.toNatClampNeg dv = v) (hd : decode bytes pc = .ok (.iaload, 1)) (hp : pc + 1 = pc') (K : own_G p e below s n0 kc ks Q T (mkF m pc' Ls (v :: st))) : own_G p e below s n0 kc ks Q T (mkF m pc Ls (.int j :: .ref a :: st)) := by
  obtain ⟨locs, X, eT, N⟩ := S
  obtain ⟨hx, hby, hml, hown, -, -, -, hZ⟩ := A
  obtain ⟨cl, Ar, -, S1, N1, H1, G1⟩ := V
  subst hp
  exact own_st (T' := T) (g' := mkF m _ Ls (v :: st)) (X.iaload hx (by rw [eT]; exact Ar.1) (State.isArrayOf_alike hZ.alike Ar.2.1) Ar.2.2 (inb_of S1 hj) (H1.at (inb_of S1 hj) hv) (g := mkF m pc Ls (.int j :: .ref a :: st)) rfl rfl (hb hby hd)) K
theorem s_lald (pc' : Nat) {a : Addr} {cA : ClassId} {z j : Int32} {vs : List Value} {v dv : Value} (A : own_A p l e R s m args below meth c Z own name bytes maxL ret) (S : own_S p l e R s m args below meth c n0 T h k n)
    (V : Arv Z h a cA .long z vs dv) (hj : ¬ j < 0 ∧ j < z) (hv : vs.getD j.toNatClampNeg dv = v) (hd : decode bytes pc = .ok (.laload, 1)) (hp : pc + 1 = pc') (K : own_G p e below s n0 kc ks Q T (mkF m pc' Ls (v :: st))) : own_G p e below s n0 kc ks Q T (mkF m pc Ls (.int j :: .ref a :: st)) := by
  obtain ⟨locs, X, eT, N⟩ := S
  obtain ⟨hx, hby, hml, hown, -, -, -, hZ⟩ := A
  obtain ⟨cl, Ar, -, S1, N1, H1, G1⟩ := V
  subst hp
  exact own_st (T' := T) (g' := mkF m _ Ls (v :: st)) (X.laload hx (by rw [eT]; exact Ar.1) (State.isArrayOf_alike hZ.alike Ar.2.1) Ar.2.2 (inb_of S1 hj) (H1.at (inb_of S1 hj) hv) (g := mkF m pc Ls (.int j :: .ref a :: st)) rfl rfl (hb hby hd)) K
theorem s_bald (pc' : Nat) {a : Addr} {cA : ClassId} {z j : Int32} {vs : List Value} {v dv : Value} (A : own_A p l e R s m args below meth c Z own name bytes maxL ret) (S : own_S p l e R s m args below meth c n0 T h k n)
    (V : Arv Z h a cA .byte z vs dv) (hj : ¬ j < 0 ∧ j < z) (hv : vs.getD j.toNatClampNeg dv = v) (hd : decode bytes pc = .ok (.baload, 1)) (hp : pc + 1 = pc') (K : own_G p e below s n0 kc ks Q T (mkF m pc' Ls (v :: st))) : own_G p e below s n0 kc ks Q T (mkF m pc Ls (.int j :: .ref a :: st)) := by
  obtain ⟨locs, X, eT, N⟩ := S
  obtain ⟨hx, hby, hml, hown, -, -, -, hZ⟩ := A
  obtain ⟨cl, Ar, -, S1, N1, H1, G1⟩ := V
  subst hp
  exact own_st (T' := T) (g' := mkF m _ Ls (v :: st)) (X.baloadBytes hx (by rw [eT]; exact Ar.1) (State.isArrayOf_alike hZ.alike Ar.2.1) Ar.2.2 (inb_of S1 hj) (H1.at (inb_of S1 hj) hv) (g := mkF m pc Ls (.int j :: .ref a :: st)) rfl rfl (hb hby hd)) K
theorem s_cald (pc' : Nat) {a : Addr} {cA : ClassId} {z j : Int32} {vs : List Value} {v dv : Value} (A : own_A p l e R s m args below meth c Z own name bytes maxL ret) (S : own_S p l e R s m args below meth c n0 T h k n)
    (V : Arv Z h a cA .char z vs dv) (hj : ¬ j < 0 ∧ j < z) (hv : vs.getD j.toNatClampNeg dv = v) (hd : decode bytes pc = .ok (.caload, 1)) (hp : pc + 1 = pc') (K : own_G p e below s n0 kc ks Q T (mkF m pc' Ls (v :: st))) : own_G p e below s n0 kc ks Q T (mkF m pc Ls (.int j :: .ref a :: st)) := by
  obtain ⟨locs, X, eT, N⟩ := S
  obtain ⟨hx, hby, hml, hown, -, -, -, hZ⟩ := A
  obtain ⟨cl, Ar, -, S1, N1, H1, G1⟩ := V
  subst hp
  exact own_st (T' := T) (g' := mkF m _ Ls (v :: st)) (X.caload hx (by rw [eT]; exact Ar.1) (State.isArrayOf_alike hZ.alike Ar.2.1) Ar.2.2 (inb_of S1 hj) (H1.at (inb_of S1 hj) hv) (g := mkF m pc Ls (.int j :: .ref a :: st)) rfl rfl (hb hby hd)) K
theorem s_iast (pc' : Nat) {a : Addr} {cA : ClassId} {z j : Int32} {x : Int32} {vs : List Value} {dv : Value} (A : own_A p l e R s m args below meth c Z own name bytes maxL ret) (S : own_S p l e R s m args below meth c n0 T h k n)
    (V : Arv Z h a cA .int z vs dv) (hj : ¬ j < 0 ∧ j < z) (i : Nat) (hi : j.toNatClampNeg = i) (hi' : i < vs.length) (hge : n0 ≤ a) (hd : decode bytes pc = .ok (.iastore, 1)) (hp : pc + 1 = pc')
    (K : ∀ T' h', Wr h h' a i (.int x) → Arv Z h' a cA .int z (vs.set i (.int x)) dv → own_S p l e R s m args below meth c n0 T' h' k n → own_G p e below s n0 kc ks Q T' (mkF m pc' Ls st)) : own_G p e below s n0 kc ks Q T (mkF m pc Ls (.int x :: .int j :: .ref a :: st)) := by
  obtain ⟨locs, X, eT, N⟩ := S
  obtain ⟨hx, hby, hml, hown, -, -, -, hZ⟩ := A
  obtain ⟨cl, Ar, q1, S1, N1, H1, G1⟩ := V
  subst hp
  obtain ⟨T1, h1, X1, e1, W1, st1⟩ := stI X hx hZ eT Ar (j := j) (inb_of S1 hj) (g := mkF m pc Ls (.int x :: .int j :: .ref a :: st)) rfl rfl (hb hby hd)
  have V1 := Arv.set Ar q1 S1 N1 H1 G1 rfl W1 i hi hi'
  rw [hi] at W1
  exact own_st (T' := T1) (g' := mkF m _ Ls st) st1 (K T1 h1 W1 V1 ⟨_, X1, e1, Fr.snoc X1 N hge⟩)
theorem s_last (pc' : Nat) {a : Addr} {cA : ClassId} {z j : Int32} {x : Int64} {vs : List Value} {dv : Value} (A : own_A p l e R s m args below meth c Z own name bytes maxL ret) (S : own_S p l e R s m args below meth c n0 T h k n)
    (V : Arv Z h a cA .long z vs dv) (hj : ¬ j < 0 ∧ j < z) (i : Nat) (hi : j.toNatClampNeg = i) (hi' : i < vs.length) (hge : n0 ≤ a) (hd : decode bytes pc = .ok (.lastore, 1)) (hp : pc + 1 = pc')
    (K : ∀ T' h', Wr h h' a i (.long x) → Arv Z h' a cA .long z (vs.set i (.long x)) dv → own_S p l e R s m args below meth c n0 T' h' k n → own_G p e below s n0 kc ks Q T' (mkF m pc' Ls st)) : own_G p e below s n0 kc ks Q T (mkF m pc Ls (.long x :: .int j :: .ref a :: st)) := by
  obtain ⟨locs, X, eT, N⟩ := S
  obtain ⟨hx, hby, hml, hown, -, -, -, hZ⟩ := A
  obtain ⟨cl, Ar, q1, S1, N1, H1, G1⟩ := V
  subst hp
  obtain ⟨T1, h1, X1, e1, W1, st1⟩ := stJ X hx hZ eT Ar (j := j) (inb_of S1 hj) (g := mkF m pc Ls (.long x :: .int j :: .ref a :: st)) rfl rfl (hb hby hd)
  have V1 := Arv.set Ar q1 S1 N1 H1 G1 rfl W1 i hi hi'
  rw [hi] at W1
  exact own_st (T' := T1) (g' := mkF m _ Ls st) st1 (K T1 h1 W1 V1 ⟨_, X1, e1, Fr.snoc X1 N hge⟩)
theorem s_bast (pc' : Nat) {a : Addr} {cA : ClassId} {z j : Int32} {x : Int32} {vs : List Value} {dv : Value} (A : own_A p l e R s m args below meth c Z own name bytes maxL ret) (S : own_S p l e R s m args below meth c n0 T h k n)
    (V : Arv Z h a cA .byte z vs dv) (hj : ¬ j < 0 ∧ j < z) (i : Nat) (hi : j.toNatClampNeg = i) (hi' : i < vs.length) (hge : n0 ≤ a) (hd : decode bytes pc = .ok (.bastore, 1)) (hp : pc + 1 = pc')
    (K : ∀ T' h', Wr h h' a i (.int (nar .byte x)) → Arv Z h' a cA .byte z (vs.set i (.int (nar .byte x))) dv → own_S p l e R s m args below meth c n0 T' h' k n → own_G p e below s n0 kc ks Q T' (mkF m pc' Ls st)) : own_G p e below s n0 kc ks Q T (mkF m pc Ls (.int x :: .int j :: .ref a :: st)) := by
  obtain ⟨locs, X, eT, N⟩ := S
  obtain ⟨hx, hby, hml, hown, -, -, -, hZ⟩ := A
  obtain ⟨cl, Ar, q1, S1, N1, H1, G1⟩ := V
  subst hp
  obtain ⟨T1, h1, X1, e1, W1, st1⟩ := stB X hx hZ eT Ar (j := j) (inb_of S1 hj) (g := mkF m pc Ls (.int x :: .int j :: .ref a :: st)) rfl rfl (hb hby hd)
  have V1 := Arv.set Ar q1 S1 N1 H1 G1 (fits_nar_byte _) W1 i hi hi'
  rw [hi] at W1
  exact own_st (T' := T1) (g' := mkF m _ Ls st) st1 (K T1 h1 W1 V1 ⟨_, X1, e1, Fr.snoc X1 N hge⟩)
theorem s_cast (pc' : Nat) {a : Addr} {cA : ClassId} {z j : Int32} {x : Int32} {vs : List Value} {dv : Value} (A : own_A p l e R s m args below meth c Z own name bytes maxL ret) (S : own_S p l e R s m args below meth c n0 T h k n)
    (V : Arv Z h a cA .char z vs dv) (hj : ¬ j < 0 ∧ j < z) (i : Nat) (hi : j.toNatClampNeg = i) (hi' : i < vs.length) (hge : n0 ≤ a) (hd : decode bytes pc = .ok (.castore, 1)) (hp : pc + 1 = pc')
    (K : ∀ T' h', Wr h h' a i (.int (nar .char x)) → Arv Z h' a cA .char z (vs.set i (.int (nar .char x))) dv → own_S p l e R s m args below meth c n0 T' h' k n → own_G p e below s n0 kc ks Q T' (mkF m pc' Ls st)) : own_G p e below s n0 kc ks Q T (mkF m pc Ls (.int x :: .int j :: .ref a :: st)) := by
  obtain ⟨locs, X, eT, N⟩ := S
  obtain ⟨hx, hby, hml, hown, -, -, -, hZ⟩ := A
  obtain ⟨cl, Ar, q1, S1, N1, H1, G1⟩ := V
  subst hp
  obtain ⟨T1, h1, X1, e1, W1, st1⟩ := stC X hx hZ eT Ar (j := j) (inb_of S1 hj) (g := mkF m pc Ls (.int x :: .int j :: .ref a :: st)) rfl rfl (hb hby hd)
  have V1 := Arv.set Ar q1 S1 N1 H1 G1 (fits_nar_char _) W1 i hi hi'
  rw [hi] at W1
  exact own_st (T' := T1) (g' := mkF m _ Ls st) st1 (K T1 h1 W1 V1 ⟨_, X1, e1, Fr.snoc X1 N hge⟩)
end OwnLayer
def own_max (x y : Int64) : Int64 := if y.toInt ≤ x.toInt then x else y
theorem own_max0 {x : Int64} (h : 0 ≤ x.toInt) : own_max x 0 = x := if_pos h
def own_da (dh dl ct : Int64) : Int32 := if dh.toInt = 0 ∧ dl.toInt = ct.toInt then 1 else 0
theorem own_da1 {dh dl ct : Int64} (hh : dh.toInt = 0 ∧ dl.toInt = ct.toInt) : own_da dh dl ct = 1 := if_pos hh
theorem own_da0 {dh dl ct : Int64} (hh : ¬ (dh.toInt = 0 ∧ dl.toInt = ct.toInt)) : own_da dh dl ct = 0 := if_neg hh
theorem own_N : (1000000000000000000 : Int64).toInt = 1000000000000000000 := rfl
theorem own_dd (x : Int64) : 0 ≤ ((x &&& 9223372036854775807) - ((x &&& 9223372036854775807) / 1000000000000000000) * 1000000000000000000).toInt ∧ ((x &&& 9223372036854775807) - ((x &&& 9223372036854775807) / 1000000000000000000) * 1000000000000000000).toInt < 1000000000000000000 := by
  have h1 := c_maskL x 9223372036854775807 63 (by decide) (by decide)
  have h2 := (c_lrem (x &&& 9223372036854775807) 1000000000000000000 1000000000000000000 rfl).1
  have h3 : (0 : Int) ≤ (x &&& 9223372036854775807).toInt := by rw [h1]; omega
  rw [h2 h3]; omega
theorem own_ladd {x y : Int64} (h1 : -9223372036854775808 ≤ x.toInt + y.toInt) (h2 : x.toInt + y.toInt < 9223372036854775808) : (x + y).toInt = x.toInt + y.toInt := by
  have := c_ladd x y; have := (x + y).toInt_lt; have := (x + y).le_toInt; omega
theorem own_lsub {x y : Int64} (h1 : -9223372036854775808 ≤ x.toInt - y.toInt) (h2 : x.toInt - y.toInt < 9223372036854775808) : (x - y).toInt = x.toInt - y.toInt := by
  have := c_lsub x y; have := (x - y).toInt_lt; have := (x - y).le_toInt; omega
theorem own_lrem {x : Int64} (h1 : 0 ≤ x.toInt) : (x - (x / 1000000000000000000) * 1000000000000000000).toInt = x.toInt % 1000000000000000000 := (c_lrem x 1000000000000000000 1000000000000000000 rfl).1 h1
theorem pd__JJ_J : parseMethodDescriptor "(JJ)J" = some ⟨[.long, .long], some .long⟩ := by decide +kernel
theorem pd__JJ_V : parseMethodDescriptor "(JJ)V" = some ⟨[.long, .long], none⟩ := by decide +kernel
theorem pd__J_Z : parseMethodDescriptor "(J)Z" = some ⟨[.long], some .boolean⟩ := by decide +kernel
theorem pd__Lcom_example_cuadre_cuadre_service_Tally__V : parseMethodDescriptor "(Lcom/example/cuadre/cuadre/service/Tally;)V" = some ⟨[(.object "com/example/cuadre/cuadre/service/Tally")], none⟩ := by decide +kernel
theorem pd___V : parseMethodDescriptor "()V" = some ⟨[], none⟩ := by decide +kernel
theorem d4_0 : decode jdk_29_method_66_code 0 = .ok (.lload_n 0, 1) := by decide +kernel
theorem d4_1 : decode jdk_29_method_66_code 1 = .ok (.lload_n 2, 1) := by decide +kernel
theorem d4_2 : decode jdk_29_method_66_code 2 = .ok (.lcmp, 1) := by decide +kernel
theorem d4_3 : decode jdk_29_method_66_code 3 = .ok (.ifCond .lt 7, 3) := by decide +kernel
theorem d4_6 : decode jdk_29_method_66_code 6 = .ok (.lload_n 0, 1) := by decide +kernel
theorem d4_7 : decode jdk_29_method_66_code 7 = .ok (.goto 4, 3) := by decide +kernel
theorem d4_10 : decode jdk_29_method_66_code 10 = .ok (.lload_n 2, 1) := by decide +kernel
theorem d4_11 : decode jdk_29_method_66_code 11 = .ok (.lreturn, 1) := by decide +kernel
theorem pn_4 : plainFor (⟨"java/lang/Math", "max", "(JJ)J"⟩ : MethodName) = true := by decide +kernel
theorem ef_4 (m : MethodId) (x0 : Int64) (x1 : Int64) : entryFrame m #[(.long x0), (.long x1)] 4 = mkF m 0 #[.val (.long x0), .second, .val (.long x1), .second] [] := by first | (simp [entryFrame, mkF, argsToLocals, Value.category]; done) | rfl
set_option maxRecDepth 65536 in
set_option maxHeartbeats 40000000 in
theorem rm4 (l : Launch) (Z : State) (a0 : Array Value) (hw : ∀ d ∈ tables_1, d.before a0 Z = true) (ws : List Jvm.Cond) (x y : Int64) (h0 : Heap) (n0 : Nat) (Z0 : n0 ≤ h0.size)  :
    own_C l Z (⟨"java/lang/Math", "max", "(JJ)J"⟩ : MethodName) jdk_29_method_66_code 4 (some .long) ({ frames := 0, cells := 0, slots := 0, locals := 0 } : Room) n0 ws #[(.long x), (.long y)] h0 (fun v h' => v = some (.long (own_max x y)) ∧ h' = h0) := by
  refine own_C.of pn_4 Z0 ?_
  intro p e s m below meth c T A S
  rw [ef_4]
  refine s_lloadN 1 A S d4_0 rfl rfl ?_
  refine s_lloadN 2 A S d4_1 rfl rfl ?_
  refine s_liflt 10 6 3 A S rfl rfl d4_2 rfl d4_3 (by decide) (by decide) rfl (fun c1 => ?_) (fun c1 => ?_)
  · refine s_lloadN 11 A S d4_10 rfl rfl ?_
    exact s_retJ A S d4_11 (by decide) (by decide) ⟨by unfold own_max; rw [if_neg (by omega)], rfl⟩
  · refine s_lloadN 7 A S d4_6 rfl rfl ?_
    refine s_goto 11 A S d4_7 (by decide) (by decide) ?_
    exact s_retJ A S d4_11 (by decide) (by decide) ⟨by unfold own_max; rw [if_pos c1], rfl⟩
theorem d1_0 : decode prog_91_method_1_code 0 = .ok (.aload_n 0, 1) := by decide +kernel
theorem d1_1 : decode prog_91_method_1_code 1 = .ok (.invokespecial 1, 3) := by decide +kernel
theorem d1_4 : decode prog_91_method_1_code 4 = .ok (.return_, 1) := by decide +kernel
theorem pn_1 : plainFor (⟨"com/example/cuadre/cuadre/service/Tally", "<init>", "()V"⟩ : MethodName) = true := plainFor_of_name (by first | (simp [plainName, overriddenIn]; done) | decide +kernel)
theorem ef_1 (m : MethodId) (x0 : Addr) : entryFrame m #[(.ref x0)] 1 = mkF m 0 #[.val (.ref x0)] [] := by first | (simp [entryFrame, mkF, argsToLocals, Value.category]; done) | rfl
set_option maxRecDepth 65536 in
set_option maxHeartbeats 40000000 in
theorem rm1 (l : Launch) (Z : State) (a0 : Array Value) (hw : ∀ d ∈ tables_1, d.before a0 Z = true) (ws : List Jvm.Cond) (b : Addr) (h0 : Heap) (n0 : Nat) (Z0 : n0 ≤ h0.size)  :
    own_C l Z (⟨"com/example/cuadre/cuadre/service/Tally", "<init>", "()V"⟩ : MethodName) prog_91_method_1_code 1 none ({ frames := 1, cells := 0, slots := 0, locals := 12 } : Room) n0 ws #[(.ref b)] h0 (fun v h' => v = none ∧ h' = h0) := by
  refine own_C.of pn_1 Z0 ?_
  intro p e s m below meth c T A S
  rw [ef_1]
  refine s_aloadN 1 A S d1_0 rfl (by first | rfl | assumption) rfl ?_
  refine s_initO 4 A S (hw _ (List.mem_of_getElem? (i := 8) rfl)) (hw _ (List.mem_of_getElem? (i := 9) rfl)) (hw _ (List.mem_of_getElem? (i := 10) rfl)) d1_1 rfl rfl (by decide) (Nat.le_of_ble_eq_true rfl) fun T1 S2 => ?_
  exact s_ret A S2 d1_4 (by decide) (by decide) ⟨rfl, rfl⟩
theorem d3_0 : decode prog_91_method_2_code 0 = .ok (.aload_n 0, 1) := by decide +kernel
theorem d3_1 : decode prog_91_method_2_code 1 = .ok (.dup, 1) := by decide +kernel
theorem d3_2 : decode prog_91_method_2_code 2 = .ok (.getfield 7, 3) := by decide +kernel
theorem d3_5 : decode prog_91_method_2_code 5 = .ok (.lconst 1, 1) := by decide +kernel
theorem d3_6 : decode prog_91_method_2_code 6 = .ok (.ladd, 1) := by decide +kernel
theorem d3_7 : decode prog_91_method_2_code 7 = .ok (.putfield 7, 3) := by decide +kernel
theorem d3_10 : decode prog_91_method_2_code 10 = .ok (.aload_n 0, 1) := by decide +kernel
theorem d3_11 : decode prog_91_method_2_code 11 = .ok (.aload_n 0, 1) := by decide +kernel
theorem d3_12 : decode prog_91_method_2_code 12 = .ok (.getfield 13, 3) := by decide +kernel
theorem d3_15 : decode prog_91_method_2_code 15 = .ok (.lload_n 1, 1) := by decide +kernel
theorem d3_16 : decode prog_91_method_2_code 16 = .ok (.lconst 0, 1) := by decide +kernel
theorem d3_17 : decode prog_91_method_2_code 17 = .ok (.invokestatic 16, 3) := by decide +kernel
theorem d3_20 : decode prog_91_method_2_code 20 = .ok (.ladd, 1) := by decide +kernel
theorem d3_21 : decode prog_91_method_2_code 21 = .ok (.ldc2_w 22, 3) := by decide +kernel
theorem d3_24 : decode prog_91_method_2_code 24 = .ok (.lrem, 1) := by decide +kernel
theorem d3_25 : decode prog_91_method_2_code 25 = .ok (.putfield 13, 3) := by decide +kernel
theorem d3_28 : decode prog_91_method_2_code 28 = .ok (.aload_n 0, 1) := by decide +kernel
theorem d3_29 : decode prog_91_method_2_code 29 = .ok (.dup, 1) := by decide +kernel
theorem d3_30 : decode prog_91_method_2_code 30 = .ok (.getfield 24, 3) := by decide +kernel
theorem d3_33 : decode prog_91_method_2_code 33 = .ok (.lload_n 3, 1) := by decide +kernel
theorem d3_34 : decode prog_91_method_2_code 34 = .ok (.lconst 0, 1) := by decide +kernel
theorem d3_35 : decode prog_91_method_2_code 35 = .ok (.invokestatic 16, 3) := by decide +kernel
theorem d3_38 : decode prog_91_method_2_code 38 = .ok (.ladd, 1) := by decide +kernel
theorem d3_39 : decode prog_91_method_2_code 39 = .ok (.putfield 24, 3) := by decide +kernel
theorem d3_42 : decode prog_91_method_2_code 42 = .ok (.aload_n 0, 1) := by decide +kernel
theorem d3_43 : decode prog_91_method_2_code 43 = .ok (.getfield 24, 3) := by decide +kernel
theorem d3_46 : decode prog_91_method_2_code 46 = .ok (.ldc2_w 22, 3) := by decide +kernel
theorem d3_49 : decode prog_91_method_2_code 49 = .ok (.lcmp, 1) := by decide +kernel
theorem d3_50 : decode prog_91_method_2_code 50 = .ok (.ifCond .lt 25, 3) := by decide +kernel
theorem d3_53 : decode prog_91_method_2_code 53 = .ok (.aload_n 0, 1) := by decide +kernel
theorem d3_54 : decode prog_91_method_2_code 54 = .ok (.dup, 1) := by decide +kernel
theorem d3_55 : decode prog_91_method_2_code 55 = .ok (.getfield 24, 3) := by decide +kernel
theorem d3_58 : decode prog_91_method_2_code 58 = .ok (.ldc2_w 22, 3) := by decide +kernel
theorem d3_61 : decode prog_91_method_2_code 61 = .ok (.lsub, 1) := by decide +kernel
theorem d3_62 : decode prog_91_method_2_code 62 = .ok (.putfield 24, 3) := by decide +kernel
theorem d3_65 : decode prog_91_method_2_code 65 = .ok (.aload_n 0, 1) := by decide +kernel
theorem d3_66 : decode prog_91_method_2_code 66 = .ok (.dup, 1) := by decide +kernel
theorem d3_67 : decode prog_91_method_2_code 67 = .ok (.getfield 27, 3) := by decide +kernel
theorem d3_70 : decode prog_91_method_2_code 70 = .ok (.lconst 1, 1) := by decide +kernel
theorem d3_71 : decode prog_91_method_2_code 71 = .ok (.ladd, 1) := by decide +kernel
theorem d3_72 : decode prog_91_method_2_code 72 = .ok (.putfield 27, 3) := by decide +kernel
theorem d3_75 : decode prog_91_method_2_code 75 = .ok (.return_, 1) := by decide +kernel
theorem pn_3 : plainFor (⟨"com/example/cuadre/cuadre/service/Tally", "entry", "(JJ)V"⟩ : MethodName) = true := plainFor_of_name (by first | (simp [plainName, overriddenIn]; done) | decide +kernel)
theorem ef_3 (m : MethodId) (x0 : Addr) (x1 : Int64) (x2 : Int64) : entryFrame m #[(.ref x0), (.long x1), (.long x2)] 5 = mkF m 0 #[.val (.ref x0), .val (.long x1), .second, .val (.long x2), .second] [] := by first | (simp [entryFrame, mkF, argsToLocals, Value.category]; done) | rfl
set_option maxRecDepth 65536 in
set_option maxHeartbeats 40000000 in
theorem rm3 (l : Launch) (Z : State) (a0 : Array Value) (hw : ∀ d ∈ tables_1, d.before a0 Z = true) (ws : List Jvm.Cond) (b : Addr) (ba en ad hs dl dh cd ct : Int64) (h0 : Heap) (n0 : Nat) (Z0 : n0 ≤ h0.size) (E0 : Exa Z h0 b "com/example/cuadre/cuadre/service/Tally") (F0 : Fld Z h0 b "com/example/cuadre/cuadre/service/Tally" "batches" "J" (.long ba)) (F1 : Fld Z h0 b "com/example/cuadre/cuadre/service/Tally" "entries" "J" (.long en)) (F2 : Fld Z h0 b "com/example/cuadre/cuadre/service/Tally" "addenda" "J" (.long ad)) (F3 : Fld Z h0 b "com/example/cuadre/cuadre/service/Tally" "hash" "J" (.long hs)) (F4 : Fld Z h0 b "com/example/cuadre/cuadre/service/Tally" "debitsLow" "J" (.long dl)) (F5 : Fld Z h0 b "com/example/cuadre/cuadre/service/Tally" "debitsHigh" "J" (.long dh)) (g0 : n0 ≤ b) (h1 : 0 ≤ dl.toInt ∧ dl.toInt < 1000000000000000000) (h2 : 0 ≤ ct.toInt ∧ ct.toInt < 1000000000000000000) (h3 : 0 ≤ dh.toInt ∧ dh.toInt ≤ 5) :
    own_C l Z (⟨"com/example/cuadre/cuadre/service/Tally", "entry", "(JJ)V"⟩ : MethodName) prog_91_method_2_code 5 none ({ frames := 1, cells := 0, slots := 0, locals := 18 } : Room) n0 ws #[(.ref b), (.long cd), (.long ct)] h0 (fun v h' => v = none ∧ Keep h0 h' [b] ∧ ∃ en' hs' dl' dh' : Int64, (Fld Z h' b "com/example/cuadre/cuadre/service/Tally" "batches" "J" (.long ba) ∧ Fld Z h' b "com/example/cuadre/cuadre/service/Tally" "entries" "J" (.long en') ∧ Fld Z h' b "com/example/cuadre/cuadre/service/Tally" "addenda" "J" (.long ad) ∧ Fld Z h' b "com/example/cuadre/cuadre/service/Tally" "hash" "J" (.long hs') ∧ Fld Z h' b "com/example/cuadre/cuadre/service/Tally" "debitsLow" "J" (.long dl') ∧ Fld Z h' b "com/example/cuadre/cuadre/service/Tally" "debitsHigh" "J" (.long dh')) ∧ 0 ≤ dl'.toInt ∧ dl'.toInt < 1000000000000000000 ∧ 0 ≤ dh'.toInt ∧ dh'.toInt ≤ dh.toInt + 1 ∧ dl'.toInt + 1000000000000000000 * dh'.toInt = dl.toInt + 1000000000000000000 * dh.toInt + ct.toInt) := by
  refine own_C.of pn_3 Z0 ?_
  intro p e s m below meth c T A S
  rw [ef_3]
  refine s_aloadN 1 A S d3_0 rfl (by first | rfl | assumption) rfl ?_
  refine s_dup 2 A S d3_1 rfl rfl ?_
  refine s_getF 5 A S (hw _ (List.mem_of_getElem? (i := 16) rfl)) F1 d3_2 rfl fun T1 S2 => ?_
  refine s_lconst (z := (1 : Int64)) 6 A S2 d3_5 rfl rfl ?_
  refine s_ladd (z := (en + (1 : Int64))) 7 A S2 d3_6 rfl rfl ?_
  refine s_putF (ty := .long) 10 A S2 (hw _ (List.mem_of_getElem? (i := 16) rfl)) F1 E0 (Or.inl (hw _ (List.mem_of_getElem? (i := 17) rfl))) (hw _ (List.mem_of_getElem? (i := 3) rfl)) g0 d3_7 (by decide) rfl rfl rfl fun T3 h4 W6 S5 => ?_
  have F7 := Fld.same W6 F1
  have F8 := Fld.other W6 F0 (Or.inr (slot_ne (Or.inl (hw _ (List.mem_of_getElem? (i := 28) rfl))) (Or.inl (hw _ (List.mem_of_getElem? (i := 17) rfl))) (by decide) (t := .long) (t' := .long) (by decide) (by decide)))
  have F10 := Fld.other W6 F2 (Or.inr (slot_ne (Or.inl (hw _ (List.mem_of_getElem? (i := 31) rfl))) (Or.inl (hw _ (List.mem_of_getElem? (i := 17) rfl))) (by decide) (t := .long) (t' := .long) (by decide) (by decide)))
  have F11 := Fld.other W6 F3 (Or.inr (slot_ne (Or.inl (hw _ (List.mem_of_getElem? (i := 19) rfl))) (Or.inl (hw _ (List.mem_of_getElem? (i := 17) rfl))) (by decide) (t := .long) (t' := .long) (by decide) (by decide)))
  have F12 := Fld.other W6 F4 (Or.inr (slot_ne (Or.inl (hw _ (List.mem_of_getElem? (i := 26) rfl))) (Or.inl (hw _ (List.mem_of_getElem? (i := 17) rfl))) (by decide) (t := .long) (t' := .long) (by decide) (by decide)))
  have F13 := Fld.other W6 F5 (Or.inr (slot_ne (Or.inl (hw _ (List.mem_of_getElem? (i := 41) rfl))) (Or.inl (hw _ (List.mem_of_getElem? (i := 17) rfl))) (by decide) (t := .long) (t' := .long) (by decide) (by decide)))
  have E14 := Exa.wr W6 E0
  have Z15 : n0 ≤ h4.size := by rw [W6.size]; exact Z0
  have K16 : Keep h0 h4 [b] := (Keep.refl h0 [b]).wr W6 (Or.inl (List.mem_of_getElem? (i := 0) rfl))
  refine s_aloadN 11 A S5 d3_10 rfl (by first | rfl | assumption) rfl ?_
  refine s_aloadN 12 A S5 d3_11 rfl (by first | rfl | assumption) rfl ?_
  refine s_getF 15 A S5 (hw _ (List.mem_of_getElem? (i := 18) rfl)) F11 d3_12 rfl fun T17 S18 => ?_
  refine s_lloadN 16 A S18 d3_15 rfl rfl ?_
  refine s_lconst (z := (0 : Int64)) 17 A S18 d3_16 rfl rfl ?_
  refine s_callV (y := (⟨"java/lang/Math", "max", "(JJ)J"⟩ : MethodName)) (argsL := [(.long cd), (.long (0 : Int64))]) (rest := [(.long hs), (.ref b)]) 20 A S18 (hw _ (List.mem_of_getElem? (i := 20) rfl)) (hw _ (List.mem_of_getElem? (i := 21) rfl)) (hw _ (List.mem_of_getElem? (i := 22) rfl)) (hw _ (List.mem_of_getElem? (i := 23) rfl)) (rm4 l Z a0 hw [] cd (0 : Int64) h4 n0 Z15) (lenOf pd__JJ_J rfl) d3_17 rfl rfl rfl (by decide) (by decide) (Nat.le_of_ble_eq_true rfl) (by decide) (by decide) fun T19 S20 => ?_
  refine s_ladd (z := (hs + (own_max cd (0 : Int64)))) 21 A S20 d3_20 rfl rfl ?_
  refine s_ldc2 24 A S20 (hw _ (List.mem_of_getElem? (i := 24) rfl)) d3_21 rfl ?_
  refine s_lrem (z := ((hs + (own_max cd (0 : Int64))) - ((hs + (own_max cd (0 : Int64))) / (1000000000000000000 : Int64)) * (1000000000000000000 : Int64))) 25 A S20 d3_24 (by decide) rfl rfl ?_
  refine s_putF (ty := .long) 28 A S20 (hw _ (List.mem_of_getElem? (i := 18) rfl)) F11 E14 (Or.inl (hw _ (List.mem_of_getElem? (i := 19) rfl))) (hw _ (List.mem_of_getElem? (i := 3) rfl)) g0 d3_25 (by decide) rfl rfl rfl fun T21 h22 W24 S23 => ?_
  have F25 := Fld.same W24 F11
  have F26 := Fld.other W24 F8 (Or.inr (slot_ne (Or.inl (hw _ (List.mem_of_getElem? (i := 28) rfl))) (Or.inl (hw _ (List.mem_of_getElem? (i := 19) rfl))) (by decide) (t := .long) (t' := .long) (by decide) (by decide)))
  have F27 := Fld.other W24 F7 (Or.inr (slot_ne (Or.inl (hw _ (List.mem_of_getElem? (i := 17) rfl))) (Or.inl (hw _ (List.mem_of_getElem? (i := 19) rfl))) (by decide) (t := .long) (t' := .long) (by decide) (by decide)))
  have F28 := Fld.other W24 F10 (Or.inr (slot_ne (Or.inl (hw _ (List.mem_of_getElem? (i := 31) rfl))) (Or.inl (hw _ (List.mem_of_getElem? (i := 19) rfl))) (by decide) (t := .long) (t' := .long) (by decide) (by decide)))
  have F30 := Fld.other W24 F12 (Or.inr (slot_ne (Or.inl (hw _ (List.mem_of_getElem? (i := 26) rfl))) (Or.inl (hw _ (List.mem_of_getElem? (i := 19) rfl))) (by decide) (t := .long) (t' := .long) (by decide) (by decide)))
  have F31 := Fld.other W24 F13 (Or.inr (slot_ne (Or.inl (hw _ (List.mem_of_getElem? (i := 41) rfl))) (Or.inl (hw _ (List.mem_of_getElem? (i := 19) rfl))) (by decide) (t := .long) (t' := .long) (by decide) (by decide)))
  have E32 := Exa.wr W24 E14
  have Z33 : n0 ≤ h22.size := by rw [W24.size]; exact Z15
  have K34 : Keep h0 h22 [b] := K16.wr W24 (Or.inl (List.mem_of_getElem? (i := 0) rfl))
  refine s_aloadN 29 A S23 d3_28 rfl (by first | rfl | assumption) rfl ?_
  refine s_dup 30 A S23 d3_29 rfl rfl ?_
  refine s_getF 33 A S23 (hw _ (List.mem_of_getElem? (i := 25) rfl)) F30 d3_30 rfl fun T35 S36 => ?_
  refine s_lloadN 34 A S36 d3_33 rfl rfl ?_
  refine s_lconst (z := (0 : Int64)) 35 A S36 d3_34 rfl rfl ?_
  refine s_callV (y := (⟨"java/lang/Math", "max", "(JJ)J"⟩ : MethodName)) (argsL := [(.long ct), (.long (0 : Int64))]) (rest := [(.long dl), (.ref b)]) 38 A S36 (hw _ (List.mem_of_getElem? (i := 20) rfl)) (hw _ (List.mem_of_getElem? (i := 21) rfl)) (hw _ (List.mem_of_getElem? (i := 22) rfl)) (hw _ (List.mem_of_getElem? (i := 23) rfl)) (rm4 l Z a0 hw [] ct (0 : Int64) h22 n0 Z33) (lenOf pd__JJ_J rfl) d3_35 rfl rfl rfl (by decide) (by decide) (Nat.le_of_ble_eq_true rfl) (by decide) (by decide) fun T37 S38 => ?_
  obtain ⟨lo1, h_lo1⟩ : ∃ z, (dl + (own_max ct (0 : Int64))) = z := ⟨_, rfl⟩
  refine s_ladd (z := lo1) 39 A S38 d3_38 h_lo1 rfl ?_
  refine s_putF (ty := .long) 42 A S38 (hw _ (List.mem_of_getElem? (i := 25) rfl)) F30 E32 (Or.inl (hw _ (List.mem_of_getElem? (i := 26) rfl))) (hw _ (List.mem_of_getElem? (i := 3) rfl)) g0 d3_39 (by decide) rfl rfl rfl fun T39 h40 W42 S41 => ?_
  have F43 := Fld.same W42 F30
  have F44 := Fld.other W42 F26 (Or.inr (slot_ne (Or.inl (hw _ (List.mem_of_getElem? (i := 28) rfl))) (Or.inl (hw _ (List.mem_of_getElem? (i := 26) rfl))) (by decide) (t := .long) (t' := .long) (by decide) (by decide)))
  have F45 := Fld.other W42 F27 (Or.inr (slot_ne (Or.inl (hw _ (List.mem_of_getElem? (i := 17) rfl))) (Or.inl (hw _ (List.mem_of_getElem? (i := 26) rfl))) (by decide) (t := .long) (t' := .long) (by decide) (by decide)))
  have F46 := Fld.other W42 F28 (Or.inr (slot_ne (Or.inl (hw _ (List.mem_of_getElem? (i := 31) rfl))) (Or.inl (hw _ (List.mem_of_getElem? (i := 26) rfl))) (by decide) (t := .long) (t' := .long) (by decide) (by decide)))
  have F47 := Fld.other W42 F25 (Or.inr (slot_ne (Or.inl (hw _ (List.mem_of_getElem? (i := 19) rfl))) (Or.inl (hw _ (List.mem_of_getElem? (i := 26) rfl))) (by decide) (t := .long) (t' := .long) (by decide) (by decide)))
  have F49 := Fld.other W42 F31 (Or.inr (slot_ne (Or.inl (hw _ (List.mem_of_getElem? (i := 41) rfl))) (Or.inl (hw _ (List.mem_of_getElem? (i := 26) rfl))) (by decide) (t := .long) (t' := .long) (by decide) (by decide)))
  have E50 := Exa.wr W42 E32
  have Z51 : n0 ≤ h40.size := by rw [W42.size]; exact Z33
  have K52 : Keep h0 h40 [b] := K34.wr W42 (Or.inl (List.mem_of_getElem? (i := 0) rfl))
  have s1 : lo1.toInt = dl.toInt + ct.toInt := by rw [← h_lo1, own_max0 h2.1]; exact own_ladd (by omega) (by omega)
  refine s_aloadN 43 A S41 d3_42 rfl (by first | rfl | assumption) rfl ?_
  refine s_getF 46 A S41 (hw _ (List.mem_of_getElem? (i := 25) rfl)) F43 d3_43 rfl fun T53 S54 => ?_
  refine s_ldc2 49 A S54 (hw _ (List.mem_of_getElem? (i := 24) rfl)) d3_46 rfl ?_
  refine s_liflt (yi := 1000000000000000000) 75 53 50 A S54 rfl rfl d3_49 rfl d3_50 (by decide) (by decide) rfl (fun c55 => ?_) (fun c55 => ?_)
  · exact s_ret A S54 d3_75 (by decide) (by decide) ⟨rfl, K52, (en + (1 : Int64)), ((hs + (own_max cd (0 : Int64))) - ((hs + (own_max cd (0 : Int64))) / (1000000000000000000 : Int64)) * (1000000000000000000 : Int64)), lo1, dh, ⟨F44, F45, F46, F47, F43, F49⟩, by omega⟩
  · refine s_aloadN 54 A S54 d3_53 rfl (by first | rfl | assumption) rfl ?_
    refine s_dup 55 A S54 d3_54 rfl rfl ?_
    refine s_getF 58 A S54 (hw _ (List.mem_of_getElem? (i := 25) rfl)) F43 d3_55 rfl fun T56 S57 => ?_
    refine s_ldc2 61 A S57 (hw _ (List.mem_of_getElem? (i := 24) rfl)) d3_58 rfl ?_
    refine s_lsub (z := (lo1 - (1000000000000000000 : Int64))) 62 A S57 d3_61 rfl rfl ?_
    refine s_putF (ty := .long) 65 A S57 (hw _ (List.mem_of_getElem? (i := 25) rfl)) F43 E50 (Or.inl (hw _ (List.mem_of_getElem? (i := 26) rfl))) (hw _ (List.mem_of_getElem? (i := 3) rfl)) g0 d3_62 (by decide) rfl rfl rfl fun T58 h59 W61 S60 => ?_
    have F62 := Fld.same W61 F43
    have F63 := Fld.other W61 F44 (Or.inr (slot_ne (Or.inl (hw _ (List.mem_of_getElem? (i := 28) rfl))) (Or.inl (hw _ (List.mem_of_getElem? (i := 26) rfl))) (by decide) (t := .long) (t' := .long) (by decide) (by decide)))
    have F64 := Fld.other W61 F45 (Or.inr (slot_ne (Or.inl (hw _ (List.mem_of_getElem? (i := 17) rfl))) (Or.inl (hw _ (List.mem_of_getElem? (i := 26) rfl))) (by decide) (t := .long) (t' := .long) (by decide) (by decide)))
    have F65 := Fld.other W61 F46 (Or.inr (slot_ne (Or.inl (hw _ (List.mem_of_getElem? (i := 31) rfl))) (Or.inl (hw _ (List.mem_of_getElem? (i := 26) rfl))) (by decide) (t := .long) (t' := .long) (by decide) (by decide)))
    have F66 := Fld.other W61 F47 (Or.inr (slot_ne (Or.inl (hw _ (List.mem_of_getElem? (i := 19) rfl))) (Or.inl (hw _ (List.mem_of_getElem? (i := 26) rfl))) (by decide) (t := .long) (t' := .long) (by decide) (by decide)))
    have F68 := Fld.other W61 F49 (Or.inr (slot_ne (Or.inl (hw _ (List.mem_of_getElem? (i := 41) rfl))) (Or.inl (hw _ (List.mem_of_getElem? (i := 26) rfl))) (by decide) (t := .long) (t' := .long) (by decide) (by decide)))
    have E69 := Exa.wr W61 E50
    have Z70 : n0 ≤ h59.size := by rw [W61.size]; exact Z51
    have K71 : Keep h0 h59 [b] := K52.wr W61 (Or.inl (List.mem_of_getElem? (i := 0) rfl))
    refine s_aloadN 66 A S60 d3_65 rfl (by first | rfl | assumption) rfl ?_
    refine s_dup 67 A S60 d3_66 rfl rfl ?_
    refine s_getF 70 A S60 (hw _ (List.mem_of_getElem? (i := 40) rfl)) F68 d3_67 rfl fun T72 S73 => ?_
    refine s_lconst (z := (1 : Int64)) 71 A S73 d3_70 rfl rfl ?_
    refine s_ladd (z := (dh + (1 : Int64))) 72 A S73 d3_71 rfl rfl ?_
    refine s_putF (ty := .long) 75 A S73 (hw _ (List.mem_of_getElem? (i := 40) rfl)) F68 E69 (Or.inl (hw _ (List.mem_of_getElem? (i := 41) rfl))) (hw _ (List.mem_of_getElem? (i := 3) rfl)) g0 d3_72 (by decide) rfl rfl rfl fun T74 h75 W77 S76 => ?_
    have F78 := Fld.same W77 F68
    have F79 := Fld.other W77 F63 (Or.inr (slot_ne (Or.inl (hw _ (List.mem_of_getElem? (i := 28) rfl))) (Or.inl (hw _ (List.mem_of_getElem? (i := 41) rfl))) (by decide) (t := .long) (t' := .long) (by decide) (by decide)))
    have F80 := Fld.other W77 F64 (Or.inr (slot_ne (Or.inl (hw _ (List.mem_of_getElem? (i := 17) rfl))) (Or.inl (hw _ (List.mem_of_getElem? (i := 41) rfl))) (by decide) (t := .long) (t' := .long) (by decide) (by decide)))
    have F81 := Fld.other W77 F65 (Or.inr (slot_ne (Or.inl (hw _ (List.mem_of_getElem? (i := 31) rfl))) (Or.inl (hw _ (List.mem_of_getElem? (i := 41) rfl))) (by decide) (t := .long) (t' := .long) (by decide) (by decide)))
    have F82 := Fld.other W77 F66 (Or.inr (slot_ne (Or.inl (hw _ (List.mem_of_getElem? (i := 19) rfl))) (Or.inl (hw _ (List.mem_of_getElem? (i := 41) rfl))) (by decide) (t := .long) (t' := .long) (by decide) (by decide)))
    have F83 := Fld.other W77 F62 (Or.inr (slot_ne (Or.inl (hw _ (List.mem_of_getElem? (i := 26) rfl))) (Or.inl (hw _ (List.mem_of_getElem? (i := 41) rfl))) (by decide) (t := .long) (t' := .long) (by decide) (by decide)))
    have E85 := Exa.wr W77 E69
    have Z86 : n0 ≤ h75.size := by rw [W77.size]; exact Z70
    have K87 : Keep h0 h75 [b] := K71.wr W77 (Or.inl (List.mem_of_getElem? (i := 0) rfl))
    exact s_ret A S76 d3_75 (by decide) (by decide) ⟨rfl, K87, (en + (1 : Int64)), ((hs + (own_max cd (0 : Int64))) - ((hs + (own_max cd (0 : Int64))) / (1000000000000000000 : Int64)) * (1000000000000000000 : Int64)), (lo1 - (1000000000000000000 : Int64)), (dh + (1 : Int64)), ⟨F79, F80, F81, F82, F83, F78⟩, by have q1 := own_lsub (x := lo1) (y := 1000000000000000000) (by rw [own_N]; omega) (by rw [own_N]; omega); have q2 : (dh + 1).toInt = dh.toInt + 1 := own_ladd (y := 1) (show _ ≤ dh.toInt + 1 by omega) (show dh.toInt + 1 < _ by omega); rw [own_N] at q1; rw [q1, q2]; omega⟩
theorem d5_0 : decode prog_91_method_3_code 0 = .ok (.aload_n 0, 1) := by decide +kernel
theorem d5_1 : decode prog_91_method_3_code 1 = .ok (.dup, 1) := by decide +kernel
theorem d5_2 : decode prog_91_method_3_code 2 = .ok (.getfield 30, 3) := by decide +kernel
theorem d5_5 : decode prog_91_method_3_code 5 = .ok (.aload_n 1, 1) := by decide +kernel
theorem d5_6 : decode prog_91_method_3_code 6 = .ok (.getfield 30, 3) := by decide +kernel
theorem d5_9 : decode prog_91_method_3_code 9 = .ok (.ladd, 1) := by decide +kernel
theorem d5_10 : decode prog_91_method_3_code 10 = .ok (.putfield 30, 3) := by decide +kernel
theorem d5_13 : decode prog_91_method_3_code 13 = .ok (.aload_n 0, 1) := by decide +kernel
theorem d5_14 : decode prog_91_method_3_code 14 = .ok (.dup, 1) := by decide +kernel
theorem d5_15 : decode prog_91_method_3_code 15 = .ok (.getfield 7, 3) := by decide +kernel
theorem d5_18 : decode prog_91_method_3_code 18 = .ok (.aload_n 1, 1) := by decide +kernel
theorem d5_19 : decode prog_91_method_3_code 19 = .ok (.getfield 7, 3) := by decide +kernel
theorem d5_22 : decode prog_91_method_3_code 22 = .ok (.ladd, 1) := by decide +kernel
theorem d5_23 : decode prog_91_method_3_code 23 = .ok (.putfield 7, 3) := by decide +kernel
theorem d5_26 : decode prog_91_method_3_code 26 = .ok (.aload_n 0, 1) := by decide +kernel
theorem d5_27 : decode prog_91_method_3_code 27 = .ok (.dup, 1) := by decide +kernel
theorem d5_28 : decode prog_91_method_3_code 28 = .ok (.getfield 33, 3) := by decide +kernel
theorem d5_31 : decode prog_91_method_3_code 31 = .ok (.aload_n 1, 1) := by decide +kernel
theorem d5_32 : decode prog_91_method_3_code 32 = .ok (.getfield 33, 3) := by decide +kernel
theorem d5_35 : decode prog_91_method_3_code 35 = .ok (.ladd, 1) := by decide +kernel
theorem d5_36 : decode prog_91_method_3_code 36 = .ok (.putfield 33, 3) := by decide +kernel
theorem d5_39 : decode prog_91_method_3_code 39 = .ok (.aload_n 0, 1) := by decide +kernel
theorem d5_40 : decode prog_91_method_3_code 40 = .ok (.aload_n 0, 1) := by decide +kernel
theorem d5_41 : decode prog_91_method_3_code 41 = .ok (.getfield 13, 3) := by decide +kernel
theorem d5_44 : decode prog_91_method_3_code 44 = .ok (.aload_n 1, 1) := by decide +kernel
theorem d5_45 : decode prog_91_method_3_code 45 = .ok (.getfield 13, 3) := by decide +kernel
theorem d5_48 : decode prog_91_method_3_code 48 = .ok (.ladd, 1) := by decide +kernel
theorem d5_49 : decode prog_91_method_3_code 49 = .ok (.ldc2_w 22, 3) := by decide +kernel
theorem d5_52 : decode prog_91_method_3_code 52 = .ok (.lrem, 1) := by decide +kernel
theorem d5_53 : decode prog_91_method_3_code 53 = .ok (.putfield 13, 3) := by decide +kernel
theorem d5_56 : decode prog_91_method_3_code 56 = .ok (.aload_n 0, 1) := by decide +kernel
theorem d5_57 : decode prog_91_method_3_code 57 = .ok (.dup, 1) := by decide +kernel
theorem d5_58 : decode prog_91_method_3_code 58 = .ok (.getfield 24, 3) := by decide +kernel
theorem d5_61 : decode prog_91_method_3_code 61 = .ok (.aload_n 1, 1) := by decide +kernel
theorem d5_62 : decode prog_91_method_3_code 62 = .ok (.getfield 24, 3) := by decide +kernel
theorem d5_65 : decode prog_91_method_3_code 65 = .ok (.ladd, 1) := by decide +kernel
theorem d5_66 : decode prog_91_method_3_code 66 = .ok (.putfield 24, 3) := by decide +kernel
theorem d5_69 : decode prog_91_method_3_code 69 = .ok (.aload_n 0, 1) := by decide +kernel
theorem d5_70 : decode prog_91_method_3_code 70 = .ok (.dup, 1) := by decide +kernel
theorem d5_71 : decode prog_91_method_3_code 71 = .ok (.getfield 27, 3) := by decide +kernel
theorem d5_74 : decode prog_91_method_3_code 74 = .ok (.aload_n 1, 1) := by decide +kernel
theorem d5_75 : decode prog_91_method_3_code 75 = .ok (.getfield 27, 3) := by decide +kernel
theorem d5_78 : decode prog_91_method_3_code 78 = .ok (.ladd, 1) := by decide +kernel
theorem d5_79 : decode prog_91_method_3_code 79 = .ok (.putfield 27, 3) := by decide +kernel
theorem d5_82 : decode prog_91_method_3_code 82 = .ok (.aload_n 0, 1) := by decide +kernel
theorem d5_83 : decode prog_91_method_3_code 83 = .ok (.getfield 24, 3) := by decide +kernel
theorem d5_86 : decode prog_91_method_3_code 86 = .ok (.ldc2_w 22, 3) := by decide +kernel
theorem d5_89 : decode prog_91_method_3_code 89 = .ok (.lcmp, 1) := by decide +kernel
theorem d5_90 : decode prog_91_method_3_code 90 = .ok (.ifCond .lt 25, 3) := by decide +kernel
theorem d5_93 : decode prog_91_method_3_code 93 = .ok (.aload_n 0, 1) := by decide +kernel
theorem d5_94 : decode prog_91_method_3_code 94 = .ok (.dup, 1) := by decide +kernel
theorem d5_95 : decode prog_91_method_3_code 95 = .ok (.getfield 24, 3) := by decide +kernel
theorem d5_98 : decode prog_91_method_3_code 98 = .ok (.ldc2_w 22, 3) := by decide +kernel
theorem d5_101 : decode prog_91_method_3_code 101 = .ok (.lsub, 1) := by decide +kernel
theorem d5_102 : decode prog_91_method_3_code 102 = .ok (.putfield 24, 3) := by decide +kernel
theorem d5_105 : decode prog_91_method_3_code 105 = .ok (.aload_n 0, 1) := by decide +kernel
theorem d5_106 : decode prog_91_method_3_code 106 = .ok (.dup, 1) := by decide +kernel
theorem d5_107 : decode prog_91_method_3_code 107 = .ok (.getfield 27, 3) := by decide +kernel
theorem d5_110 : decode prog_91_method_3_code 110 = .ok (.lconst 1, 1) := by decide +kernel
theorem d5_111 : decode prog_91_method_3_code 111 = .ok (.ladd, 1) := by decide +kernel
theorem d5_112 : decode prog_91_method_3_code 112 = .ok (.putfield 27, 3) := by decide +kernel
theorem d5_115 : decode prog_91_method_3_code 115 = .ok (.return_, 1) := by decide +kernel
theorem pn_5 : plainFor (⟨"com/example/cuadre/cuadre/service/Tally", "add", "(Lcom/example/cuadre/cuadre/service/Tally;)V"⟩ : MethodName) = true := plainFor_of_name (by first | (simp [plainName, overriddenIn]; done) | decide +kernel)
theorem ef_5 (m : MethodId) (x0 : Addr) (x1 : Addr) : entryFrame m #[(.ref x0), (.ref x1)] 2 = mkF m 0 #[.val (.ref x0), .val (.ref x1)] [] := by first | (simp [entryFrame, mkF, argsToLocals, Value.category]; done) | rfl
set_option maxRecDepth 65536 in
set_option maxHeartbeats 40000000 in
theorem rm5 (l : Launch) (Z : State) (a0 : Array Value) (hw : ∀ d ∈ tables_1, d.before a0 Z = true) (ws : List Jvm.Cond) (b d : Addr) (ba1 en1 ad1 hs1 dl1 dh1 : Int64) (ba2 en2 ad2 hs2 dl2 dh2 : Int64) (h0 : Heap) (n0 : Nat) (Z0 : n0 ≤ h0.size) (E0 : Exa Z h0 b "com/example/cuadre/cuadre/service/Tally") (E1 : Exa Z h0 d "com/example/cuadre/cuadre/service/Tally") (F0 : Fld Z h0 b "com/example/cuadre/cuadre/service/Tally" "batches" "J" (.long ba1)) (F1 : Fld Z h0 b "com/example/cuadre/cuadre/service/Tally" "entries" "J" (.long en1)) (F2 : Fld Z h0 b "com/example/cuadre/cuadre/service/Tally" "addenda" "J" (.long ad1)) (F3 : Fld Z h0 b "com/example/cuadre/cuadre/service/Tally" "hash" "J" (.long hs1)) (F4 : Fld Z h0 b "com/example/cuadre/cuadre/service/Tally" "debitsLow" "J" (.long dl1)) (F5 : Fld Z h0 b "com/example/cuadre/cuadre/service/Tally" "debitsHigh" "J" (.long dh1)) (G0 : Fld Z h0 d "com/example/cuadre/cuadre/service/Tally" "batches" "J" (.long ba2)) (G1 : Fld Z h0 d "com/example/cuadre/cuadre/service/Tally" "entries" "J" (.long en2)) (G2 : Fld Z h0 d "com/example/cuadre/cuadre/service/Tally" "addenda" "J" (.long ad2)) (G3 : Fld Z h0 d "com/example/cuadre/cuadre/service/Tally" "hash" "J" (.long hs2)) (G4 : Fld Z h0 d "com/example/cuadre/cuadre/service/Tally" "debitsLow" "J" (.long dl2)) (G5 : Fld Z h0 d "com/example/cuadre/cuadre/service/Tally" "debitsHigh" "J" (.long dh2)) (g0 : n0 ≤ b) (nd : d ≠ b) (hdl1 : 0 ≤ dl1.toInt ∧ dl1.toInt < 1000000000000000000) (hdl2 : 0 ≤ dl2.toInt ∧ dl2.toInt < 1000000000000000000) (hhs1 : 0 ≤ hs1.toInt ∧ hs1.toInt < 1000000000000000000) (hhs2 : 0 ≤ hs2.toInt ∧ hs2.toInt < 1000000000000000000) (hdh1 : 0 ≤ dh1.toInt ∧ dh1.toInt < 9) (hdh2 : 0 ≤ dh2.toInt ∧ dh2.toInt < 9) :
    own_C l Z (⟨"com/example/cuadre/cuadre/service/Tally", "add", "(Lcom/example/cuadre/cuadre/service/Tally;)V"⟩ : MethodName) prog_91_method_3_code 2 none ({ frames := 0, cells := 0, slots := 0, locals := 0 } : Room) n0 ws #[(.ref b), (.ref d)] h0 (fun v h' => v = none ∧ Keep h0 h' [b] ∧ ∃ hs' dl' dh' : Int64, (Fld Z h' b "com/example/cuadre/cuadre/service/Tally" "batches" "J" (.long (ba1 + ba2)) ∧ Fld Z h' b "com/example/cuadre/cuadre/service/Tally" "entries" "J" (.long (en1 + en2)) ∧ Fld Z h' b "com/example/cuadre/cuadre/service/Tally" "addenda" "J" (.long (ad1 + ad2)) ∧ Fld Z h' b "com/example/cuadre/cuadre/service/Tally" "hash" "J" (.long hs') ∧ Fld Z h' b "com/example/cuadre/cuadre/service/Tally" "debitsLow" "J" (.long dl') ∧ Fld Z h' b "com/example/cuadre/cuadre/service/Tally" "debitsHigh" "J" (.long dh')) ∧ hs'.toInt = (hs1.toInt + hs2.toInt) % 1000000000000000000 ∧ 0 ≤ dl'.toInt ∧ dl'.toInt < 1000000000000000000 ∧ 0 ≤ dh'.toInt ∧ dl'.toInt + 1000000000000000000 * dh'.toInt = dl1.toInt + dl2.toInt + 1000000000000000000 * (dh1.toInt + dh2.toInt)) := by
  refine own_C.of pn_5 Z0 ?_
  intro p e s m below meth c T A S
  rw [ef_5]
  refine s_aloadN 1 A S d5_0 rfl (by first | rfl | assumption) rfl ?_
  refine s_dup 2 A S d5_1 rfl rfl ?_
  refine s_getF 5 A S (hw _ (List.mem_of_getElem? (i := 38) rfl)) F0 d5_2 rfl fun T1 S2 => ?_
  refine s_aloadN 6 A S2 d5_5 rfl (by first | rfl | assumption) rfl ?_
  refine s_getF 9 A S2 (hw _ (List.mem_of_getElem? (i := 38) rfl)) G0 d5_6 rfl fun T3 S4 => ?_
  refine s_ladd (z := (ba1 + ba2)) 10 A S4 d5_9 rfl rfl ?_
  refine s_putF (ty := .long) 13 A S4 (hw _ (List.mem_of_getElem? (i := 38) rfl)) F0 E0 (Or.inl (hw _ (List.mem_of_getElem? (i := 28) rfl))) (hw _ (List.mem_of_getElem? (i := 3) rfl)) g0 d5_10 (by decide) rfl rfl rfl fun T5 h6 W8 S7 => ?_
  have F9 := Fld.same W8 F0
  have F11 := Fld.other W8 F1 (Or.inr (slot_ne (Or.inl (hw _ (List.mem_of_getElem? (i := 17) rfl))) (Or.inl (hw _ (List.mem_of_getElem? (i := 28) rfl))) (by decide) (t := .long) (t' := .long) (by decide) (by decide)))
  have F12 := Fld.other W8 F2 (Or.inr (slot_ne (Or.inl (hw _ (List.mem_of_getElem? (i := 31) rfl))) (Or.inl (hw _ (List.mem_of_getElem? (i := 28) rfl))) (by decide) (t := .long) (t' := .long) (by decide) (by decide)))
  have F13 := Fld.other W8 F3 (Or.inr (slot_ne (Or.inl (hw _ (List.mem_of_getElem? (i := 19) rfl))) (Or.inl (hw _ (List.mem_of_getElem? (i := 28) rfl))) (by decide) (t := .long) (t' := .long) (by decide) (by decide)))
  have F14 := Fld.other W8 F4 (Or.inr (slot_ne (Or.inl (hw _ (List.mem_of_getElem? (i := 26) rfl))) (Or.inl (hw _ (List.mem_of_getElem? (i := 28) rfl))) (by decide) (t := .long) (t' := .long) (by decide) (by decide)))
  have F15 := Fld.other W8 F5 (Or.inr (slot_ne (Or.inl (hw _ (List.mem_of_getElem? (i := 41) rfl))) (Or.inl (hw _ (List.mem_of_getElem? (i := 28) rfl))) (by decide) (t := .long) (t' := .long) (by decide) (by decide)))
  have F16 := Fld.other W8 G0 (Or.inl nd)
  have F17 := Fld.other W8 G1 (Or.inl nd)
  have F18 := Fld.other W8 G2 (Or.inl nd)
  have F19 := Fld.other W8 G3 (Or.inl nd)
  have F20 := Fld.other W8 G4 (Or.inl nd)
  have F21 := Fld.other W8 G5 (Or.inl nd)
  have E22 := Exa.wr W8 E0
  have E23 := Exa.wr W8 E1
  have Z24 : n0 ≤ h6.size := by rw [W8.size]; exact Z0
  have K25 : Keep h0 h6 [b] := (Keep.refl h0 [b]).wr W8 (Or.inl (List.mem_of_getElem? (i := 0) rfl))
  refine s_aloadN 14 A S7 d5_13 rfl (by first | rfl | assumption) rfl ?_
  refine s_dup 15 A S7 d5_14 rfl rfl ?_
  refine s_getF 18 A S7 (hw _ (List.mem_of_getElem? (i := 16) rfl)) F11 d5_15 rfl fun T26 S27 => ?_
  refine s_aloadN 19 A S27 d5_18 rfl (by first | rfl | assumption) rfl ?_
  refine s_getF 22 A S27 (hw _ (List.mem_of_getElem? (i := 16) rfl)) F17 d5_19 rfl fun T28 S29 => ?_
  refine s_ladd (z := (en1 + en2)) 23 A S29 d5_22 rfl rfl ?_
  refine s_putF (ty := .long) 26 A S29 (hw _ (List.mem_of_getElem? (i := 16) rfl)) F11 E22 (Or.inl (hw _ (List.mem_of_getElem? (i := 17) rfl))) (hw _ (List.mem_of_getElem? (i := 3) rfl)) g0 d5_23 (by decide) rfl rfl rfl fun T30 h31 W33 S32 => ?_
  have F34 := Fld.same W33 F11
  have F35 := Fld.other W33 F9 (Or.inr (slot_ne (Or.inl (hw _ (List.mem_of_getElem? (i := 28) rfl))) (Or.inl (hw _ (List.mem_of_getElem? (i := 17) rfl))) (by decide) (t := .long) (t' := .long) (by decide) (by decide)))
  have F37 := Fld.other W33 F12 (Or.inr (slot_ne (Or.inl (hw _ (List.mem_of_getElem? (i := 31) rfl))) (Or.inl (hw _ (List.mem_of_getElem? (i := 17) rfl))) (by decide) (t := .long) (t' := .long) (by decide) (by decide)))
  have F38 := Fld.other W33 F13 (Or.inr (slot_ne (Or.inl (hw _ (List.mem_of_getElem? (i := 19) rfl))) (Or.inl (hw _ (List.mem_of_getElem? (i := 17) rfl))) (by decide) (t := .long) (t' := .long) (by decide) (by decide)))
  have F39 := Fld.other W33 F14 (Or.inr (slot_ne (Or.inl (hw _ (List.mem_of_getElem? (i := 26) rfl))) (Or.inl (hw _ (List.mem_of_getElem? (i := 17) rfl))) (by decide) (t := .long) (t' := .long) (by decide) (by decide)))
  have F40 := Fld.other W33 F15 (Or.inr (slot_ne (Or.inl (hw _ (List.mem_of_getElem? (i := 41) rfl))) (Or.inl (hw _ (List.mem_of_getElem? (i := 17) rfl))) (by decide) (t := .long) (t' := .long) (by decide) (by decide)))
  have F41 := Fld.other W33 F16 (Or.inl nd)
  have F42 := Fld.other W33 F17 (Or.inl nd)
  have F43 := Fld.other W33 F18 (Or.inl nd)
  have F44 := Fld.other W33 F19 (Or.inl nd)
  have F45 := Fld.other W33 F20 (Or.inl nd)
  have F46 := Fld.other W33 F21 (Or.inl nd)
  have E47 := Exa.wr W33 E22
  have E48 := Exa.wr W33 E23
  have Z49 : n0 ≤ h31.size := by rw [W33.size]; exact Z24
  have K50 : Keep h0 h31 [b] := K25.wr W33 (Or.inl (List.mem_of_getElem? (i := 0) rfl))
  refine s_aloadN 27 A S32 d5_26 rfl (by first | rfl | assumption) rfl ?_
  refine s_dup 28 A S32 d5_27 rfl rfl ?_
  refine s_getF 31 A S32 (hw _ (List.mem_of_getElem? (i := 39) rfl)) F37 d5_28 rfl fun T51 S52 => ?_
  refine s_aloadN 32 A S52 d5_31 rfl (by first | rfl | assumption) rfl ?_
  refine s_getF 35 A S52 (hw _ (List.mem_of_getElem? (i := 39) rfl)) F43 d5_32 rfl fun T53 S54 => ?_
  refine s_ladd (z := (ad1 + ad2)) 36 A S54 d5_35 rfl rfl ?_
  refine s_putF (ty := .long) 39 A S54 (hw _ (List.mem_of_getElem? (i := 39) rfl)) F37 E47 (Or.inl (hw _ (List.mem_of_getElem? (i := 31) rfl))) (hw _ (List.mem_of_getElem? (i := 3) rfl)) g0 d5_36 (by decide) rfl rfl rfl fun T55 h56 W58 S57 => ?_
  have F59 := Fld.same W58 F37
  have F60 := Fld.other W58 F35 (Or.inr (slot_ne (Or.inl (hw _ (List.mem_of_getElem? (i := 28) rfl))) (Or.inl (hw _ (List.mem_of_getElem? (i := 31) rfl))) (by decide) (t := .long) (t' := .long) (by decide) (by decide)))
  have F61 := Fld.other W58 F34 (Or.inr (slot_ne (Or.inl (hw _ (List.mem_of_getElem? (i := 17) rfl))) (Or.inl (hw _ (List.mem_of_getElem? (i := 31) rfl))) (by decide) (t := .long) (t' := .long) (by decide) (by decide)))
  have F63 := Fld.other W58 F38 (Or.inr (slot_ne (Or.inl (hw _ (List.mem_of_getElem? (i := 19) rfl))) (Or.inl (hw _ (List.mem_of_getElem? (i := 31) rfl))) (by decide) (t := .long) (t' := .long) (by decide) (by decide)))
  have F64 := Fld.other W58 F39 (Or.inr (slot_ne (Or.inl (hw _ (List.mem_of_getElem? (i := 26) rfl))) (Or.inl (hw _ (List.mem_of_getElem? (i := 31) rfl))) (by decide) (t := .long) (t' := .long) (by decide) (by decide)))
  have F65 := Fld.other W58 F40 (Or.inr (slot_ne (Or.inl (hw _ (List.mem_of_getElem? (i := 41) rfl))) (Or.inl (hw _ (List.mem_of_getElem? (i := 31) rfl))) (by decide) (t := .long) (t' := .long) (by decide) (by decide)))
  have F66 := Fld.other W58 F41 (Or.inl nd)
  have F67 := Fld.other W58 F42 (Or.inl nd)
  have F68 := Fld.other W58 F43 (Or.inl nd)
  have F69 := Fld.other W58 F44 (Or.inl nd)
  have F70 := Fld.other W58 F45 (Or.inl nd)
  have F71 := Fld.other W58 F46 (Or.inl nd)
  have E72 := Exa.wr W58 E47
  have E73 := Exa.wr W58 E48
  have Z74 : n0 ≤ h56.size := by rw [W58.size]; exact Z49
  have K75 : Keep h0 h56 [b] := K50.wr W58 (Or.inl (List.mem_of_getElem? (i := 0) rfl))
  refine s_aloadN 40 A S57 d5_39 rfl (by first | rfl | assumption) rfl ?_
  refine s_aloadN 41 A S57 d5_40 rfl (by first | rfl | assumption) rfl ?_
  refine s_getF 44 A S57 (hw _ (List.mem_of_getElem? (i := 18) rfl)) F63 d5_41 rfl fun T76 S77 => ?_
  refine s_aloadN 45 A S77 d5_44 rfl (by first | rfl | assumption) rfl ?_
  refine s_getF 48 A S77 (hw _ (List.mem_of_getElem? (i := 18) rfl)) F69 d5_45 rfl fun T78 S79 => ?_
  refine s_ladd (z := (hs1 + hs2)) 49 A S79 d5_48 rfl rfl ?_
  refine s_ldc2 52 A S79 (hw _ (List.mem_of_getElem? (i := 24) rfl)) d5_49 rfl ?_
  obtain ⟨nh, h_nh⟩ : ∃ z, ((hs1 + hs2) - ((hs1 + hs2) / (1000000000000000000 : Int64)) * (1000000000000000000 : Int64)) = z := ⟨_, rfl⟩
  refine s_lrem (z := nh) 53 A S79 d5_52 (by decide) h_nh rfl ?_
  refine s_putF (ty := .long) 56 A S79 (hw _ (List.mem_of_getElem? (i := 18) rfl)) F63 E72 (Or.inl (hw _ (List.mem_of_getElem? (i := 19) rfl))) (hw _ (List.mem_of_getElem? (i := 3) rfl)) g0 d5_53 (by decide) rfl rfl rfl fun T80 h81 W83 S82 => ?_
  have F84 := Fld.same W83 F63
  have F85 := Fld.other W83 F60 (Or.inr (slot_ne (Or.inl (hw _ (List.mem_of_getElem? (i := 28) rfl))) (Or.inl (hw _ (List.mem_of_getElem? (i := 19) rfl))) (by decide) (t := .long) (t' := .long) (by decide) (by decide)))
  have F86 := Fld.other W83 F61 (Or.inr (slot_ne (Or.inl (hw _ (List.mem_of_getElem? (i := 17) rfl))) (Or.inl (hw _ (List.mem_of_getElem? (i := 19) rfl))) (by decide) (t := .long) (t' := .long) (by decide) (by decide)))
  have F87 := Fld.other W83 F59 (Or.inr (slot_ne (Or.inl (hw _ (List.mem_of_getElem? (i := 31) rfl))) (Or.inl (hw _ (List.mem_of_getElem? (i := 19) rfl))) (by decide) (t := .long) (t' := .long) (by decide) (by decide)))
  have F89 := Fld.other W83 F64 (Or.inr (slot_ne (Or.inl (hw _ (List.mem_of_getElem? (i := 26) rfl))) (Or.inl (hw _ (List.mem_of_getElem? (i := 19) rfl))) (by decide) (t := .long) (t' := .long) (by decide) (by decide)))
  have F90 := Fld.other W83 F65 (Or.inr (slot_ne (Or.inl (hw _ (List.mem_of_getElem? (i := 41) rfl))) (Or.inl (hw _ (List.mem_of_getElem? (i := 19) rfl))) (by decide) (t := .long) (t' := .long) (by decide) (by decide)))
  have F91 := Fld.other W83 F66 (Or.inl nd)
  have F92 := Fld.other W83 F67 (Or.inl nd)
  have F93 := Fld.other W83 F68 (Or.inl nd)
  have F94 := Fld.other W83 F69 (Or.inl nd)
  have F95 := Fld.other W83 F70 (Or.inl nd)
  have F96 := Fld.other W83 F71 (Or.inl nd)
  have E97 := Exa.wr W83 E72
  have E98 := Exa.wr W83 E73
  have Z99 : n0 ≤ h81.size := by rw [W83.size]; exact Z74
  have K100 : Keep h0 h81 [b] := K75.wr W83 (Or.inl (List.mem_of_getElem? (i := 0) rfl))
  refine s_aloadN 57 A S82 d5_56 rfl (by first | rfl | assumption) rfl ?_
  refine s_dup 58 A S82 d5_57 rfl rfl ?_
  refine s_getF 61 A S82 (hw _ (List.mem_of_getElem? (i := 25) rfl)) F89 d5_58 rfl fun T101 S102 => ?_
  refine s_aloadN 62 A S102 d5_61 rfl (by first | rfl | assumption) rfl ?_
  refine s_getF 65 A S102 (hw _ (List.mem_of_getElem? (i := 25) rfl)) F95 d5_62 rfl fun T103 S104 => ?_
  obtain ⟨lo1, h_lo1⟩ : ∃ z, (dl1 + dl2) = z := ⟨_, rfl⟩
  refine s_ladd (z := lo1) 66 A S104 d5_65 h_lo1 rfl ?_
  refine s_putF (ty := .long) 69 A S104 (hw _ (List.mem_of_getElem? (i := 25) rfl)) F89 E97 (Or.inl (hw _ (List.mem_of_getElem? (i := 26) rfl))) (hw _ (List.mem_of_getElem? (i := 3) rfl)) g0 d5_66 (by decide) rfl rfl rfl fun T105 h106 W108 S107 => ?_
  have F109 := Fld.same W108 F89
  have F110 := Fld.other W108 F85 (Or.inr (slot_ne (Or.inl (hw _ (List.mem_of_getElem? (i := 28) rfl))) (Or.inl (hw _ (List.mem_of_getElem? (i := 26) rfl))) (by decide) (t := .long) (t' := .long) (by decide) (by decide)))
  have F111 := Fld.other W108 F86 (Or.inr (slot_ne (Or.inl (hw _ (List.mem_of_getElem? (i := 17) rfl))) (Or.inl (hw _ (List.mem_of_getElem? (i := 26) rfl))) (by decide) (t := .long) (t' := .long) (by decide) (by decide)))
  have F112 := Fld.other W108 F87 (Or.inr (slot_ne (Or.inl (hw _ (List.mem_of_getElem? (i := 31) rfl))) (Or.inl (hw _ (List.mem_of_getElem? (i := 26) rfl))) (by decide) (t := .long) (t' := .long) (by decide) (by decide)))
  have F113 := Fld.other W108 F84 (Or.inr (slot_ne (Or.inl (hw _ (List.mem_of_getElem? (i := 19) rfl))) (Or.inl (hw _ (List.mem_of_getElem? (i := 26) rfl))) (by decide) (t := .long) (t' := .long) (by decide) (by decide)))
  have F115 := Fld.other W108 F90 (Or.inr (slot_ne (Or.inl (hw _ (List.mem_of_getElem? (i := 41) rfl))) (Or.inl (hw _ (List.mem_of_getElem? (i := 26) rfl))) (by decide) (t := .long) (t' := .long) (by decide) (by decide)))
  have F116 := Fld.other W108 F91 (Or.inl nd)
  have F117 := Fld.other W108 F92 (Or.inl nd)
  have F118 := Fld.other W108 F93 (Or.inl nd)
  have F119 := Fld.other W108 F94 (Or.inl nd)
  have F120 := Fld.other W108 F95 (Or.inl nd)
  have F121 := Fld.other W108 F96 (Or.inl nd)
  have E122 := Exa.wr W108 E97
  have E123 := Exa.wr W108 E98
  have Z124 : n0 ≤ h106.size := by rw [W108.size]; exact Z99
  have K125 : Keep h0 h106 [b] := K100.wr W108 (Or.inl (List.mem_of_getElem? (i := 0) rfl))
  refine s_aloadN 70 A S107 d5_69 rfl (by first | rfl | assumption) rfl ?_
  refine s_dup 71 A S107 d5_70 rfl rfl ?_
  refine s_getF 74 A S107 (hw _ (List.mem_of_getElem? (i := 40) rfl)) F115 d5_71 rfl fun T126 S127 => ?_
  refine s_aloadN 75 A S127 d5_74 rfl (by first | rfl | assumption) rfl ?_
  refine s_getF 78 A S127 (hw _ (List.mem_of_getElem? (i := 40) rfl)) F121 d5_75 rfl fun T128 S129 => ?_
  obtain ⟨hi1, h_hi1⟩ : ∃ z, (dh1 + dh2) = z := ⟨_, rfl⟩
  refine s_ladd (z := hi1) 79 A S129 d5_78 h_hi1 rfl ?_
  refine s_putF (ty := .long) 82 A S129 (hw _ (List.mem_of_getElem? (i := 40) rfl)) F115 E122 (Or.inl (hw _ (List.mem_of_getElem? (i := 41) rfl))) (hw _ (List.mem_of_getElem? (i := 3) rfl)) g0 d5_79 (by decide) rfl rfl rfl fun T130 h131 W133 S132 => ?_
  have F134 := Fld.same W133 F115
  have F135 := Fld.other W133 F110 (Or.inr (slot_ne (Or.inl (hw _ (List.mem_of_getElem? (i := 28) rfl))) (Or.inl (hw _ (List.mem_of_getElem? (i := 41) rfl))) (by decide) (t := .long) (t' := .long) (by decide) (by decide)))
  have F136 := Fld.other W133 F111 (Or.inr (slot_ne (Or.inl (hw _ (List.mem_of_getElem? (i := 17) rfl))) (Or.inl (hw _ (List.mem_of_getElem? (i := 41) rfl))) (by decide) (t := .long) (t' := .long) (by decide) (by decide)))
  have F137 := Fld.other W133 F112 (Or.inr (slot_ne (Or.inl (hw _ (List.mem_of_getElem? (i := 31) rfl))) (Or.inl (hw _ (List.mem_of_getElem? (i := 41) rfl))) (by decide) (t := .long) (t' := .long) (by decide) (by decide)))
  have F138 := Fld.other W133 F113 (Or.inr (slot_ne (Or.inl (hw _ (List.mem_of_getElem? (i := 19) rfl))) (Or.inl (hw _ (List.mem_of_getElem? (i := 41) rfl))) (by decide) (t := .long) (t' := .long) (by decide) (by decide)))
  have F139 := Fld.other W133 F109 (Or.inr (slot_ne (Or.inl (hw _ (List.mem_of_getElem? (i := 26) rfl))) (Or.inl (hw _ (List.mem_of_getElem? (i := 41) rfl))) (by decide) (t := .long) (t' := .long) (by decide) (by decide)))
  have F141 := Fld.other W133 F116 (Or.inl nd)
  have F142 := Fld.other W133 F117 (Or.inl nd)
  have F143 := Fld.other W133 F118 (Or.inl nd)
  have F144 := Fld.other W133 F119 (Or.inl nd)
  have F145 := Fld.other W133 F120 (Or.inl nd)
  have F146 := Fld.other W133 F121 (Or.inl nd)
  have E147 := Exa.wr W133 E122
  have E148 := Exa.wr W133 E123
  have Z149 : n0 ≤ h131.size := by rw [W133.size]; exact Z124
  have K150 : Keep h0 h131 [b] := K125.wr W133 (Or.inl (List.mem_of_getElem? (i := 0) rfl))
  have s1 : lo1.toInt = dl1.toInt + dl2.toInt := by rw [← h_lo1]; exact own_ladd (by omega) (by omega)
  have s2 : hi1.toInt = dh1.toInt + dh2.toInt := by rw [← h_hi1]; exact own_ladd (by omega) (by omega)
  have s3 : nh.toInt = (hs1.toInt + hs2.toInt) % 1000000000000000000 := by rw [← h_nh, own_lrem (by rw [own_ladd (by omega) (by omega)]; omega), own_ladd (by omega) (by omega)]
  refine s_aloadN 83 A S132 d5_82 rfl (by first | rfl | assumption) rfl ?_
  refine s_getF 86 A S132 (hw _ (List.mem_of_getElem? (i := 25) rfl)) F139 d5_83 rfl fun T151 S152 => ?_
  refine s_ldc2 89 A S152 (hw _ (List.mem_of_getElem? (i := 24) rfl)) d5_86 rfl ?_
  refine s_liflt (yi := 1000000000000000000) 115 93 90 A S152 rfl rfl d5_89 rfl d5_90 (by decide) (by decide) rfl (fun c153 => ?_) (fun c153 => ?_)
  · exact s_ret A S152 d5_115 (by decide) (by decide) ⟨rfl, K150, nh, lo1, hi1, ⟨F135, F136, F137, F138, F139, F134⟩, by omega⟩
  · refine s_aloadN 94 A S152 d5_93 rfl (by first | rfl | assumption) rfl ?_
    refine s_dup 95 A S152 d5_94 rfl rfl ?_
    refine s_getF 98 A S152 (hw _ (List.mem_of_getElem? (i := 25) rfl)) F139 d5_95 rfl fun T154 S155 => ?_
    refine s_ldc2 101 A S155 (hw _ (List.mem_of_getElem? (i := 24) rfl)) d5_98 rfl ?_
    refine s_lsub (z := (lo1 - (1000000000000000000 : Int64))) 102 A S155 d5_101 rfl rfl ?_
    refine s_putF (ty := .long) 105 A S155 (hw _ (List.mem_of_getElem? (i := 25) rfl)) F139 E147 (Or.inl (hw _ (List.mem_of_getElem? (i := 26) rfl))) (hw _ (List.mem_of_getElem? (i := 3) rfl)) g0 d5_102 (by decide) rfl rfl rfl fun T156 h157 W159 S158 => ?_
    have F160 := Fld.same W159 F139
    have F161 := Fld.other W159 F135 (Or.inr (slot_ne (Or.inl (hw _ (List.mem_of_getElem? (i := 28) rfl))) (Or.inl (hw _ (List.mem_of_getElem? (i := 26) rfl))) (by decide) (t := .long) (t' := .long) (by decide) (by decide)))
    have F162 := Fld.other W159 F136 (Or.inr (slot_ne (Or.inl (hw _ (List.mem_of_getElem? (i := 17) rfl))) (Or.inl (hw _ (List.mem_of_getElem? (i := 26) rfl))) (by decide) (t := .long) (t' := .long) (by decide) (by decide)))
    have F163 := Fld.other W159 F137 (Or.inr (slot_ne (Or.inl (hw _ (List.mem_of_getElem? (i := 31) rfl))) (Or.inl (hw _ (List.mem_of_getElem? (i := 26) rfl))) (by decide) (t := .long) (t' := .long) (by decide) (by decide)))
    have F164 := Fld.other W159 F138 (Or.inr (slot_ne (Or.inl (hw _ (List.mem_of_getElem? (i := 19) rfl))) (Or.inl (hw _ (List.mem_of_getElem? (i := 26) rfl))) (by decide) (t := .long) (t' := .long) (by decide) (by decide)))
    have F166 := Fld.other W159 F134 (Or.inr (slot_ne (Or.inl (hw _ (List.mem_of_getElem? (i := 41) rfl))) (Or.inl (hw _ (List.mem_of_getElem? (i := 26) rfl))) (by decide) (t := .long) (t' := .long) (by decide) (by decide)))
    have F167 := Fld.other W159 F141 (Or.inl nd)
    have F168 := Fld.other W159 F142 (Or.inl nd)
    have F169 := Fld.other W159 F143 (Or.inl nd)
    have F170 := Fld.other W159 F144 (Or.inl nd)
    have F171 := Fld.other W159 F145 (Or.inl nd)
    have F172 := Fld.other W159 F146 (Or.inl nd)
    have E173 := Exa.wr W159 E147
    have E174 := Exa.wr W159 E148
    have Z175 : n0 ≤ h157.size := by rw [W159.size]; exact Z149
    have K176 : Keep h0 h157 [b] := K150.wr W159 (Or.inl (List.mem_of_getElem? (i := 0) rfl))
    refine s_aloadN 106 A S158 d5_105 rfl (by first | rfl | assumption) rfl ?_
    refine s_dup 107 A S158 d5_106 rfl rfl ?_
    refine s_getF 110 A S158 (hw _ (List.mem_of_getElem? (i := 40) rfl)) F166 d5_107 rfl fun T177 S178 => ?_
    refine s_lconst (z := (1 : Int64)) 111 A S178 d5_110 rfl rfl ?_
    refine s_ladd (z := (hi1 + (1 : Int64))) 112 A S178 d5_111 rfl rfl ?_
    refine s_putF (ty := .long) 115 A S178 (hw _ (List.mem_of_getElem? (i := 40) rfl)) F166 E173 (Or.inl (hw _ (List.mem_of_getElem? (i := 41) rfl))) (hw _ (List.mem_of_getElem? (i := 3) rfl)) g0 d5_112 (by decide) rfl rfl rfl fun T179 h180 W182 S181 => ?_
    have F183 := Fld.same W182 F166
    have F184 := Fld.other W182 F161 (Or.inr (slot_ne (Or.inl (hw _ (List.mem_of_getElem? (i := 28) rfl))) (Or.inl (hw _ (List.mem_of_getElem? (i := 41) rfl))) (by decide) (t := .long) (t' := .long) (by decide) (by decide)))
    have F185 := Fld.other W182 F162 (Or.inr (slot_ne (Or.inl (hw _ (List.mem_of_getElem? (i := 17) rfl))) (Or.inl (hw _ (List.mem_of_getElem? (i := 41) rfl))) (by decide) (t := .long) (t' := .long) (by decide) (by decide)))
    have F186 := Fld.other W182 F163 (Or.inr (slot_ne (Or.inl (hw _ (List.mem_of_getElem? (i := 31) rfl))) (Or.inl (hw _ (List.mem_of_getElem? (i := 41) rfl))) (by decide) (t := .long) (t' := .long) (by decide) (by decide)))
    have F187 := Fld.other W182 F164 (Or.inr (slot_ne (Or.inl (hw _ (List.mem_of_getElem? (i := 19) rfl))) (Or.inl (hw _ (List.mem_of_getElem? (i := 41) rfl))) (by decide) (t := .long) (t' := .long) (by decide) (by decide)))
    have F188 := Fld.other W182 F160 (Or.inr (slot_ne (Or.inl (hw _ (List.mem_of_getElem? (i := 26) rfl))) (Or.inl (hw _ (List.mem_of_getElem? (i := 41) rfl))) (by decide) (t := .long) (t' := .long) (by decide) (by decide)))
    have F190 := Fld.other W182 F167 (Or.inl nd)
    have F191 := Fld.other W182 F168 (Or.inl nd)
    have F192 := Fld.other W182 F169 (Or.inl nd)
    have F193 := Fld.other W182 F170 (Or.inl nd)
    have F194 := Fld.other W182 F171 (Or.inl nd)
    have F195 := Fld.other W182 F172 (Or.inl nd)
    have E196 := Exa.wr W182 E173
    have E197 := Exa.wr W182 E174
    have Z198 : n0 ≤ h180.size := by rw [W182.size]; exact Z175
    have K199 : Keep h0 h180 [b] := K176.wr W182 (Or.inl (List.mem_of_getElem? (i := 0) rfl))
    exact s_ret A S181 d5_115 (by decide) (by decide) ⟨rfl, K199, nh, (lo1 - (1000000000000000000 : Int64)), (hi1 + (1 : Int64)), ⟨F184, F185, F186, F187, F188, F183⟩, by have q1 := own_lsub (x := lo1) (y := 1000000000000000000) (by rw [own_N]; omega) (by rw [own_N]; omega); have q2 : (hi1 + 1).toInt = hi1.toInt + 1 := own_ladd (y := 1) (show _ ≤ hi1.toInt + 1 by omega) (show hi1.toInt + 1 < _ by omega); rw [own_N] at q1; rw [q1, q2]; omega⟩
theorem d6_0 : decode prog_91_method_4_code 0 = .ok (.aload_n 0, 1) := by decide +kernel
theorem d6_1 : decode prog_91_method_4_code 1 = .ok (.getfield 27, 3) := by decide +kernel
theorem d6_4 : decode prog_91_method_4_code 4 = .ok (.lconst 0, 1) := by decide +kernel
theorem d6_5 : decode prog_91_method_4_code 5 = .ok (.lcmp, 1) := by decide +kernel
theorem d6_6 : decode prog_91_method_4_code 6 = .ok (.ifCond .ne 16, 3) := by decide +kernel
theorem d6_9 : decode prog_91_method_4_code 9 = .ok (.aload_n 0, 1) := by decide +kernel
theorem d6_10 : decode prog_91_method_4_code 10 = .ok (.getfield 24, 3) := by decide +kernel
theorem d6_13 : decode prog_91_method_4_code 13 = .ok (.lload_n 1, 1) := by decide +kernel
theorem d6_14 : decode prog_91_method_4_code 14 = .ok (.lcmp, 1) := by decide +kernel
theorem d6_15 : decode prog_91_method_4_code 15 = .ok (.ifCond .ne 7, 3) := by decide +kernel
theorem d6_18 : decode prog_91_method_4_code 18 = .ok (.iconst 1, 1) := by decide +kernel
theorem d6_19 : decode prog_91_method_4_code 19 = .ok (.goto 4, 3) := by decide +kernel
theorem d6_22 : decode prog_91_method_4_code 22 = .ok (.iconst 0, 1) := by decide +kernel
theorem d6_23 : decode prog_91_method_4_code 23 = .ok (.ireturn, 1) := by decide +kernel
theorem pn_6 : plainFor (⟨"com/example/cuadre/cuadre/service/Tally", "debitsAre", "(J)Z"⟩ : MethodName) = true := plainFor_of_name (by first | (simp [plainName, overriddenIn]; done) | decide +kernel)
theorem ef_6 (m : MethodId) (x0 : Addr) (x1 : Int64) : entryFrame m #[(.ref x0), (.long x1)] 3 = mkF m 0 #[.val (.ref x0), .val (.long x1), .second] [] := by first | (simp [entryFrame, mkF, argsToLocals, Value.category]; done) | rfl
set_option maxRecDepth 65536 in
set_option maxHeartbeats 40000000 in
theorem rm6 (l : Launch) (Z : State) (a0 : Array Value) (hw : ∀ d ∈ tables_1, d.before a0 Z = true) (ws : List Jvm.Cond) (b : Addr) (dl dh ct : Int64) (h0 : Heap) (n0 : Nat) (Z0 : n0 ≤ h0.size) (F1 : Fld Z h0 b "com/example/cuadre/cuadre/service/Tally" "debitsLow" "J" (.long dl)) (F2 : Fld Z h0 b "com/example/cuadre/cuadre/service/Tally" "debitsHigh" "J" (.long dh)) :
    own_C l Z (⟨"com/example/cuadre/cuadre/service/Tally", "debitsAre", "(J)Z"⟩ : MethodName) prog_91_method_4_code 3 (some .boolean) ({ frames := 0, cells := 0, slots := 0, locals := 0 } : Room) n0 ws #[(.ref b), (.long ct)] h0 (fun v h' => v = some (.int (own_da dh dl ct)) ∧ h' = h0) := by
  refine own_C.of pn_6 Z0 ?_
  intro p e s m below meth c T A S
  rw [ef_6]
  refine s_aloadN 1 A S d6_0 rfl (by first | rfl | assumption) rfl ?_
  refine s_getF 4 A S (hw _ (List.mem_of_getElem? (i := 40) rfl)) F2 d6_1 rfl fun T1 S2 => ?_
  refine s_lconst (z := (0 : Int64)) 5 A S2 d6_4 rfl rfl ?_
  refine s_lifne (yi := 0) 22 9 6 A S2 rfl rfl d6_5 rfl d6_6 (by decide) (by decide) rfl (fun c3 tc3 => ?_) (fun c3 tc3 => ?_)
  · refine s_iconst (z := (0 : Int32)) 23 A S2 d6_22 rfl rfl ?_
    exact s_retZ A S2 d6_23 rfl (by decide) (by decide) ⟨by rw [own_da0 (by omega)], rfl⟩
  · refine s_aloadN 10 A S2 d6_9 rfl (by first | rfl | assumption) rfl ?_
    refine s_getF 13 A S2 (hw _ (List.mem_of_getElem? (i := 25) rfl)) F1 d6_10 rfl fun T4 S5 => ?_
    refine s_lloadN 14 A S5 d6_13 rfl rfl ?_
    refine s_lifne 22 18 15 A S5 rfl rfl d6_14 rfl d6_15 (by decide) (by decide) rfl (fun c6 tc6 => ?_) (fun c6 tc6 => ?_)
    · refine s_iconst (z := (0 : Int32)) 23 A S5 d6_22 rfl rfl ?_
      exact s_retZ A S5 d6_23 rfl (by decide) (by decide) ⟨by rw [own_da0 (by omega)], rfl⟩
    · refine s_iconst (z := (1 : Int32)) 19 A S5 d6_18 rfl rfl ?_
      refine s_goto 23 A S5 d6_19 (by decide) (by decide) ?_
      exact s_retZ A S5 d6_23 rfl (by decide) (by decide) ⟨by rw [own_da1 (by omega)], rfl⟩
theorem pn_0 : plainFor (⟨"com/example/cuadre/cuadre/service/TallyAddPinLaw", "law", "(JJJJJJ)Z"⟩ : MethodName) = true := plainFor_of_name (by first | (simp [plainName, overriddenIn]; done) | decide +kernel)
theorem ef_0 (m : MethodId) (x0 : Int64) (x1 : Int64) (x2 : Int64) (x3 : Int64) (x4 : Int64) (x5 : Int64) : entryFrame m #[(.long x0), (.long x1), (.long x2), (.long x3), (.long x4), (.long x5)] maxLocals = mkF m 0 #[.val (.long x0), .second, .val (.long x1), .second, .val (.long x2), .second, .val (.long x3), .second, .val (.long x4), .second, .val (.long x5), .second, .unset, .unset, .unset, .unset, .unset, .unset, .unset, .unset, .unset, .unset, .unset, .unset, .unset, .unset, .unset, .unset, .unset, .unset, .unset, .unset, .unset, .unset] [] := by first | (simp [entryFrame, mkF, argsToLocals, Value.category, maxLocals]; done) | rfl
set_option maxRecDepth 65536 in
set_option maxHeartbeats 40000000 in
theorem rm0 (l : Launch) (Z : State) (a0 : Array Value) (hw : ∀ d ∈ tables_1, d.before a0 Z = true) (ws : List Jvm.Cond) (i0 i1 i2 i3 i4 i5 : Int64) (h0 : Heap) (n0 : Nat) (Z0 : n0 ≤ h0.size)  :
    own_C l Z x code maxLocals ret room_1 n0 ws #[(.long i0), (.long i1), (.long i2), (.long i3), (.long i4), (.long i5)] h0 (fun v h' => v = some (.int 1)) := by
  refine own_C.of pn_0 Z0 ?_
  intro p e s m below meth c T A S
  rw [ef_0]
  refine s_lloadN 1 A S at_0 rfl rfl ?_
  refine s_lload 3 A S at_1 rfl rfl ?_
  refine s_lxor (z := (i0 ^^^ i5)) 4 A S at_3 rfl rfl ?_
  refine s_ldc2 7 A S (hw _ (List.mem_of_getElem? (i := 0) rfl)) at_4 rfl ?_
  refine s_land (z := ((i0 ^^^ i5) &&& (9223372036854775807 : Int64))) 8 A S at_7 rfl rfl ?_
  refine s_ldc2 11 A S (hw _ (List.mem_of_getElem? (i := 1) rfl)) at_8 rfl ?_
  obtain ⟨hA, h_hA⟩ : ∃ z, (((i0 ^^^ i5) &&& (9223372036854775807 : Int64)) - (((i0 ^^^ i5) &&& (9223372036854775807 : Int64)) / (1000000000000000000 : Int64)) * (1000000000000000000 : Int64)) = z := ⟨_, rfl⟩
  refine s_lrem (z := hA) 12 A S at_11 (by decide) h_hA rfl ?_
  have b_hA := own_dd (i0 ^^^ i5)
  rw [h_hA] at b_hA
  refine s_lstore (Ls' := #[.val (.long i0), .second, .val (.long i1), .second, .val (.long i2), .second, .val (.long i3), .second, .val (.long i4), .second, .val (.long i5), .second, .val (.long hA), .second, .unset, .unset, .unset, .unset, .unset, .unset, .unset, .unset, .unset, .unset, .unset, .unset, .unset, .unset, .unset, .unset, .unset, .unset, .unset, .unset]) 14 A S at_12 rfl rfl ?_
  refine s_lload 16 A S at_14 rfl rfl ?_
  refine s_lload 18 A S at_16 rfl rfl ?_
  refine s_lxor (z := (i3 ^^^ i2)) 19 A S at_18 rfl rfl ?_
  refine s_ldc2 22 A S (hw _ (List.mem_of_getElem? (i := 0) rfl)) at_19 rfl ?_
  refine s_land (z := ((i3 ^^^ i2) &&& (9223372036854775807 : Int64))) 23 A S at_22 rfl rfl ?_
  refine s_ldc2 26 A S (hw _ (List.mem_of_getElem? (i := 1) rfl)) at_23 rfl ?_
  obtain ⟨hB, h_hB⟩ : ∃ z, (((i3 ^^^ i2) &&& (9223372036854775807 : Int64)) - (((i3 ^^^ i2) &&& (9223372036854775807 : Int64)) / (1000000000000000000 : Int64)) * (1000000000000000000 : Int64)) = z := ⟨_, rfl⟩
  refine s_lrem (z := hB) 27 A S at_26 (by decide) h_hB rfl ?_
  have b_hB := own_dd (i3 ^^^ i2)
  rw [h_hB] at b_hB
  refine s_lstore (Ls' := #[.val (.long i0), .second, .val (.long i1), .second, .val (.long i2), .second, .val (.long i3), .second, .val (.long i4), .second, .val (.long i5), .second, .val (.long hA), .second, .val (.long hB), .second, .unset, .unset, .unset, .unset, .unset, .unset, .unset, .unset, .unset, .unset, .unset, .unset, .unset, .unset, .unset, .unset, .unset, .unset]) 29 A S at_27 rfl rfl ?_
  refine s_lloadN 30 A S at_29 rfl rfl ?_
  refine s_lload 32 A S at_30 rfl rfl ?_
  refine s_lxor (z := (i1 ^^^ i3)) 33 A S at_32 rfl rfl ?_
  refine s_ldc2 36 A S (hw _ (List.mem_of_getElem? (i := 0) rfl)) at_33 rfl ?_
  refine s_land (z := ((i1 ^^^ i3) &&& (9223372036854775807 : Int64))) 37 A S at_36 rfl rfl ?_
  refine s_ldc2 40 A S (hw _ (List.mem_of_getElem? (i := 1) rfl)) at_37 rfl ?_
  obtain ⟨d1, h_d1⟩ : ∃ z, (((i1 ^^^ i3) &&& (9223372036854775807 : Int64)) - (((i1 ^^^ i3) &&& (9223372036854775807 : Int64)) / (1000000000000000000 : Int64)) * (1000000000000000000 : Int64)) = z := ⟨_, rfl⟩
  refine s_lrem (z := d1) 41 A S at_40 (by decide) h_d1 rfl ?_
  have b_d1 := own_dd (i1 ^^^ i3)
  rw [h_d1] at b_d1
  refine s_lstore (Ls' := #[.val (.long i0), .second, .val (.long i1), .second, .val (.long i2), .second, .val (.long i3), .second, .val (.long i4), .second, .val (.long i5), .second, .val (.long hA), .second, .val (.long hB), .second, .val (.long d1), .second, .unset, .unset, .unset, .unset, .unset, .unset, .unset, .unset, .unset, .unset, .unset, .unset, .unset, .unset, .unset, .unset]) 43 A S at_41 rfl rfl ?_
  refine s_lload 45 A S at_43 rfl rfl ?_
  refine s_lloadN 46 A S at_45 rfl rfl ?_
  refine s_lxor (z := (i4 ^^^ i0)) 47 A S at_46 rfl rfl ?_
  refine s_ldc2 50 A S (hw _ (List.mem_of_getElem? (i := 0) rfl)) at_47 rfl ?_
  refine s_land (z := ((i4 ^^^ i0) &&& (9223372036854775807 : Int64))) 51 A S at_50 rfl rfl ?_
  refine s_ldc2 54 A S (hw _ (List.mem_of_getElem? (i := 1) rfl)) at_51 rfl ?_
  obtain ⟨d2, h_d2⟩ : ∃ z, (((i4 ^^^ i0) &&& (9223372036854775807 : Int64)) - (((i4 ^^^ i0) &&& (9223372036854775807 : Int64)) / (1000000000000000000 : Int64)) * (1000000000000000000 : Int64)) = z := ⟨_, rfl⟩
  refine s_lrem (z := d2) 55 A S at_54 (by decide) h_d2 rfl ?_
  have b_d2 := own_dd (i4 ^^^ i0)
  rw [h_d2] at b_d2
  refine s_lstore (Ls' := #[.val (.long i0), .second, .val (.long i1), .second, .val (.long i2), .second, .val (.long i3), .second, .val (.long i4), .second, .val (.long i5), .second, .val (.long hA), .second, .val (.long hB), .second, .val (.long d1), .second, .val (.long d2), .second, .unset, .unset, .unset, .unset, .unset, .unset, .unset, .unset, .unset, .unset, .unset, .unset, .unset, .unset]) 57 A S at_55 rfl rfl ?_
  refine s_lload 59 A S at_57 rfl rfl ?_
  refine s_lloadN 60 A S at_59 rfl rfl ?_
  refine s_lxor (z := (i5 ^^^ i1)) 61 A S at_60 rfl rfl ?_
  refine s_ldc2 64 A S (hw _ (List.mem_of_getElem? (i := 0) rfl)) at_61 rfl ?_
  refine s_land (z := ((i5 ^^^ i1) &&& (9223372036854775807 : Int64))) 65 A S at_64 rfl rfl ?_
  refine s_ldc2 68 A S (hw _ (List.mem_of_getElem? (i := 1) rfl)) at_65 rfl ?_
  obtain ⟨d3, h_d3⟩ : ∃ z, (((i5 ^^^ i1) &&& (9223372036854775807 : Int64)) - (((i5 ^^^ i1) &&& (9223372036854775807 : Int64)) / (1000000000000000000 : Int64)) * (1000000000000000000 : Int64)) = z := ⟨_, rfl⟩
  refine s_lrem (z := d3) 69 A S at_68 (by decide) h_d3 rfl ?_
  have b_d3 := own_dd (i5 ^^^ i1)
  rw [h_d3] at b_d3
  refine s_lstore (Ls' := #[.val (.long i0), .second, .val (.long i1), .second, .val (.long i2), .second, .val (.long i3), .second, .val (.long i4), .second, .val (.long i5), .second, .val (.long hA), .second, .val (.long hB), .second, .val (.long d1), .second, .val (.long d2), .second, .val (.long d3), .second, .unset, .unset, .unset, .unset, .unset, .unset, .unset, .unset, .unset, .unset, .unset, .unset]) 71 A S at_69 rfl rfl ?_
  refine s_new 74 A S (hw _ (List.mem_of_getElem? (i := 2) rfl)) (hw _ (List.mem_of_getElem? (i := 3) rfl)) (hw _ (List.mem_of_getElem? (i := 4) rfl)) at_71 rfl (by decide) (by decide) fun T1 h2 a4 ha_a4 E_a4 X_a4 D_a4 S3 => ?_
  have ge_a4 : n0 ≤ a4 := by rw [ha_a4]; exact Z0
  have Z5 : n0 ≤ h2.size := Nat.le_trans Z0 E_a4.1
  have F_a4_entries : Fld Z h2 a4 "com/example/cuadre/cuadre/service/Tally" "entries" "J" (.long (0 : Int64)) := D_a4 (Or.inl (hw _ (List.mem_of_getElem? (i := 17) rfl))) (ty := .long) (by decide)
  have F_a4_hash : Fld Z h2 a4 "com/example/cuadre/cuadre/service/Tally" "hash" "J" (.long (0 : Int64)) := D_a4 (Or.inl (hw _ (List.mem_of_getElem? (i := 19) rfl))) (ty := .long) (by decide)
  have F_a4_debitsLow : Fld Z h2 a4 "com/example/cuadre/cuadre/service/Tally" "debitsLow" "J" (.long (0 : Int64)) := D_a4 (Or.inl (hw _ (List.mem_of_getElem? (i := 26) rfl))) (ty := .long) (by decide)
  have F_a4_batches : Fld Z h2 a4 "com/example/cuadre/cuadre/service/Tally" "batches" "J" (.long (0 : Int64)) := D_a4 (Or.inl (hw _ (List.mem_of_getElem? (i := 28) rfl))) (ty := .long) (by decide)
  have F_a4_addenda : Fld Z h2 a4 "com/example/cuadre/cuadre/service/Tally" "addenda" "J" (.long (0 : Int64)) := D_a4 (Or.inl (hw _ (List.mem_of_getElem? (i := 31) rfl))) (ty := .long) (by decide)
  have F_a4_debitsHigh : Fld Z h2 a4 "com/example/cuadre/cuadre/service/Tally" "debitsHigh" "J" (.long (0 : Int64)) := D_a4 (Or.inl (hw _ (List.mem_of_getElem? (i := 41) rfl))) (ty := .long) (by decide)
  refine s_dup 75 A S3 at_74 rfl rfl ?_
  refine s_specN (y := (⟨"com/example/cuadre/cuadre/service/Tally", "<init>", "()V"⟩ : MethodName)) (argsL := []) (rest := [(.ref a4)]) (b := a4) 78 A S3 (hw _ (List.mem_of_getElem? (i := 5) rfl)) (hw _ (List.mem_of_getElem? (i := 6) rfl)) (hw _ (List.mem_of_getElem? (i := 4) rfl)) (hw _ (List.mem_of_getElem? (i := 7) rfl)) (rm1 l Z a0 hw [] a4 h2 n0 Z5) (lenOf pd___V rfl) at_75 rfl rfl rfl rfl (by decide) (by decide) (Nat.le_of_ble_eq_true rfl) (by decide) (by decide) fun T6 S7 => ?_
  refine s_astore (Ls' := #[.val (.long i0), .second, .val (.long i1), .second, .val (.long i2), .second, .val (.long i3), .second, .val (.long i4), .second, .val (.long i5), .second, .val (.long hA), .second, .val (.long hB), .second, .val (.long d1), .second, .val (.long d2), .second, .val (.long d3), .second, .val (.ref a4), .unset, .unset, .unset, .unset, .unset, .unset, .unset, .unset, .unset, .unset, .unset]) 80 A S7 at_78 (by first | rfl | assumption) rfl rfl ?_
  refine s_new 83 A S7 (hw _ (List.mem_of_getElem? (i := 2) rfl)) (hw _ (List.mem_of_getElem? (i := 3) rfl)) (hw _ (List.mem_of_getElem? (i := 4) rfl)) at_80 rfl (by decide) (by decide) fun T8 h9 a11 ha_a11 E_a11 X_a11 D_a11 S10 => ?_
  have ne_a4_a11 : a4 ≠ a11 := by rw [ha_a11]; exact Nat.ne_of_lt X_a4.lt
  have ge_a11 : n0 ≤ a11 := by rw [ha_a11]; exact Z5
  have F12 := Fld.ext E_a11 F_a4_entries
  have F13 := Fld.ext E_a11 F_a4_hash
  have F14 := Fld.ext E_a11 F_a4_debitsLow
  have F15 := Fld.ext E_a11 F_a4_batches
  have F16 := Fld.ext E_a11 F_a4_addenda
  have F17 := Fld.ext E_a11 F_a4_debitsHigh
  have E18 := Exa.ext E_a11 X_a4
  have Z19 : n0 ≤ h9.size := Nat.le_trans Z5 E_a11.1
  have F_a11_entries : Fld Z h9 a11 "com/example/cuadre/cuadre/service/Tally" "entries" "J" (.long (0 : Int64)) := D_a11 (Or.inl (hw _ (List.mem_of_getElem? (i := 17) rfl))) (ty := .long) (by decide)
  have F_a11_hash : Fld Z h9 a11 "com/example/cuadre/cuadre/service/Tally" "hash" "J" (.long (0 : Int64)) := D_a11 (Or.inl (hw _ (List.mem_of_getElem? (i := 19) rfl))) (ty := .long) (by decide)
  have F_a11_debitsLow : Fld Z h9 a11 "com/example/cuadre/cuadre/service/Tally" "debitsLow" "J" (.long (0 : Int64)) := D_a11 (Or.inl (hw _ (List.mem_of_getElem? (i := 26) rfl))) (ty := .long) (by decide)
  have F_a11_batches : Fld Z h9 a11 "com/example/cuadre/cuadre/service/Tally" "batches" "J" (.long (0 : Int64)) := D_a11 (Or.inl (hw _ (List.mem_of_getElem? (i := 28) rfl))) (ty := .long) (by decide)
  have F_a11_addenda : Fld Z h9 a11 "com/example/cuadre/cuadre/service/Tally" "addenda" "J" (.long (0 : Int64)) := D_a11 (Or.inl (hw _ (List.mem_of_getElem? (i := 31) rfl))) (ty := .long) (by decide)
  have F_a11_debitsHigh : Fld Z h9 a11 "com/example/cuadre/cuadre/service/Tally" "debitsHigh" "J" (.long (0 : Int64)) := D_a11 (Or.inl (hw _ (List.mem_of_getElem? (i := 41) rfl))) (ty := .long) (by decide)
  refine s_dup 84 A S10 at_83 rfl rfl ?_
  refine s_specN (y := (⟨"com/example/cuadre/cuadre/service/Tally", "<init>", "()V"⟩ : MethodName)) (argsL := []) (rest := [(.ref a11)]) (b := a11) 87 A S10 (hw _ (List.mem_of_getElem? (i := 5) rfl)) (hw _ (List.mem_of_getElem? (i := 6) rfl)) (hw _ (List.mem_of_getElem? (i := 4) rfl)) (hw _ (List.mem_of_getElem? (i := 7) rfl)) (rm1 l Z a0 hw [] a11 h9 n0 Z19) (lenOf pd___V rfl) at_84 rfl rfl rfl rfl (by decide) (by decide) (Nat.le_of_ble_eq_true rfl) (by decide) (by decide) fun T20 S21 => ?_
  refine s_astore (Ls' := #[.val (.long i0), .second, .val (.long i1), .second, .val (.long i2), .second, .val (.long i3), .second, .val (.long i4), .second, .val (.long i5), .second, .val (.long hA), .second, .val (.long hB), .second, .val (.long d1), .second, .val (.long d2), .second, .val (.long d3), .second, .val (.ref a4), .val (.ref a11), .unset, .unset, .unset, .unset, .unset, .unset, .unset, .unset, .unset, .unset]) 89 A S21 at_87 (by first | rfl | assumption) rfl rfl ?_
  refine s_aload 91 A S21 at_89 rfl (by first | rfl | assumption) rfl ?_
  refine s_lconst (z := (0 : Int64)) 92 A S21 at_91 rfl rfl ?_
  refine s_lload 94 A S21 at_92 rfl rfl ?_
  refine s_virt (y := (⟨"com/example/cuadre/cuadre/service/Tally", "entry", "(JJ)V"⟩ : MethodName)) (z := (⟨"com/example/cuadre/cuadre/service/Tally", "entry", "(JJ)V"⟩ : MethodName)) (argsL := [(.long (0 : Int64)), (.long d1)]) (rest := []) (b := a4) 97 A S21 E18 (hw _ (List.mem_of_getElem? (i := 11) rfl)) (hw _ (List.mem_of_getElem? (i := 12) rfl)) (notFace_of_selects (args := #[]) (mvT A.2.2.2.2.2.2.2 (hw _ (List.mem_of_getElem? (i := 14) rfl)))) (hw _ (List.mem_of_getElem? (i := 14) rfl)) (hw _ (List.mem_of_getElem? (i := 13) rfl)) (hw _ (List.mem_of_getElem? (i := 4) rfl)) (hw _ (List.mem_of_getElem? (i := 15) rfl)) (rm3 l Z a0 hw [] a4 (0 : Int64) (0 : Int64) (0 : Int64) (0 : Int64) (0 : Int64) (0 : Int64) (0 : Int64) d1 h9 n0 Z19 E18 F15 F12 F16 F13 F14 F17 ge_a4 (by decide) b_d1 (by decide)) (lenOf pd__JJ_V rfl) at_94 rfl rfl rfl (by decide) (by decide) (Nat.le_of_ble_eq_true rfl) (by decide) (by decide) fun T22 h24 v25 q26 S23 => ?_
  obtain ⟨rfl, K27, en34, hs35, dl36, dh37, ⟨F28, F29, F30, F31, F32, F33⟩, eq38⟩ := q26
  show own_G _ _ _ _ _ _ _ _ _ (mkF m 97 #[.val (.long i0), .second, .val (.long i1), .second, .val (.long i2), .second, .val (.long i3), .second, .val (.long i4), .second, .val (.long i5), .second, .val (.long hA), .second, .val (.long hB), .second, .val (.long d1), .second, .val (.long d2), .second, .val (.long d3), .second, .val (.ref a4), .val (.ref a11), .unset, .unset, .unset, .unset, .unset, .unset, .unset, .unset, .unset, .unset] [])
  have F45 := Fld.keep F_a11_entries K27 (ninS (Ne.symm ne_a4_a11) nin0)
  have F46 := Fld.keep F_a11_hash K27 (ninS (Ne.symm ne_a4_a11) nin0)
  have F47 := Fld.keep F_a11_debitsLow K27 (ninS (Ne.symm ne_a4_a11) nin0)
  have F48 := Fld.keep F_a11_batches K27 (ninS (Ne.symm ne_a4_a11) nin0)
  have F49 := Fld.keep F_a11_addenda K27 (ninS (Ne.symm ne_a4_a11) nin0)
  have F50 := Fld.keep F_a11_debitsHigh K27 (ninS (Ne.symm ne_a4_a11) nin0)
  have E51 := Exa.keep E18 K27
  have E52 := Exa.keep X_a11 K27
  have Z53 : n0 ≤ h24.size := Nat.le_trans Z19 K27.1
  rw [show (0 : Int64).toInt = 0 from rfl] at eq38
  refine s_aload 99 A S23 at_97 rfl (by first | rfl | assumption) rfl ?_
  refine s_lconst (z := (0 : Int64)) 100 A S23 at_99 rfl rfl ?_
  refine s_lload 102 A S23 at_100 rfl rfl ?_
  refine s_virt (y := (⟨"com/example/cuadre/cuadre/service/Tally", "entry", "(JJ)V"⟩ : MethodName)) (z := (⟨"com/example/cuadre/cuadre/service/Tally", "entry", "(JJ)V"⟩ : MethodName)) (argsL := [(.long (0 : Int64)), (.long d2)]) (rest := []) (b := a11) 105 A S23 E52 (hw _ (List.mem_of_getElem? (i := 11) rfl)) (hw _ (List.mem_of_getElem? (i := 12) rfl)) (notFace_of_selects (args := #[]) (mvT A.2.2.2.2.2.2.2 (hw _ (List.mem_of_getElem? (i := 14) rfl)))) (hw _ (List.mem_of_getElem? (i := 14) rfl)) (hw _ (List.mem_of_getElem? (i := 13) rfl)) (hw _ (List.mem_of_getElem? (i := 4) rfl)) (hw _ (List.mem_of_getElem? (i := 15) rfl)) (rm3 l Z a0 hw [] a11 (0 : Int64) (0 : Int64) (0 : Int64) (0 : Int64) (0 : Int64) (0 : Int64) (0 : Int64) d2 h24 n0 Z53 E52 F48 F45 F49 F46 F47 F50 ge_a11 (by decide) b_d2 (by decide)) (lenOf pd__JJ_V rfl) at_102 rfl rfl rfl (by decide) (by decide) (Nat.le_of_ble_eq_true rfl) (by decide) (by decide) fun T54 h56 v57 q58 S55 => ?_
  obtain ⟨rfl, K59, en66, hs67, dl68, dh69, ⟨F60, F61, F62, F63, F64, F65⟩, eq70⟩ := q58
  show own_G _ _ _ _ _ _ _ _ _ (mkF m 105 #[.val (.long i0), .second, .val (.long i1), .second, .val (.long i2), .second, .val (.long i3), .second, .val (.long i4), .second, .val (.long i5), .second, .val (.long hA), .second, .val (.long hB), .second, .val (.long d1), .second, .val (.long d2), .second, .val (.long d3), .second, .val (.ref a4), .val (.ref a11), .unset, .unset, .unset, .unset, .unset, .unset, .unset, .unset, .unset, .unset] [])
  have F77 := Fld.keep F28 K59 (ninS ne_a4_a11 nin0)
  have F78 := Fld.keep F29 K59 (ninS ne_a4_a11 nin0)
  have F79 := Fld.keep F30 K59 (ninS ne_a4_a11 nin0)
  have F80 := Fld.keep F31 K59 (ninS ne_a4_a11 nin0)
  have F81 := Fld.keep F32 K59 (ninS ne_a4_a11 nin0)
  have F82 := Fld.keep F33 K59 (ninS ne_a4_a11 nin0)
  have E83 := Exa.keep E51 K59
  have E84 := Exa.keep E52 K59
  have Z85 : n0 ≤ h56.size := Nat.le_trans Z53 K59.1
  rw [show (0 : Int64).toInt = 0 from rfl] at eq70
  refine s_aload 107 A S55 at_105 rfl (by first | rfl | assumption) rfl ?_
  refine s_lconst (z := (0 : Int64)) 108 A S55 at_107 rfl rfl ?_
  refine s_lload 110 A S55 at_108 rfl rfl ?_
  refine s_virt (y := (⟨"com/example/cuadre/cuadre/service/Tally", "entry", "(JJ)V"⟩ : MethodName)) (z := (⟨"com/example/cuadre/cuadre/service/Tally", "entry", "(JJ)V"⟩ : MethodName)) (argsL := [(.long (0 : Int64)), (.long d3)]) (rest := []) (b := a11) 113 A S55 E84 (hw _ (List.mem_of_getElem? (i := 11) rfl)) (hw _ (List.mem_of_getElem? (i := 12) rfl)) (notFace_of_selects (args := #[]) (mvT A.2.2.2.2.2.2.2 (hw _ (List.mem_of_getElem? (i := 14) rfl)))) (hw _ (List.mem_of_getElem? (i := 14) rfl)) (hw _ (List.mem_of_getElem? (i := 13) rfl)) (hw _ (List.mem_of_getElem? (i := 4) rfl)) (hw _ (List.mem_of_getElem? (i := 15) rfl)) (rm3 l Z a0 hw [] a11 (0 : Int64) en66 (0 : Int64) hs67 dl68 dh69 (0 : Int64) d3 h56 n0 Z85 E84 F60 F61 F62 F63 F64 F65 ge_a11 (by omega) b_d3 (by omega)) (lenOf pd__JJ_V rfl) at_110 rfl rfl rfl (by decide) (by decide) (Nat.le_of_ble_eq_true rfl) (by decide) (by decide) fun T86 h88 v89 q90 S87 => ?_
  obtain ⟨rfl, K91, en98, hs99, dl100, dh101, ⟨F92, F93, F94, F95, F96, F97⟩, eq102⟩ := q90
  show own_G _ _ _ _ _ _ _ _ _ (mkF m 113 #[.val (.long i0), .second, .val (.long i1), .second, .val (.long i2), .second, .val (.long i3), .second, .val (.long i4), .second, .val (.long i5), .second, .val (.long hA), .second, .val (.long hB), .second, .val (.long d1), .second, .val (.long d2), .second, .val (.long d3), .second, .val (.ref a4), .val (.ref a11), .unset, .unset, .unset, .unset, .unset, .unset, .unset, .unset, .unset, .unset] [])
  have F103 := Fld.keep F77 K91 (ninS ne_a4_a11 nin0)
  have F104 := Fld.keep F78 K91 (ninS ne_a4_a11 nin0)
  have F105 := Fld.keep F79 K91 (ninS ne_a4_a11 nin0)
  have F106 := Fld.keep F80 K91 (ninS ne_a4_a11 nin0)
  have F107 := Fld.keep F81 K91 (ninS ne_a4_a11 nin0)
  have F108 := Fld.keep F82 K91 (ninS ne_a4_a11 nin0)
  have E115 := Exa.keep E83 K91
  have E116 := Exa.keep E84 K91
  have Z117 : n0 ≤ h88.size := Nat.le_trans Z85 K91.1
  refine s_aload 115 A S87 at_113 rfl (by first | rfl | assumption) rfl ?_
  refine s_lloadN 116 A S87 at_115 rfl rfl ?_
  refine s_putF (ty := .long) 119 A S87 (hw _ (List.mem_of_getElem? (i := 27) rfl)) F103 E115 (Or.inl (hw _ (List.mem_of_getElem? (i := 28) rfl))) (hw _ (List.mem_of_getElem? (i := 3) rfl)) ge_a4 at_116 (by decide) rfl rfl rfl fun T118 h119 W121 S120 => ?_
  have F122 := Fld.same W121 F103
  have F124 := Fld.other W121 F104 (Or.inr (slot_ne (Or.inl (hw _ (List.mem_of_getElem? (i := 17) rfl))) (Or.inl (hw _ (List.mem_of_getElem? (i := 28) rfl))) (by decide) (t := .long) (t' := .long) (by decide) (by decide)))
  have F125 := Fld.other W121 F105 (Or.inr (slot_ne (Or.inl (hw _ (List.mem_of_getElem? (i := 31) rfl))) (Or.inl (hw _ (List.mem_of_getElem? (i := 28) rfl))) (by decide) (t := .long) (t' := .long) (by decide) (by decide)))
  have F126 := Fld.other W121 F106 (Or.inr (slot_ne (Or.inl (hw _ (List.mem_of_getElem? (i := 19) rfl))) (Or.inl (hw _ (List.mem_of_getElem? (i := 28) rfl))) (by decide) (t := .long) (t' := .long) (by decide) (by decide)))
  have F127 := Fld.other W121 F107 (Or.inr (slot_ne (Or.inl (hw _ (List.mem_of_getElem? (i := 26) rfl))) (Or.inl (hw _ (List.mem_of_getElem? (i := 28) rfl))) (by decide) (t := .long) (t' := .long) (by decide) (by decide)))
  have F128 := Fld.other W121 F108 (Or.inr (slot_ne (Or.inl (hw _ (List.mem_of_getElem? (i := 41) rfl))) (Or.inl (hw _ (List.mem_of_getElem? (i := 28) rfl))) (by decide) (t := .long) (t' := .long) (by decide) (by decide)))
  have F129 := Fld.other W121 F92 (Or.inl (Ne.symm ne_a4_a11))
  have F130 := Fld.other W121 F93 (Or.inl (Ne.symm ne_a4_a11))
  have F131 := Fld.other W121 F94 (Or.inl (Ne.symm ne_a4_a11))
  have F132 := Fld.other W121 F95 (Or.inl (Ne.symm ne_a4_a11))
  have F133 := Fld.other W121 F96 (Or.inl (Ne.symm ne_a4_a11))
  have F134 := Fld.other W121 F97 (Or.inl (Ne.symm ne_a4_a11))
  have E135 := Exa.wr W121 E115
  have E136 := Exa.wr W121 E116
  have Z137 : n0 ≤ h119.size := by rw [W121.size]; exact Z117
  refine s_aload 121 A S120 at_119 rfl (by first | rfl | assumption) rfl ?_
  refine s_lloadN 122 A S120 at_121 rfl rfl ?_
  refine s_putF (ty := .long) 125 A S120 (hw _ (List.mem_of_getElem? (i := 29) rfl)) F124 E135 (Or.inl (hw _ (List.mem_of_getElem? (i := 17) rfl))) (hw _ (List.mem_of_getElem? (i := 3) rfl)) ge_a4 at_122 (by decide) rfl rfl rfl fun T138 h139 W141 S140 => ?_
  have F142 := Fld.same W141 F124
  have F143 := Fld.other W141 F122 (Or.inr (slot_ne (Or.inl (hw _ (List.mem_of_getElem? (i := 28) rfl))) (Or.inl (hw _ (List.mem_of_getElem? (i := 17) rfl))) (by decide) (t := .long) (t' := .long) (by decide) (by decide)))
  have F145 := Fld.other W141 F125 (Or.inr (slot_ne (Or.inl (hw _ (List.mem_of_getElem? (i := 31) rfl))) (Or.inl (hw _ (List.mem_of_getElem? (i := 17) rfl))) (by decide) (t := .long) (t' := .long) (by decide) (by decide)))
  have F146 := Fld.other W141 F126 (Or.inr (slot_ne (Or.inl (hw _ (List.mem_of_getElem? (i := 19) rfl))) (Or.inl (hw _ (List.mem_of_getElem? (i := 17) rfl))) (by decide) (t := .long) (t' := .long) (by decide) (by decide)))
  have F147 := Fld.other W141 F127 (Or.inr (slot_ne (Or.inl (hw _ (List.mem_of_getElem? (i := 26) rfl))) (Or.inl (hw _ (List.mem_of_getElem? (i := 17) rfl))) (by decide) (t := .long) (t' := .long) (by decide) (by decide)))
  have F148 := Fld.other W141 F128 (Or.inr (slot_ne (Or.inl (hw _ (List.mem_of_getElem? (i := 41) rfl))) (Or.inl (hw _ (List.mem_of_getElem? (i := 17) rfl))) (by decide) (t := .long) (t' := .long) (by decide) (by decide)))
  have F149 := Fld.other W141 F129 (Or.inl (Ne.symm ne_a4_a11))
  have F150 := Fld.other W141 F130 (Or.inl (Ne.symm ne_a4_a11))
  have F151 := Fld.other W141 F131 (Or.inl (Ne.symm ne_a4_a11))
  have F152 := Fld.other W141 F132 (Or.inl (Ne.symm ne_a4_a11))
  have F153 := Fld.other W141 F133 (Or.inl (Ne.symm ne_a4_a11))
  have F154 := Fld.other W141 F134 (Or.inl (Ne.symm ne_a4_a11))
  have E155 := Exa.wr W141 E135
  have E156 := Exa.wr W141 E136
  have Z157 : n0 ≤ h139.size := by rw [W141.size]; exact Z137
  refine s_aload 127 A S140 at_125 rfl (by first | rfl | assumption) rfl ?_
  refine s_lload 129 A S140 at_127 rfl rfl ?_
  refine s_putF (ty := .long) 132 A S140 (hw _ (List.mem_of_getElem? (i := 30) rfl)) F145 E155 (Or.inl (hw _ (List.mem_of_getElem? (i := 31) rfl))) (hw _ (List.mem_of_getElem? (i := 3) rfl)) ge_a4 at_129 (by decide) rfl rfl rfl fun T158 h159 W161 S160 => ?_
  have F162 := Fld.same W161 F145
  have F163 := Fld.other W161 F143 (Or.inr (slot_ne (Or.inl (hw _ (List.mem_of_getElem? (i := 28) rfl))) (Or.inl (hw _ (List.mem_of_getElem? (i := 31) rfl))) (by decide) (t := .long) (t' := .long) (by decide) (by decide)))
  have F164 := Fld.other W161 F142 (Or.inr (slot_ne (Or.inl (hw _ (List.mem_of_getElem? (i := 17) rfl))) (Or.inl (hw _ (List.mem_of_getElem? (i := 31) rfl))) (by decide) (t := .long) (t' := .long) (by decide) (by decide)))
  have F166 := Fld.other W161 F146 (Or.inr (slot_ne (Or.inl (hw _ (List.mem_of_getElem? (i := 19) rfl))) (Or.inl (hw _ (List.mem_of_getElem? (i := 31) rfl))) (by decide) (t := .long) (t' := .long) (by decide) (by decide)))
  have F167 := Fld.other W161 F147 (Or.inr (slot_ne (Or.inl (hw _ (List.mem_of_getElem? (i := 26) rfl))) (Or.inl (hw _ (List.mem_of_getElem? (i := 31) rfl))) (by decide) (t := .long) (t' := .long) (by decide) (by decide)))
  have F168 := Fld.other W161 F148 (Or.inr (slot_ne (Or.inl (hw _ (List.mem_of_getElem? (i := 41) rfl))) (Or.inl (hw _ (List.mem_of_getElem? (i := 31) rfl))) (by decide) (t := .long) (t' := .long) (by decide) (by decide)))
  have F169 := Fld.other W161 F149 (Or.inl (Ne.symm ne_a4_a11))
  have F170 := Fld.other W161 F150 (Or.inl (Ne.symm ne_a4_a11))
  have F171 := Fld.other W161 F151 (Or.inl (Ne.symm ne_a4_a11))
  have F172 := Fld.other W161 F152 (Or.inl (Ne.symm ne_a4_a11))
  have F173 := Fld.other W161 F153 (Or.inl (Ne.symm ne_a4_a11))
  have F174 := Fld.other W161 F154 (Or.inl (Ne.symm ne_a4_a11))
  have E175 := Exa.wr W161 E155
  have E176 := Exa.wr W161 E156
  have Z177 : n0 ≤ h159.size := by rw [W161.size]; exact Z157
  refine s_aload 134 A S160 at_132 rfl (by first | rfl | assumption) rfl ?_
  refine s_lload 136 A S160 at_134 rfl rfl ?_
  refine s_putF (ty := .long) 139 A S160 (hw _ (List.mem_of_getElem? (i := 32) rfl)) F166 E175 (Or.inl (hw _ (List.mem_of_getElem? (i := 19) rfl))) (hw _ (List.mem_of_getElem? (i := 3) rfl)) ge_a4 at_136 (by decide) rfl rfl rfl fun T178 h179 W181 S180 => ?_
  have F182 := Fld.same W181 F166
  have F183 := Fld.other W181 F163 (Or.inr (slot_ne (Or.inl (hw _ (List.mem_of_getElem? (i := 28) rfl))) (Or.inl (hw _ (List.mem_of_getElem? (i := 19) rfl))) (by decide) (t := .long) (t' := .long) (by decide) (by decide)))
  have F184 := Fld.other W181 F164 (Or.inr (slot_ne (Or.inl (hw _ (List.mem_of_getElem? (i := 17) rfl))) (Or.inl (hw _ (List.mem_of_getElem? (i := 19) rfl))) (by decide) (t := .long) (t' := .long) (by decide) (by decide)))
  have F185 := Fld.other W181 F162 (Or.inr (slot_ne (Or.inl (hw _ (List.mem_of_getElem? (i := 31) rfl))) (Or.inl (hw _ (List.mem_of_getElem? (i := 19) rfl))) (by decide) (t := .long) (t' := .long) (by decide) (by decide)))
  have F187 := Fld.other W181 F167 (Or.inr (slot_ne (Or.inl (hw _ (List.mem_of_getElem? (i := 26) rfl))) (Or.inl (hw _ (List.mem_of_getElem? (i := 19) rfl))) (by decide) (t := .long) (t' := .long) (by decide) (by decide)))
  have F188 := Fld.other W181 F168 (Or.inr (slot_ne (Or.inl (hw _ (List.mem_of_getElem? (i := 41) rfl))) (Or.inl (hw _ (List.mem_of_getElem? (i := 19) rfl))) (by decide) (t := .long) (t' := .long) (by decide) (by decide)))
  have F189 := Fld.other W181 F169 (Or.inl (Ne.symm ne_a4_a11))
  have F190 := Fld.other W181 F170 (Or.inl (Ne.symm ne_a4_a11))
  have F191 := Fld.other W181 F171 (Or.inl (Ne.symm ne_a4_a11))
  have F192 := Fld.other W181 F172 (Or.inl (Ne.symm ne_a4_a11))
  have F193 := Fld.other W181 F173 (Or.inl (Ne.symm ne_a4_a11))
  have F194 := Fld.other W181 F174 (Or.inl (Ne.symm ne_a4_a11))
  have E195 := Exa.wr W181 E175
  have E196 := Exa.wr W181 E176
  have Z197 : n0 ≤ h179.size := by rw [W181.size]; exact Z177
  refine s_aload 141 A S180 at_139 rfl (by first | rfl | assumption) rfl ?_
  refine s_lload 143 A S180 at_141 rfl rfl ?_
  refine s_putF (ty := .long) 146 A S180 (hw _ (List.mem_of_getElem? (i := 27) rfl)) F189 E196 (Or.inl (hw _ (List.mem_of_getElem? (i := 28) rfl))) (hw _ (List.mem_of_getElem? (i := 3) rfl)) ge_a11 at_143 (by decide) rfl rfl rfl fun T198 h199 W201 S200 => ?_
  have F202 := Fld.same W201 F189
  have F203 := Fld.other W201 F183 (Or.inl ne_a4_a11)
  have F204 := Fld.other W201 F184 (Or.inl ne_a4_a11)
  have F205 := Fld.other W201 F185 (Or.inl ne_a4_a11)
  have F206 := Fld.other W201 F182 (Or.inl ne_a4_a11)
  have F207 := Fld.other W201 F187 (Or.inl ne_a4_a11)
  have F208 := Fld.other W201 F188 (Or.inl ne_a4_a11)
  have F210 := Fld.other W201 F190 (Or.inr (slot_ne (Or.inl (hw _ (List.mem_of_getElem? (i := 17) rfl))) (Or.inl (hw _ (List.mem_of_getElem? (i := 28) rfl))) (by decide) (t := .long) (t' := .long) (by decide) (by decide)))
  have F211 := Fld.other W201 F191 (Or.inr (slot_ne (Or.inl (hw _ (List.mem_of_getElem? (i := 31) rfl))) (Or.inl (hw _ (List.mem_of_getElem? (i := 28) rfl))) (by decide) (t := .long) (t' := .long) (by decide) (by decide)))
  have F212 := Fld.other W201 F192 (Or.inr (slot_ne (Or.inl (hw _ (List.mem_of_getElem? (i := 19) rfl))) (Or.inl (hw _ (List.mem_of_getElem? (i := 28) rfl))) (by decide) (t := .long) (t' := .long) (by decide) (by decide)))
  have F213 := Fld.other W201 F193 (Or.inr (slot_ne (Or.inl (hw _ (List.mem_of_getElem? (i := 26) rfl))) (Or.inl (hw _ (List.mem_of_getElem? (i := 28) rfl))) (by decide) (t := .long) (t' := .long) (by decide) (by decide)))
  have F214 := Fld.other W201 F194 (Or.inr (slot_ne (Or.inl (hw _ (List.mem_of_getElem? (i := 41) rfl))) (Or.inl (hw _ (List.mem_of_getElem? (i := 28) rfl))) (by decide) (t := .long) (t' := .long) (by decide) (by decide)))
  have E215 := Exa.wr W201 E195
  have E216 := Exa.wr W201 E196
  have Z217 : n0 ≤ h199.size := by rw [W201.size]; exact Z197
  refine s_aload 148 A S200 at_146 rfl (by first | rfl | assumption) rfl ?_
  refine s_lload 150 A S200 at_148 rfl rfl ?_
  refine s_putF (ty := .long) 153 A S200 (hw _ (List.mem_of_getElem? (i := 29) rfl)) F210 E216 (Or.inl (hw _ (List.mem_of_getElem? (i := 17) rfl))) (hw _ (List.mem_of_getElem? (i := 3) rfl)) ge_a11 at_150 (by decide) rfl rfl rfl fun T218 h219 W221 S220 => ?_
  have F222 := Fld.same W221 F210
  have F223 := Fld.other W221 F203 (Or.inl ne_a4_a11)
  have F224 := Fld.other W221 F204 (Or.inl ne_a4_a11)
  have F225 := Fld.other W221 F205 (Or.inl ne_a4_a11)
  have F226 := Fld.other W221 F206 (Or.inl ne_a4_a11)
  have F227 := Fld.other W221 F207 (Or.inl ne_a4_a11)
  have F228 := Fld.other W221 F208 (Or.inl ne_a4_a11)
  have F229 := Fld.other W221 F202 (Or.inr (slot_ne (Or.inl (hw _ (List.mem_of_getElem? (i := 28) rfl))) (Or.inl (hw _ (List.mem_of_getElem? (i := 17) rfl))) (by decide) (t := .long) (t' := .long) (by decide) (by decide)))
  have F231 := Fld.other W221 F211 (Or.inr (slot_ne (Or.inl (hw _ (List.mem_of_getElem? (i := 31) rfl))) (Or.inl (hw _ (List.mem_of_getElem? (i := 17) rfl))) (by decide) (t := .long) (t' := .long) (by decide) (by decide)))
  have F232 := Fld.other W221 F212 (Or.inr (slot_ne (Or.inl (hw _ (List.mem_of_getElem? (i := 19) rfl))) (Or.inl (hw _ (List.mem_of_getElem? (i := 17) rfl))) (by decide) (t := .long) (t' := .long) (by decide) (by decide)))
  have F233 := Fld.other W221 F213 (Or.inr (slot_ne (Or.inl (hw _ (List.mem_of_getElem? (i := 26) rfl))) (Or.inl (hw _ (List.mem_of_getElem? (i := 17) rfl))) (by decide) (t := .long) (t' := .long) (by decide) (by decide)))
  have F234 := Fld.other W221 F214 (Or.inr (slot_ne (Or.inl (hw _ (List.mem_of_getElem? (i := 41) rfl))) (Or.inl (hw _ (List.mem_of_getElem? (i := 17) rfl))) (by decide) (t := .long) (t' := .long) (by decide) (by decide)))
  have E235 := Exa.wr W221 E215
  have E236 := Exa.wr W221 E216
  have Z237 : n0 ≤ h219.size := by rw [W221.size]; exact Z217
  refine s_aload 155 A S220 at_153 rfl (by first | rfl | assumption) rfl ?_
  refine s_lload 157 A S220 at_155 rfl rfl ?_
  refine s_putF (ty := .long) 160 A S220 (hw _ (List.mem_of_getElem? (i := 30) rfl)) F231 E236 (Or.inl (hw _ (List.mem_of_getElem? (i := 31) rfl))) (hw _ (List.mem_of_getElem? (i := 3) rfl)) ge_a11 at_157 (by decide) rfl rfl rfl fun T238 h239 W241 S240 => ?_
  have F242 := Fld.same W241 F231
  have F243 := Fld.other W241 F223 (Or.inl ne_a4_a11)
  have F244 := Fld.other W241 F224 (Or.inl ne_a4_a11)
  have F245 := Fld.other W241 F225 (Or.inl ne_a4_a11)
  have F246 := Fld.other W241 F226 (Or.inl ne_a4_a11)
  have F247 := Fld.other W241 F227 (Or.inl ne_a4_a11)
  have F248 := Fld.other W241 F228 (Or.inl ne_a4_a11)
  have F249 := Fld.other W241 F229 (Or.inr (slot_ne (Or.inl (hw _ (List.mem_of_getElem? (i := 28) rfl))) (Or.inl (hw _ (List.mem_of_getElem? (i := 31) rfl))) (by decide) (t := .long) (t' := .long) (by decide) (by decide)))
  have F250 := Fld.other W241 F222 (Or.inr (slot_ne (Or.inl (hw _ (List.mem_of_getElem? (i := 17) rfl))) (Or.inl (hw _ (List.mem_of_getElem? (i := 31) rfl))) (by decide) (t := .long) (t' := .long) (by decide) (by decide)))
  have F252 := Fld.other W241 F232 (Or.inr (slot_ne (Or.inl (hw _ (List.mem_of_getElem? (i := 19) rfl))) (Or.inl (hw _ (List.mem_of_getElem? (i := 31) rfl))) (by decide) (t := .long) (t' := .long) (by decide) (by decide)))
  have F253 := Fld.other W241 F233 (Or.inr (slot_ne (Or.inl (hw _ (List.mem_of_getElem? (i := 26) rfl))) (Or.inl (hw _ (List.mem_of_getElem? (i := 31) rfl))) (by decide) (t := .long) (t' := .long) (by decide) (by decide)))
  have F254 := Fld.other W241 F234 (Or.inr (slot_ne (Or.inl (hw _ (List.mem_of_getElem? (i := 41) rfl))) (Or.inl (hw _ (List.mem_of_getElem? (i := 31) rfl))) (by decide) (t := .long) (t' := .long) (by decide) (by decide)))
  have E255 := Exa.wr W241 E235
  have E256 := Exa.wr W241 E236
  have Z257 : n0 ≤ h239.size := by rw [W241.size]; exact Z237
  refine s_aload 162 A S240 at_160 rfl (by first | rfl | assumption) rfl ?_
  refine s_lload 164 A S240 at_162 rfl rfl ?_
  refine s_putF (ty := .long) 167 A S240 (hw _ (List.mem_of_getElem? (i := 32) rfl)) F252 E256 (Or.inl (hw _ (List.mem_of_getElem? (i := 19) rfl))) (hw _ (List.mem_of_getElem? (i := 3) rfl)) ge_a11 at_164 (by decide) rfl rfl rfl fun T258 h259 W261 S260 => ?_
  have F262 := Fld.same W261 F252
  have F263 := Fld.other W261 F243 (Or.inl ne_a4_a11)
  have F264 := Fld.other W261 F244 (Or.inl ne_a4_a11)
  have F265 := Fld.other W261 F245 (Or.inl ne_a4_a11)
  have F266 := Fld.other W261 F246 (Or.inl ne_a4_a11)
  have F267 := Fld.other W261 F247 (Or.inl ne_a4_a11)
  have F268 := Fld.other W261 F248 (Or.inl ne_a4_a11)
  have F269 := Fld.other W261 F249 (Or.inr (slot_ne (Or.inl (hw _ (List.mem_of_getElem? (i := 28) rfl))) (Or.inl (hw _ (List.mem_of_getElem? (i := 19) rfl))) (by decide) (t := .long) (t' := .long) (by decide) (by decide)))
  have F270 := Fld.other W261 F250 (Or.inr (slot_ne (Or.inl (hw _ (List.mem_of_getElem? (i := 17) rfl))) (Or.inl (hw _ (List.mem_of_getElem? (i := 19) rfl))) (by decide) (t := .long) (t' := .long) (by decide) (by decide)))
  have F271 := Fld.other W261 F242 (Or.inr (slot_ne (Or.inl (hw _ (List.mem_of_getElem? (i := 31) rfl))) (Or.inl (hw _ (List.mem_of_getElem? (i := 19) rfl))) (by decide) (t := .long) (t' := .long) (by decide) (by decide)))
  have F273 := Fld.other W261 F253 (Or.inr (slot_ne (Or.inl (hw _ (List.mem_of_getElem? (i := 26) rfl))) (Or.inl (hw _ (List.mem_of_getElem? (i := 19) rfl))) (by decide) (t := .long) (t' := .long) (by decide) (by decide)))
  have F274 := Fld.other W261 F254 (Or.inr (slot_ne (Or.inl (hw _ (List.mem_of_getElem? (i := 41) rfl))) (Or.inl (hw _ (List.mem_of_getElem? (i := 19) rfl))) (by decide) (t := .long) (t' := .long) (by decide) (by decide)))
  have E275 := Exa.wr W261 E255
  have E276 := Exa.wr W261 E256
  have Z277 : n0 ≤ h259.size := by rw [W261.size]; exact Z257
  refine s_aload 169 A S260 at_167 rfl (by first | rfl | assumption) rfl ?_
  refine s_aload 171 A S260 at_169 rfl (by first | rfl | assumption) rfl ?_
  refine s_virt (y := (⟨"com/example/cuadre/cuadre/service/Tally", "add", "(Lcom/example/cuadre/cuadre/service/Tally;)V"⟩ : MethodName)) (z := (⟨"com/example/cuadre/cuadre/service/Tally", "add", "(Lcom/example/cuadre/cuadre/service/Tally;)V"⟩ : MethodName)) (argsL := [(.ref a11)]) (rest := []) (b := a4) 174 A S260 E275 (hw _ (List.mem_of_getElem? (i := 33) rfl)) (hw _ (List.mem_of_getElem? (i := 34) rfl)) (notFace_of_selects (args := #[]) (mvT A.2.2.2.2.2.2.2 (hw _ (List.mem_of_getElem? (i := 36) rfl)))) (hw _ (List.mem_of_getElem? (i := 36) rfl)) (hw _ (List.mem_of_getElem? (i := 35) rfl)) (hw _ (List.mem_of_getElem? (i := 4) rfl)) (hw _ (List.mem_of_getElem? (i := 37) rfl)) (rm5 l Z a0 hw [] a4 a11 i0 i1 i2 hA dl36 dh37 i3 i4 i5 hB dl100 dh101 h259 n0 Z277 E275 E276 F263 F264 F265 F266 F267 F268 F269 F270 F271 F262 F273 F274 ge_a4 (Ne.symm ne_a4_a11) (by omega) (by omega) b_hA b_hB (by omega) (by omega)) (lenOf pd__Lcom_example_cuadre_cuadre_service_Tally__V rfl) at_171 rfl rfl rfl (by decide) (by decide) (Nat.le_of_ble_eq_true rfl) (by decide) (by decide) fun T278 h280 v281 q282 S279 => ?_
  obtain ⟨rfl, K283, hs9, dl9, dh9, ⟨F284, F285, F286, F287, F288, F289⟩, eq9⟩ := q282
  show own_G _ _ _ _ _ _ _ _ _ (mkF m 174 #[.val (.long i0), .second, .val (.long i1), .second, .val (.long i2), .second, .val (.long i3), .second, .val (.long i4), .second, .val (.long i5), .second, .val (.long hA), .second, .val (.long hB), .second, .val (.long d1), .second, .val (.long d2), .second, .val (.long d3), .second, .val (.ref a4), .val (.ref a11), .unset, .unset, .unset, .unset, .unset, .unset, .unset, .unset, .unset, .unset] [])
  have F296 := Fld.keep F269 K283 (ninS (Ne.symm ne_a4_a11) nin0)
  have F297 := Fld.keep F270 K283 (ninS (Ne.symm ne_a4_a11) nin0)
  have F298 := Fld.keep F271 K283 (ninS (Ne.symm ne_a4_a11) nin0)
  have F299 := Fld.keep F262 K283 (ninS (Ne.symm ne_a4_a11) nin0)
  have F300 := Fld.keep F273 K283 (ninS (Ne.symm ne_a4_a11) nin0)
  have F301 := Fld.keep F274 K283 (ninS (Ne.symm ne_a4_a11) nin0)
  have E302 := Exa.keep E275 K283
  have E303 := Exa.keep E276 K283
  have Z304 : n0 ≤ h280.size := Nat.le_trans Z277 K283.1
  refine s_lload 176 A S279 at_174 rfl rfl ?_
  refine s_lload 178 A S279 at_176 rfl rfl ?_
  obtain ⟨hs0, h_hs0⟩ : ∃ z, (hA + hB) = z := ⟨_, rfl⟩
  refine s_ladd (z := hs0) 179 A S279 at_178 h_hs0 rfl ?_
  refine s_lstore (Ls' := #[.val (.long i0), .second, .val (.long i1), .second, .val (.long i2), .second, .val (.long i3), .second, .val (.long i4), .second, .val (.long i5), .second, .val (.long hA), .second, .val (.long hB), .second, .val (.long d1), .second, .val (.long d2), .second, .val (.long d3), .second, .val (.ref a4), .val (.ref a11), .val (.long hs0), .second, .unset, .unset, .unset, .unset, .unset, .unset, .unset, .unset]) 181 A S279 at_179 rfl rfl ?_
  have t0 : hs0.toInt = hA.toInt + hB.toInt := by rw [← h_hs0]; exact own_ladd (by omega) (by omega)
  have J201_305 : ∀ (T306 : State) (_ : own_S p l e room_1 s m #[(.long i0), (.long i1), (.long i2), (.long i3), (.long i4), (.long i5)] below meth c n0 T306 h280 2 12) (z1 : Int64), (z1.toInt = (hA.toInt + hB.toInt) % 1000000000000000000) → own_G p e below s n0 room_1.cells room_1.slots (fun v h' => v = some (.int 1)) T306 (mkF m 201 #[.val (.long i0), .second, .val (.long i1), .second, .val (.long i2), .second, .val (.long i3), .second, .val (.long i4), .second, .val (.long i5), .second, .val (.long hA), .second, .val (.long hB), .second, .val (.long d1), .second, .val (.long d2), .second, .val (.long d3), .second, .val (.ref a4), .val (.ref a11), .val (.long hs0), .second, .unset, .unset, .unset, .unset, .unset, .unset, .unset, .unset] [(.long z1)]) := by
    intro T306 S307 z1 hz1
    refine s_lstore (Ls' := #[.val (.long i0), .second, .val (.long i1), .second, .val (.long i2), .second, .val (.long i3), .second, .val (.long i4), .second, .val (.long i5), .second, .val (.long hA), .second, .val (.long hB), .second, .val (.long d1), .second, .val (.long d2), .second, .val (.long d3), .second, .val (.ref a4), .val (.ref a11), .val (.long hs0), .second, .val (.long z1), .second, .unset, .unset, .unset, .unset, .unset, .unset]) 203 A S307 at_201 rfl rfl ?_
    refine s_lload 205 A S307 at_203 rfl rfl ?_
    refine s_lload 207 A S307 at_205 rfl rfl ?_
    refine s_ladd (z := (d1 + d2)) 208 A S307 at_207 rfl rfl ?_
    refine s_lload 210 A S307 at_208 rfl rfl ?_
    obtain ⟨tot, h_tot⟩ : ∃ z, ((d1 + d2) + d3) = z := ⟨_, rfl⟩
    refine s_ladd (z := tot) 211 A S307 at_210 h_tot rfl ?_
    refine s_lstore (Ls' := #[.val (.long i0), .second, .val (.long i1), .second, .val (.long i2), .second, .val (.long i3), .second, .val (.long i4), .second, .val (.long i5), .second, .val (.long hA), .second, .val (.long hB), .second, .val (.long d1), .second, .val (.long d2), .second, .val (.long d3), .second, .val (.ref a4), .val (.ref a11), .val (.long hs0), .second, .val (.long z1), .second, .val (.long tot), .second, .unset, .unset, .unset, .unset]) 213 A S307 at_211 rfl rfl ?_
    have t1 : tot.toInt = d1.toInt + d2.toInt + d3.toInt := by rw [← h_tot, own_ladd (by rw [own_ladd (by omega) (by omega)]; omega) (by rw [own_ladd (by omega) (by omega)]; omega), own_ladd (by omega) (by omega)]
    refine s_lload 215 A S307 at_213 rfl rfl ?_
    refine s_ldc2 218 A S307 (hw _ (List.mem_of_getElem? (i := 1) rfl)) at_215 rfl ?_
    refine s_lifge (yi := 1000000000000000000) 234 222 219 A S307 rfl rfl at_218 rfl at_219 (by decide) (by decide) rfl (fun c308 => ?_) (fun c308 => ?_)
    · refine s_lload 236 A S307 at_234 rfl rfl ?_
      refine s_ldc2 239 A S307 (hw _ (List.mem_of_getElem? (i := 47) rfl)) at_236 rfl ?_
      refine s_liflt (yi := 2000000000000000000) 256 243 240 A S307 rfl rfl at_239 rfl at_240 (by decide) (by decide) rfl (fun c309 => ?_) (fun c309 => ?_)
      · refine s_lload 258 A S307 at_256 rfl rfl ?_
        refine s_ldc2 261 A S307 (hw _ (List.mem_of_getElem? (i := 1) rfl)) at_258 rfl ?_
        obtain ⟨low, h_low⟩ : ∃ z, (tot - (1000000000000000000 : Int64)) = z := ⟨_, rfl⟩
        refine s_lsub (z := low) 262 A S307 at_261 h_low rfl ?_
        refine s_lstore (Ls' := #[.val (.long i0), .second, .val (.long i1), .second, .val (.long i2), .second, .val (.long i3), .second, .val (.long i4), .second, .val (.long i5), .second, .val (.long hA), .second, .val (.long hB), .second, .val (.long d1), .second, .val (.long d2), .second, .val (.long d3), .second, .val (.ref a4), .val (.ref a11), .val (.long hs0), .second, .val (.long z1), .second, .val (.long tot), .second, .unset, .val (.long low), .second, .unset]) 264 A S307 at_262 rfl rfl ?_
        refine s_aload 266 A S307 at_264 rfl (by first | rfl | assumption) rfl ?_
        refine s_lload 268 A S307 at_266 rfl rfl ?_
        refine s_virtV (y := (⟨"com/example/cuadre/cuadre/service/Tally", "debitsAre", "(J)Z"⟩ : MethodName)) (z := (⟨"com/example/cuadre/cuadre/service/Tally", "debitsAre", "(J)Z"⟩ : MethodName)) (argsL := [(.long tot)]) (rest := []) (b := a4) 271 A S307 E302 (hw _ (List.mem_of_getElem? (i := 42) rfl)) (hw _ (List.mem_of_getElem? (i := 43) rfl)) (notFace_of_selects (args := #[]) (mvT A.2.2.2.2.2.2.2 (hw _ (List.mem_of_getElem? (i := 45) rfl)))) (hw _ (List.mem_of_getElem? (i := 45) rfl)) (hw _ (List.mem_of_getElem? (i := 44) rfl)) (hw _ (List.mem_of_getElem? (i := 4) rfl)) (hw _ (List.mem_of_getElem? (i := 46) rfl)) (rm6 l Z a0 hw [] a4 dl9 dh9 tot h280 n0 Z304 F288 F289) (lenOf pd__J_Z rfl) at_268 rfl rfl rfl (by decide) (by decide) (Nat.le_of_ble_eq_true rfl) (by decide) (by decide) fun T310 S311 => ?_
        refine s_ifne 288 274 A S311 rfl at_271 (by decide) (by decide) rfl (fun c312 tc312 => (by exact c312 (own_da0 (by omega)) : False).elim) (fun c312 tc312 => ?_)
        refine s_aload 276 A S311 at_274 rfl (by first | rfl | assumption) rfl ?_
        refine s_lload 278 A S311 at_276 rfl rfl ?_
        refine s_virtV (y := (⟨"com/example/cuadre/cuadre/service/Tally", "debitsAre", "(J)Z"⟩ : MethodName)) (z := (⟨"com/example/cuadre/cuadre/service/Tally", "debitsAre", "(J)Z"⟩ : MethodName)) (argsL := [(.long low)]) (rest := []) (b := a4) 281 A S311 E302 (hw _ (List.mem_of_getElem? (i := 42) rfl)) (hw _ (List.mem_of_getElem? (i := 43) rfl)) (notFace_of_selects (args := #[]) (mvT A.2.2.2.2.2.2.2 (hw _ (List.mem_of_getElem? (i := 45) rfl)))) (hw _ (List.mem_of_getElem? (i := 45) rfl)) (hw _ (List.mem_of_getElem? (i := 44) rfl)) (hw _ (List.mem_of_getElem? (i := 4) rfl)) (hw _ (List.mem_of_getElem? (i := 46) rfl)) (rm6 l Z a0 hw [] a4 dl9 dh9 low h280 n0 Z304 F288 F289) (lenOf pd__J_Z rfl) at_278 rfl rfl rfl (by decide) (by decide) (Nat.le_of_ble_eq_true rfl) (by decide) (by decide) fun T313 S314 => ?_
        refine s_ifne 288 284 A S314 rfl at_281 (by decide) (by decide) rfl (fun c315 tc315 => (by exact c315 (own_da0 (by omega)) : False).elim) (fun c315 tc315 => ?_)
        refine s_iconst (z := (1 : Int32)) 285 A S314 at_284 rfl rfl ?_
        refine s_goto 289 A S314 at_285 (by decide) (by decide) ?_
        refine s_istore (Ls' := #[.val (.long i0), .second, .val (.long i1), .second, .val (.long i2), .second, .val (.long i3), .second, .val (.long i4), .second, .val (.long i5), .second, .val (.long hA), .second, .val (.long hB), .second, .val (.long d1), .second, .val (.long d2), .second, .val (.long d3), .second, .val (.ref a4), .val (.ref a11), .val (.long hs0), .second, .val (.long z1), .second, .val (.long tot), .second, .val (.int (1 : Int32)), .val (.long low), .second, .unset]) 291 A S314 at_289 rfl rfl ?_
        refine s_lload 293 A S314 at_291 rfl rfl ?_
        refine s_lload 295 A S314 at_293 rfl rfl ?_
        obtain ⟨bt, h_bt⟩ : ∃ z, (d2 + d3) = z := ⟨_, rfl⟩
        refine s_ladd (z := bt) 296 A S314 at_295 h_bt rfl ?_
        refine s_lstore (Ls' := #[.val (.long i0), .second, .val (.long i1), .second, .val (.long i2), .second, .val (.long i3), .second, .val (.long i4), .second, .val (.long i5), .second, .val (.long hA), .second, .val (.long hB), .second, .val (.long d1), .second, .val (.long d2), .second, .val (.long d3), .second, .val (.ref a4), .val (.ref a11), .val (.long hs0), .second, .val (.long z1), .second, .val (.long tot), .second, .val (.int (1 : Int32)), .val (.long bt), .second, .unset]) 298 A S314 at_296 rfl rfl ?_
        have t2 : bt.toInt = d2.toInt + d3.toInt := by rw [← h_bt]; exact own_ladd (by omega) (by omega)
        refine s_aload 300 A S314 at_298 rfl (by first | rfl | assumption) rfl ?_
        refine s_lload 302 A S314 at_300 rfl rfl ?_
        refine s_virtV (y := (⟨"com/example/cuadre/cuadre/service/Tally", "debitsAre", "(J)Z"⟩ : MethodName)) (z := (⟨"com/example/cuadre/cuadre/service/Tally", "debitsAre", "(J)Z"⟩ : MethodName)) (argsL := [(.long bt)]) (rest := []) (b := a11) 305 A S314 E303 (hw _ (List.mem_of_getElem? (i := 42) rfl)) (hw _ (List.mem_of_getElem? (i := 43) rfl)) (notFace_of_selects (args := #[]) (mvT A.2.2.2.2.2.2.2 (hw _ (List.mem_of_getElem? (i := 45) rfl)))) (hw _ (List.mem_of_getElem? (i := 45) rfl)) (hw _ (List.mem_of_getElem? (i := 44) rfl)) (hw _ (List.mem_of_getElem? (i := 4) rfl)) (hw _ (List.mem_of_getElem? (i := 46) rfl)) (rm6 l Z a0 hw [] a11 dl100 dh101 bt h280 n0 Z304 F300 F301) (lenOf pd__J_Z rfl) at_302 rfl rfl rfl (by decide) (by decide) (Nat.le_of_ble_eq_true rfl) (by decide) (by decide) fun T316 S317 => ?_
        refine s_lload 307 A S317 at_305 rfl rfl ?_
        refine s_ldc2 310 A S317 (hw _ (List.mem_of_getElem? (i := 1) rfl)) at_307 rfl ?_
        refine s_lifge (yi := 1000000000000000000) 318 314 311 A S317 rfl rfl at_310 rfl at_311 (by decide) (by decide) rfl (fun c318 => ?_) (fun c318 => ?_)
        · refine s_iconst (z := (0 : Int32)) 319 A S317 at_318 rfl rfl ?_
          refine s_ine (yi := 0) 326 322 A S317 rfl rfl at_319 (by decide) (by decide) rfl (fun c319 tc319 => (by exact c319 (by rw [own_da0 (by omega)]) : False).elim) (fun c319 tc319 => ?_)
          refine s_iconst (z := (1 : Int32)) 323 A S317 at_322 rfl rfl ?_
          refine s_goto 327 A S317 at_323 (by decide) (by decide) ?_
          refine s_istore (Ls' := #[.val (.long i0), .second, .val (.long i1), .second, .val (.long i2), .second, .val (.long i3), .second, .val (.long i4), .second, .val (.long i5), .second, .val (.long hA), .second, .val (.long hB), .second, .val (.long d1), .second, .val (.long d2), .second, .val (.long d3), .second, .val (.ref a4), .val (.ref a11), .val (.long hs0), .second, .val (.long z1), .second, .val (.long tot), .second, .val (.int (1 : Int32)), .val (.long bt), .second, .val (.int (1 : Int32))]) 329 A S317 at_327 rfl rfl ?_
          refine s_aload 331 A S317 at_329 rfl (by first | rfl | assumption) rfl ?_
          refine s_getF 334 A S317 (hw _ (List.mem_of_getElem? (i := 27) rfl)) F284 at_331 rfl fun T320 S321 => ?_
          refine s_lloadN 335 A S321 at_334 rfl rfl ?_
          refine s_lload 337 A S321 at_335 rfl rfl ?_
          refine s_ladd (z := (i0 + i3)) 338 A S321 at_337 rfl rfl ?_
          refine s_lifne 438 342 339 A S321 rfl rfl at_338 rfl at_339 (by decide) (by decide) rfl (fun c322 tc322 => (by exact c322 rfl : False).elim) (fun c322 tc322 => ?_)
          refine s_aload 344 A S321 at_342 rfl (by first | rfl | assumption) rfl ?_
          refine s_getF 347 A S321 (hw _ (List.mem_of_getElem? (i := 29) rfl)) F285 at_344 rfl fun T323 S324 => ?_
          refine s_lloadN 348 A S324 at_347 rfl rfl ?_
          refine s_lload 350 A S324 at_348 rfl rfl ?_
          refine s_ladd (z := (i1 + i4)) 351 A S324 at_350 rfl rfl ?_
          refine s_lifne 438 355 352 A S324 rfl rfl at_351 rfl at_352 (by decide) (by decide) rfl (fun c325 tc325 => (by exact c325 rfl : False).elim) (fun c325 tc325 => ?_)
          refine s_aload 357 A S324 at_355 rfl (by first | rfl | assumption) rfl ?_
          refine s_getF 360 A S324 (hw _ (List.mem_of_getElem? (i := 30) rfl)) F286 at_357 rfl fun T326 S327 => ?_
          refine s_lload 362 A S327 at_360 rfl rfl ?_
          refine s_lload 364 A S327 at_362 rfl rfl ?_
          refine s_ladd (z := (i2 + i5)) 365 A S327 at_364 rfl rfl ?_
          refine s_lifne 438 369 366 A S327 rfl rfl at_365 rfl at_366 (by decide) (by decide) rfl (fun c328 tc328 => (by exact c328 rfl : False).elim) (fun c328 tc328 => ?_)
          refine s_aload 371 A S327 at_369 rfl (by first | rfl | assumption) rfl ?_
          refine s_getF 374 A S327 (hw _ (List.mem_of_getElem? (i := 32) rfl)) F287 at_371 rfl fun T329 S330 => ?_
          refine s_lload 376 A S330 at_374 rfl rfl ?_
          refine s_lifne 438 380 377 A S330 rfl rfl at_376 rfl at_377 (by decide) (by decide) rfl (fun c331 tc331 => (by exact c331 (Int64.toInt_inj.mp (by omega)) : False).elim) (fun c331 tc331 => ?_)
          refine s_iload 382 A S330 at_380 rfl rfl ?_
          refine s_ifeq (xi := 1) 438 385 A S330 rfl at_382 (by decide) (by decide) rfl (fun c332 tc332 => (by exact absurd tc332 (by decide) : False).elim) (fun c332 tc332 => ?_)
          refine s_aload 387 A S330 at_385 rfl (by first | rfl | assumption) rfl ?_
          refine s_getF 390 A S330 (hw _ (List.mem_of_getElem? (i := 27) rfl)) F296 at_387 rfl fun T333 S334 => ?_
          refine s_lload 392 A S334 at_390 rfl rfl ?_
          refine s_lifne 438 396 393 A S334 rfl rfl at_392 rfl at_393 (by decide) (by decide) rfl (fun c335 tc335 => (by exact c335 rfl : False).elim) (fun c335 tc335 => ?_)
          refine s_aload 398 A S334 at_396 rfl (by first | rfl | assumption) rfl ?_
          refine s_getF 401 A S334 (hw _ (List.mem_of_getElem? (i := 29) rfl)) F297 at_398 rfl fun T336 S337 => ?_
          refine s_lload 403 A S337 at_401 rfl rfl ?_
          refine s_lifne 438 407 404 A S337 rfl rfl at_403 rfl at_404 (by decide) (by decide) rfl (fun c338 tc338 => (by exact c338 rfl : False).elim) (fun c338 tc338 => ?_)
          refine s_aload 409 A S337 at_407 rfl (by first | rfl | assumption) rfl ?_
          refine s_getF 412 A S337 (hw _ (List.mem_of_getElem? (i := 30) rfl)) F298 at_409 rfl fun T339 S340 => ?_
          refine s_lload 414 A S340 at_412 rfl rfl ?_
          refine s_lifne 438 418 415 A S340 rfl rfl at_414 rfl at_415 (by decide) (by decide) rfl (fun c341 tc341 => (by exact c341 rfl : False).elim) (fun c341 tc341 => ?_)
          refine s_aload 420 A S340 at_418 rfl (by first | rfl | assumption) rfl ?_
          refine s_getF 423 A S340 (hw _ (List.mem_of_getElem? (i := 32) rfl)) F299 at_420 rfl fun T342 S343 => ?_
          refine s_lload 425 A S343 at_423 rfl rfl ?_
          refine s_lifne 438 429 426 A S343 rfl rfl at_425 rfl at_426 (by decide) (by decide) rfl (fun c344 tc344 => (by exact c344 rfl : False).elim) (fun c344 tc344 => ?_)
          refine s_iload 431 A S343 at_429 rfl rfl ?_
          refine s_ifeq (xi := 1) 438 434 A S343 rfl at_431 (by decide) (by decide) rfl (fun c345 tc345 => (by exact absurd tc345 (by decide) : False).elim) (fun c345 tc345 => ?_)
          refine s_iconst (z := (1 : Int32)) 435 A S343 at_434 rfl rfl ?_
          refine s_goto 439 A S343 at_435 (by decide) (by decide) ?_
          exact s_retZ A S343 at_439 rfl (by decide) (by decide) rfl
        · refine s_iconst (z := (1 : Int32)) 315 A S317 at_314 rfl rfl ?_
          refine s_goto 319 A S317 at_315 (by decide) (by decide) ?_
          refine s_ine (yi := 1) 326 322 A S317 rfl rfl at_319 (by decide) (by decide) rfl (fun c346 tc346 => (by exact c346 (by rw [own_da1 (by omega)]) : False).elim) (fun c346 tc346 => ?_)
          refine s_iconst (z := (1 : Int32)) 323 A S317 at_322 rfl rfl ?_
          refine s_goto 327 A S317 at_323 (by decide) (by decide) ?_
          refine s_istore (Ls' := #[.val (.long i0), .second, .val (.long i1), .second, .val (.long i2), .second, .val (.long i3), .second, .val (.long i4), .second, .val (.long i5), .second, .val (.long hA), .second, .val (.long hB), .second, .val (.long d1), .second, .val (.long d2), .second, .val (.long d3), .second, .val (.ref a4), .val (.ref a11), .val (.long hs0), .second, .val (.long z1), .second, .val (.long tot), .second, .val (.int (1 : Int32)), .val (.long bt), .second, .val (.int (1 : Int32))]) 329 A S317 at_327 rfl rfl ?_
          refine s_aload 331 A S317 at_329 rfl (by first | rfl | assumption) rfl ?_
          refine s_getF 334 A S317 (hw _ (List.mem_of_getElem? (i := 27) rfl)) F284 at_331 rfl fun T347 S348 => ?_
          refine s_lloadN 335 A S348 at_334 rfl rfl ?_
          refine s_lload 337 A S348 at_335 rfl rfl ?_
          refine s_ladd (z := (i0 + i3)) 338 A S348 at_337 rfl rfl ?_
          refine s_lifne 438 342 339 A S348 rfl rfl at_338 rfl at_339 (by decide) (by decide) rfl (fun c349 tc349 => (by exact c349 rfl : False).elim) (fun c349 tc349 => ?_)
          refine s_aload 344 A S348 at_342 rfl (by first | rfl | assumption) rfl ?_
          refine s_getF 347 A S348 (hw _ (List.mem_of_getElem? (i := 29) rfl)) F285 at_344 rfl fun T350 S351 => ?_
          refine s_lloadN 348 A S351 at_347 rfl rfl ?_
          refine s_lload 350 A S351 at_348 rfl rfl ?_
          refine s_ladd (z := (i1 + i4)) 351 A S351 at_350 rfl rfl ?_
          refine s_lifne 438 355 352 A S351 rfl rfl at_351 rfl at_352 (by decide) (by decide) rfl (fun c352 tc352 => (by exact c352 rfl : False).elim) (fun c352 tc352 => ?_)
          refine s_aload 357 A S351 at_355 rfl (by first | rfl | assumption) rfl ?_
          refine s_getF 360 A S351 (hw _ (List.mem_of_getElem? (i := 30) rfl)) F286 at_357 rfl fun T353 S354 => ?_
          refine s_lload 362 A S354 at_360 rfl rfl ?_
          refine s_lload 364 A S354 at_362 rfl rfl ?_
          refine s_ladd (z := (i2 + i5)) 365 A S354 at_364 rfl rfl ?_
          refine s_lifne 438 369 366 A S354 rfl rfl at_365 rfl at_366 (by decide) (by decide) rfl (fun c355 tc355 => (by exact c355 rfl : False).elim) (fun c355 tc355 => ?_)
          refine s_aload 371 A S354 at_369 rfl (by first | rfl | assumption) rfl ?_
          refine s_getF 374 A S354 (hw _ (List.mem_of_getElem? (i := 32) rfl)) F287 at_371 rfl fun T356 S357 => ?_
          refine s_lload 376 A S357 at_374 rfl rfl ?_
          refine s_lifne 438 380 377 A S357 rfl rfl at_376 rfl at_377 (by decide) (by decide) rfl (fun c358 tc358 => (by exact c358 (Int64.toInt_inj.mp (by omega)) : False).elim) (fun c358 tc358 => ?_)
          refine s_iload 382 A S357 at_380 rfl rfl ?_
          refine s_ifeq (xi := 1) 438 385 A S357 rfl at_382 (by decide) (by decide) rfl (fun c359 tc359 => (by exact absurd tc359 (by decide) : False).elim) (fun c359 tc359 => ?_)
          refine s_aload 387 A S357 at_385 rfl (by first | rfl | assumption) rfl ?_
          refine s_getF 390 A S357 (hw _ (List.mem_of_getElem? (i := 27) rfl)) F296 at_387 rfl fun T360 S361 => ?_
          refine s_lload 392 A S361 at_390 rfl rfl ?_
          refine s_lifne 438 396 393 A S361 rfl rfl at_392 rfl at_393 (by decide) (by decide) rfl (fun c362 tc362 => (by exact c362 rfl : False).elim) (fun c362 tc362 => ?_)
          refine s_aload 398 A S361 at_396 rfl (by first | rfl | assumption) rfl ?_
          refine s_getF 401 A S361 (hw _ (List.mem_of_getElem? (i := 29) rfl)) F297 at_398 rfl fun T363 S364 => ?_
          refine s_lload 403 A S364 at_401 rfl rfl ?_
          refine s_lifne 438 407 404 A S364 rfl rfl at_403 rfl at_404 (by decide) (by decide) rfl (fun c365 tc365 => (by exact c365 rfl : False).elim) (fun c365 tc365 => ?_)
          refine s_aload 409 A S364 at_407 rfl (by first | rfl | assumption) rfl ?_
          refine s_getF 412 A S364 (hw _ (List.mem_of_getElem? (i := 30) rfl)) F298 at_409 rfl fun T366 S367 => ?_
          refine s_lload 414 A S367 at_412 rfl rfl ?_
          refine s_lifne 438 418 415 A S367 rfl rfl at_414 rfl at_415 (by decide) (by decide) rfl (fun c368 tc368 => (by exact c368 rfl : False).elim) (fun c368 tc368 => ?_)
          refine s_aload 420 A S367 at_418 rfl (by first | rfl | assumption) rfl ?_
          refine s_getF 423 A S367 (hw _ (List.mem_of_getElem? (i := 32) rfl)) F299 at_420 rfl fun T369 S370 => ?_
          refine s_lload 425 A S370 at_423 rfl rfl ?_
          refine s_lifne 438 429 426 A S370 rfl rfl at_425 rfl at_426 (by decide) (by decide) rfl (fun c371 tc371 => (by exact c371 rfl : False).elim) (fun c371 tc371 => ?_)
          refine s_iload 431 A S370 at_429 rfl rfl ?_
          refine s_ifeq (xi := 1) 438 434 A S370 rfl at_431 (by decide) (by decide) rfl (fun c372 tc372 => (by exact absurd tc372 (by decide) : False).elim) (fun c372 tc372 => ?_)
          refine s_iconst (z := (1 : Int32)) 435 A S370 at_434 rfl rfl ?_
          refine s_goto 439 A S370 at_435 (by decide) (by decide) ?_
          exact s_retZ A S370 at_439 rfl (by decide) (by decide) rfl
      · refine s_lload 245 A S307 at_243 rfl rfl ?_
        refine s_ldc2 248 A S307 (hw _ (List.mem_of_getElem? (i := 1) rfl)) at_245 rfl ?_
        refine s_lsub (z := (tot - (1000000000000000000 : Int64))) 249 A S307 at_248 rfl rfl ?_
        refine s_ldc2 252 A S307 (hw _ (List.mem_of_getElem? (i := 1) rfl)) at_249 rfl ?_
        obtain ⟨low, h_low⟩ : ∃ z, ((tot - (1000000000000000000 : Int64)) - (1000000000000000000 : Int64)) = z := ⟨_, rfl⟩
        refine s_lsub (z := low) 253 A S307 at_252 h_low rfl ?_
        refine s_goto 262 A S307 at_253 (by decide) (by decide) ?_
        refine s_lstore (Ls' := #[.val (.long i0), .second, .val (.long i1), .second, .val (.long i2), .second, .val (.long i3), .second, .val (.long i4), .second, .val (.long i5), .second, .val (.long hA), .second, .val (.long hB), .second, .val (.long d1), .second, .val (.long d2), .second, .val (.long d3), .second, .val (.ref a4), .val (.ref a11), .val (.long hs0), .second, .val (.long z1), .second, .val (.long tot), .second, .unset, .val (.long low), .second, .unset]) 264 A S307 at_262 rfl rfl ?_
        refine s_aload 266 A S307 at_264 rfl (by first | rfl | assumption) rfl ?_
        refine s_lload 268 A S307 at_266 rfl rfl ?_
        refine s_virtV (y := (⟨"com/example/cuadre/cuadre/service/Tally", "debitsAre", "(J)Z"⟩ : MethodName)) (z := (⟨"com/example/cuadre/cuadre/service/Tally", "debitsAre", "(J)Z"⟩ : MethodName)) (argsL := [(.long tot)]) (rest := []) (b := a4) 271 A S307 E302 (hw _ (List.mem_of_getElem? (i := 42) rfl)) (hw _ (List.mem_of_getElem? (i := 43) rfl)) (notFace_of_selects (args := #[]) (mvT A.2.2.2.2.2.2.2 (hw _ (List.mem_of_getElem? (i := 45) rfl)))) (hw _ (List.mem_of_getElem? (i := 45) rfl)) (hw _ (List.mem_of_getElem? (i := 44) rfl)) (hw _ (List.mem_of_getElem? (i := 4) rfl)) (hw _ (List.mem_of_getElem? (i := 46) rfl)) (rm6 l Z a0 hw [] a4 dl9 dh9 tot h280 n0 Z304 F288 F289) (lenOf pd__J_Z rfl) at_268 rfl rfl rfl (by decide) (by decide) (Nat.le_of_ble_eq_true rfl) (by decide) (by decide) fun T373 S374 => ?_
        refine s_ifne 288 274 A S374 rfl at_271 (by decide) (by decide) rfl (fun c375 tc375 => (by exact c375 (own_da0 (by omega)) : False).elim) (fun c375 tc375 => ?_)
        refine s_aload 276 A S374 at_274 rfl (by first | rfl | assumption) rfl ?_
        refine s_lload 278 A S374 at_276 rfl rfl ?_
        refine s_virtV (y := (⟨"com/example/cuadre/cuadre/service/Tally", "debitsAre", "(J)Z"⟩ : MethodName)) (z := (⟨"com/example/cuadre/cuadre/service/Tally", "debitsAre", "(J)Z"⟩ : MethodName)) (argsL := [(.long low)]) (rest := []) (b := a4) 281 A S374 E302 (hw _ (List.mem_of_getElem? (i := 42) rfl)) (hw _ (List.mem_of_getElem? (i := 43) rfl)) (notFace_of_selects (args := #[]) (mvT A.2.2.2.2.2.2.2 (hw _ (List.mem_of_getElem? (i := 45) rfl)))) (hw _ (List.mem_of_getElem? (i := 45) rfl)) (hw _ (List.mem_of_getElem? (i := 44) rfl)) (hw _ (List.mem_of_getElem? (i := 4) rfl)) (hw _ (List.mem_of_getElem? (i := 46) rfl)) (rm6 l Z a0 hw [] a4 dl9 dh9 low h280 n0 Z304 F288 F289) (lenOf pd__J_Z rfl) at_278 rfl rfl rfl (by decide) (by decide) (Nat.le_of_ble_eq_true rfl) (by decide) (by decide) fun T376 S377 => ?_
        refine s_ifne 288 284 A S377 rfl at_281 (by decide) (by decide) rfl (fun c378 tc378 => (by exact c378 (own_da0 (by omega)) : False).elim) (fun c378 tc378 => ?_)
        refine s_iconst (z := (1 : Int32)) 285 A S377 at_284 rfl rfl ?_
        refine s_goto 289 A S377 at_285 (by decide) (by decide) ?_
        refine s_istore (Ls' := #[.val (.long i0), .second, .val (.long i1), .second, .val (.long i2), .second, .val (.long i3), .second, .val (.long i4), .second, .val (.long i5), .second, .val (.long hA), .second, .val (.long hB), .second, .val (.long d1), .second, .val (.long d2), .second, .val (.long d3), .second, .val (.ref a4), .val (.ref a11), .val (.long hs0), .second, .val (.long z1), .second, .val (.long tot), .second, .val (.int (1 : Int32)), .val (.long low), .second, .unset]) 291 A S377 at_289 rfl rfl ?_
        refine s_lload 293 A S377 at_291 rfl rfl ?_
        refine s_lload 295 A S377 at_293 rfl rfl ?_
        obtain ⟨bt, h_bt⟩ : ∃ z, (d2 + d3) = z := ⟨_, rfl⟩
        refine s_ladd (z := bt) 296 A S377 at_295 h_bt rfl ?_
        refine s_lstore (Ls' := #[.val (.long i0), .second, .val (.long i1), .second, .val (.long i2), .second, .val (.long i3), .second, .val (.long i4), .second, .val (.long i5), .second, .val (.long hA), .second, .val (.long hB), .second, .val (.long d1), .second, .val (.long d2), .second, .val (.long d3), .second, .val (.ref a4), .val (.ref a11), .val (.long hs0), .second, .val (.long z1), .second, .val (.long tot), .second, .val (.int (1 : Int32)), .val (.long bt), .second, .unset]) 298 A S377 at_296 rfl rfl ?_
        have t2 : bt.toInt = d2.toInt + d3.toInt := by rw [← h_bt]; exact own_ladd (by omega) (by omega)
        refine s_aload 300 A S377 at_298 rfl (by first | rfl | assumption) rfl ?_
        refine s_lload 302 A S377 at_300 rfl rfl ?_
        refine s_virtV (y := (⟨"com/example/cuadre/cuadre/service/Tally", "debitsAre", "(J)Z"⟩ : MethodName)) (z := (⟨"com/example/cuadre/cuadre/service/Tally", "debitsAre", "(J)Z"⟩ : MethodName)) (argsL := [(.long bt)]) (rest := []) (b := a11) 305 A S377 E303 (hw _ (List.mem_of_getElem? (i := 42) rfl)) (hw _ (List.mem_of_getElem? (i := 43) rfl)) (notFace_of_selects (args := #[]) (mvT A.2.2.2.2.2.2.2 (hw _ (List.mem_of_getElem? (i := 45) rfl)))) (hw _ (List.mem_of_getElem? (i := 45) rfl)) (hw _ (List.mem_of_getElem? (i := 44) rfl)) (hw _ (List.mem_of_getElem? (i := 4) rfl)) (hw _ (List.mem_of_getElem? (i := 46) rfl)) (rm6 l Z a0 hw [] a11 dl100 dh101 bt h280 n0 Z304 F300 F301) (lenOf pd__J_Z rfl) at_302 rfl rfl rfl (by decide) (by decide) (Nat.le_of_ble_eq_true rfl) (by decide) (by decide) fun T379 S380 => ?_
        refine s_lload 307 A S380 at_305 rfl rfl ?_
        refine s_ldc2 310 A S380 (hw _ (List.mem_of_getElem? (i := 1) rfl)) at_307 rfl ?_
        refine s_lifge (yi := 1000000000000000000) 318 314 311 A S380 rfl rfl at_310 rfl at_311 (by decide) (by decide) rfl (fun c381 => ?_) (fun c381 => ?_)
        · refine s_iconst (z := (0 : Int32)) 319 A S380 at_318 rfl rfl ?_
          refine s_ine (yi := 0) 326 322 A S380 rfl rfl at_319 (by decide) (by decide) rfl (fun c382 tc382 => (by exact c382 (by rw [own_da0 (by omega)]) : False).elim) (fun c382 tc382 => ?_)
          refine s_iconst (z := (1 : Int32)) 323 A S380 at_322 rfl rfl ?_
          refine s_goto 327 A S380 at_323 (by decide) (by decide) ?_
          refine s_istore (Ls' := #[.val (.long i0), .second, .val (.long i1), .second, .val (.long i2), .second, .val (.long i3), .second, .val (.long i4), .second, .val (.long i5), .second, .val (.long hA), .second, .val (.long hB), .second, .val (.long d1), .second, .val (.long d2), .second, .val (.long d3), .second, .val (.ref a4), .val (.ref a11), .val (.long hs0), .second, .val (.long z1), .second, .val (.long tot), .second, .val (.int (1 : Int32)), .val (.long bt), .second, .val (.int (1 : Int32))]) 329 A S380 at_327 rfl rfl ?_
          refine s_aload 331 A S380 at_329 rfl (by first | rfl | assumption) rfl ?_
          refine s_getF 334 A S380 (hw _ (List.mem_of_getElem? (i := 27) rfl)) F284 at_331 rfl fun T383 S384 => ?_
          refine s_lloadN 335 A S384 at_334 rfl rfl ?_
          refine s_lload 337 A S384 at_335 rfl rfl ?_
          refine s_ladd (z := (i0 + i3)) 338 A S384 at_337 rfl rfl ?_
          refine s_lifne 438 342 339 A S384 rfl rfl at_338 rfl at_339 (by decide) (by decide) rfl (fun c385 tc385 => (by exact c385 rfl : False).elim) (fun c385 tc385 => ?_)
          refine s_aload 344 A S384 at_342 rfl (by first | rfl | assumption) rfl ?_
          refine s_getF 347 A S384 (hw _ (List.mem_of_getElem? (i := 29) rfl)) F285 at_344 rfl fun T386 S387 => ?_
          refine s_lloadN 348 A S387 at_347 rfl rfl ?_
          refine s_lload 350 A S387 at_348 rfl rfl ?_
          refine s_ladd (z := (i1 + i4)) 351 A S387 at_350 rfl rfl ?_
          refine s_lifne 438 355 352 A S387 rfl rfl at_351 rfl at_352 (by decide) (by decide) rfl (fun c388 tc388 => (by exact c388 rfl : False).elim) (fun c388 tc388 => ?_)
          refine s_aload 357 A S387 at_355 rfl (by first | rfl | assumption) rfl ?_
          refine s_getF 360 A S387 (hw _ (List.mem_of_getElem? (i := 30) rfl)) F286 at_357 rfl fun T389 S390 => ?_
          refine s_lload 362 A S390 at_360 rfl rfl ?_
          refine s_lload 364 A S390 at_362 rfl rfl ?_
          refine s_ladd (z := (i2 + i5)) 365 A S390 at_364 rfl rfl ?_
          refine s_lifne 438 369 366 A S390 rfl rfl at_365 rfl at_366 (by decide) (by decide) rfl (fun c391 tc391 => (by exact c391 rfl : False).elim) (fun c391 tc391 => ?_)
          refine s_aload 371 A S390 at_369 rfl (by first | rfl | assumption) rfl ?_
          refine s_getF 374 A S390 (hw _ (List.mem_of_getElem? (i := 32) rfl)) F287 at_371 rfl fun T392 S393 => ?_
          refine s_lload 376 A S393 at_374 rfl rfl ?_
          refine s_lifne 438 380 377 A S393 rfl rfl at_376 rfl at_377 (by decide) (by decide) rfl (fun c394 tc394 => (by exact c394 (Int64.toInt_inj.mp (by omega)) : False).elim) (fun c394 tc394 => ?_)
          refine s_iload 382 A S393 at_380 rfl rfl ?_
          refine s_ifeq (xi := 1) 438 385 A S393 rfl at_382 (by decide) (by decide) rfl (fun c395 tc395 => (by exact absurd tc395 (by decide) : False).elim) (fun c395 tc395 => ?_)
          refine s_aload 387 A S393 at_385 rfl (by first | rfl | assumption) rfl ?_
          refine s_getF 390 A S393 (hw _ (List.mem_of_getElem? (i := 27) rfl)) F296 at_387 rfl fun T396 S397 => ?_
          refine s_lload 392 A S397 at_390 rfl rfl ?_
          refine s_lifne 438 396 393 A S397 rfl rfl at_392 rfl at_393 (by decide) (by decide) rfl (fun c398 tc398 => (by exact c398 rfl : False).elim) (fun c398 tc398 => ?_)
          refine s_aload 398 A S397 at_396 rfl (by first | rfl | assumption) rfl ?_
          refine s_getF 401 A S397 (hw _ (List.mem_of_getElem? (i := 29) rfl)) F297 at_398 rfl fun T399 S400 => ?_
          refine s_lload 403 A S400 at_401 rfl rfl ?_
          refine s_lifne 438 407 404 A S400 rfl rfl at_403 rfl at_404 (by decide) (by decide) rfl (fun c401 tc401 => (by exact c401 rfl : False).elim) (fun c401 tc401 => ?_)
          refine s_aload 409 A S400 at_407 rfl (by first | rfl | assumption) rfl ?_
          refine s_getF 412 A S400 (hw _ (List.mem_of_getElem? (i := 30) rfl)) F298 at_409 rfl fun T402 S403 => ?_
          refine s_lload 414 A S403 at_412 rfl rfl ?_
          refine s_lifne 438 418 415 A S403 rfl rfl at_414 rfl at_415 (by decide) (by decide) rfl (fun c404 tc404 => (by exact c404 rfl : False).elim) (fun c404 tc404 => ?_)
          refine s_aload 420 A S403 at_418 rfl (by first | rfl | assumption) rfl ?_
          refine s_getF 423 A S403 (hw _ (List.mem_of_getElem? (i := 32) rfl)) F299 at_420 rfl fun T405 S406 => ?_
          refine s_lload 425 A S406 at_423 rfl rfl ?_
          refine s_lifne 438 429 426 A S406 rfl rfl at_425 rfl at_426 (by decide) (by decide) rfl (fun c407 tc407 => (by exact c407 rfl : False).elim) (fun c407 tc407 => ?_)
          refine s_iload 431 A S406 at_429 rfl rfl ?_
          refine s_ifeq (xi := 1) 438 434 A S406 rfl at_431 (by decide) (by decide) rfl (fun c408 tc408 => (by exact absurd tc408 (by decide) : False).elim) (fun c408 tc408 => ?_)
          refine s_iconst (z := (1 : Int32)) 435 A S406 at_434 rfl rfl ?_
          refine s_goto 439 A S406 at_435 (by decide) (by decide) ?_
          exact s_retZ A S406 at_439 rfl (by decide) (by decide) rfl
        · refine s_iconst (z := (1 : Int32)) 315 A S380 at_314 rfl rfl ?_
          refine s_goto 319 A S380 at_315 (by decide) (by decide) ?_
          refine s_ine (yi := 1) 326 322 A S380 rfl rfl at_319 (by decide) (by decide) rfl (fun c409 tc409 => (by exact c409 (by rw [own_da1 (by omega)]) : False).elim) (fun c409 tc409 => ?_)
          refine s_iconst (z := (1 : Int32)) 323 A S380 at_322 rfl rfl ?_
          refine s_goto 327 A S380 at_323 (by decide) (by decide) ?_
          refine s_istore (Ls' := #[.val (.long i0), .second, .val (.long i1), .second, .val (.long i2), .second, .val (.long i3), .second, .val (.long i4), .second, .val (.long i5), .second, .val (.long hA), .second, .val (.long hB), .second, .val (.long d1), .second, .val (.long d2), .second, .val (.long d3), .second, .val (.ref a4), .val (.ref a11), .val (.long hs0), .second, .val (.long z1), .second, .val (.long tot), .second, .val (.int (1 : Int32)), .val (.long bt), .second, .val (.int (1 : Int32))]) 329 A S380 at_327 rfl rfl ?_
          refine s_aload 331 A S380 at_329 rfl (by first | rfl | assumption) rfl ?_
          refine s_getF 334 A S380 (hw _ (List.mem_of_getElem? (i := 27) rfl)) F284 at_331 rfl fun T410 S411 => ?_
          refine s_lloadN 335 A S411 at_334 rfl rfl ?_
          refine s_lload 337 A S411 at_335 rfl rfl ?_
          refine s_ladd (z := (i0 + i3)) 338 A S411 at_337 rfl rfl ?_
          refine s_lifne 438 342 339 A S411 rfl rfl at_338 rfl at_339 (by decide) (by decide) rfl (fun c412 tc412 => (by exact c412 rfl : False).elim) (fun c412 tc412 => ?_)
          refine s_aload 344 A S411 at_342 rfl (by first | rfl | assumption) rfl ?_
          refine s_getF 347 A S411 (hw _ (List.mem_of_getElem? (i := 29) rfl)) F285 at_344 rfl fun T413 S414 => ?_
          refine s_lloadN 348 A S414 at_347 rfl rfl ?_
          refine s_lload 350 A S414 at_348 rfl rfl ?_
          refine s_ladd (z := (i1 + i4)) 351 A S414 at_350 rfl rfl ?_
          refine s_lifne 438 355 352 A S414 rfl rfl at_351 rfl at_352 (by decide) (by decide) rfl (fun c415 tc415 => (by exact c415 rfl : False).elim) (fun c415 tc415 => ?_)
          refine s_aload 357 A S414 at_355 rfl (by first | rfl | assumption) rfl ?_
          refine s_getF 360 A S414 (hw _ (List.mem_of_getElem? (i := 30) rfl)) F286 at_357 rfl fun T416 S417 => ?_
          refine s_lload 362 A S417 at_360 rfl rfl ?_
          refine s_lload 364 A S417 at_362 rfl rfl ?_
          refine s_ladd (z := (i2 + i5)) 365 A S417 at_364 rfl rfl ?_
          refine s_lifne 438 369 366 A S417 rfl rfl at_365 rfl at_366 (by decide) (by decide) rfl (fun c418 tc418 => (by exact c418 rfl : False).elim) (fun c418 tc418 => ?_)
          refine s_aload 371 A S417 at_369 rfl (by first | rfl | assumption) rfl ?_
          refine s_getF 374 A S417 (hw _ (List.mem_of_getElem? (i := 32) rfl)) F287 at_371 rfl fun T419 S420 => ?_
          refine s_lload 376 A S420 at_374 rfl rfl ?_
          refine s_lifne 438 380 377 A S420 rfl rfl at_376 rfl at_377 (by decide) (by decide) rfl (fun c421 tc421 => (by exact c421 (Int64.toInt_inj.mp (by omega)) : False).elim) (fun c421 tc421 => ?_)
          refine s_iload 382 A S420 at_380 rfl rfl ?_
          refine s_ifeq (xi := 1) 438 385 A S420 rfl at_382 (by decide) (by decide) rfl (fun c422 tc422 => (by exact absurd tc422 (by decide) : False).elim) (fun c422 tc422 => ?_)
          refine s_aload 387 A S420 at_385 rfl (by first | rfl | assumption) rfl ?_
          refine s_getF 390 A S420 (hw _ (List.mem_of_getElem? (i := 27) rfl)) F296 at_387 rfl fun T423 S424 => ?_
          refine s_lload 392 A S424 at_390 rfl rfl ?_
          refine s_lifne 438 396 393 A S424 rfl rfl at_392 rfl at_393 (by decide) (by decide) rfl (fun c425 tc425 => (by exact c425 rfl : False).elim) (fun c425 tc425 => ?_)
          refine s_aload 398 A S424 at_396 rfl (by first | rfl | assumption) rfl ?_
          refine s_getF 401 A S424 (hw _ (List.mem_of_getElem? (i := 29) rfl)) F297 at_398 rfl fun T426 S427 => ?_
          refine s_lload 403 A S427 at_401 rfl rfl ?_
          refine s_lifne 438 407 404 A S427 rfl rfl at_403 rfl at_404 (by decide) (by decide) rfl (fun c428 tc428 => (by exact c428 rfl : False).elim) (fun c428 tc428 => ?_)
          refine s_aload 409 A S427 at_407 rfl (by first | rfl | assumption) rfl ?_
          refine s_getF 412 A S427 (hw _ (List.mem_of_getElem? (i := 30) rfl)) F298 at_409 rfl fun T429 S430 => ?_
          refine s_lload 414 A S430 at_412 rfl rfl ?_
          refine s_lifne 438 418 415 A S430 rfl rfl at_414 rfl at_415 (by decide) (by decide) rfl (fun c431 tc431 => (by exact c431 rfl : False).elim) (fun c431 tc431 => ?_)
          refine s_aload 420 A S430 at_418 rfl (by first | rfl | assumption) rfl ?_
          refine s_getF 423 A S430 (hw _ (List.mem_of_getElem? (i := 32) rfl)) F299 at_420 rfl fun T432 S433 => ?_
          refine s_lload 425 A S433 at_423 rfl rfl ?_
          refine s_lifne 438 429 426 A S433 rfl rfl at_425 rfl at_426 (by decide) (by decide) rfl (fun c434 tc434 => (by exact c434 rfl : False).elim) (fun c434 tc434 => ?_)
          refine s_iload 431 A S433 at_429 rfl rfl ?_
          refine s_ifeq (xi := 1) 438 434 A S433 rfl at_431 (by decide) (by decide) rfl (fun c435 tc435 => (by exact absurd tc435 (by decide) : False).elim) (fun c435 tc435 => ?_)
          refine s_iconst (z := (1 : Int32)) 435 A S433 at_434 rfl rfl ?_
          refine s_goto 439 A S433 at_435 (by decide) (by decide) ?_
          exact s_retZ A S433 at_439 rfl (by decide) (by decide) rfl
    · refine s_aload 224 A S307 at_222 rfl (by first | rfl | assumption) rfl ?_
      refine s_lload 226 A S307 at_224 rfl rfl ?_
      refine s_virtV (y := (⟨"com/example/cuadre/cuadre/service/Tally", "debitsAre", "(J)Z"⟩ : MethodName)) (z := (⟨"com/example/cuadre/cuadre/service/Tally", "debitsAre", "(J)Z"⟩ : MethodName)) (argsL := [(.long tot)]) (rest := []) (b := a4) 229 A S307 E302 (hw _ (List.mem_of_getElem? (i := 42) rfl)) (hw _ (List.mem_of_getElem? (i := 43) rfl)) (notFace_of_selects (args := #[]) (mvT A.2.2.2.2.2.2.2 (hw _ (List.mem_of_getElem? (i := 45) rfl)))) (hw _ (List.mem_of_getElem? (i := 45) rfl)) (hw _ (List.mem_of_getElem? (i := 44) rfl)) (hw _ (List.mem_of_getElem? (i := 4) rfl)) (hw _ (List.mem_of_getElem? (i := 46) rfl)) (rm6 l Z a0 hw [] a4 dl9 dh9 tot h280 n0 Z304 F288 F289) (lenOf pd__J_Z rfl) at_226 rfl rfl rfl (by decide) (by decide) (Nat.le_of_ble_eq_true rfl) (by decide) (by decide) fun T436 S437 => ?_
      refine s_istore (Ls' := #[.val (.long i0), .second, .val (.long i1), .second, .val (.long i2), .second, .val (.long i3), .second, .val (.long i4), .second, .val (.long i5), .second, .val (.long hA), .second, .val (.long hB), .second, .val (.long d1), .second, .val (.long d2), .second, .val (.long d3), .second, .val (.ref a4), .val (.ref a11), .val (.long hs0), .second, .val (.long z1), .second, .val (.long tot), .second, .val (.int (own_da dh9 dl9 tot)), .unset, .unset, .unset]) 231 A S437 at_229 rfl rfl ?_
      refine s_goto 291 A S437 at_231 (by decide) (by decide) ?_
      refine s_lload 293 A S437 at_291 rfl rfl ?_
      refine s_lload 295 A S437 at_293 rfl rfl ?_
      obtain ⟨bt, h_bt⟩ : ∃ z, (d2 + d3) = z := ⟨_, rfl⟩
      refine s_ladd (z := bt) 296 A S437 at_295 h_bt rfl ?_
      refine s_lstore (Ls' := #[.val (.long i0), .second, .val (.long i1), .second, .val (.long i2), .second, .val (.long i3), .second, .val (.long i4), .second, .val (.long i5), .second, .val (.long hA), .second, .val (.long hB), .second, .val (.long d1), .second, .val (.long d2), .second, .val (.long d3), .second, .val (.ref a4), .val (.ref a11), .val (.long hs0), .second, .val (.long z1), .second, .val (.long tot), .second, .val (.int (own_da dh9 dl9 tot)), .val (.long bt), .second, .unset]) 298 A S437 at_296 rfl rfl ?_
      have t2 : bt.toInt = d2.toInt + d3.toInt := by rw [← h_bt]; exact own_ladd (by omega) (by omega)
      refine s_aload 300 A S437 at_298 rfl (by first | rfl | assumption) rfl ?_
      refine s_lload 302 A S437 at_300 rfl rfl ?_
      refine s_virtV (y := (⟨"com/example/cuadre/cuadre/service/Tally", "debitsAre", "(J)Z"⟩ : MethodName)) (z := (⟨"com/example/cuadre/cuadre/service/Tally", "debitsAre", "(J)Z"⟩ : MethodName)) (argsL := [(.long bt)]) (rest := []) (b := a11) 305 A S437 E303 (hw _ (List.mem_of_getElem? (i := 42) rfl)) (hw _ (List.mem_of_getElem? (i := 43) rfl)) (notFace_of_selects (args := #[]) (mvT A.2.2.2.2.2.2.2 (hw _ (List.mem_of_getElem? (i := 45) rfl)))) (hw _ (List.mem_of_getElem? (i := 45) rfl)) (hw _ (List.mem_of_getElem? (i := 44) rfl)) (hw _ (List.mem_of_getElem? (i := 4) rfl)) (hw _ (List.mem_of_getElem? (i := 46) rfl)) (rm6 l Z a0 hw [] a11 dl100 dh101 bt h280 n0 Z304 F300 F301) (lenOf pd__J_Z rfl) at_302 rfl rfl rfl (by decide) (by decide) (Nat.le_of_ble_eq_true rfl) (by decide) (by decide) fun T438 S439 => ?_
      refine s_lload 307 A S439 at_305 rfl rfl ?_
      refine s_ldc2 310 A S439 (hw _ (List.mem_of_getElem? (i := 1) rfl)) at_307 rfl ?_
      refine s_lifge (yi := 1000000000000000000) 318 314 311 A S439 rfl rfl at_310 rfl at_311 (by decide) (by decide) rfl (fun c440 => ?_) (fun c440 => ?_)
      · refine s_iconst (z := (0 : Int32)) 319 A S439 at_318 rfl rfl ?_
        refine s_ine (yi := 0) 326 322 A S439 rfl rfl at_319 (by decide) (by decide) rfl (fun c441 tc441 => (by exact c441 (by rw [own_da0 (by omega)]) : False).elim) (fun c441 tc441 => ?_)
        refine s_iconst (z := (1 : Int32)) 323 A S439 at_322 rfl rfl ?_
        refine s_goto 327 A S439 at_323 (by decide) (by decide) ?_
        refine s_istore (Ls' := #[.val (.long i0), .second, .val (.long i1), .second, .val (.long i2), .second, .val (.long i3), .second, .val (.long i4), .second, .val (.long i5), .second, .val (.long hA), .second, .val (.long hB), .second, .val (.long d1), .second, .val (.long d2), .second, .val (.long d3), .second, .val (.ref a4), .val (.ref a11), .val (.long hs0), .second, .val (.long z1), .second, .val (.long tot), .second, .val (.int (own_da dh9 dl9 tot)), .val (.long bt), .second, .val (.int (1 : Int32))]) 329 A S439 at_327 rfl rfl ?_
        refine s_aload 331 A S439 at_329 rfl (by first | rfl | assumption) rfl ?_
        refine s_getF 334 A S439 (hw _ (List.mem_of_getElem? (i := 27) rfl)) F284 at_331 rfl fun T442 S443 => ?_
        refine s_lloadN 335 A S443 at_334 rfl rfl ?_
        refine s_lload 337 A S443 at_335 rfl rfl ?_
        refine s_ladd (z := (i0 + i3)) 338 A S443 at_337 rfl rfl ?_
        refine s_lifne 438 342 339 A S443 rfl rfl at_338 rfl at_339 (by decide) (by decide) rfl (fun c444 tc444 => (by exact c444 rfl : False).elim) (fun c444 tc444 => ?_)
        refine s_aload 344 A S443 at_342 rfl (by first | rfl | assumption) rfl ?_
        refine s_getF 347 A S443 (hw _ (List.mem_of_getElem? (i := 29) rfl)) F285 at_344 rfl fun T445 S446 => ?_
        refine s_lloadN 348 A S446 at_347 rfl rfl ?_
        refine s_lload 350 A S446 at_348 rfl rfl ?_
        refine s_ladd (z := (i1 + i4)) 351 A S446 at_350 rfl rfl ?_
        refine s_lifne 438 355 352 A S446 rfl rfl at_351 rfl at_352 (by decide) (by decide) rfl (fun c447 tc447 => (by exact c447 rfl : False).elim) (fun c447 tc447 => ?_)
        refine s_aload 357 A S446 at_355 rfl (by first | rfl | assumption) rfl ?_
        refine s_getF 360 A S446 (hw _ (List.mem_of_getElem? (i := 30) rfl)) F286 at_357 rfl fun T448 S449 => ?_
        refine s_lload 362 A S449 at_360 rfl rfl ?_
        refine s_lload 364 A S449 at_362 rfl rfl ?_
        refine s_ladd (z := (i2 + i5)) 365 A S449 at_364 rfl rfl ?_
        refine s_lifne 438 369 366 A S449 rfl rfl at_365 rfl at_366 (by decide) (by decide) rfl (fun c450 tc450 => (by exact c450 rfl : False).elim) (fun c450 tc450 => ?_)
        refine s_aload 371 A S449 at_369 rfl (by first | rfl | assumption) rfl ?_
        refine s_getF 374 A S449 (hw _ (List.mem_of_getElem? (i := 32) rfl)) F287 at_371 rfl fun T451 S452 => ?_
        refine s_lload 376 A S452 at_374 rfl rfl ?_
        refine s_lifne 438 380 377 A S452 rfl rfl at_376 rfl at_377 (by decide) (by decide) rfl (fun c453 tc453 => (by exact c453 (Int64.toInt_inj.mp (by omega)) : False).elim) (fun c453 tc453 => ?_)
        refine s_iload 382 A S452 at_380 rfl rfl ?_
        refine s_ifeq 438 385 A S452 rfl at_382 (by decide) (by decide) rfl (fun c454 tc454 => (by exact absurd (c454.symm.trans (own_da1 (by omega))) (by decide) : False).elim) (fun c454 tc454 => ?_)
        refine s_aload 387 A S452 at_385 rfl (by first | rfl | assumption) rfl ?_
        refine s_getF 390 A S452 (hw _ (List.mem_of_getElem? (i := 27) rfl)) F296 at_387 rfl fun T455 S456 => ?_
        refine s_lload 392 A S456 at_390 rfl rfl ?_
        refine s_lifne 438 396 393 A S456 rfl rfl at_392 rfl at_393 (by decide) (by decide) rfl (fun c457 tc457 => (by exact c457 rfl : False).elim) (fun c457 tc457 => ?_)
        refine s_aload 398 A S456 at_396 rfl (by first | rfl | assumption) rfl ?_
        refine s_getF 401 A S456 (hw _ (List.mem_of_getElem? (i := 29) rfl)) F297 at_398 rfl fun T458 S459 => ?_
        refine s_lload 403 A S459 at_401 rfl rfl ?_
        refine s_lifne 438 407 404 A S459 rfl rfl at_403 rfl at_404 (by decide) (by decide) rfl (fun c460 tc460 => (by exact c460 rfl : False).elim) (fun c460 tc460 => ?_)
        refine s_aload 409 A S459 at_407 rfl (by first | rfl | assumption) rfl ?_
        refine s_getF 412 A S459 (hw _ (List.mem_of_getElem? (i := 30) rfl)) F298 at_409 rfl fun T461 S462 => ?_
        refine s_lload 414 A S462 at_412 rfl rfl ?_
        refine s_lifne 438 418 415 A S462 rfl rfl at_414 rfl at_415 (by decide) (by decide) rfl (fun c463 tc463 => (by exact c463 rfl : False).elim) (fun c463 tc463 => ?_)
        refine s_aload 420 A S462 at_418 rfl (by first | rfl | assumption) rfl ?_
        refine s_getF 423 A S462 (hw _ (List.mem_of_getElem? (i := 32) rfl)) F299 at_420 rfl fun T464 S465 => ?_
        refine s_lload 425 A S465 at_423 rfl rfl ?_
        refine s_lifne 438 429 426 A S465 rfl rfl at_425 rfl at_426 (by decide) (by decide) rfl (fun c466 tc466 => (by exact c466 rfl : False).elim) (fun c466 tc466 => ?_)
        refine s_iload 431 A S465 at_429 rfl rfl ?_
        refine s_ifeq (xi := 1) 438 434 A S465 rfl at_431 (by decide) (by decide) rfl (fun c467 tc467 => (by exact absurd tc467 (by decide) : False).elim) (fun c467 tc467 => ?_)
        refine s_iconst (z := (1 : Int32)) 435 A S465 at_434 rfl rfl ?_
        refine s_goto 439 A S465 at_435 (by decide) (by decide) ?_
        exact s_retZ A S465 at_439 rfl (by decide) (by decide) rfl
      · refine s_iconst (z := (1 : Int32)) 315 A S439 at_314 rfl rfl ?_
        refine s_goto 319 A S439 at_315 (by decide) (by decide) ?_
        refine s_ine (yi := 1) 326 322 A S439 rfl rfl at_319 (by decide) (by decide) rfl (fun c468 tc468 => (by exact c468 (by rw [own_da1 (by omega)]) : False).elim) (fun c468 tc468 => ?_)
        refine s_iconst (z := (1 : Int32)) 323 A S439 at_322 rfl rfl ?_
        refine s_goto 327 A S439 at_323 (by decide) (by decide) ?_
        refine s_istore (Ls' := #[.val (.long i0), .second, .val (.long i1), .second, .val (.long i2), .second, .val (.long i3), .second, .val (.long i4), .second, .val (.long i5), .second, .val (.long hA), .second, .val (.long hB), .second, .val (.long d1), .second, .val (.long d2), .second, .val (.long d3), .second, .val (.ref a4), .val (.ref a11), .val (.long hs0), .second, .val (.long z1), .second, .val (.long tot), .second, .val (.int (own_da dh9 dl9 tot)), .val (.long bt), .second, .val (.int (1 : Int32))]) 329 A S439 at_327 rfl rfl ?_
        refine s_aload 331 A S439 at_329 rfl (by first | rfl | assumption) rfl ?_
        refine s_getF 334 A S439 (hw _ (List.mem_of_getElem? (i := 27) rfl)) F284 at_331 rfl fun T469 S470 => ?_
        refine s_lloadN 335 A S470 at_334 rfl rfl ?_
        refine s_lload 337 A S470 at_335 rfl rfl ?_
        refine s_ladd (z := (i0 + i3)) 338 A S470 at_337 rfl rfl ?_
        refine s_lifne 438 342 339 A S470 rfl rfl at_338 rfl at_339 (by decide) (by decide) rfl (fun c471 tc471 => (by exact c471 rfl : False).elim) (fun c471 tc471 => ?_)
        refine s_aload 344 A S470 at_342 rfl (by first | rfl | assumption) rfl ?_
        refine s_getF 347 A S470 (hw _ (List.mem_of_getElem? (i := 29) rfl)) F285 at_344 rfl fun T472 S473 => ?_
        refine s_lloadN 348 A S473 at_347 rfl rfl ?_
        refine s_lload 350 A S473 at_348 rfl rfl ?_
        refine s_ladd (z := (i1 + i4)) 351 A S473 at_350 rfl rfl ?_
        refine s_lifne 438 355 352 A S473 rfl rfl at_351 rfl at_352 (by decide) (by decide) rfl (fun c474 tc474 => (by exact c474 rfl : False).elim) (fun c474 tc474 => ?_)
        refine s_aload 357 A S473 at_355 rfl (by first | rfl | assumption) rfl ?_
        refine s_getF 360 A S473 (hw _ (List.mem_of_getElem? (i := 30) rfl)) F286 at_357 rfl fun T475 S476 => ?_
        refine s_lload 362 A S476 at_360 rfl rfl ?_
        refine s_lload 364 A S476 at_362 rfl rfl ?_
        refine s_ladd (z := (i2 + i5)) 365 A S476 at_364 rfl rfl ?_
        refine s_lifne 438 369 366 A S476 rfl rfl at_365 rfl at_366 (by decide) (by decide) rfl (fun c477 tc477 => (by exact c477 rfl : False).elim) (fun c477 tc477 => ?_)
        refine s_aload 371 A S476 at_369 rfl (by first | rfl | assumption) rfl ?_
        refine s_getF 374 A S476 (hw _ (List.mem_of_getElem? (i := 32) rfl)) F287 at_371 rfl fun T478 S479 => ?_
        refine s_lload 376 A S479 at_374 rfl rfl ?_
        refine s_lifne 438 380 377 A S479 rfl rfl at_376 rfl at_377 (by decide) (by decide) rfl (fun c480 tc480 => (by exact c480 (Int64.toInt_inj.mp (by omega)) : False).elim) (fun c480 tc480 => ?_)
        refine s_iload 382 A S479 at_380 rfl rfl ?_
        refine s_ifeq 438 385 A S479 rfl at_382 (by decide) (by decide) rfl (fun c481 tc481 => (by exact absurd (c481.symm.trans (own_da1 (by omega))) (by decide) : False).elim) (fun c481 tc481 => ?_)
        refine s_aload 387 A S479 at_385 rfl (by first | rfl | assumption) rfl ?_
        refine s_getF 390 A S479 (hw _ (List.mem_of_getElem? (i := 27) rfl)) F296 at_387 rfl fun T482 S483 => ?_
        refine s_lload 392 A S483 at_390 rfl rfl ?_
        refine s_lifne 438 396 393 A S483 rfl rfl at_392 rfl at_393 (by decide) (by decide) rfl (fun c484 tc484 => (by exact c484 rfl : False).elim) (fun c484 tc484 => ?_)
        refine s_aload 398 A S483 at_396 rfl (by first | rfl | assumption) rfl ?_
        refine s_getF 401 A S483 (hw _ (List.mem_of_getElem? (i := 29) rfl)) F297 at_398 rfl fun T485 S486 => ?_
        refine s_lload 403 A S486 at_401 rfl rfl ?_
        refine s_lifne 438 407 404 A S486 rfl rfl at_403 rfl at_404 (by decide) (by decide) rfl (fun c487 tc487 => (by exact c487 rfl : False).elim) (fun c487 tc487 => ?_)
        refine s_aload 409 A S486 at_407 rfl (by first | rfl | assumption) rfl ?_
        refine s_getF 412 A S486 (hw _ (List.mem_of_getElem? (i := 30) rfl)) F298 at_409 rfl fun T488 S489 => ?_
        refine s_lload 414 A S489 at_412 rfl rfl ?_
        refine s_lifne 438 418 415 A S489 rfl rfl at_414 rfl at_415 (by decide) (by decide) rfl (fun c490 tc490 => (by exact c490 rfl : False).elim) (fun c490 tc490 => ?_)
        refine s_aload 420 A S489 at_418 rfl (by first | rfl | assumption) rfl ?_
        refine s_getF 423 A S489 (hw _ (List.mem_of_getElem? (i := 32) rfl)) F299 at_420 rfl fun T491 S492 => ?_
        refine s_lload 425 A S492 at_423 rfl rfl ?_
        refine s_lifne 438 429 426 A S492 rfl rfl at_425 rfl at_426 (by decide) (by decide) rfl (fun c493 tc493 => (by exact c493 rfl : False).elim) (fun c493 tc493 => ?_)
        refine s_iload 431 A S492 at_429 rfl rfl ?_
        refine s_ifeq (xi := 1) 438 434 A S492 rfl at_431 (by decide) (by decide) rfl (fun c494 tc494 => (by exact absurd tc494 (by decide) : False).elim) (fun c494 tc494 => ?_)
        refine s_iconst (z := (1 : Int32)) 435 A S492 at_434 rfl rfl ?_
        refine s_goto 439 A S492 at_435 (by decide) (by decide) ?_
        exact s_retZ A S492 at_439 rfl (by decide) (by decide) rfl
  refine s_lload 183 A S279 at_181 rfl rfl ?_
  refine s_ldc2 186 A S279 (hw _ (List.mem_of_getElem? (i := 1) rfl)) at_183 rfl ?_
  refine s_liflt (yi := 1000000000000000000) 199 190 187 A S279 rfl rfl at_186 rfl at_187 (by decide) (by decide) rfl (fun c495 => ?_) (fun c495 => ?_)
  · refine s_lload 201 A S279 at_199 rfl rfl ?_
    exact J201_305 T278 S279 hs0 (by omega)
  · refine s_lload 192 A S279 at_190 rfl rfl ?_
    refine s_ldc2 195 A S279 (hw _ (List.mem_of_getElem? (i := 1) rfl)) at_192 rfl ?_
    obtain ⟨hs8, h_hs8⟩ : ∃ z, (hs0 - (1000000000000000000 : Int64)) = z := ⟨_, rfl⟩
    refine s_lsub (z := hs8) 196 A S279 at_195 h_hs8 rfl ?_
    refine s_goto 201 A S279 at_196 (by decide) (by decide) ?_
    exact J201_305 T278 S279 hs8 (by rw [← h_hs8, own_lsub (by rw [own_N]; omega) (by rw [own_N]; omega), own_N]; omega)
set_option maxRecDepth 65536 in
set_option maxHeartbeats 40000000 in
theorem comes_1 {Post : Tables → Env → Array Value → State → Outcome → State → Prop} (hpost : ∀ tb e args s v u, (limb_1_1.after args s (.returned v) u = true ∧ limb_1_2.after args s (.returned v) u = true ∧ True) → FrameEnd s (.returned v) u (Jvm.fieldLocs frame_1_writes args s ++ Jvm.arrayLocs frame_1_arrays args s ++ Jvm.staticLocs frame_1_statics s) 16 128 → Post tb e args s (.returned v) u) :
    ArmFor flags0 classFile x code maxLocals ret World_1 tables_1 room_1 Calls_1 rest_1 Pre_1 Post := by
  intro l hfl _ _ p e ha hc hk s m args below hf hA hF happ hP
  obtain ⟨hcalls, hrest, hpre⟩ := hP
  obtain ⟨-, -, -, hnamed, -, -, -, hat⟩ := (Spec.applies_iff hf).mp happ
  obtain ⟨hg, hn⟩ := and_e (Cond.before_iff.mp (show (Jvm.Cond.and given_1 narrow_1).before args s = true from hpre))
  obtain ⟨g0, k0⟩ := and_e hg
  obtain ⟨j0, k1⟩ := and_e k0
  obtain ⟨j1, k2⟩ := and_e k1
  obtain ⟨j2, k3⟩ := and_e k2
  obtain ⟨j3, k4⟩ := and_e k3
  obtain ⟨j4, k5⟩ := and_e k4
  obtain ⟨w0, w1, w2, w3, w4, w5, rfl⟩ : ∃ w0 w1 w2 w3 w4 w5 : Value, args = #[w0, w1, w2, w3, w4, w5] := by
    have hs : args.size = 6 := by simpa [Cond.value, given_1] using g0
    obtain ⟨L⟩ := args
    match L, hs with
    | [w0, w1, w2, w3, w4, w5], _ => exact ⟨w0, w1, w2, w3, w4, w5, rfl⟩
  have hw := fun d (hd : d ∈ tables_1) => atoms_spec (ws := Jvm.Cond.code x code maxLocals ret :: tables_1) hat d (List.mem_cons_of_mem _ hd)
  have hfit : Fit s := fun {y c} hc i hi => by
    obtain ⟨ha, rfl⟩ := Array.getElem?_eq_some_iff.mp hc
    have q := List.all_eq_true.mp ((Array.all_eq_true_iff_forall_mem.mp hF) _ (Array.getElem_mem ha)) i (List.mem_range.mpr hi)
    simpa [Array.getElem?_eq_getElem hi] using q
  obtain ⟨i0, ei0⟩ := isL_v j0
  obtain rfl : w0 = (.long i0) := Option.some.inj ei0
  obtain ⟨i1, ei1⟩ := isL_v j1
  obtain rfl : w1 = (.long i1) := Option.some.inj ei1
  obtain ⟨i2, ei2⟩ := isL_v j2
  obtain rfl : w2 = (.long i2) := Option.some.inj ei2
  obtain ⟨i3, ei3⟩ := isL_v j3
  obtain rfl : w3 = (.long i3) := Option.some.inj ei3
  obtain ⟨i4, ei4⟩ := isL_v j4
  obtain rfl : w4 = (.long i4) := Option.some.inj ei4
  obtain ⟨i5, ei5⟩ := isL_v k5
  obtain rfl : w5 = (.long i5) := Option.some.inj ei5
  obtain ⟨n, o, h1, h2, h3, _, L, rfl, ⟨rfl, N⟩, hq⟩ := rm0 l s _ hw tables_1 i0 i1 i2 i3 i4 i5 s.heap s.heap.size (Nat.le_refl _)  p e ha hc hk s m _ below hf ((Spec.applies_iff_loose hf).mp happ).1 ⟨rfl, State.Warmed39.refl s, rfl⟩ trivial
  refine ⟨n, _, h1, h2, h3, hpost _ _ _ _ _ _ ⟨Cond.after_iff.mpr rfl, Cond.after_iff.mpr (eq_i res_at (Term.int_eval (1)) rfl), trivial⟩ ⟨hq.1, hq.2.1, (hq.2.2.sift fun y hy => Or.inr (N y hy)).mono (by decide) (by decide)⟩⟩
theorem main_1_1 : Claimed_1_1 := comes_1 fun _ _ _ _ _ _ h hF => ⟨h.1, hF⟩
theorem main_1_2 : Claimed_1_2 := comes_1 fun _ _ _ _ _ _ h hF => ⟨h.2.1, hF⟩
end Jvm.Pilot.@@N@@
namespace Jvm.Pilot.@@N@@
open Jvm Jvm.ClassFile Sem Op Lib Jvm.Free Jvm.Stand Jvm.Pilot.@@N@@.Jvm.D
/-! MADE BY PROGRAM (witnessworld.py) out of the Statement's table words and the real class files: 10 classes; the members and pool entries that the words name. The judged class is class 1, her method 1. -/
namespace start1
open Jvm.ClassFile
def u (s : String) : CpInfo := .utf8 (stringToUtf16 s)
/-- a pool by its gaps: so many unusable entries, then the entry; so many at the end -/
def gap : Nat → List CpInfo → List CpInfo
  | 0, r => r
  | n + 1, r => .unusable :: gap n r
def poolList (es : List (Nat × CpInfo)) (last : Nat) : List CpInfo := es.foldr (fun e r => gap e.1 (e.2 :: r)) (gap last [])
def pool (es : List (Nat × CpInfo)) (last : Nat) : Array CpInfo := ⟨poolList es last⟩
def fileOf (pool : Array CpInfo) (this : Nat) (attrs : Array Attribute := #[]) (ms : Array MethodInfo := #[]) (fl : Nat := 33) (sup : Nat := 0) (ifs : Array Nat := #[]) (fds : Array FieldInfo := #[]) : ClassFile where
  minorVersion := 0
  majorVersion := 65
  constantPool := pool
  accessFlags := fl
  thisClass := this
  superClass := sup
  interfaces := ifs
  fields := fds
  methods := ms
  attributes := attrs
def plain (name : String) (sup : Option ClassId) : Class where
  name := name
  kind := .ordinary
  loader := none
  accessFlags := 33
  super := sup
  interfaces := #[]
  cf := none
  fields := #[]
  methods := #[]
  instanceTypes := #[]
  staticTypes := #[]
  resolved := #[]
  callSites := []
  init := .initialized
  statics := none
  mirror := none

def pool0 : Array CpInfo := pool [(5, u "<init>"), (0, u "()V"), (1, .class_ 10), (1, u "java/lang/Object")] 113

def k0c0 : Code := { maxStack := 0, maxLocals := 1, code := object_method_1_code, exceptionTable := #[], attributes := #[] }
def k0m0 : Method := { name := "<init>", desc := "()V", sig := { parameters := [], returnType := none }, accessFlags := 1, code := some k0c0 }
/-- java/lang/Object -/
def k0 : Class := { plain "java/lang/Object" none with
  accessFlags := 33
  interfaces := #[]
  cf := some (fileOf pool0 8 #[] #[{ accessFlags := 1, nameIndex := 5, descriptorIndex := 6, attributes := #[] }] 33 0 #[] #[])
  fields := #[]
  methods := #[k0m0]
  instanceTypes := #[]
  staticTypes := #[]
  resolved := Array.replicate 124 none
  statics := none }

def pool1 : Array CpInfo := pool [(2, .class_ 4), (0, .nameAndType 5 6), (0, u "java/lang/Object"), (0, u "<init>"), (0, u "()V"), (2, .long 9223372036854775807), (1, .long 1000000000000000000), (1, .class_ 14), (0, u "com/example/cuadre/cuadre/service/Tally"), (0, .methodref 13 3), (0, .methodref 13 17), (0, .nameAndType 18 19), (0, u "entry"), (0, u "(JJ)V"), (0, .fieldref 13 21), (0, .nameAndType 22 23), (0, u "batches"), (0, u "J"), (0, .fieldref 13 25), (0, .nameAndType 26 23), (0, u "entries"), (0, .fieldref 13 28), (0, .nameAndType 29 23), (0, u "addenda"), (0, .fieldref 13 31), (0, .nameAndType 32 23), (0, u "hash"), (0, .methodref 13 34), (0, .nameAndType 35 36), (0, u "add"), (0, u "(Lcom/example/cuadre/cuadre/service/Tally;)V"), (0, .methodref 13 38), (0, .nameAndType 39 40), (0, u "debitsAre"), (0, u "(J)Z"), (0, .long 2000000000000000000), (1, .class_ 44), (0, u "com/example/cuadre/cuadre/service/TallyAddPinLaw"), (2, u "law"), (0, u "(JJJJJJ)Z")] 3

def k1m0 : Method := { name := "<init>", desc := "()V", sig := { parameters := [], returnType := none }, accessFlags := 1, code := none }
def k1c1 : Code := { maxStack := 6, maxLocals := 34, code := code, exceptionTable := #[], attributes := #[] }
def k1m1 : Method := { name := "law", desc := "(JJJJJJ)Z", sig := { parameters := [.long, .long, .long, .long, .long, .long], returnType := some .boolean }, accessFlags := 9, code := some k1c1 }
/-- com/example/cuadre/cuadre/service/TallyAddPinLaw -/
def k1 : Class := { plain "com/example/cuadre/cuadre/service/TallyAddPinLaw" (some 0) with
  accessFlags := 49
  interfaces := #[]
  cf := some (fileOf pool1 43 #[] #[{ accessFlags := 1, nameIndex := 5, descriptorIndex := 6, attributes := #[] }, { accessFlags := 9, nameIndex := 47, descriptorIndex := 48, attributes := #[] }] 49 2 #[] #[])
  fields := #[]
  methods := #[k1m0, k1m1]
  instanceTypes := #[]
  staticTypes := #[]
  resolved := Array.replicate 52 none
  statics := none }

def pool2 : Array CpInfo := pool [(1, .methodref 2 3), (0, .class_ 4), (0, .nameAndType 5 6), (0, u "java/lang/Object"), (0, u "<init>"), (0, u "()V"), (0, .fieldref 8 9), (0, .class_ 10), (0, .nameAndType 11 12), (0, u "com/example/cuadre/cuadre/service/Tally"), (0, u "entries"), (0, u "J"), (0, .fieldref 8 14), (0, .nameAndType 15 12), (0, u "hash"), (0, .methodref 17 18), (0, .class_ 19), (0, .nameAndType 20 21), (0, u "java/lang/Math"), (0, u "max"), (0, u "(JJ)J"), (0, .long 1000000000000000000), (1, .fieldref 8 25), (0, .nameAndType 26 12), (0, u "debitsLow"), (0, .fieldref 8 28), (0, .nameAndType 29 12), (0, u "debitsHigh"), (0, .fieldref 8 31), (0, .nameAndType 32 12), (0, u "batches"), (0, .fieldref 8 34), (0, .nameAndType 35 12), (0, u "addenda"), (12, u "add"), (1, u "NINETEEN_DIGITS"), (3, u "entry"), (0, u "(JJ)V"), (1, u "(Lcom/example/cuadre/cuadre/service/Tally;)V"), (0, u "debitsAre"), (0, u "(J)Z")] 6

def k2c0 : Code := { maxStack := 1, maxLocals := 1, code := prog_91_method_1_code, exceptionTable := #[], attributes := #[] }
def k2m0 : Method := { name := "<init>", desc := "()V", sig := { parameters := [], returnType := none }, accessFlags := 0, code := some k2c0 }
def k2c1 : Code := { maxStack := 7, maxLocals := 5, code := prog_91_method_2_code, exceptionTable := #[], attributes := #[] }
def k2m1 : Method := { name := "entry", desc := "(JJ)V", sig := { parameters := [.long, .long], returnType := none }, accessFlags := 0, code := some k2c1 }
def k2c2 : Code := { maxStack := 5, maxLocals := 2, code := prog_91_method_3_code, exceptionTable := #[], attributes := #[] }
def k2m2 : Method := { name := "add", desc := "(Lcom/example/cuadre/cuadre/service/Tally;)V", sig := { parameters := [(.object "com/example/cuadre/cuadre/service/Tally")], returnType := none }, accessFlags := 0, code := some k2c2 }
def k2c3 : Code := { maxStack := 4, maxLocals := 3, code := prog_91_method_4_code, exceptionTable := #[], attributes := #[] }
def k2m3 : Method := { name := "debitsAre", desc := "(J)Z", sig := { parameters := [.long], returnType := some .boolean }, accessFlags := 0, code := some k2c3 }
/-- com/example/cuadre/cuadre/service/Tally -/
def k2 : Class := { plain "com/example/cuadre/cuadre/service/Tally" (some 0) with
  accessFlags := 48
  interfaces := #[]
  cf := some (fileOf pool2 8 #[] #[{ accessFlags := 0, nameIndex := 5, descriptorIndex := 6, attributes := #[] }, { accessFlags := 0, nameIndex := 54, descriptorIndex := 55, attributes := #[] }, { accessFlags := 0, nameIndex := 48, descriptorIndex := 57, attributes := #[] }, { accessFlags := 0, nameIndex := 58, descriptorIndex := 59, attributes := #[] }] 48 2 #[] #[{ accessFlags := 26, nameIndex := 50, descriptorIndex := 12, attributes := #[] }, { accessFlags := 0, nameIndex := 32, descriptorIndex := 12, attributes := #[] }, { accessFlags := 0, nameIndex := 11, descriptorIndex := 12, attributes := #[] }, { accessFlags := 0, nameIndex := 35, descriptorIndex := 12, attributes := #[] }, { accessFlags := 0, nameIndex := 15, descriptorIndex := 12, attributes := #[] }, { accessFlags := 2, nameIndex := 26, descriptorIndex := 12, attributes := #[] }, { accessFlags := 2, nameIndex := 29, descriptorIndex := 12, attributes := #[] }])
  fields := #[{ name := "NINETEEN_DIGITS", type := .long, accessFlags := 26, slot := 0, constantValue := 0 }, { name := "batches", type := .long, accessFlags := 0, slot := 0, constantValue := 0 }, { name := "entries", type := .long, accessFlags := 0, slot := 1, constantValue := 0 }, { name := "addenda", type := .long, accessFlags := 0, slot := 2, constantValue := 0 }, { name := "hash", type := .long, accessFlags := 0, slot := 3, constantValue := 0 }, { name := "debitsLow", type := .long, accessFlags := 2, slot := 4, constantValue := 0 }, { name := "debitsHigh", type := .long, accessFlags := 2, slot := 5, constantValue := 0 }]
  methods := #[k2m0, k2m1, k2m2, k2m3]
  instanceTypes := #[.long, .long, .long, .long, .long, .long]
  staticTypes := #[.long]
  resolved := Array.replicate 66 none
  statics := none }

def pool3 : Array CpInfo := pool [(1, .class_ 2), (0, u "java/lang/Math"), (1, .class_ 6), (1, u "java/lang/Object"), (0, u "<init>"), (0, u "()V"), (89, .class_ 100), (1, u "java/lang/Math$RandomNumberGeneratorHolder"), (20, u "(JJ)J"), (50, u "negativeZeroFloatBits"), (0, u "J"), (2, u "negativeZeroDoubleBits"), (21, u "max"), (46, u "$assertionsDisabled"), (0, u "Z"), (91, u "twoToTheDoubleScaleDown"), (0, u "D"), (4, u "twoToTheDoubleScaleUp"), (9, u "E"), (3, u "PI"), (2, u "TAU"), (2, u "DEGREES_TO_RADIANS"), (0, u "RADIANS_TO_DEGREES")] 94

def k3m0 : Method := { name := "<init>", desc := "()V", sig := { parameters := [], returnType := none }, accessFlags := 2, code := none }
def k3c1 : Code := { maxStack := 4, maxLocals := 4, code := jdk_29_method_66_code, exceptionTable := #[], attributes := #[] }
def k3m1 : Method := { name := "max", desc := "(JJ)J", sig := { parameters := [.long, .long], returnType := some .long }, accessFlags := 9, code := some k3c1 }
/-- java/lang/Math -/
def k3 : Class := { plain "java/lang/Math" (some 0) with
  accessFlags := 49
  interfaces := #[]
  cf := some (fileOf pool3 1 #[.nestMembers #[98]] #[{ accessFlags := 2, nameIndex := 7, descriptorIndex := 8, attributes := #[] }, { accessFlags := 9, nameIndex := 198, descriptorIndex := 121, attributes := #[] }] 49 4 #[] #[{ accessFlags := 25, nameIndex := 354, descriptorIndex := 339, attributes := #[] }, { accessFlags := 25, nameIndex := 358, descriptorIndex := 339, attributes := #[] }, { accessFlags := 25, nameIndex := 361, descriptorIndex := 339, attributes := #[] }, { accessFlags := 26, nameIndex := 364, descriptorIndex := 339, attributes := #[] }, { accessFlags := 26, nameIndex := 365, descriptorIndex := 339, attributes := #[] }, { accessFlags := 26, nameIndex := 172, descriptorIndex := 173, attributes := #[] }, { accessFlags := 26, nameIndex := 176, descriptorIndex := 173, attributes := #[] }, { accessFlags := 8, nameIndex := 344, descriptorIndex := 339, attributes := #[] }, { accessFlags := 8, nameIndex := 338, descriptorIndex := 339, attributes := #[] }, { accessFlags := 4120, nameIndex := 245, descriptorIndex := 246, attributes := #[] }])
  fields := #[{ name := "E", type := .double, accessFlags := 25, slot := 0, constantValue := 0 }, { name := "PI", type := .double, accessFlags := 25, slot := 1, constantValue := 0 }, { name := "TAU", type := .double, accessFlags := 25, slot := 2, constantValue := 0 }, { name := "DEGREES_TO_RADIANS", type := .double, accessFlags := 26, slot := 3, constantValue := 0 }, { name := "RADIANS_TO_DEGREES", type := .double, accessFlags := 26, slot := 4, constantValue := 0 }, { name := "negativeZeroFloatBits", type := .long, accessFlags := 26, slot := 5, constantValue := 0 }, { name := "negativeZeroDoubleBits", type := .long, accessFlags := 26, slot := 6, constantValue := 0 }, { name := "twoToTheDoubleScaleUp", type := .double, accessFlags := 8, slot := 7, constantValue := 0 }, { name := "twoToTheDoubleScaleDown", type := .double, accessFlags := 8, slot := 8, constantValue := 0 }, { name := "$assertionsDisabled", type := .boolean, accessFlags := 4120, slot := 9, constantValue := 0 }]
  methods := #[k3m0, k3m1]
  instanceTypes := #[]
  staticTypes := #[.double, .double, .double, .double, .double, .long, .long, .double, .double, .boolean]
  resolved := Array.replicate 460 none
  statics := none }

def pool4 : Array CpInfo := pool [(1, u "java/lang/Cloneable"), (0, .class_ 1), (0, u "java/lang/Object"), (0, .class_ 3)] 3

/-- java/lang/Cloneable -/
def k4 : Class := { plain "java/lang/Cloneable" (some 0) with
  accessFlags := 1537
  interfaces := #[]
  cf := some (fileOf pool4 2 #[] #[] 1537 4 #[] #[])
  fields := #[]
  methods := #[]
  instanceTypes := #[]
  staticTypes := #[]
  resolved := Array.replicate 8 none
  statics := none }

def pool5 : Array CpInfo := pool [(1, u "java/io/Serializable"), (0, .class_ 1), (0, u "java/lang/Object"), (0, .class_ 3)] 3

/-- java/io/Serializable -/
def k5 : Class := { plain "java/io/Serializable" (some 0) with
  accessFlags := 1537
  interfaces := #[]
  cf := some (fileOf pool5 2 #[] #[] 1537 4 #[] #[])
  fields := #[]
  methods := #[]
  instanceTypes := #[]
  staticTypes := #[]
  resolved := Array.replicate 8 none
  statics := none }

/-- the primitive byte -/
def k6 : Class := { plain "byte" none with kind := .primitive 'B', accessFlags := 0x411 }
/-- [B -/
def k7 : Class := { plain "[B" (some 0) with kind := .array 6 .byte, interfaces := #[4, 5], accessFlags := 1041 }

/-- the primitive int -/
def k8 : Class := { plain "int" none with kind := .primitive 'I', accessFlags := 0x411 }
/-- [I -/
def k9 : Class := { plain "[I" (some 0) with kind := .array 8 .int, interfaces := #[4, 5], accessFlags := 1041 }

def heap : Heap := #[]
def classes : Array Class := #[k0, k1, k2, k3, k4, k5, k6, k7, k8, k9]
def interned : List (Array UInt16 × Addr) := []
def slotsUsed : Nat := 0
def theMethod : MethodId := ⟨1, 1⟩
def args0 : Array Value := #[.long 5, .long 7, .long 6, .long 9, .long 1, .long 2]
def aboutOver (below : List Frame) : State where
  vm := { classes := classes, interned := interned.toArray }
  heap := heap
  slotsUsed := slotsUsed
  threads := #[{ frames := .invoking theMethod args0 :: below }]
def below0 : List Frame := [.native { method := ⟨0, 0⟩, args := #[] }]
def about1 : State := aboutOver below0
def p0 : Program := .bare "" "" ""
def e0 : Env := launch0.env 0 0 0
theorem w_frames : about1.frames = Frame.invoking theMethod args0 :: below0 := rfl
set_option maxRecDepth 65536 in
theorem w_args : argsFit about1.vm theMethod args0 = true := by decide +kernel
set_option maxRecDepth 65536 in
theorem w_heap : heapFits about1 = true := by decide +kernel
set_option maxRecDepth 65536 in
theorem w_runnable : about1.curStatus? = some .runnable := by decide +kernel
set_option maxRecDepth 65536 in
theorem w_alone : about1.alone = true := by decide +kernel
set_option maxRecDepth 65536 in
theorem w_named : about1.methodNamed? x = some theMethod := by decide +kernel
set_option maxRecDepth 65536 in
theorem w_hears : about1.hears theMethod below0 = true := by decide +kernel
set_option maxRecDepth 65536 in
theorem w_ripe : about1.ripe theMethod args0 below0 = true := by decide +kernel
theorem w_running : about1.status = .running := rfl
set_option maxRecDepth 65536 in
theorem w_room : about1.hasRoom e0.platform room_1 = true :=
  launch0.hasRoom_least _ room_1 (by decide +kernel) (by decide +kernel) (by decide +kernel) (by decide +kernel) (by decide +kernel) (by decide +kernel)
theorem allAtoms_all (ts : List Jvm.Cond) (a : Array Jvm.Value) (st : Jvm.State) : (allAtoms ts).before a st = ts.all (fun c => c.before a st) := by
  induction ts with
  | nil => rfl
  | cons c t ih =>
    show (Jvm.Cond.and c (allAtoms t)).before a st = _
    rw [Jvm.Cond.before_and, ih, List.all_cons]
def words1 : List Jvm.Cond := Jvm.Cond.code x code maxLocals ret :: tables_1
/-- a 'code' word, met by the world's own term for the bytes: nothing is compared byte by byte -/
theorem code_word {y : MethodName} {bytes : ByteArray} {mx : Nat} {rt : Option FieldType} {a : Array Value} {s : State} {m : MethodId} {meth : Method} {c : Code} (h1 : s.methodNamed? y = some m) (h2 : s.vm.method? m = some meth) (h3 : meth.code = some c) (h4 : c.code = bytes)
    (h5 : (c.maxLocals == mx && c.exceptionTable.isEmpty && decide (c.maxStack ≤ mostOperands) && decide (meth.sig.returnType = rt) && !meth.locks && decide (parseMethodDescriptor y.desc = some meth.sig)) = true) : (Jvm.Cond.code y bytes mx rt).before a s = true := by
  simp only [Bool.and_eq_true, beq_iff_eq, Bool.not_eq_true', decide_eq_true_eq] at h5
  obtain ⟨⟨⟨⟨⟨g1, g2⟩, g3⟩, g4⟩, g5⟩, g6⟩ := h5
  simp [Cond.before, Cond.holds, Cond.value, h1, h2, h3, h4, g1, g2, g3, g4, g5, g6]
def isCode : Jvm.Cond → Bool
  | .code _ _ _ _ => true
  | _ => false
theorem all_split {L : List Jvm.Cond} {P : Jvm.Cond → Bool} (h1 : L.all (fun c => isCode c || P c) = true) (h2 : ∀ c ∈ L.filter isCode, P c = true) : L.all P = true := by
  refine List.all_eq_true.mpr fun c hc => ?_
  have h := List.all_eq_true.mp h1 c hc
  rcases Bool.eq_false_or_eq_true (isCode c) with hi | hi
  · exact h2 c (List.mem_filter.mpr ⟨hc, hi⟩)
  · simpa [hi] using h
set_option maxRecDepth 65536 in
theorem w_c0 : (Jvm.Cond.code x code maxLocals ret).before args0 about1 = true := code_word (m := ⟨1, 1⟩) (meth := k1m1) (c := k1c1) (by decide +kernel) rfl rfl rfl (by decide +kernel)
set_option maxRecDepth 65536 in
theorem w_c1 : (Jvm.Cond.code ({ cls := "com/example/cuadre/cuadre/service/Tally", name := "<init>", desc := "()V" } : Jvm.MethodName) prog_91_method_1_code (1 : Nat) (Option.none : Option Jvm.ClassFile.FieldType)).before args0 about1 = true := code_word (m := ⟨2, 0⟩) (meth := k2m0) (c := k2c0) (by decide +kernel) rfl rfl rfl (by decide +kernel)
set_option maxRecDepth 65536 in
theorem w_c2 : (Jvm.Cond.code ({ cls := "java/lang/Object", name := "<init>", desc := "()V" } : Jvm.MethodName) object_method_1_code (1 : Nat) (Option.none : Option Jvm.ClassFile.FieldType)).before args0 about1 = true := code_word (m := ⟨0, 0⟩) (meth := k0m0) (c := k0c0) (by decide +kernel) rfl rfl rfl (by decide +kernel)
set_option maxRecDepth 65536 in
theorem w_c3 : (Jvm.Cond.code ({ cls := "com/example/cuadre/cuadre/service/Tally", name := "entry", desc := "(JJ)V" } : Jvm.MethodName) prog_91_method_2_code (5 : Nat) (Option.none : Option Jvm.ClassFile.FieldType)).before args0 about1 = true := code_word (m := ⟨2, 1⟩) (meth := k2m1) (c := k2c1) (by decide +kernel) rfl rfl rfl (by decide +kernel)
set_option maxRecDepth 65536 in
theorem w_c4 : (Jvm.Cond.code ({ cls := "java/lang/Math", name := "max", desc := "(JJ)J" } : Jvm.MethodName) jdk_29_method_66_code (4 : Nat) (Option.some Jvm.ClassFile.FieldType.long)).before args0 about1 = true := code_word (m := ⟨3, 1⟩) (meth := k3m1) (c := k3c1) (by decide +kernel) rfl rfl rfl (by decide +kernel)
set_option maxRecDepth 65536 in
theorem w_c5 : (Jvm.Cond.code ({ cls := "com/example/cuadre/cuadre/service/Tally", name := "add", desc := "(Lcom/example/cuadre/cuadre/service/Tally;)V" } : Jvm.MethodName) prog_91_method_3_code (2 : Nat) (Option.none : Option Jvm.ClassFile.FieldType)).before args0 about1 = true := code_word (m := ⟨2, 2⟩) (meth := k2m2) (c := k2c2) (by decide +kernel) rfl rfl rfl (by decide +kernel)
set_option maxRecDepth 65536 in
theorem w_c6 : (Jvm.Cond.code ({ cls := "com/example/cuadre/cuadre/service/Tally", name := "debitsAre", desc := "(J)Z" } : Jvm.MethodName) prog_91_method_4_code (3 : Nat) (Option.some Jvm.ClassFile.FieldType.boolean)).before args0 about1 = true := code_word (m := ⟨2, 3⟩) (meth := k2m3) (c := k2c3) (by decide +kernel) rfl rfl rfl (by decide +kernel)
def codes1 : List Jvm.Cond := [Jvm.Cond.code x code maxLocals ret, Jvm.Cond.code ({ cls := "com/example/cuadre/cuadre/service/Tally", name := "<init>", desc := "()V" } : Jvm.MethodName) prog_91_method_1_code (1 : Nat) (Option.none : Option Jvm.ClassFile.FieldType), Jvm.Cond.code ({ cls := "java/lang/Object", name := "<init>", desc := "()V" } : Jvm.MethodName) object_method_1_code (1 : Nat) (Option.none : Option Jvm.ClassFile.FieldType), Jvm.Cond.code ({ cls := "com/example/cuadre/cuadre/service/Tally", name := "entry", desc := "(JJ)V" } : Jvm.MethodName) prog_91_method_2_code (5 : Nat) (Option.none : Option Jvm.ClassFile.FieldType), Jvm.Cond.code ({ cls := "java/lang/Math", name := "max", desc := "(JJ)J" } : Jvm.MethodName) jdk_29_method_66_code (4 : Nat) (Option.some Jvm.ClassFile.FieldType.long), Jvm.Cond.code ({ cls := "com/example/cuadre/cuadre/service/Tally", name := "add", desc := "(Lcom/example/cuadre/cuadre/service/Tally;)V" } : Jvm.MethodName) prog_91_method_3_code (2 : Nat) (Option.none : Option Jvm.ClassFile.FieldType), Jvm.Cond.code ({ cls := "com/example/cuadre/cuadre/service/Tally", name := "debitsAre", desc := "(J)Z" } : Jvm.MethodName) prog_91_method_4_code (3 : Nat) (Option.some Jvm.ClassFile.FieldType.boolean)]
set_option maxRecDepth 65536 in
theorem codes_eq : words1.filter isCode = codes1 := rfl
theorem w_codes : ∀ c ∈ words1.filter isCode, c.before args0 about1 = true := by
  rw [codes_eq]
  intro c hc
  simp only [codes1, List.mem_cons, List.not_mem_nil, or_false] at hc
  rcases hc with rfl | rfl | rfl | rfl | rfl | rfl | rfl
  · exact w_c0
  · exact w_c1
  · exact w_c2
  · exact w_c3
  · exact w_c4
  · exact w_c5
  · exact w_c6
set_option maxRecDepth 65536 in
theorem w_t1 : (words1.take 24).all (fun c => isCode c || c.before args0 about1) = true := by decide +kernel
set_option maxRecDepth 65536 in
theorem w_t2 : ((words1.drop 24).take 24).all (fun c => isCode c || c.before args0 about1) = true := by decide +kernel
set_option maxRecDepth 65536 in
theorem w_t3 : ((words1.drop 24).drop 24).all (fun c => isCode c || c.before args0 about1) = true := by decide +kernel
theorem w_tables : (allAtoms (Jvm.Cond.code x code maxLocals ret :: tables_1)).before args0 about1 = true := by
  rw [allAtoms_all]
  show words1.all (fun c => c.before args0 about1) = true
  refine all_split ?_ w_codes
  rw [← List.take_append_drop 24 words1, List.all_append, w_t1, ← List.take_append_drop 24 (words1.drop 24), List.all_append, w_t2, w_t3]
  rfl
set_option maxRecDepth 65536 in
theorem w_case : (Jvm.Cond.and given_1 narrow_1).before args0 about1 = true := by decide +kernel
theorem w_applies : (headSpec (Jvm.Cond.code x code maxLocals ret :: tables_1) room_1).applies x e0.platform about1 = true :=
  (Spec.applies_iff w_frames).mpr ⟨w_running, w_runnable, w_alone, w_named, w_hears, w_ripe, w_room, w_tables⟩
theorem atStart : AtStart classFile x code maxLocals ret World_1 tables_1 room_1 Calls_1 rest_1 Pre_1 launch0 p0 e0 about1 theMethod args0 below0 :=
  ⟨lists_1, trivial, launch0.admits_env _ _ _, launch0.least_env, fairChoices_fair.cas, fairChoices_fair.clock, w_frames, w_args, w_heap, w_applies, trivial, trivial, w_case⟩
end start1
theorem witness_1 : WitnessClaimed_1 := ⟨start1.p0, start1.e0, start1.about1, start1.theMethod, start1.args0, start1.below0, start1.atStart⟩
end Jvm.Pilot.@@N@@
