import JvmDerived
import JvmDerived.Pilot.@@N@@Statement
import JvmDerived.Pilot.@@N@@Code
set_option linter.unusedVariables false
set_option linter.unusedSimpArgs false
namespace Jvm.Pilot.@@N@@
open Jvm Jvm.ClassFile Sem Op Lib Jvm.Free Jvm.Stand Jvm.LawKit Jvm.RoadKit Bundle Jvm.Pilot.@@N@@.Jvm.D
def own_A (p : Program) (l : Launch) (e : Env) (R : Room) (s : State) (m : MethodId) (args : Array Value) (below : List Frame) (meth : Method) (c : Code) (Z : State) (own name : String) (bytes : ByteArray) (maxL : Nat) (ret : Option FieldType) : Prop :=
  p.tables.exec = Jvm.exec ∧ c.code = bytes ∧ c.maxLocals = maxL ∧ s.vm.findClass own = some m.cls ∧ meth.name = name ∧ meth.sig.returnType = ret ∧ meth.locks = false ∧ Z.Warmed39 s.vm
def own_S (p : Program) (l : Launch) (e : Env) (R : Room) (s : State) (m : MethodId) (args : Array Value) (below : List Frame) (meth : Method) (c : Code) (n0 : Nat) (T : State) (h : Heap) (k n : Nat) : Prop :=
  ∃ locs, Stand p l e R s m args below meth c T locs k n ∧ T.heap = h ∧ Fr n0 locs
def own_G (p : Program) (e : Env) (below : List Frame) (s : State) (n0 kc ks : Nat) (Q : Option Value → Heap → Prop) (T : State) (g : JFrame) : Prop :=
  ∃ s₂ o, Steps p.tables e below (T.setTop g) s₂ ∧ s₂.status = .running ∧ Ended s₂ below o ∧ ∃ v L, o = .returned v ∧ (Q v s₂.heap ∧ Fr n0 L) ∧ FrameEnd s o s₂ L kc ks
def own_C (l : Launch) (Z : State) (y : MethodName) (bytes : ByteArray) (maxL : Nat) (ret : Option FieldType) (rm : Room) (n0 : Nat) (ws : List Jvm.Cond) (as' : Array Value) (h0 : Heap) (Q : Option Value → Heap → Prop) : Prop :=
  MetFree l y (head1 (Jvm.Cond.code y bytes maxL ret :: ws) rm) (fun a U => a = as' ∧ Z.Warmed39 U.vm ∧ U.heap = h0) (fun _ _ _ _ _ => True) (fun _ U o U' => ∃ v L, o = .returned v ∧ (Q v U'.heap ∧ Fr n0 L) ∧ FrameEnd U o U' L rm.cells rm.slots)
section OwnLayer
variable {p : Program} {l : Launch} {e : Env} {R : Room} {s : State} {m : MethodId} {args : Array Value} {below : List Frame} {meth : Method} {c : Code} {Z : State} {own name : String} {bytes : ByteArray} {maxL : Nat} {ret : Option FieldType} {T T' : State} {h : Heap} {k n n0 kc ks pc : Nat} {Ls Ls' : Array Slot} {st : List Value} {Q : Option Value → Heap → Prop} {g g' : JFrame} {a0 : Array Value}
theorem own_st (q : ∀ t, Steps p.tables e below (T'.setTop g') t → Steps p.tables e below (T.setTop g) t) (K : own_G p e below s n0 kc ks Q T' g') : own_G p e below s n0 kc ks Q T g := by
  obtain ⟨s2, o, a, b⟩ := K; exact ⟨s2, o, q _ a, b⟩
theorem own_C.of {y : MethodName} {rm : Room} {ws : List Jvm.Cond} {as' : Array Value} {h0 : Heap} (pn : plainFor y = true) (hn : n0 ≤ h0.size)
    (body : ∀ (p : Program) (e : Env) (s : State) (m : MethodId) (below : List Frame) (meth : Method) (c : Code) (T : State), own_A p l e rm s m as' below meth c Z y.cls y.name bytes maxL ret → own_S p l e rm s m as' below meth c n0 T h0 0 0 → own_G p e below s n0 rm.cells rm.slots Q T (entryFrame m as' maxL)) :
    own_C l Z y bytes maxL ret rm n0 ws as' h0 Q := by
  refine MetFree.of_bodySF pn hisR ?_
  intro p e s m args below meth c s₁ Bd hml0 hP hK
  obtain ⟨rfl, hZ, hh⟩ := hP
  have e0 : s₁.heap = h0 := by rw [← hh, Bd.state]; rfl
  exact body p e s m below meth c s₁ ⟨Bd.exec, Bd.bytes, hml0, findClass_of_methodNamed Bd.named, (name_of_methodNamed Bd.named Bd.method).1, Bd.returns, Bd.notSynchronized, hZ⟩ ⟨[], Stand.of_body Bd, e0, Fr.nil n0⟩
def own_ushr (x y : Int32) : Int32 := (x.toUInt32 >>> (y &&& 31).toUInt32).toInt32
def own_ushrL (x : Int64) (y : Int32) : Int64 := (x.toUInt64 >>> (y &&& 0x3f).toInt64.toUInt64).toInt64
theorem own_toInt {x y : Int32} (hh : ¬ x = y) : x.toInt ≠ y.toInt := fun q => hh (Int32.toInt_inj.mp q)
theorem own_toIntL {x y : Int64} (hh : ¬ x = y) : x.toInt ≠ y.toInt := fun q => hh (Int64.toInt_inj.mp q)
theorem s_iloadN (pc' : Nat) {i : Fin 4} {v : Int32} (A : own_A p l e R s m args below meth c Z own name bytes maxL ret) (S : own_S p l e R s m args below meth c n0 T h k n) (hd : decode bytes pc = .ok (.iload_n i, 1)) (hl : Ls[i.val]? = some (.val (.int v))) (hp : pc + 1 = pc') (K : own_G p e below s n0 kc ks Q T (mkF m pc' Ls (.int v :: st))) : own_G p e below s n0 kc ks Q T (mkF m pc Ls st) := by
  obtain ⟨_, X, -, -⟩ := S
  subst hp
  exact own_st (T' := T) (g' := mkF m _ Ls (.int v :: st)) (fun t ht => XS.iloadN X.here A.1 rfl (hb A.2.1 hd) hl ht) K
theorem s_iload (pc' : Nat) {i : Nat} {v : Int32} (A : own_A p l e R s m args below meth c Z own name bytes maxL ret) (S : own_S p l e R s m args below meth c n0 T h k n) (hd : decode bytes pc = .ok (.iload i, 2)) (hl : Ls[i]? = some (.val (.int v))) (hp : pc + 2 = pc') (K : own_G p e below s n0 kc ks Q T (mkF m pc' Ls (.int v :: st))) : own_G p e below s n0 kc ks Q T (mkF m pc Ls st) := by
  obtain ⟨_, X, -, -⟩ := S
  subst hp
  exact own_st (T' := T) (g' := mkF m _ Ls (.int v :: st)) (fun t ht => XS.iload X.here A.1 rfl (hb A.2.1 hd) hl ht) K
theorem s_istoreN (pc' : Nat) {i : Fin 4} {v : Int32} (A : own_A p l e R s m args below meth c Z own name bytes maxL ret) (S : own_S p l e R s m args below meth c n0 T h k n) (hd : decode bytes pc = .ok (.istore_n i, 1)) (hl : storeLocals Ls i.val (.int v) = some Ls') (hp : pc + 1 = pc') (K : own_G p e below s n0 kc ks Q T (mkF m pc' Ls' st)) : own_G p e below s n0 kc ks Q T (mkF m pc Ls (.int v :: st)) := by
  obtain ⟨_, X, -, -⟩ := S
  subst hp
  exact own_st (T' := T) (g' := mkF m _ Ls' st) (fun t ht => XS.istoreN X.here A.1 rfl (hb A.2.1 hd) rfl hl ht) K
theorem s_istore (pc' : Nat) {i : Nat} {v : Int32} (A : own_A p l e R s m args below meth c Z own name bytes maxL ret) (S : own_S p l e R s m args below meth c n0 T h k n) (hd : decode bytes pc = .ok (.istore i, 2)) (hl : storeLocals Ls i (.int v) = some Ls') (hp : pc + 2 = pc') (K : own_G p e below s n0 kc ks Q T (mkF m pc' Ls' st)) : own_G p e below s n0 kc ks Q T (mkF m pc Ls (.int v :: st)) := by
  obtain ⟨_, X, -, -⟩ := S
  subst hp
  exact own_st (T' := T) (g' := mkF m _ Ls' st) (fun t ht => XS.istore X.here A.1 rfl (hb A.2.1 hd) rfl hl ht) K
theorem s_lloadN (pc' : Nat) {i : Fin 4} {v : Int64} (A : own_A p l e R s m args below meth c Z own name bytes maxL ret) (S : own_S p l e R s m args below meth c n0 T h k n) (hd : decode bytes pc = .ok (.lload_n i, 1)) (hl : Ls[i.val]? = some (.val (.long v))) (hp : pc + 1 = pc') (K : own_G p e below s n0 kc ks Q T (mkF m pc' Ls (.long v :: st))) : own_G p e below s n0 kc ks Q T (mkF m pc Ls st) := by
  obtain ⟨_, X, -, -⟩ := S
  subst hp
  exact own_st (T' := T) (g' := mkF m _ Ls (.long v :: st)) (fun t ht => XS.lloadN X.here A.1 rfl (hb A.2.1 hd) hl ht) K
theorem s_lload (pc' : Nat) {i : Nat} {v : Int64} (A : own_A p l e R s m args below meth c Z own name bytes maxL ret) (S : own_S p l e R s m args below meth c n0 T h k n) (hd : decode bytes pc = .ok (.lload i, 2)) (hl : Ls[i]? = some (.val (.long v))) (hp : pc + 2 = pc') (K : own_G p e below s n0 kc ks Q T (mkF m pc' Ls (.long v :: st))) : own_G p e below s n0 kc ks Q T (mkF m pc Ls st) := by
  obtain ⟨_, X, -, -⟩ := S
  subst hp
  exact own_st (T' := T) (g' := mkF m _ Ls (.long v :: st)) (fun t ht => XS.lload X.here A.1 rfl (hb A.2.1 hd) hl ht) K
theorem s_lstoreN (pc' : Nat) {i : Fin 4} {v : Int64} (A : own_A p l e R s m args below meth c Z own name bytes maxL ret) (S : own_S p l e R s m args below meth c n0 T h k n) (hd : decode bytes pc = .ok (.lstore_n i, 1)) (hl : storeLocals Ls i.val (.long v) = some Ls') (hp : pc + 1 = pc') (K : own_G p e below s n0 kc ks Q T (mkF m pc' Ls' st)) : own_G p e below s n0 kc ks Q T (mkF m pc Ls (.long v :: st)) := by
  obtain ⟨_, X, -, -⟩ := S
  subst hp
  exact own_st (T' := T) (g' := mkF m _ Ls' st) (fun t ht => XS.lstoreN X.here A.1 rfl (hb A.2.1 hd) rfl hl ht) K
theorem s_lstore (pc' : Nat) {i : Nat} {v : Int64} (A : own_A p l e R s m args below meth c Z own name bytes maxL ret) (S : own_S p l e R s m args below meth c n0 T h k n) (hd : decode bytes pc = .ok (.lstore i, 2)) (hl : storeLocals Ls i (.long v) = some Ls') (hp : pc + 2 = pc') (K : own_G p e below s n0 kc ks Q T (mkF m pc' Ls' st)) : own_G p e below s n0 kc ks Q T (mkF m pc Ls (.long v :: st)) := by
  obtain ⟨_, X, -, -⟩ := S
  subst hp
  exact own_st (T' := T) (g' := mkF m _ Ls' st) (fun t ht => XS.lstore X.here A.1 rfl (hb A.2.1 hd) rfl hl ht) K
theorem s_aloadN (pc' : Nat) {i : Fin 4} {v : Value} (A : own_A p l e R s m args below meth c Z own name bytes maxL ret) (S : own_S p l e R s m args below meth c n0 T h k n) (hd : decode bytes pc = .ok (.aload_n i, 1)) (hl : Ls[i.val]? = some (.val v)) (hv : v.isRef = true) (hp : pc + 1 = pc') (K : own_G p e below s n0 kc ks Q T (mkF m pc' Ls (v :: st))) : own_G p e below s n0 kc ks Q T (mkF m pc Ls st) := by
  obtain ⟨_, X, -, -⟩ := S
  subst hp
  exact own_st (T' := T) (g' := mkF m _ Ls (v :: st)) (fun t ht => XS.aloadN X.here A.1 rfl (hb A.2.1 hd) hl hv ht) K
theorem s_aload (pc' : Nat) {i : Nat} {v : Value} (A : own_A p l e R s m args below meth c Z own name bytes maxL ret) (S : own_S p l e R s m args below meth c n0 T h k n) (hd : decode bytes pc = .ok (.aload i, 2)) (hl : Ls[i]? = some (.val v)) (hv : v.isRef = true) (hp : pc + 2 = pc') (K : own_G p e below s n0 kc ks Q T (mkF m pc' Ls (v :: st))) : own_G p e below s n0 kc ks Q T (mkF m pc Ls st) := by
  obtain ⟨_, X, -, -⟩ := S
  subst hp
  exact own_st (T' := T) (g' := mkF m _ Ls (v :: st)) (fun t ht => XS.aload X.here A.1 rfl (hb A.2.1 hd) hl hv ht) K
theorem s_astoreN (pc' : Nat) {i : Fin 4} {v : Value} (A : own_A p l e R s m args below meth c Z own name bytes maxL ret) (S : own_S p l e R s m args below meth c n0 T h k n) (hd : decode bytes pc = .ok (.astore_n i, 1)) (hv : v.isRef = true) (hl : storeLocals Ls i.val v = some Ls') (hp : pc + 1 = pc') (K : own_G p e below s n0 kc ks Q T (mkF m pc' Ls' st)) : own_G p e below s n0 kc ks Q T (mkF m pc Ls (v :: st)) := by
  obtain ⟨_, X, -, -⟩ := S
  subst hp
  exact own_st (T' := T) (g' := mkF m _ Ls' st) (fun t ht => XS.astoreN X.here A.1 rfl (hb A.2.1 hd) rfl hv hl ht) K
theorem s_astore (pc' : Nat) {i : Nat} {v : Value} (A : own_A p l e R s m args below meth c Z own name bytes maxL ret) (S : own_S p l e R s m args below meth c n0 T h k n) (hd : decode bytes pc = .ok (.astore i, 2)) (hv : v.isRef = true) (hl : storeLocals Ls i v = some Ls') (hp : pc + 2 = pc') (K : own_G p e below s n0 kc ks Q T (mkF m pc' Ls' st)) : own_G p e below s n0 kc ks Q T (mkF m pc Ls (v :: st)) := by
  obtain ⟨_, X, -, -⟩ := S
  subst hp
  exact own_st (T' := T) (g' := mkF m _ Ls' st) (fun t ht => XS.astore X.here A.1 rfl (hb A.2.1 hd) rfl hv hl ht) K
theorem s_iconst (pc' : Nat) {i : Int} {z : Int32} (A : own_A p l e R s m args below meth c Z own name bytes maxL ret) (S : own_S p l e R s m args below meth c n0 T h k n) (hd : decode bytes pc = .ok (.iconst i, 1)) (hz : Int32.ofInt i = z) (hp : pc + 1 = pc') (K : own_G p e below s n0 kc ks Q T (mkF m pc' Ls (.int z :: st))) : own_G p e below s n0 kc ks Q T (mkF m pc Ls st) := by
  obtain ⟨_, X, -, -⟩ := S
  subst hp hz
  exact own_st (T' := T) (g' := mkF m _ Ls (.int _ :: st)) (fun t ht => XS.iconst X.here A.1 rfl (hb A.2.1 hd) ht) K
theorem s_bipush (pc' : Nat) {i : Int} {z : Int32} (A : own_A p l e R s m args below meth c Z own name bytes maxL ret) (S : own_S p l e R s m args below meth c n0 T h k n) (hd : decode bytes pc = .ok (.bipush i, 2)) (hz : (Int8.ofInt i).toInt32 = z) (hp : pc + 2 = pc') (K : own_G p e below s n0 kc ks Q T (mkF m pc' Ls (.int z :: st))) : own_G p e below s n0 kc ks Q T (mkF m pc Ls st) := by
  obtain ⟨_, X, -, -⟩ := S
  subst hp hz
  exact own_st (T' := T) (g' := mkF m _ Ls (.int _ :: st)) (fun t ht => XS.bipush X.here A.1 rfl (hb A.2.1 hd) ht) K
theorem s_sipush (pc' : Nat) {i : Int} {z : Int32} (A : own_A p l e R s m args below meth c Z own name bytes maxL ret) (S : own_S p l e R s m args below meth c n0 T h k n) (hd : decode bytes pc = .ok (.sipush i, 3)) (hz : (Int16.ofInt i).toInt32 = z) (hp : pc + 3 = pc') (K : own_G p e below s n0 kc ks Q T (mkF m pc' Ls (.int z :: st))) : own_G p e below s n0 kc ks Q T (mkF m pc Ls st) := by
  obtain ⟨_, X, -, -⟩ := S
  subst hp hz
  exact own_st (T' := T) (g' := mkF m _ Ls (.int _ :: st)) (fun t ht => XS.sipush X.here A.1 rfl (hb A.2.1 hd) ht) K
theorem s_lconst (pc' : Nat) {i : Fin 2} {z : Int64} (A : own_A p l e R s m args below meth c Z own name bytes maxL ret) (S : own_S p l e R s m args below meth c n0 T h k n) (hd : decode bytes pc = .ok (.lconst i, 1)) (hz : Int64.ofNat i = z) (hp : pc + 1 = pc') (K : own_G p e below s n0 kc ks Q T (mkF m pc' Ls (.long z :: st))) : own_G p e below s n0 kc ks Q T (mkF m pc Ls st) := by
  obtain ⟨_, X, -, -⟩ := S
  subst hp hz
  exact own_st (T' := T) (g' := mkF m _ Ls (.long _ :: st)) (fun t ht => XS.lconst X.here A.1 rfl (hb A.2.1 hd) ht) K
theorem s_aconstNull (pc' : Nat)  (A : own_A p l e R s m args below meth c Z own name bytes maxL ret) (S : own_S p l e R s m args below meth c n0 T h k n) (hd : decode bytes pc = .ok (.aconst_null, 1)) (hp : pc + 1 = pc') (K : own_G p e below s n0 kc ks Q T (mkF m pc' Ls (.null :: st))) : own_G p e below s n0 kc ks Q T (mkF m pc Ls st) := by
  obtain ⟨_, X, -, -⟩ := S
  subst hp
  exact own_st (T' := T) (g' := mkF m _ Ls (.null :: st)) (fun t ht => XS.aconstNull X.here A.1 rfl (hb A.2.1 hd)  ht) K
theorem s_ldc (pc' : Nat) {i : Nat} {v : Int32} (A : own_A p l e R s m args below meth c Z own name bytes maxL ret) (S : own_S p l e R s m args below meth c n0 T h k n) (w : (Jvm.Cond.constant own i v).before a0 Z = true) (hd : decode bytes pc = .ok (.ldc i, 2)) (hp : pc + 2 = pc') (K : own_G p e below s n0 kc ks Q T (mkF m pc' Ls (.int v :: st))) : own_G p e below s n0 kc ks Q T (mkF m pc Ls st) := by
  obtain ⟨_, X, -, -⟩ := S
  obtain ⟨hx, hby, -, hown, -, -, -, hZ⟩ := A
  subst hp
  exact own_st (T' := T) (g' := mkF m _ Ls (.int v :: st)) (X.ldcInt hx hown (mvT hZ w) (g := mkF m pc Ls st) rfl (hb hby hd)) K
theorem s_ldc2 (pc' : Nat) {i : Nat} {v : Int64} (A : own_A p l e R s m args below meth c Z own name bytes maxL ret) (S : own_S p l e R s m args below meth c n0 T h k n) (w : (Jvm.Cond.constantLong own i v).before a0 Z = true) (hd : decode bytes pc = .ok (.ldc2_w i, 3)) (hp : pc + 3 = pc') (K : own_G p e below s n0 kc ks Q T (mkF m pc' Ls (.long v :: st))) : own_G p e below s n0 kc ks Q T (mkF m pc Ls st) := by
  obtain ⟨_, X, -, -⟩ := S
  obtain ⟨hx, hby, -, hown, -, -, -, hZ⟩ := A
  subst hp
  exact own_st (T' := T) (g' := mkF m _ Ls (.long v :: st)) (X.ldc2Long hx hown (mvT hZ w) (g := mkF m pc Ls st) rfl (hb hby hd)) K
theorem s_iadd (pc' : Nat) {x y : Int32} {z : Int32} (A : own_A p l e R s m args below meth c Z own name bytes maxL ret) (S : own_S p l e R s m args below meth c n0 T h k n) (hd : decode bytes pc = .ok (.iadd, 1)) (hz : x + y = z) (hp : pc + 1 = pc') (K : own_G p e below s n0 kc ks Q T (mkF m pc' Ls (.int z :: st))) : own_G p e below s n0 kc ks Q T (mkF m pc Ls (.int y :: .int x :: st)) := by
  obtain ⟨_, X, -, -⟩ := S
  subst hp hz
  exact own_st (T' := T) (g' := mkF m _ Ls (.int _ :: st)) (fun t ht => XS.iadd X.here A.1 rfl (hb A.2.1 hd) rfl  ht) K
theorem s_isub (pc' : Nat) {x y : Int32} {z : Int32} (A : own_A p l e R s m args below meth c Z own name bytes maxL ret) (S : own_S p l e R s m args below meth c n0 T h k n) (hd : decode bytes pc = .ok (.isub, 1)) (hz : x - y = z) (hp : pc + 1 = pc') (K : own_G p e below s n0 kc ks Q T (mkF m pc' Ls (.int z :: st))) : own_G p e below s n0 kc ks Q T (mkF m pc Ls (.int y :: .int x :: st)) := by
  obtain ⟨_, X, -, -⟩ := S
  subst hp hz
  exact own_st (T' := T) (g' := mkF m _ Ls (.int _ :: st)) (fun t ht => XS.isub X.here A.1 rfl (hb A.2.1 hd) rfl  ht) K
theorem s_imul (pc' : Nat) {x y : Int32} {z : Int32} (A : own_A p l e R s m args below meth c Z own name bytes maxL ret) (S : own_S p l e R s m args below meth c n0 T h k n) (hd : decode bytes pc = .ok (.imul, 1)) (hz : x * y = z) (hp : pc + 1 = pc') (K : own_G p e below s n0 kc ks Q T (mkF m pc' Ls (.int z :: st))) : own_G p e below s n0 kc ks Q T (mkF m pc Ls (.int y :: .int x :: st)) := by
  obtain ⟨_, X, -, -⟩ := S
  subst hp hz
  exact own_st (T' := T) (g' := mkF m _ Ls (.int _ :: st)) (fun t ht => XS.imul X.here A.1 rfl (hb A.2.1 hd) rfl  ht) K
theorem s_iand (pc' : Nat) {x y : Int32} {z : Int32} (A : own_A p l e R s m args below meth c Z own name bytes maxL ret) (S : own_S p l e R s m args below meth c n0 T h k n) (hd : decode bytes pc = .ok (.iand, 1)) (hz : x &&& y = z) (hp : pc + 1 = pc') (K : own_G p e below s n0 kc ks Q T (mkF m pc' Ls (.int z :: st))) : own_G p e below s n0 kc ks Q T (mkF m pc Ls (.int y :: .int x :: st)) := by
  obtain ⟨_, X, -, -⟩ := S
  subst hp hz
  exact own_st (T' := T) (g' := mkF m _ Ls (.int _ :: st)) (fun t ht => XS.iand X.here A.1 rfl (hb A.2.1 hd) rfl  ht) K
theorem s_ior (pc' : Nat) {x y : Int32} {z : Int32} (A : own_A p l e R s m args below meth c Z own name bytes maxL ret) (S : own_S p l e R s m args below meth c n0 T h k n) (hd : decode bytes pc = .ok (.ior, 1)) (hz : x ||| y = z) (hp : pc + 1 = pc') (K : own_G p e below s n0 kc ks Q T (mkF m pc' Ls (.int z :: st))) : own_G p e below s n0 kc ks Q T (mkF m pc Ls (.int y :: .int x :: st)) := by
  obtain ⟨_, X, -, -⟩ := S
  subst hp hz
  exact own_st (T' := T) (g' := mkF m _ Ls (.int _ :: st)) (fun t ht => XS.ior X.here A.1 rfl (hb A.2.1 hd) rfl  ht) K
theorem s_ixor (pc' : Nat) {x y : Int32} {z : Int32} (A : own_A p l e R s m args below meth c Z own name bytes maxL ret) (S : own_S p l e R s m args below meth c n0 T h k n) (hd : decode bytes pc = .ok (.ixor, 1)) (hz : x ^^^ y = z) (hp : pc + 1 = pc') (K : own_G p e below s n0 kc ks Q T (mkF m pc' Ls (.int z :: st))) : own_G p e below s n0 kc ks Q T (mkF m pc Ls (.int y :: .int x :: st)) := by
  obtain ⟨_, X, -, -⟩ := S
  subst hp hz
  exact own_st (T' := T) (g' := mkF m _ Ls (.int _ :: st)) (fun t ht => XS.ixor X.here A.1 rfl (hb A.2.1 hd) rfl  ht) K
theorem s_ishl (pc' : Nat) {x y : Int32} {z : Int32} (A : own_A p l e R s m args below meth c Z own name bytes maxL ret) (S : own_S p l e R s m args below meth c n0 T h k n) (hd : decode bytes pc = .ok (.ishl, 1)) (hz : x <<< (y &&& 31) = z) (hp : pc + 1 = pc') (K : own_G p e below s n0 kc ks Q T (mkF m pc' Ls (.int z :: st))) : own_G p e below s n0 kc ks Q T (mkF m pc Ls (.int y :: .int x :: st)) := by
  obtain ⟨_, X, -, -⟩ := S
  subst hp hz
  exact own_st (T' := T) (g' := mkF m _ Ls (.int _ :: st)) (fun t ht => XS.ishl X.here A.1 rfl (hb A.2.1 hd) rfl  ht) K
theorem s_ishr (pc' : Nat) {x y : Int32} {z : Int32} (A : own_A p l e R s m args below meth c Z own name bytes maxL ret) (S : own_S p l e R s m args below meth c n0 T h k n) (hd : decode bytes pc = .ok (.ishr, 1)) (hz : x >>> (y &&& 31) = z) (hp : pc + 1 = pc') (K : own_G p e below s n0 kc ks Q T (mkF m pc' Ls (.int z :: st))) : own_G p e below s n0 kc ks Q T (mkF m pc Ls (.int y :: .int x :: st)) := by
  obtain ⟨_, X, -, -⟩ := S
  subst hp hz
  exact own_st (T' := T) (g' := mkF m _ Ls (.int _ :: st)) (fun t ht => XS.ishr X.here A.1 rfl (hb A.2.1 hd) rfl  ht) K
theorem s_iushr (pc' : Nat) {x y : Int32} {z : Int32} (A : own_A p l e R s m args below meth c Z own name bytes maxL ret) (S : own_S p l e R s m args below meth c n0 T h k n) (hd : decode bytes pc = .ok (.iushr, 1)) (hz : own_ushr x y = z) (hp : pc + 1 = pc') (K : own_G p e below s n0 kc ks Q T (mkF m pc' Ls (.int z :: st))) : own_G p e below s n0 kc ks Q T (mkF m pc Ls (.int y :: .int x :: st)) := by
  obtain ⟨_, X, -, -⟩ := S
  subst hp hz
  exact own_st (T' := T) (g' := mkF m _ Ls (.int _ :: st)) (fun t ht => XS.iushr X.here A.1 rfl (hb A.2.1 hd) rfl  ht) K
theorem s_idiv (pc' : Nat) {x y : Int32} {z : Int32} (A : own_A p l e R s m args below meth c Z own name bytes maxL ret) (S : own_S p l e R s m args below meth c n0 T h k n) (hd : decode bytes pc = .ok (.idiv, 1)) (hy : y ≠ 0) (hz : x / y = z) (hp : pc + 1 = pc') (K : own_G p e below s n0 kc ks Q T (mkF m pc' Ls (.int z :: st))) : own_G p e below s n0 kc ks Q T (mkF m pc Ls (.int y :: .int x :: st)) := by
  obtain ⟨_, X, -, -⟩ := S
  subst hp hz
  exact own_st (T' := T) (g' := mkF m _ Ls (.int _ :: st)) (fun t ht => XS.idiv X.here A.1 rfl (hb A.2.1 hd) rfl hy ht) K
theorem s_irem (pc' : Nat) {x y : Int32} {z : Int32} (A : own_A p l e R s m args below meth c Z own name bytes maxL ret) (S : own_S p l e R s m args below meth c n0 T h k n) (hd : decode bytes pc = .ok (.irem, 1)) (hy : y ≠ 0) (hz : x % y = z) (hp : pc + 1 = pc') (K : own_G p e below s n0 kc ks Q T (mkF m pc' Ls (.int z :: st))) : own_G p e below s n0 kc ks Q T (mkF m pc Ls (.int y :: .int x :: st)) := by
  obtain ⟨_, X, -, -⟩ := S
  subst hp hz
  exact own_st (T' := T) (g' := mkF m _ Ls (.int _ :: st)) (fun t ht => iremM X A.1 rfl (hb A.2.1 hd) rfl hy ht) K
theorem s_ladd (pc' : Nat) {x y : Int64} {z : Int64} (A : own_A p l e R s m args below meth c Z own name bytes maxL ret) (S : own_S p l e R s m args below meth c n0 T h k n) (hd : decode bytes pc = .ok (.ladd, 1)) (hz : x + y = z) (hp : pc + 1 = pc') (K : own_G p e below s n0 kc ks Q T (mkF m pc' Ls (.long z :: st))) : own_G p e below s n0 kc ks Q T (mkF m pc Ls (.long y :: .long x :: st)) := by
  obtain ⟨_, X, -, -⟩ := S
  subst hp hz
  exact own_st (T' := T) (g' := mkF m _ Ls (.long _ :: st)) (fun t ht => XS.ladd X.here A.1 rfl (hb A.2.1 hd) rfl  ht) K
theorem s_lsub (pc' : Nat) {x y : Int64} {z : Int64} (A : own_A p l e R s m args below meth c Z own name bytes maxL ret) (S : own_S p l e R s m args below meth c n0 T h k n) (hd : decode bytes pc = .ok (.lsub, 1)) (hz : x - y = z) (hp : pc + 1 = pc') (K : own_G p e below s n0 kc ks Q T (mkF m pc' Ls (.long z :: st))) : own_G p e below s n0 kc ks Q T (mkF m pc Ls (.long y :: .long x :: st)) := by
  obtain ⟨_, X, -, -⟩ := S
  subst hp hz
  exact own_st (T' := T) (g' := mkF m _ Ls (.long _ :: st)) (fun t ht => XS.lsub X.here A.1 rfl (hb A.2.1 hd) rfl  ht) K
theorem s_lmul (pc' : Nat) {x y : Int64} {z : Int64} (A : own_A p l e R s m args below meth c Z own name bytes maxL ret) (S : own_S p l e R s m args below meth c n0 T h k n) (hd : decode bytes pc = .ok (.lmul, 1)) (hz : x * y = z) (hp : pc + 1 = pc') (K : own_G p e below s n0 kc ks Q T (mkF m pc' Ls (.long z :: st))) : own_G p e below s n0 kc ks Q T (mkF m pc Ls (.long y :: .long x :: st)) := by
  obtain ⟨_, X, -, -⟩ := S
  subst hp hz
  exact own_st (T' := T) (g' := mkF m _ Ls (.long _ :: st)) (fun t ht => XS.lmul X.here A.1 rfl (hb A.2.1 hd) rfl  ht) K
theorem s_land (pc' : Nat) {x y : Int64} {z : Int64} (A : own_A p l e R s m args below meth c Z own name bytes maxL ret) (S : own_S p l e R s m args below meth c n0 T h k n) (hd : decode bytes pc = .ok (.land, 1)) (hz : x &&& y = z) (hp : pc + 1 = pc') (K : own_G p e below s n0 kc ks Q T (mkF m pc' Ls (.long z :: st))) : own_G p e below s n0 kc ks Q T (mkF m pc Ls (.long y :: .long x :: st)) := by
  obtain ⟨_, X, -, -⟩ := S
  subst hp hz
  exact own_st (T' := T) (g' := mkF m _ Ls (.long _ :: st)) (fun t ht => XS.land X.here A.1 rfl (hb A.2.1 hd) rfl  ht) K
theorem s_lor (pc' : Nat) {x y : Int64} {z : Int64} (A : own_A p l e R s m args below meth c Z own name bytes maxL ret) (S : own_S p l e R s m args below meth c n0 T h k n) (hd : decode bytes pc = .ok (.lor, 1)) (hz : x ||| y = z) (hp : pc + 1 = pc') (K : own_G p e below s n0 kc ks Q T (mkF m pc' Ls (.long z :: st))) : own_G p e below s n0 kc ks Q T (mkF m pc Ls (.long y :: .long x :: st)) := by
  obtain ⟨_, X, -, -⟩ := S
  subst hp hz
  exact own_st (T' := T) (g' := mkF m _ Ls (.long _ :: st)) (fun t ht => XS.lor X.here A.1 rfl (hb A.2.1 hd) rfl  ht) K
theorem s_lxor (pc' : Nat) {x y : Int64} {z : Int64} (A : own_A p l e R s m args below meth c Z own name bytes maxL ret) (S : own_S p l e R s m args below meth c n0 T h k n) (hd : decode bytes pc = .ok (.lxor, 1)) (hz : x ^^^ y = z) (hp : pc + 1 = pc') (K : own_G p e below s n0 kc ks Q T (mkF m pc' Ls (.long z :: st))) : own_G p e below s n0 kc ks Q T (mkF m pc Ls (.long y :: .long x :: st)) := by
  obtain ⟨_, X, -, -⟩ := S
  subst hp hz
  exact own_st (T' := T) (g' := mkF m _ Ls (.long _ :: st)) (fun t ht => XS.lxor X.here A.1 rfl (hb A.2.1 hd) rfl  ht) K
theorem s_ldiv (pc' : Nat) {x y : Int64} {z : Int64} (A : own_A p l e R s m args below meth c Z own name bytes maxL ret) (S : own_S p l e R s m args below meth c n0 T h k n) (hd : decode bytes pc = .ok (.ldiv, 1)) (hy : y ≠ 0) (hz : x / y = z) (hp : pc + 1 = pc') (K : own_G p e below s n0 kc ks Q T (mkF m pc' Ls (.long z :: st))) : own_G p e below s n0 kc ks Q T (mkF m pc Ls (.long y :: .long x :: st)) := by
  obtain ⟨_, X, -, -⟩ := S
  subst hp hz
  exact own_st (T' := T) (g' := mkF m _ Ls (.long _ :: st)) (fun t ht => XS.ldiv X.here A.1 rfl (hb A.2.1 hd) rfl hy ht) K
theorem s_lrem (pc' : Nat) {x y : Int64} {z : Int64} (A : own_A p l e R s m args below meth c Z own name bytes maxL ret) (S : own_S p l e R s m args below meth c n0 T h k n) (hd : decode bytes pc = .ok (.lrem, 1)) (hy : y ≠ 0) (hz : x - (x / y) * y = z) (hp : pc + 1 = pc') (K : own_G p e below s n0 kc ks Q T (mkF m pc' Ls (.long z :: st))) : own_G p e below s n0 kc ks Q T (mkF m pc Ls (.long y :: .long x :: st)) := by
  obtain ⟨_, X, -, -⟩ := S
  subst hp hz
  exact own_st (T' := T) (g' := mkF m _ Ls (.long _ :: st)) (fun t ht => XS.lrem X.here A.1 rfl (hb A.2.1 hd) rfl hy ht) K
theorem s_lshl (pc' : Nat) {x : Int64} {y : Int32} {z : Int64} (A : own_A p l e R s m args below meth c Z own name bytes maxL ret) (S : own_S p l e R s m args below meth c n0 T h k n) (hd : decode bytes pc = .ok (.lshl, 1)) (hz : x <<< (y &&& 63).toInt64 = z) (hp : pc + 1 = pc') (K : own_G p e below s n0 kc ks Q T (mkF m pc' Ls (.long z :: st))) : own_G p e below s n0 kc ks Q T (mkF m pc Ls (.int y :: .long x :: st)) := by
  obtain ⟨_, X, -, -⟩ := S
  subst hp hz
  exact own_st (T' := T) (g' := mkF m _ Ls (.long _ :: st)) (fun t ht => XS.lshl X.here A.1 rfl (hb A.2.1 hd) rfl  ht) K
theorem s_lshr (pc' : Nat) {x : Int64} {y : Int32} {z : Int64} (A : own_A p l e R s m args below meth c Z own name bytes maxL ret) (S : own_S p l e R s m args below meth c n0 T h k n) (hd : decode bytes pc = .ok (.lshr, 1)) (hz : x >>> (y &&& 63).toInt64 = z) (hp : pc + 1 = pc') (K : own_G p e below s n0 kc ks Q T (mkF m pc' Ls (.long z :: st))) : own_G p e below s n0 kc ks Q T (mkF m pc Ls (.int y :: .long x :: st)) := by
  obtain ⟨_, X, -, -⟩ := S
  subst hp hz
  exact own_st (T' := T) (g' := mkF m _ Ls (.long _ :: st)) (fun t ht => XS.lshr X.here A.1 rfl (hb A.2.1 hd) rfl  ht) K
theorem s_lushr (pc' : Nat) {x : Int64} {y : Int32} {z : Int64} (A : own_A p l e R s m args below meth c Z own name bytes maxL ret) (S : own_S p l e R s m args below meth c n0 T h k n) (hd : decode bytes pc = .ok (.lushr, 1)) (hz : own_ushrL x y = z) (hp : pc + 1 = pc') (K : own_G p e below s n0 kc ks Q T (mkF m pc' Ls (.long z :: st))) : own_G p e below s n0 kc ks Q T (mkF m pc Ls (.int y :: .long x :: st)) := by
  obtain ⟨_, X, -, -⟩ := S
  subst hp hz
  exact own_st (T' := T) (g' := mkF m _ Ls (.long _ :: st)) (fun t ht => XS.lushr X.here A.1 rfl (hb A.2.1 hd) rfl  ht) K
theorem s_ineg (pc' : Nat) {x : Int32} {z : Int32} (A : own_A p l e R s m args below meth c Z own name bytes maxL ret) (S : own_S p l e R s m args below meth c n0 T h k n) (hd : decode bytes pc = .ok (.ineg, 1)) (hz : -x = z) (hp : pc + 1 = pc') (K : own_G p e below s n0 kc ks Q T (mkF m pc' Ls (.int z :: st))) : own_G p e below s n0 kc ks Q T (mkF m pc Ls (.int x :: st)) := by
  obtain ⟨_, X, -, -⟩ := S
  subst hp hz
  exact own_st (T' := T) (g' := mkF m _ Ls (.int _ :: st)) (fun t ht => XS.ineg X.here A.1 rfl (hb A.2.1 hd) rfl  ht) K
theorem s_lneg (pc' : Nat) {x : Int64} {z : Int64} (A : own_A p l e R s m args below meth c Z own name bytes maxL ret) (S : own_S p l e R s m args below meth c n0 T h k n) (hd : decode bytes pc = .ok (.lneg, 1)) (hz : -x = z) (hp : pc + 1 = pc') (K : own_G p e below s n0 kc ks Q T (mkF m pc' Ls (.long z :: st))) : own_G p e below s n0 kc ks Q T (mkF m pc Ls (.long x :: st)) := by
  obtain ⟨_, X, -, -⟩ := S
  subst hp hz
  exact own_st (T' := T) (g' := mkF m _ Ls (.long _ :: st)) (fun t ht => XS.lneg X.here A.1 rfl (hb A.2.1 hd) rfl  ht) K
theorem s_i2l (pc' : Nat) {x : Int32} {z : Int64} (A : own_A p l e R s m args below meth c Z own name bytes maxL ret) (S : own_S p l e R s m args below meth c n0 T h k n) (hd : decode bytes pc = .ok (.i2l, 1)) (hz : x.toInt64 = z) (hp : pc + 1 = pc') (K : own_G p e below s n0 kc ks Q T (mkF m pc' Ls (.long z :: st))) : own_G p e below s n0 kc ks Q T (mkF m pc Ls (.int x :: st)) := by
  obtain ⟨_, X, -, -⟩ := S
  subst hp hz
  exact own_st (T' := T) (g' := mkF m _ Ls (.long _ :: st)) (fun t ht => XS.i2l X.here A.1 rfl (hb A.2.1 hd) rfl  ht) K
theorem s_l2i (pc' : Nat) {x : Int64} {z : Int32} (A : own_A p l e R s m args below meth c Z own name bytes maxL ret) (S : own_S p l e R s m args below meth c n0 T h k n) (hd : decode bytes pc = .ok (.l2i, 1)) (hz : x.toInt32 = z) (hp : pc + 1 = pc') (K : own_G p e below s n0 kc ks Q T (mkF m pc' Ls (.int z :: st))) : own_G p e below s n0 kc ks Q T (mkF m pc Ls (.long x :: st)) := by
  obtain ⟨_, X, -, -⟩ := S
  subst hp hz
  exact own_st (T' := T) (g' := mkF m _ Ls (.int _ :: st)) (fun t ht => XS.l2i X.here A.1 rfl (hb A.2.1 hd) rfl  ht) K
theorem s_i2b (pc' : Nat) {x : Int32} {z : Int32} (A : own_A p l e R s m args below meth c Z own name bytes maxL ret) (S : own_S p l e R s m args below meth c n0 T h k n) (hd : decode bytes pc = .ok (.i2b, 1)) (hz : x.toInt8.toInt32 = z) (hp : pc + 1 = pc') (K : own_G p e below s n0 kc ks Q T (mkF m pc' Ls (.int z :: st))) : own_G p e below s n0 kc ks Q T (mkF m pc Ls (.int x :: st)) := by
  obtain ⟨_, X, -, -⟩ := S
  subst hp hz
  exact own_st (T' := T) (g' := mkF m _ Ls (.int _ :: st)) (fun t ht => XS.i2b X.here A.1 rfl (hb A.2.1 hd) rfl  ht) K
theorem s_i2c (pc' : Nat) {x : Int32} {z : Int32} (A : own_A p l e R s m args below meth c Z own name bytes maxL ret) (S : own_S p l e R s m args below meth c n0 T h k n) (hd : decode bytes pc = .ok (.i2c, 1)) (hz : x.toUInt32.toUInt16.toUInt32.toInt32 = z) (hp : pc + 1 = pc') (K : own_G p e below s n0 kc ks Q T (mkF m pc' Ls (.int z :: st))) : own_G p e below s n0 kc ks Q T (mkF m pc Ls (.int x :: st)) := by
  obtain ⟨_, X, -, -⟩ := S
  subst hp hz
  exact own_st (T' := T) (g' := mkF m _ Ls (.int _ :: st)) (fun t ht => XS.i2c X.here A.1 rfl (hb A.2.1 hd) rfl  ht) K
theorem s_i2s (pc' : Nat) {x : Int32} {z : Int32} (A : own_A p l e R s m args below meth c Z own name bytes maxL ret) (S : own_S p l e R s m args below meth c n0 T h k n) (hd : decode bytes pc = .ok (.i2s, 1)) (hz : x.toInt16.toInt32 = z) (hp : pc + 1 = pc') (K : own_G p e below s n0 kc ks Q T (mkF m pc' Ls (.int z :: st))) : own_G p e below s n0 kc ks Q T (mkF m pc Ls (.int x :: st)) := by
  obtain ⟨_, X, -, -⟩ := S
  subst hp hz
  exact own_st (T' := T) (g' := mkF m _ Ls (.int _ :: st)) (fun t ht => XS.i2s X.here A.1 rfl (hb A.2.1 hd) rfl  ht) K
theorem s_lcmp (pc' : Nat) {x y : Int64} {z : Int32} (A : own_A p l e R s m args below meth c Z own name bytes maxL ret) (S : own_S p l e R s m args below meth c n0 T h k n) (hd : decode bytes pc = .ok (.lcmp, 1)) (hz : lcmpW x y = z) (hp : pc + 1 = pc') (K : own_G p e below s n0 kc ks Q T (mkF m pc' Ls (.int z :: st))) : own_G p e below s n0 kc ks Q T (mkF m pc Ls (.long y :: .long x :: st)) := by
  obtain ⟨_, X, -, -⟩ := S
  subst hp hz
  exact own_st (T' := T) (g' := mkF m _ Ls (.int _ :: st)) (fun t ht => XS.lcmp X.here A.1 rfl (hb A.2.1 hd) rfl  ht) K
theorem s_dup (pc' : Nat) {v : Value} (A : own_A p l e R s m args below meth c Z own name bytes maxL ret) (S : own_S p l e R s m args below meth c n0 T h k n) (hd : decode bytes pc = .ok (.dup, 1)) (hv : v.category = 1) (hp : pc + 1 = pc') (K : own_G p e below s n0 kc ks Q T (mkF m pc' Ls (v :: v :: st))) : own_G p e below s n0 kc ks Q T (mkF m pc Ls (v :: st)) := by
  obtain ⟨_, X, -, -⟩ := S
  subst hp
  exact own_st (T' := T) (g' := mkF m _ Ls (v :: v :: st)) (fun t ht => XS.dup X.here A.1 rfl (hb A.2.1 hd) rfl hv ht) K
theorem s_dup2 (pc' : Nat) {v w : Value} (A : own_A p l e R s m args below meth c Z own name bytes maxL ret) (S : own_S p l e R s m args below meth c n0 T h k n) (hd : decode bytes pc = .ok (.dup2, 1)) (hv : v.category = 1) (hv' : w.category = 1) (hp : pc + 1 = pc') (K : own_G p e below s n0 kc ks Q T (mkF m pc' Ls (v :: w :: v :: w :: st))) : own_G p e below s n0 kc ks Q T (mkF m pc Ls (v :: w :: st)) := by
  obtain ⟨_, X, -, -⟩ := S
  subst hp
  exact own_st (T' := T) (g' := mkF m _ Ls (v :: w :: v :: w :: st)) (fun t ht => Jvm.Free.XT.dup2 X.here A.1 rfl (hb A.2.1 hd) rfl hv hv' ht) K
theorem s_dup2L (pc' : Nat) {v : Int64} (A : own_A p l e R s m args below meth c Z own name bytes maxL ret) (S : own_S p l e R s m args below meth c n0 T h k n) (hd : decode bytes pc = .ok (.dup2, 1)) (hp : pc + 1 = pc') (K : own_G p e below s n0 kc ks Q T (mkF m pc' Ls (.long v :: .long v :: st))) : own_G p e below s n0 kc ks Q T (mkF m pc Ls (.long v :: st)) := by
  obtain ⟨_, X, -, -⟩ := S
  subst hp
  exact own_st (T' := T) (g' := mkF m _ Ls (.long v :: .long v :: st)) (fun t ht => Jvm.Free.XT.dup2L X.here A.1 rfl (hb A.2.1 hd) rfl ht) K
theorem s_dupX1 (pc' : Nat) {v w : Value} (A : own_A p l e R s m args below meth c Z own name bytes maxL ret) (S : own_S p l e R s m args below meth c n0 T h k n) (hd : decode bytes pc = .ok (.dup_x1, 1)) (hv : v.category = 1) (hv' : w.category = 1) (hp : pc + 1 = pc') (K : own_G p e below s n0 kc ks Q T (mkF m pc' Ls (v :: w :: v :: st))) : own_G p e below s n0 kc ks Q T (mkF m pc Ls (v :: w :: st)) := by
  obtain ⟨_, X, -, -⟩ := S
  subst hp
  exact own_st (T' := T) (g' := mkF m _ Ls (v :: w :: v :: st)) (fun t ht => XS.dupX1 X.here A.1 rfl (hb A.2.1 hd) rfl hv hv' ht) K
theorem s_pop (pc' : Nat) {v : Value} (A : own_A p l e R s m args below meth c Z own name bytes maxL ret) (S : own_S p l e R s m args below meth c n0 T h k n) (hd : decode bytes pc = .ok (.pop, 1)) (hv : v.category = 1) (hp : pc + 1 = pc') (K : own_G p e below s n0 kc ks Q T (mkF m pc' Ls st)) : own_G p e below s n0 kc ks Q T (mkF m pc Ls (v :: st)) := by
  obtain ⟨_, X, -, -⟩ := S
  subst hp
  exact own_st (T' := T) (g' := mkF m _ Ls st) (fun t ht => XS.pop X.here A.1 rfl (hb A.2.1 hd) rfl hv ht) K
theorem s_iinc (pc' : Nat) {i : Nat} {cst : Int} {x z : Int32} (A : own_A p l e R s m args below meth c Z own name bytes maxL ret) (S : own_S p l e R s m args below meth c n0 T h k n) (hd : decode bytes pc = .ok (.iinc i cst, 3)) (hl : Ls[i]? = some (.val (.int x))) (hz : x + Int32.ofInt cst = z) (hl' : storeLocals Ls i (.int z) = some Ls') (hp : pc + 3 = pc') (K : own_G p e below s n0 kc ks Q T (mkF m pc' Ls' st)) : own_G p e below s n0 kc ks Q T (mkF m pc Ls st) := by
  obtain ⟨_, X, -, -⟩ := S
  subst hp hz
  exact own_st (T' := T) (g' := mkF m _ Ls' st) (fun t ht => XS.iinc X.here A.1 rfl (hb A.2.1 hd) hl hl' ht) K
theorem s_goto (pc' : Nat) {o : Int} (A : own_A p l e R s m args below meth c Z own name bytes maxL ret) (S : own_S p l e R s m args below meth c n0 T h k n) (hd : decode bytes pc = .ok (.goto o, 3)) (ho : 0 ≤ (pc : Int) + o) (hp : ((pc : Int) + o).toNat = pc') (K : own_G p e below s n0 kc ks Q T (mkF m pc' Ls st)) : own_G p e below s n0 kc ks Q T (mkF m pc Ls st) := by
  obtain ⟨_, X, -, -⟩ := S
  exact own_st (T' := T) (g' := mkF m pc' Ls st) (fun t ht => XS.goto X.here A.1 rfl (pc0 := pc) (pc' := pc') rfl (hb A.2.1 hd) ho hp ht) K
theorem s_icmp (pcY pcN : Nat) {cd : ClassFile.Cond} {o : Int} {x y : Int32} (A : own_A p l e R s m args below meth c Z own name bytes maxL ret) (S : own_S p l e R s m args below meth c n0 T h k n) (hd : decode bytes pc = .ok (.if_icmp cd o, 3)) (ho : 0 ≤ (pc : Int) + o) (hp : ((pc : Int) + o).toNat = pcY) (hn : pc + 3 = pcN) (KY : if_icmp.holds cd x y = true → own_G p e below s n0 kc ks Q T (mkF m pcY Ls st)) (KN : if_icmp.holds cd x y = false → own_G p e below s n0 kc ks Q T (mkF m pcN Ls st)) : own_G p e below s n0 kc ks Q T (mkF m pc Ls (.int y :: .int x :: st)) := by
  obtain ⟨_, X, -, -⟩ := S
  subst hn
  rcases Bool.eq_false_or_eq_true (if_icmp.holds cd x y) with hc | hc
  · exact own_st (T' := T) (g' := mkF m pcY Ls st) (fun t ht => XS.icmpYes X.here A.1 rfl (pc0 := pc) (pc' := pcY) rfl (hb A.2.1 hd) rfl hc ho hp ht) (KY hc)
  · exact own_st (T' := T) (g' := mkF m _ Ls st) (fun t ht => XS.icmpNo X.here A.1 rfl (hb A.2.1 hd) rfl hc ht) (KN hc)
theorem s_ifc (pcY pcN : Nat) {cd : ClassFile.Cond} {o : Int} {x : Int32} (A : own_A p l e R s m args below meth c Z own name bytes maxL ret) (S : own_S p l e R s m args below meth c n0 T h k n) (hd : decode bytes pc = .ok (.ifCond cd o, 3)) (ho : 0 ≤ (pc : Int) + o) (hp : ((pc : Int) + o).toNat = pcY) (hn : pc + 3 = pcN) (KY : ifCond.holds cd x = true → own_G p e below s n0 kc ks Q T (mkF m pcY Ls st)) (KN : ifCond.holds cd x = false → own_G p e below s n0 kc ks Q T (mkF m pcN Ls st)) : own_G p e below s n0 kc ks Q T (mkF m pc Ls (.int x :: st)) := by
  obtain ⟨_, X, -, -⟩ := S
  subst hn
  rcases Bool.eq_false_or_eq_true (ifCond.holds cd x) with hc | hc
  · exact own_st (T' := T) (g' := mkF m pcY Ls st) (fun t ht => XS.ifYes X.here A.1 rfl (pc0 := pc) (pc' := pcY) rfl (hb A.2.1 hd) rfl hc ho hp ht) (KY hc)
  · exact own_st (T' := T) (g' := mkF m _ Ls st) (fun t ht => XS.ifNo X.here A.1 rfl (hb A.2.1 hd) rfl hc ht) (KN hc)
theorem own_eqY {x y : Int32} : if_icmp.holds .eq x y = true → x = y := by simp [if_icmp.holds]
theorem own_eqN {x y : Int32} : if_icmp.holds .eq x y = false → ¬ x = y := by simp [if_icmp.holds]
theorem own_neY {x y : Int32} : if_icmp.holds .ne x y = true → ¬ x = y := by simp [if_icmp.holds]
theorem own_neN {x y : Int32} : if_icmp.holds .ne x y = false → x = y := by simp [if_icmp.holds]
theorem own_ltY {x y : Int32} : if_icmp.holds .lt x y = true → x.toInt < y.toInt := by simp [if_icmp.holds, Int32.lt_iff_toInt_lt]
theorem own_ltN {x y : Int32} : if_icmp.holds .lt x y = false → y.toInt ≤ x.toInt := by simp [if_icmp.holds, Int32.le_iff_toInt_le]
theorem own_geY {x y : Int32} : if_icmp.holds .ge x y = true → y.toInt ≤ x.toInt := by simp [if_icmp.holds, Int32.le_iff_toInt_le]
theorem own_geN {x y : Int32} : if_icmp.holds .ge x y = false → x.toInt < y.toInt := by simp [if_icmp.holds, Int32.lt_iff_toInt_lt]
theorem own_gtY {x y : Int32} : if_icmp.holds .gt x y = true → y.toInt < x.toInt := by simp [if_icmp.holds, Int32.lt_iff_toInt_lt]
theorem own_gtN {x y : Int32} : if_icmp.holds .gt x y = false → x.toInt ≤ y.toInt := by simp [if_icmp.holds, Int32.le_iff_toInt_le]
theorem own_leY {x y : Int32} : if_icmp.holds .le x y = true → x.toInt ≤ y.toInt := by simp [if_icmp.holds, Int32.le_iff_toInt_le]
theorem own_leN {x y : Int32} : if_icmp.holds .le x y = false → y.toInt < x.toInt := by simp [if_icmp.holds, Int32.lt_iff_toInt_lt]
theorem own_lcmp_lt (x y : Int64) : lcmpW x y < 0 ↔ x.toInt < y.toInt := by rw [lw_lt, Int64.lt_iff_toInt_lt]
theorem own_lcmp_gt (x y : Int64) : 0 < lcmpW x y ↔ y.toInt < x.toInt := by rw [lw_gt, Int64.lt_iff_toInt_lt]
theorem own_lcmp_eq (x y : Int64) : lcmpW x y = 0 ↔ x = y := by rw [lw_eq]
theorem s_ieq (pcY pcN : Nat) {o : Int} {x y : Int32} {xi yi : Int} (A : own_A p l e R s m args below meth c Z own name bytes maxL ret) (S : own_S p l e R s m args below meth c n0 T h k n) (hxi : x.toInt = xi) (hyi : y.toInt = yi) (hd : decode bytes pc = .ok (.if_icmp .eq o, 3)) (ho : 0 ≤ (pc : Int) + o) (hp : ((pc : Int) + o).toNat = pcY) (hn : pc + 3 = pcN) (KY : x = y → xi = yi → own_G p e below s n0 kc ks Q T (mkF m pcY Ls st)) (KN : ¬ x = y → xi ≠ yi → own_G p e below s n0 kc ks Q T (mkF m pcN Ls st)) : own_G p e below s n0 kc ks Q T (mkF m pc Ls (.int y :: .int x :: st)) :=
  s_icmp pcY pcN A S hd ho hp hn (fun q => by have q := own_eqY q; exact KY q (by subst hxi hyi; rw [q])) (fun q => by have q := own_eqN q; exact KN q (by subst hxi hyi; exact own_toInt q))
theorem s_ifeq (pcY pcN : Nat) {o : Int} {x : Int32} {xi : Int} (A : own_A p l e R s m args below meth c Z own name bytes maxL ret) (S : own_S p l e R s m args below meth c n0 T h k n) (hxi : x.toInt = xi) (hd : decode bytes pc = .ok (.ifCond .eq o, 3)) (ho : 0 ≤ (pc : Int) + o) (hp : ((pc : Int) + o).toNat = pcY) (hn : pc + 3 = pcN) (KY : x = 0 → xi = 0 → own_G p e below s n0 kc ks Q T (mkF m pcY Ls st)) (KN : ¬ x = 0 → xi ≠ 0 → own_G p e below s n0 kc ks Q T (mkF m pcN Ls st)) : own_G p e below s n0 kc ks Q T (mkF m pc Ls (.int x :: st)) :=
  s_ifc pcY pcN A S hd ho hp hn (fun q => by have q := own_eqY (y := 0) ((if0 _ _).symm.trans q); exact KY q (by subst hxi; rw [q]; rfl)) (fun q => by have q := own_eqN (y := 0) ((if0 _ _).symm.trans q); exact KN q (by subst hxi; exact own_toInt q))
theorem s_lifeq (pcY pcN pcM : Nat) {o : Int} {x y : Int64} {xi yi : Int} (A : own_A p l e R s m args below meth c Z own name bytes maxL ret) (S : own_S p l e R s m args below meth c n0 T h k n) (hxi : x.toInt = xi) (hyi : y.toInt = yi) (hd0 : decode bytes pc = .ok (.lcmp, 1)) (hm : pc + 1 = pcM) (hd : decode bytes pcM = .ok (.ifCond .eq o, 3)) (ho : 0 ≤ (pcM : Int) + o) (hp : ((pcM : Int) + o).toNat = pcY) (hn : pcM + 3 = pcN) (KY : x = y → xi = yi → own_G p e below s n0 kc ks Q T (mkF m pcY Ls st)) (KN : ¬ x = y → xi ≠ yi → own_G p e below s n0 kc ks Q T (mkF m pcN Ls st)) : own_G p e below s n0 kc ks Q T (mkF m pc Ls (.long y :: .long x :: st)) :=
  s_lcmp pcM A S hd0 rfl hm (s_ifeq pcY pcN A S rfl hd ho hp hn (fun q _ => by have q : x = y := (own_lcmp_eq x y).mp q; exact KY q (by subst hxi hyi; rw [q])) (fun q _ => by have q : ¬ x = y := fun w => q ((own_lcmp_eq x y).mpr w); exact KN q (by subst hxi hyi; exact own_toIntL q)))
theorem s_ine (pcY pcN : Nat) {o : Int} {x y : Int32} {xi yi : Int} (A : own_A p l e R s m args below meth c Z own name bytes maxL ret) (S : own_S p l e R s m args below meth c n0 T h k n) (hxi : x.toInt = xi) (hyi : y.toInt = yi) (hd : decode bytes pc = .ok (.if_icmp .ne o, 3)) (ho : 0 ≤ (pc : Int) + o) (hp : ((pc : Int) + o).toNat = pcY) (hn : pc + 3 = pcN) (KY : ¬ x = y → xi ≠ yi → own_G p e below s n0 kc ks Q T (mkF m pcY Ls st)) (KN : x = y → xi = yi → own_G p e below s n0 kc ks Q T (mkF m pcN Ls st)) : own_G p e below s n0 kc ks Q T (mkF m pc Ls (.int y :: .int x :: st)) :=
  s_icmp pcY pcN A S hd ho hp hn (fun q => by have q := own_neY q; exact KY q (by subst hxi hyi; exact own_toInt q)) (fun q => by have q := own_neN q; exact KN q (by subst hxi hyi; rw [q]))
theorem s_ifne (pcY pcN : Nat) {o : Int} {x : Int32} {xi : Int} (A : own_A p l e R s m args below meth c Z own name bytes maxL ret) (S : own_S p l e R s m args below meth c n0 T h k n) (hxi : x.toInt = xi) (hd : decode bytes pc = .ok (.ifCond .ne o, 3)) (ho : 0 ≤ (pc : Int) + o) (hp : ((pc : Int) + o).toNat = pcY) (hn : pc + 3 = pcN) (KY : ¬ x = 0 → xi ≠ 0 → own_G p e below s n0 kc ks Q T (mkF m pcY Ls st)) (KN : x = 0 → xi = 0 → own_G p e below s n0 kc ks Q T (mkF m pcN Ls st)) : own_G p e below s n0 kc ks Q T (mkF m pc Ls (.int x :: st)) :=
  s_ifc pcY pcN A S hd ho hp hn (fun q => by have q := own_neY (y := 0) ((if0 _ _).symm.trans q); exact KY q (by subst hxi; exact own_toInt q)) (fun q => by have q := own_neN (y := 0) ((if0 _ _).symm.trans q); exact KN q (by subst hxi; rw [q]; rfl))
theorem s_lifne (pcY pcN pcM : Nat) {o : Int} {x y : Int64} {xi yi : Int} (A : own_A p l e R s m args below meth c Z own name bytes maxL ret) (S : own_S p l e R s m args below meth c n0 T h k n) (hxi : x.toInt = xi) (hyi : y.toInt = yi) (hd0 : decode bytes pc = .ok (.lcmp, 1)) (hm : pc + 1 = pcM) (hd : decode bytes pcM = .ok (.ifCond .ne o, 3)) (ho : 0 ≤ (pcM : Int) + o) (hp : ((pcM : Int) + o).toNat = pcY) (hn : pcM + 3 = pcN) (KY : ¬ x = y → xi ≠ yi → own_G p e below s n0 kc ks Q T (mkF m pcY Ls st)) (KN : x = y → xi = yi → own_G p e below s n0 kc ks Q T (mkF m pcN Ls st)) : own_G p e below s n0 kc ks Q T (mkF m pc Ls (.long y :: .long x :: st)) :=
  s_lcmp pcM A S hd0 rfl hm (s_ifne pcY pcN A S rfl hd ho hp hn (fun q _ => by have q : ¬ x = y := fun w => q ((own_lcmp_eq x y).mpr w); exact KY q (by subst hxi hyi; exact own_toIntL q)) (fun q _ => by have q : x = y := (own_lcmp_eq x y).mp q; exact KN q (by subst hxi hyi; rw [q])))
theorem s_ilt (pcY pcN : Nat) {o : Int} {x y : Int32} {xi yi : Int} (A : own_A p l e R s m args below meth c Z own name bytes maxL ret) (S : own_S p l e R s m args below meth c n0 T h k n) (hxi : x.toInt = xi) (hyi : y.toInt = yi) (hd : decode bytes pc = .ok (.if_icmp .lt o, 3)) (ho : 0 ≤ (pc : Int) + o) (hp : ((pc : Int) + o).toNat = pcY) (hn : pc + 3 = pcN) (KY : xi < yi → own_G p e below s n0 kc ks Q T (mkF m pcY Ls st)) (KN : yi ≤ xi → own_G p e below s n0 kc ks Q T (mkF m pcN Ls st)) : own_G p e below s n0 kc ks Q T (mkF m pc Ls (.int y :: .int x :: st)) :=
  s_icmp pcY pcN A S hd ho hp hn (fun q => by have q := own_ltY q; exact KY (by subst hxi hyi; exact q)) (fun q => by have q := own_ltN q; exact KN (by subst hxi hyi; exact q))
theorem s_iflt (pcY pcN : Nat) {o : Int} {x : Int32} {xi : Int} (A : own_A p l e R s m args below meth c Z own name bytes maxL ret) (S : own_S p l e R s m args below meth c n0 T h k n) (hxi : x.toInt = xi) (hd : decode bytes pc = .ok (.ifCond .lt o, 3)) (ho : 0 ≤ (pc : Int) + o) (hp : ((pc : Int) + o).toNat = pcY) (hn : pc + 3 = pcN) (KY : xi < 0 → own_G p e below s n0 kc ks Q T (mkF m pcY Ls st)) (KN : 0 ≤ xi → own_G p e below s n0 kc ks Q T (mkF m pcN Ls st)) : own_G p e below s n0 kc ks Q T (mkF m pc Ls (.int x :: st)) :=
  s_ifc pcY pcN A S hd ho hp hn (fun q => by have q := own_ltY (y := 0) ((if0 _ _).symm.trans q); exact KY (by subst hxi; exact q)) (fun q => by have q := own_ltN (y := 0) ((if0 _ _).symm.trans q); exact KN (by subst hxi; exact q))
theorem s_liflt (pcY pcN pcM : Nat) {o : Int} {x y : Int64} {xi yi : Int} (A : own_A p l e R s m args below meth c Z own name bytes maxL ret) (S : own_S p l e R s m args below meth c n0 T h k n) (hxi : x.toInt = xi) (hyi : y.toInt = yi) (hd0 : decode bytes pc = .ok (.lcmp, 1)) (hm : pc + 1 = pcM) (hd : decode bytes pcM = .ok (.ifCond .lt o, 3)) (ho : 0 ≤ (pcM : Int) + o) (hp : ((pcM : Int) + o).toNat = pcY) (hn : pcM + 3 = pcN) (KY : xi < yi → own_G p e below s n0 kc ks Q T (mkF m pcY Ls st)) (KN : yi ≤ xi → own_G p e below s n0 kc ks Q T (mkF m pcN Ls st)) : own_G p e below s n0 kc ks Q T (mkF m pc Ls (.long y :: .long x :: st)) :=
  s_lcmp pcM A S hd0 rfl hm (s_iflt pcY pcN A S rfl hd ho hp hn (fun q => by have q : x.toInt < y.toInt := (own_lcmp_lt x y).mp (Int32.lt_iff_toInt_lt.mpr q); exact KY (by subst hxi hyi; exact q)) (fun q => by have q : y.toInt ≤ x.toInt := Int.not_lt.mp fun w => Int.not_lt.mpr q (Int32.lt_iff_toInt_lt.mp ((own_lcmp_lt x y).mpr w)); exact KN (by subst hxi hyi; exact q)))
theorem s_ige (pcY pcN : Nat) {o : Int} {x y : Int32} {xi yi : Int} (A : own_A p l e R s m args below meth c Z own name bytes maxL ret) (S : own_S p l e R s m args below meth c n0 T h k n) (hxi : x.toInt = xi) (hyi : y.toInt = yi) (hd : decode bytes pc = .ok (.if_icmp .ge o, 3)) (ho : 0 ≤ (pc : Int) + o) (hp : ((pc : Int) + o).toNat = pcY) (hn : pc + 3 = pcN) (KY : yi ≤ xi → own_G p e below s n0 kc ks Q T (mkF m pcY Ls st)) (KN : xi < yi → own_G p e below s n0 kc ks Q T (mkF m pcN Ls st)) : own_G p e below s n0 kc ks Q T (mkF m pc Ls (.int y :: .int x :: st)) :=
  s_icmp pcY pcN A S hd ho hp hn (fun q => by have q := own_geY q; exact KY (by subst hxi hyi; exact q)) (fun q => by have q := own_geN q; exact KN (by subst hxi hyi; exact q))
theorem s_ifge (pcY pcN : Nat) {o : Int} {x : Int32} {xi : Int} (A : own_A p l e R s m args below meth c Z own name bytes maxL ret) (S : own_S p l e R s m args below meth c n0 T h k n) (hxi : x.toInt = xi) (hd : decode bytes pc = .ok (.ifCond .ge o, 3)) (ho : 0 ≤ (pc : Int) + o) (hp : ((pc : Int) + o).toNat = pcY) (hn : pc + 3 = pcN) (KY : 0 ≤ xi → own_G p e below s n0 kc ks Q T (mkF m pcY Ls st)) (KN : xi < 0 → own_G p e below s n0 kc ks Q T (mkF m pcN Ls st)) : own_G p e below s n0 kc ks Q T (mkF m pc Ls (.int x :: st)) :=
  s_ifc pcY pcN A S hd ho hp hn (fun q => by have q := own_geY (y := 0) ((if0 _ _).symm.trans q); exact KY (by subst hxi; exact q)) (fun q => by have q := own_geN (y := 0) ((if0 _ _).symm.trans q); exact KN (by subst hxi; exact q))
theorem s_lifge (pcY pcN pcM : Nat) {o : Int} {x y : Int64} {xi yi : Int} (A : own_A p l e R s m args below meth c Z own name bytes maxL ret) (S : own_S p l e R s m args below meth c n0 T h k n) (hxi : x.toInt = xi) (hyi : y.toInt = yi) (hd0 : decode bytes pc = .ok (.lcmp, 1)) (hm : pc + 1 = pcM) (hd : decode bytes pcM = .ok (.ifCond .ge o, 3)) (ho : 0 ≤ (pcM : Int) + o) (hp : ((pcM : Int) + o).toNat = pcY) (hn : pcM + 3 = pcN) (KY : yi ≤ xi → own_G p e below s n0 kc ks Q T (mkF m pcY Ls st)) (KN : xi < yi → own_G p e below s n0 kc ks Q T (mkF m pcN Ls st)) : own_G p e below s n0 kc ks Q T (mkF m pc Ls (.long y :: .long x :: st)) :=
  s_lcmp pcM A S hd0 rfl hm (s_ifge pcY pcN A S rfl hd ho hp hn (fun q => by have q : y.toInt ≤ x.toInt := Int.not_lt.mp fun w => Int.not_lt.mpr q (Int32.lt_iff_toInt_lt.mp ((own_lcmp_lt x y).mpr w)); exact KY (by subst hxi hyi; exact q)) (fun q => by have q : x.toInt < y.toInt := (own_lcmp_lt x y).mp (Int32.lt_iff_toInt_lt.mpr q); exact KN (by subst hxi hyi; exact q)))
theorem s_igt (pcY pcN : Nat) {o : Int} {x y : Int32} {xi yi : Int} (A : own_A p l e R s m args below meth c Z own name bytes maxL ret) (S : own_S p l e R s m args below meth c n0 T h k n) (hxi : x.toInt = xi) (hyi : y.toInt = yi) (hd : decode bytes pc = .ok (.if_icmp .gt o, 3)) (ho : 0 ≤ (pc : Int) + o) (hp : ((pc : Int) + o).toNat = pcY) (hn : pc + 3 = pcN) (KY : yi < xi → own_G p e below s n0 kc ks Q T (mkF m pcY Ls st)) (KN : xi ≤ yi → own_G p e below s n0 kc ks Q T (mkF m pcN Ls st)) : own_G p e below s n0 kc ks Q T (mkF m pc Ls (.int y :: .int x :: st)) :=
  s_icmp pcY pcN A S hd ho hp hn (fun q => by have q := own_gtY q; exact KY (by subst hxi hyi; exact q)) (fun q => by have q := own_gtN q; exact KN (by subst hxi hyi; exact q))
theorem s_ifgt (pcY pcN : Nat) {o : Int} {x : Int32} {xi : Int} (A : own_A p l e R s m args below meth c Z own name bytes maxL ret) (S : own_S p l e R s m args below meth c n0 T h k n) (hxi : x.toInt = xi) (hd : decode bytes pc = .ok (.ifCond .gt o, 3)) (ho : 0 ≤ (pc : Int) + o) (hp : ((pc : Int) + o).toNat = pcY) (hn : pc + 3 = pcN) (KY : 0 < xi → own_G p e below s n0 kc ks Q T (mkF m pcY Ls st)) (KN : xi ≤ 0 → own_G p e below s n0 kc ks Q T (mkF m pcN Ls st)) : own_G p e below s n0 kc ks Q T (mkF m pc Ls (.int x :: st)) :=
  s_ifc pcY pcN A S hd ho hp hn (fun q => by have q := own_gtY (y := 0) ((if0 _ _).symm.trans q); exact KY (by subst hxi; exact q)) (fun q => by have q := own_gtN (y := 0) ((if0 _ _).symm.trans q); exact KN (by subst hxi; exact q))
theorem s_lifgt (pcY pcN pcM : Nat) {o : Int} {x y : Int64} {xi yi : Int} (A : own_A p l e R s m args below meth c Z own name bytes maxL ret) (S : own_S p l e R s m args below meth c n0 T h k n) (hxi : x.toInt = xi) (hyi : y.toInt = yi) (hd0 : decode bytes pc = .ok (.lcmp, 1)) (hm : pc + 1 = pcM) (hd : decode bytes pcM = .ok (.ifCond .gt o, 3)) (ho : 0 ≤ (pcM : Int) + o) (hp : ((pcM : Int) + o).toNat = pcY) (hn : pcM + 3 = pcN) (KY : yi < xi → own_G p e below s n0 kc ks Q T (mkF m pcY Ls st)) (KN : xi ≤ yi → own_G p e below s n0 kc ks Q T (mkF m pcN Ls st)) : own_G p e below s n0 kc ks Q T (mkF m pc Ls (.long y :: .long x :: st)) :=
  s_lcmp pcM A S hd0 rfl hm (s_ifgt pcY pcN A S rfl hd ho hp hn (fun q => by have q : y.toInt < x.toInt := (own_lcmp_gt x y).mp (Int32.lt_iff_toInt_lt.mpr q); exact KY (by subst hxi hyi; exact q)) (fun q => by have q : x.toInt ≤ y.toInt := Int.not_lt.mp fun w => Int.not_lt.mpr q (Int32.lt_iff_toInt_lt.mp ((own_lcmp_gt x y).mpr w)); exact KN (by subst hxi hyi; exact q)))
theorem s_ile (pcY pcN : Nat) {o : Int} {x y : Int32} {xi yi : Int} (A : own_A p l e R s m args below meth c Z own name bytes maxL ret) (S : own_S p l e R s m args below meth c n0 T h k n) (hxi : x.toInt = xi) (hyi : y.toInt = yi) (hd : decode bytes pc = .ok (.if_icmp .le o, 3)) (ho : 0 ≤ (pc : Int) + o) (hp : ((pc : Int) + o).toNat = pcY) (hn : pc + 3 = pcN) (KY : xi ≤ yi → own_G p e below s n0 kc ks Q T (mkF m pcY Ls st)) (KN : yi < xi → own_G p e below s n0 kc ks Q T (mkF m pcN Ls st)) : own_G p e below s n0 kc ks Q T (mkF m pc Ls (.int y :: .int x :: st)) :=
  s_icmp pcY pcN A S hd ho hp hn (fun q => by have q := own_leY q; exact KY (by subst hxi hyi; exact q)) (fun q => by have q := own_leN q; exact KN (by subst hxi hyi; exact q))
theorem s_ifle (pcY pcN : Nat) {o : Int} {x : Int32} {xi : Int} (A : own_A p l e R s m args below meth c Z own name bytes maxL ret) (S : own_S p l e R s m args below meth c n0 T h k n) (hxi : x.toInt = xi) (hd : decode bytes pc = .ok (.ifCond .le o, 3)) (ho : 0 ≤ (pc : Int) + o) (hp : ((pc : Int) + o).toNat = pcY) (hn : pc + 3 = pcN) (KY : xi ≤ 0 → own_G p e below s n0 kc ks Q T (mkF m pcY Ls st)) (KN : 0 < xi → own_G p e below s n0 kc ks Q T (mkF m pcN Ls st)) : own_G p e below s n0 kc ks Q T (mkF m pc Ls (.int x :: st)) :=
  s_ifc pcY pcN A S hd ho hp hn (fun q => by have q := own_leY (y := 0) ((if0 _ _).symm.trans q); exact KY (by subst hxi; exact q)) (fun q => by have q := own_leN (y := 0) ((if0 _ _).symm.trans q); exact KN (by subst hxi; exact q))
theorem s_lifle (pcY pcN pcM : Nat) {o : Int} {x y : Int64} {xi yi : Int} (A : own_A p l e R s m args below meth c Z own name bytes maxL ret) (S : own_S p l e R s m args below meth c n0 T h k n) (hxi : x.toInt = xi) (hyi : y.toInt = yi) (hd0 : decode bytes pc = .ok (.lcmp, 1)) (hm : pc + 1 = pcM) (hd : decode bytes pcM = .ok (.ifCond .le o, 3)) (ho : 0 ≤ (pcM : Int) + o) (hp : ((pcM : Int) + o).toNat = pcY) (hn : pcM + 3 = pcN) (KY : xi ≤ yi → own_G p e below s n0 kc ks Q T (mkF m pcY Ls st)) (KN : yi < xi → own_G p e below s n0 kc ks Q T (mkF m pcN Ls st)) : own_G p e below s n0 kc ks Q T (mkF m pc Ls (.long y :: .long x :: st)) :=
  s_lcmp pcM A S hd0 rfl hm (s_ifle pcY pcN A S rfl hd ho hp hn (fun q => by have q : x.toInt ≤ y.toInt := Int.not_lt.mp fun w => Int.not_lt.mpr q (Int32.lt_iff_toInt_lt.mp ((own_lcmp_gt x y).mpr w)); exact KY (by subst hxi hyi; exact q)) (fun q => by have q : y.toInt < x.toInt := (own_lcmp_gt x y).mp (Int32.lt_iff_toInt_lt.mpr q); exact KN (by subst hxi hyi; exact q)))
theorem s_aeq (pcY pcN : Nat) {o : Int} {v w : Value} (A : own_A p l e R s m args below meth c Z own name bytes maxL ret) (S : own_S p l e R s m args below meth c n0 T h k n) (hv : v.isRef = true) (hw' : w.isRef = true) (hd : decode bytes pc = .ok (.if_acmp .eq o, 3)) (ho : 0 ≤ (pc : Int) + o) (hp : ((pc : Int) + o).toNat = pcY) (hn : pc + 3 = pcN) (KY : v = w → own_G p e below s n0 kc ks Q T (mkF m pcY Ls st)) (KN : ¬ v = w → own_G p e below s n0 kc ks Q T (mkF m pcN Ls st)) : own_G p e below s n0 kc ks Q T (mkF m pc Ls (w :: v :: st)) := by
  obtain ⟨_, X, -, -⟩ := S
  subst hn
  by_cases q : v = w
  · exact own_st (T' := T) (g' := mkF m pcY Ls st) (fun t ht => RoadKit.acmp X A.1 rfl hv hw' (pc0 := pc) (same := true) rfl (hb A.2.1 hd) rfl (decide_eq_true q) ho hp.symm ht) (KY q)
  · exact own_st (T' := T) (g' := mkF m _ Ls st) (fun t ht => RoadKit.acmp X A.1 rfl hv hw' (pc0 := pc) (same := false) rfl (hb A.2.1 hd) rfl (decide_eq_false q) ho rfl ht) (KN q)
theorem s_ane (pcY pcN : Nat) {o : Int} {v w : Value} (A : own_A p l e R s m args below meth c Z own name bytes maxL ret) (S : own_S p l e R s m args below meth c n0 T h k n) (hv : v.isRef = true) (hw' : w.isRef = true) (hd : decode bytes pc = .ok (.if_acmp .ne o, 3)) (ho : 0 ≤ (pc : Int) + o) (hp : ((pc : Int) + o).toNat = pcY) (hn : pc + 3 = pcN) (KY : ¬ v = w → own_G p e below s n0 kc ks Q T (mkF m pcY Ls st)) (KN : v = w → own_G p e below s n0 kc ks Q T (mkF m pcN Ls st)) : own_G p e below s n0 kc ks Q T (mkF m pc Ls (w :: v :: st)) := by
  obtain ⟨_, X, -, -⟩ := S
  subst hn
  by_cases q : v = w
  · exact own_st (T' := T) (g' := mkF m _ Ls st) (fun t ht => RoadKit.acmp X A.1 rfl hv hw' (pc0 := pc) (same := true) rfl (hb A.2.1 hd) rfl (decide_eq_true q) ho rfl ht) (KN q)
  · exact own_st (T' := T) (g' := mkF m pcY Ls st) (fun t ht => RoadKit.acmp X A.1 rfl hv hw' (pc0 := pc) (same := false) rfl (hb A.2.1 hd) rfl (decide_eq_false q) ho hp.symm ht) (KY q)
theorem own_leave {v : Option Value} (A : own_A p l e R s m args below meth c Z own name bytes maxL ret) (S : own_S p l e R s m args below meth c n0 T h k n) (hv : meth.sig.returnType = none → v = none) (hk : k ≤ kc) (hn : n ≤ ks) (hq : Q v h)
    (go : ∀ (locs : List Loc) (X : Stand p l e R s m args below meth c T locs k n) (fs : List Frame), (∀ (f : JFrame) (acts : List Action), f.method = m → f.locked = none → f.entered = [] → (doReturn e (T.setTop f) acts v).1 = T.setFrames fs) → Steps p.tables e below (T.setTop g) (T.setFrames fs)) : own_G p e below s n0 kc ks Q T g := by
  obtain ⟨locs, X, hh, N⟩ := S
  obtain ⟨-, -, -, -, -, -, hlk, -⟩ := A
  obtain ⟨fs, hr, hrun, hended, hW, hsame⟩ := X.leave (v := v) hv hlk
  exact ⟨_, _, go locs X fs hr, hrun, hended, v, locs, rfl, ⟨by show Q v T.heap; rw [hh]; exact hq, N⟩, ⟨v, rfl⟩, hW, hsame.mono hk hn⟩
theorem s_ret (A : own_A p l e R s m args below meth c Z own name bytes maxL none) (S : own_S p l e R s m args below meth c n0 T h k n) (hd : decode bytes pc = .ok (.return_, 1)) (hk : k ≤ kc) (hn : n ≤ ks) (hq : Q none h) : own_G p e below s n0 kc ks Q T (mkF m pc Ls []) :=
  own_leave A S (fun _ => rfl) hk hn hq fun locs X fs hr => X.returnOut A.1 A.2.2.2.2.2.1 (hb A.2.1 hd) hr
theorem s_retV {w : Value} {t : FieldType} {i : Instr} (A : own_A p l e R s m args below meth c Z own name bytes maxL (some t)) (S : own_S p l e R s m args below meth c n0 T h k n) (hd : decode bytes pc = .ok (i, 1)) (hn' : narrow t w = w) (hi : (i = .ireturn ∧ (t = .int ∨ t = .boolean ∨ t = .byte ∨ t = .char ∨ t = .short) ∧ ∃ z, w = .int z) ∨ (i = .lreturn ∧ t = .long ∧ ∃ z, w = .long z) ∨ (i = .dreturn ∧ t = .double ∧ ∃ z, w = .double z) ∨ (i = .freturn ∧ t = .float ∧ ∃ z, w = .float z) ∨ (i = .areturn ∧ t.isReference = true ∧ w.isRef = true)) (hk : k ≤ kc) (hn : n ≤ ks) (hq : Q (some w) h) : own_G p e below s n0 kc ks Q T (mkF m pc Ls (w :: st)) :=
  own_leave A S (fun q => by rw [A.2.2.2.2.2.1] at q; cases q) hk hn hq fun locs X fs hr => retOut X A.1 A.2.2.2.2.2.1 hn' hi (hb A.2.1 hd) hr
theorem s_retI {z : Int32} (A : own_A p l e R s m args below meth c Z own name bytes maxL (some .int)) (S : own_S p l e R s m args below meth c n0 T h k n) (hd : decode bytes pc = .ok (.ireturn, 1)) (hk : k ≤ kc) (hn : n ≤ ks) (hq : Q (some (.int z)) h) : own_G p e below s n0 kc ks Q T (mkF m pc Ls (.int z :: st)) :=
  s_retV A S hd rfl (Or.inl ⟨rfl, Or.inl rfl, z, rfl⟩) hk hn hq
theorem s_retZ {z : Int32} (A : own_A p l e R s m args below meth c Z own name bytes maxL (some .boolean)) (S : own_S p l e R s m args below meth c n0 T h k n) (hd : decode bytes pc = .ok (.ireturn, 1)) (hz : narrow .boolean (.int z) = .int z) (hk : k ≤ kc) (hn : n ≤ ks) (hq : Q (some (.int z)) h) : own_G p e below s n0 kc ks Q T (mkF m pc Ls (.int z :: st)) :=
  s_retV A S hd hz (Or.inl ⟨rfl, Or.inr (Or.inl rfl), z, rfl⟩) hk hn hq
theorem s_retJ {z : Int64} (A : own_A p l e R s m args below meth c Z own name bytes maxL (some .long)) (S : own_S p l e R s m args below meth c n0 T h k n) (hd : decode bytes pc = .ok (.lreturn, 1)) (hk : k ≤ kc) (hn : n ≤ ks) (hq : Q (some (.long z)) h) : own_G p e below s n0 kc ks Q T (mkF m pc Ls (.long z :: st)) :=
  s_retV A S hd rfl (Or.inr (Or.inl ⟨rfl, rfl, z, rfl⟩)) hk hn hq
theorem s_retA {w : Value} {t : FieldType} (A : own_A p l e R s m args below meth c Z own name bytes maxL (some t)) (S : own_S p l e R s m args below meth c n0 T h k n) (hd : decode bytes pc = .ok (.areturn, 1)) (ht : t.isReference = true) (hn' : narrow t w = w) (hw' : w.isRef = true) (hk : k ≤ kc) (hn : n ≤ ks) (hq : Q (some w) h) : own_G p e below s n0 kc ks Q T (mkF m pc Ls (w :: st)) :=
  s_retV A S hd hn' (Or.inr (Or.inr (Or.inr (Or.inr ⟨rfl, ht, hw'⟩)))) hk hn hq
theorem s_callS (pc' : Nat) {y : MethodName} {index : Nat} {bytes' : ByteArray} {maxL' : Nat} {ret' : Option FieldType} {rm : Room} {argsL rest stk : List Value} {Q' : Option Value → Heap → Prop}
    (A : own_A p l e R s m args below meth c Z own name bytes maxL ret) (S : own_S p l e R s m args below meth c n0 T h k n)
    (w1 : (Jvm.Cond.methodLink own index y).before a0 Z = true) (w2 : (Jvm.Cond.static y).before a0 Z = true) (w3 : (Jvm.Cond.initialized y.cls).before a0 Z = true) (w4 : (Jvm.Cond.code y bytes' maxL' ret').before a0 Z = true)
    (C : own_C l Z y bytes' maxL' ret' rm n0 [] argsL.toArray h Q') (hlen : ∀ sig, parseMethodDescriptor y.desc = some sig → argsL.length = sig.parameters.length)
    (hd : decode bytes pc = .ok (.invokestatic index, 3)) (hst : stk = argsL.reverse ++ rest) (hp : pc + 3 = pc') (hsize : Ls.size = maxL) (hy : y.cls ≠ "java/lang/invoke/MethodHandle" ∧ y.cls ≠ "java/lang/invoke/VarHandle")
    (hf : rm.frames + 1 ≤ R.frames) (hl : (rest.map fun v => v.category).sum + (maxL' + 11) + rm.locals ≤ R.locals) (hc : k + rm.cells ≤ R.cells) (hs : n + rm.slots ≤ R.slots)
    (K : ∀ (T' : State) (h' : Heap) (v : Option Value), Q' v h' → own_S p l e R s m args below meth c n0 T' h' (k + rm.cells) (n + rm.slots) → own_G p e below s n0 kc ks Q T' (mkF m pc' Ls (v.toList ++ rest))) : own_G p e below s n0 kc ks Q T (mkF m pc Ls stk) := by
  obtain ⟨locs, X, eT, N⟩ := S
  obtain ⟨hx, hby, hml, hown, -, -, -, hZ⟩ := A
  subst hp
  obtain ⟨v, _, ⟨T1, L1, k1, n1⟩, -, X1, ⟨Lc, hQ1, l1, y1, z1⟩, st1⟩ := Jvm.LawKit.callS X hx (y := y) hown (mvT hZ w1) (mvT hZ w2) (mvT hZ w3) (mvT hZ w4) hy (backOf (W := (rest.map fun v => v.category).sum) (Q := fun v h L => Q' v h ∧ Fr n0 L) C hZ w4 w3 hf hl) (g := mkF m pc Ls stk) rfl (by rw [hml]; exact hsize) (argsL := argsL) (rest := rest) hlen hst (by show 2 * 0 + _ ≤ _; omega) (hb hby hd) (fun _ _ => ⟨rfl, eT, hc, hs⟩)
  dsimp only [Pt.U, Pt.locs, Pt.cells, Pt.slots] at X1 l1 y1 z1 st1 hQ1
  subst l1 y1 z1
  exact own_st (T' := T1) (g' := mkF m _ Ls (v.toList ++ rest)) st1 (K T1 T1.heap v hQ1.1 ⟨_, X1, rfl, Fr.app N hQ1.2⟩)
theorem s_callV (pc' : Nat) {y : MethodName} {index : Nat} {bytes' : ByteArray} {maxL' : Nat} {ret' : Option FieldType} {rm : Room} {argsL rest stk : List Value} {w : Value}
    (A : own_A p l e R s m args below meth c Z own name bytes maxL ret) (S : own_S p l e R s m args below meth c n0 T h k n)
    (w1 : (Jvm.Cond.methodLink own index y).before a0 Z = true) (w2 : (Jvm.Cond.static y).before a0 Z = true) (w3 : (Jvm.Cond.initialized y.cls).before a0 Z = true) (w4 : (Jvm.Cond.code y bytes' maxL' ret').before a0 Z = true)
    (C : own_C l Z y bytes' maxL' ret' rm n0 [] argsL.toArray h (fun v h' => v = some w ∧ h' = h)) (hlen : ∀ sig, parseMethodDescriptor y.desc = some sig → argsL.length = sig.parameters.length)
    (hd : decode bytes pc = .ok (.invokestatic index, 3)) (hst : stk = argsL.reverse ++ rest) (hp : pc + 3 = pc') (hsize : Ls.size = maxL) (hy : y.cls ≠ "java/lang/invoke/MethodHandle" ∧ y.cls ≠ "java/lang/invoke/VarHandle")
    (hf : rm.frames + 1 ≤ R.frames) (hl : (rest.map fun v => v.category).sum + (maxL' + 11) + rm.locals ≤ R.locals) (hc : k + rm.cells ≤ R.cells) (hs : n + rm.slots ≤ R.slots)
    (K : ∀ (T' : State), own_S p l e R s m args below meth c n0 T' h (k + rm.cells) (n + rm.slots) → own_G p e below s n0 kc ks Q T' (mkF m pc' Ls (w :: rest))) : own_G p e below s n0 kc ks Q T (mkF m pc Ls stk) :=
  s_callS pc' A S w1 w2 w3 w4 C hlen hd hst hp hsize hy hf hl hc hs (fun T' h' v q S' => by obtain ⟨rfl, rfl⟩ := q; exact K T' S')
theorem s_callN (pc' : Nat) {y : MethodName} {index : Nat} {bytes' : ByteArray} {maxL' : Nat} {ret' : Option FieldType} {rm : Room} {argsL rest stk : List Value}
    (A : own_A p l e R s m args below meth c Z own name bytes maxL ret) (S : own_S p l e R s m args below meth c n0 T h k n)
    (w1 : (Jvm.Cond.methodLink own index y).before a0 Z = true) (w2 : (Jvm.Cond.static y).before a0 Z = true) (w3 : (Jvm.Cond.initialized y.cls).before a0 Z = true) (w4 : (Jvm.Cond.code y bytes' maxL' ret').before a0 Z = true)
    (C : own_C l Z y bytes' maxL' ret' rm n0 [] argsL.toArray h (fun v h' => v = none ∧ h' = h)) (hlen : ∀ sig, parseMethodDescriptor y.desc = some sig → argsL.length = sig.parameters.length)
    (hd : decode bytes pc = .ok (.invokestatic index, 3)) (hst : stk = argsL.reverse ++ rest) (hp : pc + 3 = pc') (hsize : Ls.size = maxL) (hy : y.cls ≠ "java/lang/invoke/MethodHandle" ∧ y.cls ≠ "java/lang/invoke/VarHandle")
    (hf : rm.frames + 1 ≤ R.frames) (hl : (rest.map fun v => v.category).sum + (maxL' + 11) + rm.locals ≤ R.locals) (hc : k + rm.cells ≤ R.cells) (hs : n + rm.slots ≤ R.slots)
    (K : ∀ (T' : State), own_S p l e R s m args below meth c n0 T' h (k + rm.cells) (n + rm.slots) → own_G p e below s n0 kc ks Q T' (mkF m pc' Ls rest)) : own_G p e below s n0 kc ks Q T (mkF m pc Ls stk) :=
  s_callS pc' A S w1 w2 w3 w4 C hlen hd hst hp hsize hy hf hl hc hs (fun T' h' v q S' => by obtain ⟨rfl, rfl⟩ := q; exact K T' S')
theorem s_virt (pc' : Nat) {y z : MethodName} {CC : String} {index : Nat} {bytes' : ByteArray} {maxL' : Nat} {ret' : Option FieldType} {rm : Room} {argsL rest stk : List Value} {b : Addr} {Q' : Option Value → Heap → Prop}
    (A : own_A p l e R s m args below meth c Z own name bytes maxL ret) (S : own_S p l e R s m args below meth c n0 T h k n) (E : Exa Z h b CC)
    (w1 : (Jvm.Cond.methodLink own index y).before a0 Z = true) (w2 : (Jvm.Cond.declares y).before a0 Z = true) (nf : NotFace s y) (w5 : (Jvm.Cond.selects CC y z).before a0 Z = true) (w6 : (Jvm.Cond.instanceMethod z).before a0 Z = true) (w3 : (Jvm.Cond.initialized z.cls).before a0 Z = true) (w4 : (Jvm.Cond.code z bytes' maxL' ret').before a0 Z = true)
    (C : own_C l Z z bytes' maxL' ret' rm n0 [] (Value.ref b :: argsL).toArray h Q') (hlen : ∀ sig, parseMethodDescriptor y.desc = some sig → argsL.length = sig.parameters.length)
    (hd : decode bytes pc = .ok (.invokevirtual index, 3)) (hst : stk = argsL.reverse ++ Value.ref b :: rest) (hp : pc + 3 = pc') (hsize : Ls.size = maxL) (hy : y.cls ≠ "java/lang/invoke/MethodHandle" ∧ y.cls ≠ "java/lang/invoke/VarHandle")
    (hf : rm.frames + 1 ≤ R.frames) (hl : (rest.map fun v => v.category).sum + (maxL' + 11) + rm.locals ≤ R.locals) (hc : k + rm.cells ≤ R.cells) (hs : n + rm.slots ≤ R.slots)
    (K : ∀ (T' : State) (h' : Heap) (v : Option Value), Q' v h' → own_S p l e R s m args below meth c n0 T' h' (k + rm.cells) (n + rm.slots) → own_G p e below s n0 kc ks Q T' (mkF m pc' Ls (v.toList ++ rest))) : own_G p e below s n0 kc ks Q T (mkF m pc Ls stk) := by
  obtain ⟨locs, X, eT, N⟩ := S
  obtain ⟨hx, hby, hml, hown, -, -, -, hZ⟩ := A
  subst hp
  obtain ⟨cq, kq, qa, qb, qc⟩ := isOf hZ eT E
  obtain ⟨v, _, ⟨T1, L1, k1, n1⟩, -, X1, ⟨Lc, hQ1, l1, y1, z1⟩, st1⟩ := X.virtualBack hx (y := y) (z := z) hown (mvT hZ w1) (mvT hZ w2) nf (mvT hZ w5) (mvT hZ w6) hy (backOf (W := (rest.map fun v => v.category).sum) (Q := fun v h L => Q' v h ∧ Fr n0 L) C hZ w4 w3 hf hl) qa qc (g := mkF m pc Ls stk) rfl (by rw [hml]; exact hsize) (Steps.refl _) (argsL := argsL) (rest := rest) hlen hst (by show 2 * 0 + _ ≤ _; omega) (hb hby hd) (fun _ _ => ⟨rfl, eT, hc, hs⟩)
  dsimp only [Pt.U, Pt.locs, Pt.cells, Pt.slots] at X1 l1 y1 z1 st1 hQ1
  subst l1 y1 z1
  exact own_st (T' := T1) (g' := mkF m _ Ls (v.toList ++ rest)) (fun t => st1.trans) (K T1 T1.heap v hQ1.1 ⟨_, X1, rfl, Fr.app N hQ1.2⟩)
theorem s_virtV (pc' : Nat) {y z : MethodName} {CC : String} {index : Nat} {bytes' : ByteArray} {maxL' : Nat} {ret' : Option FieldType} {rm : Room} {argsL rest stk : List Value} {b : Addr} {w : Value}
    (A : own_A p l e R s m args below meth c Z own name bytes maxL ret) (S : own_S p l e R s m args below meth c n0 T h k n) (E : Exa Z h b CC)
    (w1 : (Jvm.Cond.methodLink own index y).before a0 Z = true) (w2 : (Jvm.Cond.declares y).before a0 Z = true) (nf : NotFace s y) (w5 : (Jvm.Cond.selects CC y z).before a0 Z = true) (w6 : (Jvm.Cond.instanceMethod z).before a0 Z = true) (w3 : (Jvm.Cond.initialized z.cls).before a0 Z = true) (w4 : (Jvm.Cond.code z bytes' maxL' ret').before a0 Z = true)
    (C : own_C l Z z bytes' maxL' ret' rm n0 [] (Value.ref b :: argsL).toArray h (fun v h' => v = some w ∧ h' = h)) (hlen : ∀ sig, parseMethodDescriptor y.desc = some sig → argsL.length = sig.parameters.length)
    (hd : decode bytes pc = .ok (.invokevirtual index, 3)) (hst : stk = argsL.reverse ++ Value.ref b :: rest) (hp : pc + 3 = pc') (hsize : Ls.size = maxL) (hy : y.cls ≠ "java/lang/invoke/MethodHandle" ∧ y.cls ≠ "java/lang/invoke/VarHandle")
    (hf : rm.frames + 1 ≤ R.frames) (hl : (rest.map fun v => v.category).sum + (maxL' + 11) + rm.locals ≤ R.locals) (hc : k + rm.cells ≤ R.cells) (hs : n + rm.slots ≤ R.slots)
    (K : ∀ (T' : State), own_S p l e R s m args below meth c n0 T' h (k + rm.cells) (n + rm.slots) → own_G p e below s n0 kc ks Q T' (mkF m pc' Ls (w :: rest))) : own_G p e below s n0 kc ks Q T (mkF m pc Ls stk) :=
  s_virt pc' A S E w1 w2 nf w5 w6 w3 w4 C hlen hd hst hp hsize hy hf hl hc hs (fun T' h' v q S' => by obtain ⟨rfl, rfl⟩ := q; exact K T' S')
theorem s_virtN (pc' : Nat) {y z : MethodName} {CC : String} {index : Nat} {bytes' : ByteArray} {maxL' : Nat} {ret' : Option FieldType} {rm : Room} {argsL rest stk : List Value} {b : Addr}
    (A : own_A p l e R s m args below meth c Z own name bytes maxL ret) (S : own_S p l e R s m args below meth c n0 T h k n) (E : Exa Z h b CC)
    (w1 : (Jvm.Cond.methodLink own index y).before a0 Z = true) (w2 : (Jvm.Cond.declares y).before a0 Z = true) (nf : NotFace s y) (w5 : (Jvm.Cond.selects CC y z).before a0 Z = true) (w6 : (Jvm.Cond.instanceMethod z).before a0 Z = true) (w3 : (Jvm.Cond.initialized z.cls).before a0 Z = true) (w4 : (Jvm.Cond.code z bytes' maxL' ret').before a0 Z = true)
    (C : own_C l Z z bytes' maxL' ret' rm n0 [] (Value.ref b :: argsL).toArray h (fun v h' => v = none ∧ h' = h)) (hlen : ∀ sig, parseMethodDescriptor y.desc = some sig → argsL.length = sig.parameters.length)
    (hd : decode bytes pc = .ok (.invokevirtual index, 3)) (hst : stk = argsL.reverse ++ Value.ref b :: rest) (hp : pc + 3 = pc') (hsize : Ls.size = maxL) (hy : y.cls ≠ "java/lang/invoke/MethodHandle" ∧ y.cls ≠ "java/lang/invoke/VarHandle")
    (hf : rm.frames + 1 ≤ R.frames) (hl : (rest.map fun v => v.category).sum + (maxL' + 11) + rm.locals ≤ R.locals) (hc : k + rm.cells ≤ R.cells) (hs : n + rm.slots ≤ R.slots)
    (K : ∀ (T' : State), own_S p l e R s m args below meth c n0 T' h (k + rm.cells) (n + rm.slots) → own_G p e below s n0 kc ks Q T' (mkF m pc' Ls rest)) : own_G p e below s n0 kc ks Q T (mkF m pc Ls stk) :=
  s_virt pc' A S E w1 w2 nf w5 w6 w3 w4 C hlen hd hst hp hsize hy hf hl hc hs (fun T' h' v q S' => by obtain ⟨rfl, rfl⟩ := q; exact K T' S')
theorem s_spec (pc' : Nat) {y : MethodName} {index : Nat} {bytes' : ByteArray} {maxL' : Nat} {rm : Room} {argsL rest stk : List Value} {b : Addr} {Q' : Option Value → Heap → Prop}
    (A : own_A p l e R s m args below meth c Z own name bytes maxL ret) (S : own_S p l e R s m args below meth c n0 T h k n)
    (w1 : (Jvm.Cond.methodLink own index y).before a0 Z = true) (w2 : (Jvm.Cond.instanceMethod y).before a0 Z = true) (w3 : (Jvm.Cond.initialized y.cls).before a0 Z = true) (w4 : (Jvm.Cond.code y bytes' maxL' none).before a0 Z = true)
    (C : own_C l Z y bytes' maxL' none rm n0 [] (Value.ref b :: argsL).toArray h Q') (hlen : ∀ sig, parseMethodDescriptor y.desc = some sig → argsL.length = sig.parameters.length)
    (hd : decode bytes pc = .ok (.invokespecial index, 3)) (hst : stk = argsL.reverse ++ Value.ref b :: rest) (hp : pc + 3 = pc') (hsize : Ls.size = maxL) (hy1 : y.name = "<init>") (hy : y.cls ≠ "java/lang/invoke/MethodHandle" ∧ y.cls ≠ "java/lang/invoke/VarHandle")
    (hf : rm.frames + 1 ≤ R.frames) (hl : (rest.map fun v => v.category).sum + (maxL' + 11) + rm.locals ≤ R.locals) (hc : k + rm.cells ≤ R.cells) (hs : n + rm.slots ≤ R.slots)
    (K : ∀ (T' : State) (h' : Heap) (v : Option Value), Q' v h' → own_S p l e R s m args below meth c n0 T' h' (k + rm.cells) (n + rm.slots) → own_G p e below s n0 kc ks Q T' (mkF m pc' Ls (v.toList ++ rest))) : own_G p e below s n0 kc ks Q T (mkF m pc Ls stk) := by
  obtain ⟨locs, X, eT, N⟩ := S
  obtain ⟨hx, hby, hml, hown, -, -, -, hZ⟩ := A
  subst hp
  obtain ⟨v, _, ⟨T1, L1, k1, n1⟩, -, X1, ⟨Lc, hQ1, l1, y1, z1⟩, st1⟩ := X.specialBack hx (y := y) hy1 hown (mvT hZ w1) (mvT hZ w2) (mvT hZ w4) hy (backOf (W := (rest.map fun v => v.category).sum) (Q := fun v h L => Q' v h ∧ Fr n0 L) C hZ w4 w3 hf hl) (g := mkF m pc Ls stk) rfl (by rw [hml]; exact hsize) (Steps.refl _) (a := b) (argsL := argsL) (rest := rest) hlen hst (by show 2 * 0 + _ ≤ _; omega) (hb hby hd) (fun _ _ => ⟨rfl, eT, hc, hs⟩)
  dsimp only [Pt.U, Pt.locs, Pt.cells, Pt.slots] at X1 l1 y1 z1 st1 hQ1
  subst l1 y1 z1
  exact own_st (T' := T1) (g' := mkF m _ Ls (v.toList ++ rest)) (fun t => st1.trans) (K T1 T1.heap v hQ1.1 ⟨_, X1, rfl, Fr.app N hQ1.2⟩)
theorem s_specN (pc' : Nat) {y : MethodName} {index : Nat} {bytes' : ByteArray} {maxL' : Nat} {rm : Room} {argsL rest stk : List Value} {b : Addr}
    (A : own_A p l e R s m args below meth c Z own name bytes maxL ret) (S : own_S p l e R s m args below meth c n0 T h k n)
    (w1 : (Jvm.Cond.methodLink own index y).before a0 Z = true) (w2 : (Jvm.Cond.instanceMethod y).before a0 Z = true) (w3 : (Jvm.Cond.initialized y.cls).before a0 Z = true) (w4 : (Jvm.Cond.code y bytes' maxL' none).before a0 Z = true)
    (C : own_C l Z y bytes' maxL' none rm n0 [] (Value.ref b :: argsL).toArray h (fun v h' => v = none ∧ h' = h)) (hlen : ∀ sig, parseMethodDescriptor y.desc = some sig → argsL.length = sig.parameters.length)
    (hd : decode bytes pc = .ok (.invokespecial index, 3)) (hst : stk = argsL.reverse ++ Value.ref b :: rest) (hp : pc + 3 = pc') (hsize : Ls.size = maxL) (hy1 : y.name = "<init>") (hy : y.cls ≠ "java/lang/invoke/MethodHandle" ∧ y.cls ≠ "java/lang/invoke/VarHandle")
    (hf : rm.frames + 1 ≤ R.frames) (hl : (rest.map fun v => v.category).sum + (maxL' + 11) + rm.locals ≤ R.locals) (hc : k + rm.cells ≤ R.cells) (hs : n + rm.slots ≤ R.slots)
    (K : ∀ (T' : State), own_S p l e R s m args below meth c n0 T' h (k + rm.cells) (n + rm.slots) → own_G p e below s n0 kc ks Q T' (mkF m pc' Ls rest)) : own_G p e below s n0 kc ks Q T (mkF m pc Ls stk) :=
  s_spec pc' A S w1 w2 w3 w4 C hlen hd hst hp hsize hy1 hy hf hl hc hs (fun T' h' v q S' => by obtain ⟨rfl, rfl⟩ := q; exact K T' S')
theorem s_getS (pc' : Nat) {O nm dd : String} {index : Nat} {v : Value} (A : own_A p l e R s m args below meth c Z own name bytes maxL ret) (S : own_S p l e R s m args below meth c n0 T h k n)
    (w : (Jvm.Cond.fieldLink own index O nm dd).before a0 Z = true) (F : Sta Z h O nm dd v) (hd : decode bytes pc = .ok (.getstatic index, 3)) (hp : pc + 3 = pc')
    (K : ∀ T', own_S p l e R s m args below meth c n0 T' h k n → own_G p e below s n0 kc ks Q T' (mkF m pc' Ls (v :: st))) : own_G p e below s n0 kc ks Q T (mkF m pc Ls st) := by
  obtain ⟨locs, X, eT, N⟩ := S
  obtain ⟨hx, hby, hml, hown, -, -, -, hZ⟩ := A
  subst hp
  obtain ⟨T1, X1, e1, st1⟩ := getS (host := "") X hx hZ hown w Via.refl eT F (g := mkF m pc Ls st) rfl (hb hby hd)
  exact own_st (T' := T1) (g' := mkF m _ Ls (v :: st)) st1 (K T1 ⟨_, X1, e1, N⟩)
theorem s_getF (pc' : Nat) {O nm dd : String} {index : Nat} {v : Value} {a : Addr} (A : own_A p l e R s m args below meth c Z own name bytes maxL ret) (S : own_S p l e R s m args below meth c n0 T h k n)
    (w : (Jvm.Cond.fieldLink own index O nm dd).before a0 Z = true) (F : Fld Z h a O nm dd v) (hd : decode bytes pc = .ok (.getfield index, 3)) (hp : pc + 3 = pc')
    (K : ∀ T', own_S p l e R s m args below meth c n0 T' h k n → own_G p e below s n0 kc ks Q T' (mkF m pc' Ls (v :: st))) : own_G p e below s n0 kc ks Q T (mkF m pc Ls (.ref a :: st)) := by
  obtain ⟨locs, X, eT, N⟩ := S
  obtain ⟨hx, hby, hml, hown, -, -, -, hZ⟩ := A
  subst hp
  obtain ⟨T1, X1, e1, st1⟩ := getF X hx hZ hown (host := "") (Or.inl w) Via.refl eT F (g := mkF m pc Ls (.ref a :: st)) rfl rfl (hb hby hd)
  exact own_st (T' := T1) (g' := mkF m _ Ls (v :: st)) st1 (K T1 ⟨_, X1, e1, N⟩)
theorem s_putF (pc' : Nat) {O nm dd CC : String} {index kk : Nat} {v old : Value} {a : Addr} {ty : FieldType} (A : own_A p l e R s m args below meth c Z own name bytes maxL ret) (S : own_S p l e R s m args below meth c n0 T h k n)
    (w : (Jvm.Cond.fieldLink own index O nm dd).before a0 Z = true) (F : Fld Z h a O nm dd old) (E : Exa Z h a CC) (L : (Jvm.Cond.lays CC O nm dd).before a0 Z = true ∨ ((Jvm.Cond.laysFinal CC O nm dd).before a0 Z = true ∧ own = O ∧ name = "<init>")) (wi : (Jvm.Cond.instantiable CC kk).before a0 Z = true) (hge : n0 ≤ a)
    (hd : decode bytes pc = .ok (.putfield index, 3)) (hty : parseFieldDescriptor dd = some ty) (hn : narrow ty v = v) (hf : fits ty v = true) (hp : pc + 3 = pc')
    (K : ∀ T' h', Wr h h' a (RoadKit.slotOf Z O nm dd) v → own_S p l e R s m args below meth c n0 T' h' k n → own_G p e below s n0 kc ks Q T' (mkF m pc' Ls st)) : own_G p e below s n0 kc ks Q T (mkF m pc Ls (v :: .ref a :: st)) := by
  obtain ⟨locs, X, eT, N⟩ := S
  obtain ⟨hx, hby, hml, hown, hnm, -, -, hZ⟩ := A
  subst hp
  obtain ⟨T1, h1, X1, e1, W1, st1⟩ := putF X hx hZ hown (host := "") (Or.inl w) Via.refl eT F E (L.imp id fun q => ⟨q.1, q.2.1, hnm.trans q.2.2⟩) wi hty hn hf (g := mkF m pc Ls (v :: .ref a :: st)) rfl rfl (hb hby hd)
  exact own_st (T' := T1) (g' := mkF m _ Ls st) st1 (K T1 h1 W1 ⟨_, X1, e1, Fr.snoc X1 N hge⟩)
theorem s_new (pc' : Nat) {CC : String} {index nn : Nat} (A : own_A p l e R s m args below meth c Z own name bytes maxL ret) (S : own_S p l e R s m args below meth c n0 T h k n)
    (w : (Jvm.Cond.classLink own index CC).before a0 Z = true) (wi : (Jvm.Cond.instantiable CC nn).before a0 Z = true) (wz : (Jvm.Cond.initialized CC).before a0 Z = true) (hd : decode bytes pc = .ok (.new index, 3)) (hp : pc + 3 = pc') (hc : k + 1 ≤ R.cells) (hl : n + nn ≤ R.slots)
    (K : ∀ T' h' (a : Addr), a = h.size → Ext h h' → Exa Z h' a CC → (∀ {O nm dd : String} {ty : FieldType}, Laid Z a0 CC O nm dd → parseFieldDescriptor dd = some ty → Fld Z h' a O nm dd (defaultValue ty)) → own_S p l e R s m args below meth c n0 T' h' (k + 1) (n + nn) → own_G p e below s n0 kc ks Q T' (mkF m pc' Ls (.ref a :: st))) : own_G p e below s n0 kc ks Q T (mkF m pc Ls st) := by
  obtain ⟨locs, X, eT, N⟩ := S
  obtain ⟨hx, hby, hml, hown, -, -, -, hZ⟩ := A
  subst hp
  obtain ⟨T1, h1, X1, e1, E1, A1, D1, -, st1⟩ := newO X hx hZ hown w wi wz eT (g := mkF m pc Ls st) rfl (hb hby hd) hc hl
  exact own_st (T' := T1) (g' := mkF m _ Ls (.ref h.size :: st)) st1 (K T1 h1 h.size rfl E1 A1 D1 ⟨_, X1, e1, N⟩)
theorem s_initO (pc' : Nat) {idx : Nat} {a : Addr} (A : own_A p l e R s m args below meth c Z own name bytes maxL ret) (S : own_S p l e R s m args below meth c n0 T h k n)
    (w1 : (Jvm.Cond.methodLink own idx Lib.objectInit).before a0 Z = true) (w2 : (Jvm.Cond.instanceMethod Lib.objectInit).before a0 Z = true) (w3 : (Jvm.Cond.code Lib.objectInit ⟨#[0xb1]⟩ 1 none).before a0 Z = true) (hd : decode bytes pc = .ok (.invokespecial idx, 3)) (hp : pc + 3 = pc') (hsize : Ls.size = maxL) (hf : 1 ≤ R.frames) (hl : (st.map fun v => v.category).sum + 12 ≤ R.locals)
    (K : ∀ T', own_S p l e R s m args below meth c n0 T' h k n → own_G p e below s n0 kc ks Q T' (mkF m pc' Ls st)) : own_G p e below s n0 kc ks Q T (mkF m pc Ls (.ref a :: st)) := by
  obtain ⟨locs, X, eT, N⟩ := S
  obtain ⟨hx, hby, hml, hown, -, -, -, hZ⟩ := A
  subst hp
  obtain ⟨T1, X1, e1, st1⟩ := initO X hx hZ hown w1 w2 w3 eT (g := mkF m pc Ls (.ref a :: st)) rfl (by rw [hml]; exact hsize) rfl (hb hby hd) hf (W := (st.map fun v => v.category).sum) (by show 2 * 0 + _ ≤ _; omega) hl
  exact own_st (T' := T1) (g' := mkF m _ Ls st) st1 (K T1 ⟨_, X1, e1, N⟩)
theorem s_newP (pc' : Nat) {aty : ArrayType} {z : Int32} {cap : Nat} (A : own_A p l e R s m args below meth c Z own name bytes maxL ret) (S : own_S p l e R s m args below meth c n0 T h k n)
    (w : (Jvm.Cond.arrayClass (newarray.typeOf aty)).before a0 Z = true) (hd : decode bytes pc = .ok (.newarray aty, 2)) (hn : ¬ z < 0) (hcap : z.toNatClampNeg ≤ cap) (hbb : cap * 8 ≤ 536870912) (hp : pc + 2 = pc') (hc : k + 1 ≤ R.cells) (hl : n + cap ≤ R.slots)
    (K : ∀ T' h' (cA : ClassId) (a : Addr), a = h.size → Ext h h' → Arv Z h' a cA (newarray.typeOf aty) z [] (defaultValue (newarray.typeOf aty)) → own_S p l e R s m args below meth c n0 T' h' (k + 1) (n + cap) → own_G p e below s n0 kc ks Q T' (mkF m pc' Ls (.ref a :: st))) : own_G p e below s n0 kc ks Q T (mkF m pc Ls (.int z :: st)) := by
  obtain ⟨locs, X, eT, N⟩ := S
  obtain ⟨hx, hby, hml, hown, -, -, -, hZ⟩ := A
  subst hp
  obtain ⟨T1, h1, cA, X1, e1, E1, A1, st1⟩ := newP X hx hZ w eT (g := mkF m pc Ls (.int z :: st)) rfl (hb hby hd) rfl hn (cap := cap) hcap hbb hc hl
  exact own_st (T' := T1) (g' := mkF m _ Ls (.ref h.size :: st)) st1 (K T1 h1 cA h.size rfl E1 (Arv.new A1 hn) ⟨_, X1, e1, N⟩)
theorem s_alen (pc' : Nat) {a : Addr} {cA : ClassId} {ty : FieldType} {z : Int32} {vs : List Value} {dv : Value} (A : own_A p l e R s m args below meth c Z own name bytes maxL ret) (S : own_S p l e R s m args below meth c n0 T h k n)
    (V : Arv Z h a cA ty z vs dv) (hd : decode bytes pc = .ok (.arraylength, 1)) (hp : pc + 1 = pc') (K : own_G p e below s n0 kc ks Q T (mkF m pc' Ls (.int z :: st))) : own_G p e below s n0 kc ks Q T (mkF m pc Ls (.ref a :: st)) := by
  obtain ⟨locs, X, eT, N⟩ := S
  obtain ⟨hx, hby, hml, hown, -, -, -, hZ⟩ := A
  obtain ⟨cl, Ar, -, S1, N1, -, -⟩ := V
  subst hp
  rw [← len_of S1 N1] at K
  exact own_st (T' := T) (g' := mkF m _ Ls (.int cl.slots.size.toInt32 :: st)) (X.arraylength hx (by rw [eT]; exact Ar.1) (State.isArrayOf_alike hZ.alike Ar.2.1) (g := mkF m pc Ls (.ref a :: st)) rfl rfl (hb hby hd)) K
theorem s_instY (pc' : Nat) {KK : String} {index : Nat} {a : Addr} (A : own_A p l e R s m args below meth c Z own name bytes maxL ret) (S : own_S p l e R s m args below meth c n0 T h k n)
    (w : (Jvm.Cond.classLink own index KK).before a0 Z = true) (F : Ins Z h a KK true) (hd : decode bytes pc = .ok (.instanceof index, 3)) (hp : pc + 3 = pc')
    (K : ∀ T', own_S p l e R s m args below meth c n0 T' h k n → own_G p e below s n0 kc ks Q T' (mkF m pc' Ls (.int 1 :: st))) : own_G p e below s n0 kc ks Q T (mkF m pc Ls (.ref a :: st)) := by
  obtain ⟨locs, X, eT, N⟩ := S
  obtain ⟨hx, hby, hml, hown, -, -, -, hZ⟩ := A
  subst hp
  obtain ⟨T1, X1, e1, st1⟩ := instY X hx hZ hown w eT F (g := mkF m pc Ls (.ref a :: st)) rfl rfl (hb hby hd)
  exact own_st (T' := T1) (g' := mkF m _ Ls (.int 1 :: st)) st1 (K T1 ⟨_, X1, e1, N⟩)
theorem s_instNo (pc' : Nat) {KK CC : String} {index : Nat} {a : Addr} (A : own_A p l e R s m args below meth c Z own name bytes maxL ret) (S : own_S p l e R s m args below meth c n0 T h k n)
    (w : (Jvm.Cond.classLink own index KK).before a0 Z = true) (E : Exa Z h a CC) (F : ∃ c t, Z.vm.findClass CC = some c ∧ Z.vm.findClass KK = some t ∧ Z.vm.assignable c t = false) (hd : decode bytes pc = .ok (.instanceof index, 3)) (hp : pc + 3 = pc')
    (K : ∀ T', own_S p l e R s m args below meth c n0 T' h k n → own_G p e below s n0 kc ks Q T' (mkF m pc' Ls (.int 0 :: st))) : own_G p e below s n0 kc ks Q T (mkF m pc Ls (.ref a :: st)) := by
  obtain ⟨locs, X, eT, N⟩ := S
  obtain ⟨hx, hby, hml, hown, -, -, -, hZ⟩ := A
  subst hp
  obtain ⟨T1, X1, e1, st1⟩ := instNo X hx hZ hown w eT E F (g := mkF m pc Ls (.ref a :: st)) rfl rfl (hb hby hd)
  exact own_st (T' := T1) (g' := mkF m _ Ls (.int 0 :: st)) st1 (K T1 ⟨_, X1, e1, N⟩)
theorem s_instNull (pc' : Nat) {index : Nat} (A : own_A p l e R s m args below meth c Z own name bytes maxL ret) (S : own_S p l e R s m args below meth c n0 T h k n)
    (hd : decode bytes pc = .ok (.instanceof index, 3)) (hp : pc + 3 = pc') (K : own_G p e below s n0 kc ks Q T (mkF m pc' Ls (.int 0 :: st))) : own_G p e below s n0 kc ks Q T (mkF m pc Ls (.null :: st)) := by
  obtain ⟨locs, X, eT, N⟩ := S
  obtain ⟨hx, hby, hml, hown, -, -, -, hZ⟩ := A
  subst hp
  exact own_st (T' := T) (g' := mkF m _ Ls (.int 0 :: st)) (X.instanceofNull hx (g := mkF m pc Ls (.null :: st)) rfl rfl (hb hby hd)) K
theorem s_castY (pc' : Nat) {KK : String} {index : Nat} {a : Addr} (A : own_A p l e R s m args below meth c Z own name bytes maxL ret) (S : own_S p l e R s m args below meth c n0 T h k n)
    (w : (Jvm.Cond.classLink own index KK).before a0 Z = true) (F : Ins Z h a KK true) (hd : decode bytes pc = .ok (.checkcast index, 3)) (hp : pc + 3 = pc')
    (K : ∀ T', own_S p l e R s m args below meth c n0 T' h k n → own_G p e below s n0 kc ks Q T' (mkF m pc' Ls (.ref a :: st))) : own_G p e below s n0 kc ks Q T (mkF m pc Ls (.ref a :: st)) := by
  obtain ⟨locs, X, eT, N⟩ := S
  obtain ⟨hx, hby, hml, hown, -, -, -, hZ⟩ := A
  subst hp
  obtain ⟨T1, X1, e1, st1⟩ := castY X hx hZ hown w eT F (g := mkF m pc Ls (.ref a :: st)) rfl rfl (hb hby hd)
  exact own_st (T' := T1) (g' := mkF m _ Ls (.ref a :: st)) st1 (K T1 ⟨_, X1, e1, N⟩)
theorem s_aald (pc' : Nat) {a : Addr} {cl : Cell} {ty : FieldType} {j : Int32} {v : Value} (A : own_A p l e R s m args below meth c Z own name bytes maxL ret) (S : own_S p l e R s m args below meth c n0 T h k n)
    (Ar : Arr Z h a cl ty) (hty : ty.isReference = true) (hin : ¬ (j < 0 ∨ cl.slots.size ≤ j.toNatClampNeg)) (hv : cl.slots[j.toNatClampNeg]? = some v) (hd : decode bytes pc = .ok (.aaload, 1)) (hp : pc + 1 = pc') (K : own_G p e below s n0 kc ks Q T (mkF m pc' Ls (v :: st))) : own_G p e below s n0 kc ks Q T (mkF m pc Ls (.int j :: .ref a :: st)) := by
  obtain ⟨locs, X, eT, N⟩ := S
  obtain ⟨hx, hby, hml, hown, -, -, -, hZ⟩ := A
  subst hp
  exact own_st (T' := T) (g' := mkF m _ Ls (v :: st)) (X.aaload hx (by rw [eT]; exact Ar.1) (State.isArrayOf_alike hZ.alike Ar.2.1) hty Ar.2.2 hin hv (g := mkF m pc Ls (.int j :: .ref a :: st)) rfl rfl (hb hby hd)) K
theorem s_iald (pc' : Nat) {a : Addr} {cA : ClassId} {z j : Int32} {vs : List Value} {v dv : Value} (A : own_A p l e R s m args below meth c Z own name bytes maxL ret) (S : own_S p l e R s m args below meth c n0 T h k n)
    (V : Arv Z h a cA .int z vs dv) (hj : ¬ j < 0 ∧ j < z) (hv : vs.getD j.toNatClampNeg dv = v) (hd : decode bytes pc = .ok (.iaload, 1)) (hp : pc + 1 = pc') (K : own_G p e below s n0 kc ks Q T (mkF m pc' Ls (v :: st))) : own_G p e below s n0 kc ks Q T (mkF m pc Ls (.int j :: .ref a :: st)) := by
  obtain ⟨locs, X, eT, N⟩ := S
  obtain ⟨hx, hby, hml, hown, -, -, -, hZ⟩ := A
  obtain ⟨cl, Ar, -, S1, N1, H1, G1⟩ := V
  subst hp
  exact own_st (T' := T) (g' := mkF m _ Ls (v :: st)) (X.iaload hx (by rw [eT]; exact Ar.1) (State.isArrayOf_alike hZ.alike Ar.2.1) Ar.2.2 (inb_of S1 hj) (H1.at (inb_of S1 hj) hv) (g := mkF m pc Ls (.int j :: .ref a :: st)) rfl rfl (hb hby hd)) K
theorem s_lald (pc' : Nat) {a : Addr} {cA : ClassId} {z j : Int32} {vs : List Value} {v dv : Value} (A : own_A p l e R s m args below meth c Z own name bytes maxL ret) (S : own_S p l e R s m args below meth c n0 T h k n)
    (V : Arv Z h a cA .long z vs dv) (hj : ¬ j < 0 ∧ j < z) (hv : vs.getD j.toNatClampNeg dv = v) (hd : decode bytes pc = .ok (.laload, 1)) (hp : pc + 1 = pc') (K : own_G p e below s n0 kc ks Q T (mkF m pc' Ls (v :: st))) : own_G p e below s n0 kc ks Q T (mkF m pc Ls (.int j :: .ref a :: st)) := by
  obtain ⟨locs, X, eT, N⟩ := S
  obtain ⟨hx, hby, hml, hown, -, -, -, hZ⟩ := A
  obtain ⟨cl, Ar, -, S1, N1, H1, G1⟩ := V
  subst hp
  exact own_st (T' := T) (g' := mkF m _ Ls (v :: st)) (X.laload hx (by rw [eT]; exact Ar.1) (State.isArrayOf_alike hZ.alike Ar.2.1) Ar.2.2 (inb_of S1 hj) (H1.at (inb_of S1 hj) hv) (g := mkF m pc Ls (.int j :: .ref a :: st)) rfl rfl (hb hby hd)) K
theorem s_bald (pc' : Nat) {a : Addr} {cA : ClassId} {z j : Int32} {vs : List Value} {v dv : Value} (A : own_A p l e R s m args below meth c Z own name bytes maxL ret) (S : own_S p l e R s m args below meth c n0 T h k n)
    (V : Arv Z h a cA .byte z vs dv) (hj : ¬ j < 0 ∧ j < z) (hv : vs.getD j.toNatClampNeg dv = v) (hd : decode bytes pc = .ok (.baload, 1)) (hp : pc + 1 = pc') (K : own_G p e below s n0 kc ks Q T (mkF m pc' Ls (v :: st))) : own_G p e below s n0 kc ks Q T (mkF m pc Ls (.int j :: .ref a :: st)) := by
  obtain ⟨locs, X, eT, N⟩ := S
  obtain ⟨hx, hby, hml, hown, -, -, -, hZ⟩ := A
  obtain ⟨cl, Ar, -, S1, N1, H1, G1⟩ := V
  subst hp
  exact own_st (T' := T) (g' := mkF m _ Ls (v :: st)) (X.baloadBytes hx (by rw [eT]; exact Ar.1) (State.isArrayOf_alike hZ.alike Ar.2.1) Ar.2.2 (inb_of S1 hj) (H1.at (inb_of S1 hj) hv) (g := mkF m pc Ls (.int j :: .ref a :: st)) rfl rfl (hb hby hd)) K
theorem s_cald (pc' : Nat) {a : Addr} {cA : ClassId} {z j : Int32} {vs : List Value} {v dv : Value} (A : own_A p l e R s m args below meth c Z own name bytes maxL ret) (S : own_S p l e R s m args below meth c n0 T h k n)
    (V : Arv Z h a cA .char z vs dv) (hj : ¬ j < 0 ∧ j < z) (hv : vs.getD j.toNatClampNeg dv = v) (hd : decode bytes pc = .ok (.caload, 1)) (hp : pc + 1 = pc') (K : own_G p e below s n0 kc ks Q T (mkF m pc' Ls (v :: st))) : own_G p e below s n0 kc ks Q T (mkF m pc Ls (.int j :: .ref a :: st)) := by
  obtain ⟨locs, X, eT, N⟩ := S
  obtain ⟨hx, hby, hml, hown, -, -, -, hZ⟩ := A
  obtain ⟨cl, Ar, -, S1, N1, H1, G1⟩ := V
  subst hp
  exact own_st (T' := T) (g' := mkF m _ Ls (v :: st)) (X.caload hx (by rw [eT]; exact Ar.1) (State.isArrayOf_alike hZ.alike Ar.2.1) Ar.2.2 (inb_of S1 hj) (H1.at (inb_of S1 hj) hv) (g := mkF m pc Ls (.int j :: .ref a :: st)) rfl rfl (hb hby hd)) K
theorem s_iast (pc' : Nat) {a : Addr} {cA : ClassId} {z j : Int32} {x : Int32} {vs : List Value} {dv : Value} (A : own_A p l e R s m args below meth c Z own name bytes maxL ret) (S : own_S p l e R s m args below meth c n0 T h k n)
    (V : Arv Z h a cA .int z vs dv) (hj : ¬ j < 0 ∧ j < z) (i : Nat) (hi : j.toNatClampNeg = i) (hi' : i < vs.length) (hge : n0 ≤ a) (hd : decode bytes pc = .ok (.iastore, 1)) (hp : pc + 1 = pc')
    (K : ∀ T' h', Wr h h' a i (.int x) → Arv Z h' a cA .int z (vs.set i (.int x)) dv → own_S p l e R s m args below meth c n0 T' h' k n → own_G p e below s n0 kc ks Q T' (mkF m pc' Ls st)) : own_G p e below s n0 kc ks Q T (mkF m pc Ls (.int x :: .int j :: .ref a :: st)) := by
  obtain ⟨locs, X, eT, N⟩ := S
  obtain ⟨hx, hby, hml, hown, -, -, -, hZ⟩ := A
  obtain ⟨cl, Ar, q1, S1, N1, H1, G1⟩ := V
  subst hp
  obtain ⟨T1, h1, X1, e1, W1, st1⟩ := stI X hx hZ eT Ar (j := j) (inb_of S1 hj) (g := mkF m pc Ls (.int x :: .int j :: .ref a :: st)) rfl rfl (hb hby hd)
  have V1 := Arv.set Ar q1 S1 N1 H1 G1 rfl W1 i hi hi'
  rw [hi] at W1
  exact own_st (T' := T1) (g' := mkF m _ Ls st) st1 (K T1 h1 W1 V1 ⟨_, X1, e1, Fr.snoc X1 N hge⟩)
theorem s_last (pc' : Nat) {a : Addr} {cA : ClassId} {z j : Int32} {x : Int64} {vs : List Value} {dv : Value} (A : own_A p l e R s m args below meth c Z own name bytes maxL ret) (S : own_S p l e R s m args below meth c n0 T h k n)
    (V : Arv Z h a cA .long z vs dv) (hj : ¬ j < 0 ∧ j < z) (i : Nat) (hi : j.toNatClampNeg = i) (hi' : i < vs.length) (hge : n0 ≤ a) (hd : decode bytes pc = .ok (.lastore, 1)) (hp : pc + 1 = pc')
    (K : ∀ T' h', Wr h h' a i (.long x) → Arv Z h' a cA .long z (vs.set i (.long x)) dv → own_S p l e R s m args below meth c n0 T' h' k n → own_G p e below s n0 kc ks Q T' (mkF m pc' Ls st)) : own_G p e below s n0 kc ks Q T (mkF m pc Ls (.long x :: .int j :: .ref a :: st)) := by
  obtain ⟨locs, X, eT, N⟩ := S
  obtain ⟨hx, hby, hml, hown, -, -, -, hZ⟩ := A
  obtain ⟨cl, Ar, q1, S1, N1, H1, G1⟩ := V
  subst hp
  obtain ⟨T1, h1, X1, e1, W1, st1⟩ := stJ X hx hZ eT Ar (j := j) (inb_of S1 hj) (g := mkF m pc Ls (.long x :: .int j :: .ref a :: st)) rfl rfl (hb hby hd)
  have V1 := Arv.set Ar q1 S1 N1 H1 G1 rfl W1 i hi hi'
  rw [hi] at W1
  exact own_st (T' := T1) (g' := mkF m _ Ls st) st1 (K T1 h1 W1 V1 ⟨_, X1, e1, Fr.snoc X1 N hge⟩)
theorem s_bast (pc' : Nat) {a : Addr} {cA : ClassId} {z j : Int32} {x : Int32} {vs : List Value} {dv : Value} (A : own_A p l e R s m args below meth c Z own name bytes maxL ret) (S : own_S p l e R s m args below meth c n0 T h k n)
    (V : Arv Z h a cA .byte z vs dv) (hj : ¬ j < 0 ∧ j < z) (i : Nat) (hi : j.toNatClampNeg = i) (hi' : i < vs.length) (hge : n0 ≤ a) (hd : decode bytes pc = .ok (.bastore, 1)) (hp : pc + 1 = pc')
    (K : ∀ T' h', Wr h h' a i (.int (nar .byte x)) → Arv Z h' a cA .byte z (vs.set i (.int (nar .byte x))) dv → own_S p l e R s m args below meth c n0 T' h' k n → own_G p e below s n0 kc ks Q T' (mkF m pc' Ls st)) : own_G p e below s n0 kc ks Q T (mkF m pc Ls (.int x :: .int j :: .ref a :: st)) := by
  obtain ⟨locs, X, eT, N⟩ := S
  obtain ⟨hx, hby, hml, hown, -, -, -, hZ⟩ := A
  obtain ⟨cl, Ar, q1, S1, N1, H1, G1⟩ := V
  subst hp
  obtain ⟨T1, h1, X1, e1, W1, st1⟩ := stB X hx hZ eT Ar (j := j) (inb_of S1 hj) (g := mkF m pc Ls (.int x :: .int j :: .ref a :: st)) rfl rfl (hb hby hd)
  have V1 := Arv.set Ar q1 S1 N1 H1 G1 (fits_nar_byte _) W1 i hi hi'
  rw [hi] at W1
  exact own_st (T' := T1) (g' := mkF m _ Ls st) st1 (K T1 h1 W1 V1 ⟨_, X1, e1, Fr.snoc X1 N hge⟩)
theorem s_cast (pc' : Nat) {a : Addr} {cA : ClassId} {z j : Int32} {x : Int32} {vs : List Value} {dv : Value} (A : own_A p l e R s m args below meth c Z own name bytes maxL ret) (S : own_S p l e R s m args below meth c n0 T h k n)
    (V : Arv Z h a cA .char z vs dv) (hj : ¬ j < 0 ∧ j < z) (i : Nat) (hi : j.toNatClampNeg = i) (hi' : i < vs.length) (hge : n0 ≤ a) (hd : decode bytes pc = .ok (.castore, 1)) (hp : pc + 1 = pc')
    (K : ∀ T' h', Wr h h' a i (.int (nar .char x)) → Arv Z h' a cA .char z (vs.set i (.int (nar .char x))) dv → own_S p l e R s m args below meth c n0 T' h' k n → own_G p e below s n0 kc ks Q T' (mkF m pc' Ls st)) : own_G p e below s n0 kc ks Q T (mkF m pc Ls (.int x :: .int j :: .ref a :: st)) := by
  obtain ⟨locs, X, eT, N⟩ := S
  obtain ⟨hx, hby, hml, hown, -, -, -, hZ⟩ := A
  obtain ⟨cl, Ar, q1, S1, N1, H1, G1⟩ := V
  subst hp
  obtain ⟨T1, h1, X1, e1, W1, st1⟩ := stC X hx hZ eT Ar (j := j) (inb_of S1 hj) (g := mkF m pc Ls (.int x :: .int j :: .ref a :: st)) rfl rfl (hb hby hd)
  have V1 := Arv.set Ar q1 S1 N1 H1 G1 (fits_nar_char _) W1 i hi hi'
  rw [hi] at W1
  exact own_st (T' := T1) (g' := mkF m _ Ls st) st1 (K T1 h1 W1 V1 ⟨_, X1, e1, Fr.snoc X1 N hge⟩)
end OwnLayer
theorem own_zero : (0 : Int32).toInt = 0 := rfl

theorem own_eqv {args : Array Value} {s : State} {t : Term} {z : Int32} (hh : (Jvm.Cond.eq t (.int z)).value args s none s [] = some true) : t.eval args s none [] s = some (.int z) := by
  simp only [Cond.value, Term.eval] at hh
  cases ht : t.eval args s none [] s with
  | none => simp [ht] at hh
  | some x => cases x <;> simp [ht] at hh ⊢; exact hh

theorem own_iadd {x y : Int32} (h1 : -2147483648 ≤ x.toInt + y.toInt) (h2 : x.toInt + y.toInt < 2147483648) : (x + y).toInt = x.toInt + y.toInt := by
  have := c_iadd x y; have := (x + y).toInt_lt; have := (x + y).le_toInt; omega
theorem own_isub {x y : Int32} (h1 : -2147483648 ≤ x.toInt - y.toInt) (h2 : x.toInt - y.toInt < 2147483648) : (x - y).toInt = x.toInt - y.toInt := by
  have := c_isub x y; have := (x - y).toInt_lt; have := (x - y).le_toInt; omega
theorem own_iaddK {x y : Int32} {b : Int} (hb : y.toInt = b) (h1 : -2147483648 ≤ x.toInt + b) (h2 : x.toInt + b < 2147483648) : (x + y).toInt = x.toInt + b := by
  subst hb; exact own_iadd h1 h2
theorem own_isubK {x y : Int32} {b : Int} (hb : y.toInt = b) (h1 : -2147483648 ≤ x.toInt - b) (h2 : x.toInt - b < 2147483648) : (x - y).toInt = x.toInt - b := by
  subst hb; exact own_isub h1 h2
theorem own_isubL {x y : Int32} {a : Int} (ha : x.toInt = a) (h1 : -2147483648 ≤ a - y.toInt) (h2 : a - y.toInt < 2147483648) : (x - y).toInt = a - y.toInt := by
  subst ha; exact own_isub h1 h2
theorem own_imulK {x y : Int32} {b : Int} (hb : y.toInt = b) (h1 : -2147483648 ≤ x.toInt * b) (h2 : x.toInt * b < 2147483648) : (x * y).toInt = x.toInt * b := by
  subst hb; have := c_imul x y; have := (x * y).toInt_lt; have := (x * y).le_toInt; omega
theorem own_imulL {x y : Int32} {a : Int} (ha : x.toInt = a) (h1 : -2147483648 ≤ a * y.toInt) (h2 : a * y.toInt < 2147483648) : (x * y).toInt = a * y.toInt := by
  subst ha; have := c_imul x y; have := (x * y).toInt_lt; have := (x * y).le_toInt; omega
theorem own_ladd {x y : Int64} (h1 : -9223372036854775808 ≤ x.toInt + y.toInt) (h2 : x.toInt + y.toInt < 9223372036854775808) : (x + y).toInt = x.toInt + y.toInt := by
  have := c_ladd x y; have := (x + y).toInt_lt; have := (x + y).le_toInt; omega
theorem own_lsub {x y : Int64} (h1 : -9223372036854775808 ≤ x.toInt - y.toInt) (h2 : x.toInt - y.toInt < 9223372036854775808) : (x - y).toInt = x.toInt - y.toInt := by
  have := c_lsub x y; have := (x - y).toInt_lt; have := (x - y).le_toInt; omega
theorem own_lmulK {x y : Int64} {b : Int} (hb : y.toInt = b) (h1 : -9223372036854775808 ≤ x.toInt * b) (h2 : x.toInt * b < 9223372036854775808) : (x * y).toInt = x.toInt * b := by
  subst hb; have := c_lmul x y; have := (x * y).toInt_lt; have := (x * y).le_toInt; omega
theorem own_l2i {x : Int64} (h1 : -2147483648 ≤ x.toInt) (h2 : x.toInt < 2147483648) : x.toInt32.toInt = x.toInt := by
  have := c_l2i x; have := x.toInt32.toInt_lt; have := x.toInt32.le_toInt; omega

theorem own_len {args : Array Value} {s : State} {t : Term} {z : Int32} {a : Addr} {cl : Cell} (hh : (Term.length t).eval args s none [] s = some (.int z)) (ht : t.eval args s none [] s = some (.ref a)) (hc : s.heap[a]? = some cl) : cl.slots.size < 2 ^ 31 ∧ cl.slots.size.toInt32 = z := by
  simp only [Term.eval, Option.bind_eq_bind, ht] at hh
  change (s.arrayAt? a).bind (fun c => if c.slots.size < 2 ^ 31 then some (Value.int c.slots.size.toInt32) else none) = some (Value.int z) at hh
  obtain ⟨cell, hcell, q⟩ := Option.bind_eq_some_iff.mp hh
  have e := (State.arrayAt?_spec hcell).1
  cases hc.symm.trans e
  by_cases hn : cl.slots.size < 2 ^ 31
  · rw [if_pos hn] at q; cases q; exact ⟨hn, rfl⟩
  · rw [if_neg hn] at q; cases q

theorem own_dig (x : Int32) : 0 ≤ ((x &&& 15) % 10).toInt ∧ ((x &&& 15) % 10).toInt ≤ 9 := by
  have h1 := c_and x 15 (by decide)
  have h2 := (c_irem (x &&& 15) 10 10 rfl).1 h1.1
  rw [h2]; omega
theorem own_step {k : Int64} {e : Int32} (h1 : 0 ≤ k.toInt) (h2 : k.toInt < 1000000000) (h3 : 0 ≤ e.toInt ∧ e.toInt ≤ 9) : (k * 10 + e.toInt64).toInt = 10 * k.toInt + e.toInt := by
  have q1 : (k * 10).toInt = k.toInt * 10 := own_lmulK rfl (by omega) (by omega)
  rw [own_ladd (by rw [q1, c_i2l]; omega) (by rw [q1, c_i2l]; omega), q1, c_i2l]; omega
theorem pd__J_I : parseMethodDescriptor "(J)I" = some ⟨[.long], some .int⟩ := by decide +kernel
theorem d1_0 : decode prog_3_method_2_code 0 = .ok (.lload_n 0, 1) := by decide +kernel
theorem d1_1 : decode prog_3_method_2_code 1 = .ok (.lstore_n 2, 1) := by decide +kernel
theorem d1_2 : decode prog_3_method_2_code 2 = .ok (.iconst 0, 1) := by decide +kernel
theorem d1_3 : decode prog_3_method_2_code 3 = .ok (.istore 4, 2) := by decide +kernel
theorem d1_5 : decode prog_3_method_2_code 5 = .ok (.getstatic 7, 3) := by decide +kernel
theorem d1_8 : decode prog_3_method_2_code 8 = .ok (.arraylength, 1) := by decide +kernel
theorem d1_9 : decode prog_3_method_2_code 9 = .ok (.iconst 1, 1) := by decide +kernel
theorem d1_10 : decode prog_3_method_2_code 10 = .ok (.isub, 1) := by decide +kernel
theorem d1_11 : decode prog_3_method_2_code 11 = .ok (.istore 5, 2) := by decide +kernel
theorem d1_13 : decode prog_3_method_2_code 13 = .ok (.iload 5, 2) := by decide +kernel
theorem d1_15 : decode prog_3_method_2_code 15 = .ok (.ifCond .lt 33, 3) := by decide +kernel
theorem d1_18 : decode prog_3_method_2_code 18 = .ok (.iload 4, 2) := by decide +kernel
theorem d1_20 : decode prog_3_method_2_code 20 = .ok (.lload_n 2, 1) := by decide +kernel
theorem d1_21 : decode prog_3_method_2_code 21 = .ok (.ldc2_w 13, 3) := by decide +kernel
theorem d1_24 : decode prog_3_method_2_code 24 = .ok (.lrem, 1) := by decide +kernel
theorem d1_25 : decode prog_3_method_2_code 25 = .ok (.l2i, 1) := by decide +kernel
theorem d1_26 : decode prog_3_method_2_code 26 = .ok (.getstatic 7, 3) := by decide +kernel
theorem d1_29 : decode prog_3_method_2_code 29 = .ok (.iload 5, 2) := by decide +kernel
theorem d1_31 : decode prog_3_method_2_code 31 = .ok (.iaload, 1) := by decide +kernel
theorem d1_32 : decode prog_3_method_2_code 32 = .ok (.imul, 1) := by decide +kernel
theorem d1_33 : decode prog_3_method_2_code 33 = .ok (.iadd, 1) := by decide +kernel
theorem d1_34 : decode prog_3_method_2_code 34 = .ok (.istore 4, 2) := by decide +kernel
theorem d1_36 : decode prog_3_method_2_code 36 = .ok (.lload_n 2, 1) := by decide +kernel
theorem d1_37 : decode prog_3_method_2_code 37 = .ok (.ldc2_w 13, 3) := by decide +kernel
theorem d1_40 : decode prog_3_method_2_code 40 = .ok (.ldiv, 1) := by decide +kernel
theorem d1_41 : decode prog_3_method_2_code 41 = .ok (.lstore_n 2, 1) := by decide +kernel
theorem d1_42 : decode prog_3_method_2_code 42 = .ok (.iinc 5 (-1), 3) := by decide +kernel
theorem d1_45 : decode prog_3_method_2_code 45 = .ok (.goto (-32), 3) := by decide +kernel
theorem d1_48 : decode prog_3_method_2_code 48 = .ok (.bipush 10, 2) := by decide +kernel
theorem d1_50 : decode prog_3_method_2_code 50 = .ok (.iload 4, 2) := by decide +kernel
theorem d1_52 : decode prog_3_method_2_code 52 = .ok (.bipush 10, 2) := by decide +kernel
theorem d1_54 : decode prog_3_method_2_code 54 = .ok (.irem, 1) := by decide +kernel
theorem d1_55 : decode prog_3_method_2_code 55 = .ok (.isub, 1) := by decide +kernel
theorem d1_56 : decode prog_3_method_2_code 56 = .ok (.bipush 10, 2) := by decide +kernel
theorem d1_58 : decode prog_3_method_2_code 58 = .ok (.irem, 1) := by decide +kernel
theorem d1_59 : decode prog_3_method_2_code 59 = .ok (.ireturn, 1) := by decide +kernel
theorem pn_1 : plainFor (⟨"com/example/cuadre/cuadre/format/CheckDigit", "of", "(J)I"⟩ : MethodName) = true := plainFor_of_name (by first | (simp [plainName, overriddenIn]; done) | decide +kernel)
theorem ef_1 (m : MethodId) (x0 : Int64) : entryFrame m #[(.long x0)] 6 = mkF m 0 #[.val (.long x0), .second, .unset, .unset, .unset, .unset] [] := by first | (simp [entryFrame, mkF, argsToLocals, Value.category]; done) | rfl
set_option maxRecDepth 65536 in
set_option maxHeartbeats 40000000 in
theorem rm1 (l : Launch) (Z : State) (a0 : Array Value) (hw : ∀ d ∈ tables_1, d.before a0 Z = true) (ws : List Jvm.Cond) (aw : Addr) (kw : ClassId) (q : Int64) (A1 A2 A3 A4 A5 A6 A7 d0 d1 d2 d3 d4 d5 d6 d7 : Int) (h0 : Heap) (n0 : Nat) (Z0 : n0 ≤ h0.size) (sw : Sta Z h0 "com/example/cuadre/cuadre/format/CheckDigit" "WEIGHTS" "[I" (.ref aw)) (vw : Arv Z h0 aw kw .int (8 : Int32) [(.int (3 : Int32)), (.int (7 : Int32)), (.int (1 : Int32)), (.int (3 : Int32)), (.int (7 : Int32)), (.int (1 : Int32)), (.int (3 : Int32)), (.int (7 : Int32))] (.int 0)) (hq : q.toInt = A7) (e1 : A1 = 10 * d0 + d1) (e2 : A2 = 10 * A1 + d2) (e3 : A3 = 10 * A2 + d3) (e4 : A4 = 10 * A3 + d4) (e5 : A5 = 10 * A4 + d5) (e6 : A6 = 10 * A5 + d6) (e7 : A7 = 10 * A6 + d7) (b0 : 0 ≤ d0 ∧ d0 ≤ 9) (b1 : 0 ≤ d1 ∧ d1 ≤ 9) (b2 : 0 ≤ d2 ∧ d2 ≤ 9) (b3 : 0 ≤ d3 ∧ d3 ≤ 9) (b4 : 0 ≤ d4 ∧ d4 ≤ 9) (b5 : 0 ≤ d5 ∧ d5 ≤ 9) (b6 : 0 ≤ d6 ∧ d6 ≤ 9) (b7 : 0 ≤ d7 ∧ d7 ≤ 9) :
    own_C l Z (⟨"com/example/cuadre/cuadre/format/CheckDigit", "of", "(J)I"⟩ : MethodName) prog_3_method_2_code 6 (some .int) ({ frames := 0, cells := 0, slots := 0, locals := 0 } : Room) n0 ws #[(.long q)] h0 (fun v h' => (∃ z : Int32, v = some (.int z) ∧ z.toInt = (10 - (0 + d7 * 7 + d6 * 3 + d5 * 1 + d4 * 7 + d3 * 3 + d2 * 1 + d1 * 7 + d0 * 3) % 10) % 10) ∧ h' = h0) := by
  refine own_C.of pn_1 Z0 ?_
  intro p e s m below meth c T A S
  rw [ef_1]
  refine s_lloadN 1 A S d1_0 rfl rfl ?_
  refine s_lstoreN (Ls' := #[.val (.long q), .second, .val (.long q), .second, .unset, .unset]) 2 A S d1_1 rfl rfl ?_
  refine s_iconst (z := (0 : Int32)) 3 A S d1_2 rfl rfl ?_
  refine s_istore (Ls' := #[.val (.long q), .second, .val (.long q), .second, .val (.int (0 : Int32)), .unset]) 5 A S d1_3 rfl rfl ?_
  refine s_getS 8 A S (hw _ (List.mem_of_getElem? (i := 5) rfl)) sw d1_5 rfl fun T1 S2 => ?_
  refine s_alen 9 A S2 vw d1_8 rfl ?_
  refine s_iconst (z := (1 : Int32)) 10 A S2 d1_9 rfl rfl ?_
  refine s_isub (z := (7 : Int32)) 11 A S2 d1_10 (by decide) rfl ?_
  refine s_istore (Ls' := #[.val (.long q), .second, .val (.long q), .second, .val (.int (0 : Int32)), .val (.int (7 : Int32))]) 13 A S2 d1_11 rfl rfl ?_
  refine s_iload 15 A S2 d1_13 rfl rfl ?_
  refine s_iflt (xi := 7) 48 18 A S2 rfl d1_15 (by decide) (by decide) rfl (fun c3 => (by exact absurd c3 (by decide) : False).elim) (fun c3 => ?_)
  refine s_iload 20 A S2 d1_18 rfl rfl ?_
  refine s_lloadN 21 A S2 d1_20 rfl rfl ?_
  refine s_ldc2 24 A S2 (hw _ (List.mem_of_getElem? (i := 7) rfl)) d1_21 rfl ?_
  obtain ⟨rm, h_rm⟩ : ∃ z_, (q - (q / (10 : Int64)) * (10 : Int64)) = z_ := ⟨_, rfl⟩
  refine s_lrem (z := rm) 25 A S2 d1_24 (by decide) h_rm rfl ?_
  obtain ⟨ri, h_ri⟩ : ∃ z_, ((rm).toInt32) = z_ := ⟨_, rfl⟩
  refine s_l2i (z := ri) 26 A S2 d1_25 h_ri rfl ?_
  refine s_getS 29 A S2 (hw _ (List.mem_of_getElem? (i := 5) rfl)) sw d1_26 rfl fun T4 S5 => ?_
  refine s_iload 31 A S5 d1_29 rfl rfl ?_
  refine s_iald (v := (.int (7 : Int32))) 32 A S5 vw ⟨by decide, by decide⟩ rfl d1_31 rfl ?_
  obtain ⟨pr, h_pr⟩ : ∃ z_, (ri * (7 : Int32)) = z_ := ⟨_, rfl⟩
  refine s_imul (z := pr) 33 A S5 d1_32 h_pr rfl ?_
  obtain ⟨sm, h_sm⟩ : ∃ z_, ((0 : Int32) + pr) = z_ := ⟨_, rfl⟩
  refine s_iadd (z := sm) 34 A S5 d1_33 h_sm rfl ?_
  have us6a : rm.toInt = d7 := by rw [← h_rm, (c_lrem q 10 10 rfl).1 (by omega)]; omega
  have us6b : ri.toInt = d7 := by rw [← h_ri, own_l2i (by omega) (by omega)]; exact us6a
  have us6c : pr.toInt = d7 * 7 := by rw [← h_pr, own_imulK (b := 7) rfl (by omega) (by omega), us6b]
  have us6 : sm.toInt = 0 + d7 * 7 := by rw [← h_sm, own_iadd (by rw [own_zero]; omega) (by rw [own_zero]; omega), own_zero, us6c]
  refine s_istore (Ls' := #[.val (.long q), .second, .val (.long q), .second, .val (.int sm), .val (.int (7 : Int32))]) 36 A S5 d1_34 rfl rfl ?_
  refine s_lloadN 37 A S5 d1_36 rfl rfl ?_
  refine s_ldc2 40 A S5 (hw _ (List.mem_of_getElem? (i := 7) rfl)) d1_37 rfl ?_
  obtain ⟨nn, h_nn⟩ : ∃ z_, (q / (10 : Int64)) = z_ := ⟨_, rfl⟩
  refine s_ldiv (z := nn) 41 A S5 d1_40 (by decide) h_nn rfl ?_
  have un7 : nn.toInt = A6 := by rw [← h_nn, (c_ldiv q 10 10 rfl (by decide)).1 (by omega)]; omega
  refine s_lstoreN (Ls' := #[.val (.long q), .second, .val (.long nn), .second, .val (.int sm), .val (.int (7 : Int32))]) 42 A S5 d1_41 rfl rfl ?_
  refine s_iinc (z := (6 : Int32)) (Ls' := #[.val (.long q), .second, .val (.long nn), .second, .val (.int sm), .val (.int (6 : Int32))]) 45 A S5 d1_42 rfl (by decide) rfl rfl ?_
  refine s_goto 13 A S5 d1_45 (by decide) (by decide) ?_
  refine s_iload 15 A S5 d1_13 rfl rfl ?_
  refine s_iflt (xi := 6) 48 18 A S5 rfl d1_15 (by decide) (by decide) rfl (fun c8 => (by exact absurd c8 (by decide) : False).elim) (fun c8 => ?_)
  refine s_iload 20 A S5 d1_18 rfl rfl ?_
  refine s_lloadN 21 A S5 d1_20 rfl rfl ?_
  refine s_ldc2 24 A S5 (hw _ (List.mem_of_getElem? (i := 7) rfl)) d1_21 rfl ?_
  obtain ⟨rm_9, h_rm_9⟩ : ∃ z_, (nn - (nn / (10 : Int64)) * (10 : Int64)) = z_ := ⟨_, rfl⟩
  refine s_lrem (z := rm_9) 25 A S5 d1_24 (by decide) h_rm_9 rfl ?_
  obtain ⟨ri_10, h_ri_10⟩ : ∃ z_, ((rm_9).toInt32) = z_ := ⟨_, rfl⟩
  refine s_l2i (z := ri_10) 26 A S5 d1_25 h_ri_10 rfl ?_
  refine s_getS 29 A S5 (hw _ (List.mem_of_getElem? (i := 5) rfl)) sw d1_26 rfl fun T11 S12 => ?_
  refine s_iload 31 A S12 d1_29 rfl rfl ?_
  refine s_iald (v := (.int (3 : Int32))) 32 A S12 vw ⟨by decide, by decide⟩ rfl d1_31 rfl ?_
  obtain ⟨pr_13, h_pr_13⟩ : ∃ z_, (ri_10 * (3 : Int32)) = z_ := ⟨_, rfl⟩
  refine s_imul (z := pr_13) 33 A S12 d1_32 h_pr_13 rfl ?_
  obtain ⟨sm_14, h_sm_14⟩ : ∃ z_, (sm + pr_13) = z_ := ⟨_, rfl⟩
  refine s_iadd (z := sm_14) 34 A S12 d1_33 h_sm_14 rfl ?_
  have us15a : rm_9.toInt = d6 := by rw [← h_rm_9, (c_lrem nn 10 10 rfl).1 (by omega)]; omega
  have us15b : ri_10.toInt = d6 := by rw [← h_ri_10, own_l2i (by omega) (by omega)]; exact us15a
  have us15c : pr_13.toInt = d6 * 3 := by rw [← h_pr_13, own_imulK (b := 3) rfl (by omega) (by omega), us15b]
  have us15 : sm_14.toInt = 0 + d7 * 7 + d6 * 3 := by rw [← h_sm_14, own_iadd (by rw [us6]; omega) (by rw [us6]; omega), us6, us15c]
  refine s_istore (Ls' := #[.val (.long q), .second, .val (.long nn), .second, .val (.int sm_14), .val (.int (6 : Int32))]) 36 A S12 d1_34 rfl rfl ?_
  refine s_lloadN 37 A S12 d1_36 rfl rfl ?_
  refine s_ldc2 40 A S12 (hw _ (List.mem_of_getElem? (i := 7) rfl)) d1_37 rfl ?_
  obtain ⟨nn_16, h_nn_16⟩ : ∃ z_, (nn / (10 : Int64)) = z_ := ⟨_, rfl⟩
  refine s_ldiv (z := nn_16) 41 A S12 d1_40 (by decide) h_nn_16 rfl ?_
  have un17 : nn_16.toInt = A5 := by rw [← h_nn_16, (c_ldiv nn 10 10 rfl (by decide)).1 (by omega)]; omega
  refine s_lstoreN (Ls' := #[.val (.long q), .second, .val (.long nn_16), .second, .val (.int sm_14), .val (.int (6 : Int32))]) 42 A S12 d1_41 rfl rfl ?_
  refine s_iinc (z := (5 : Int32)) (Ls' := #[.val (.long q), .second, .val (.long nn_16), .second, .val (.int sm_14), .val (.int (5 : Int32))]) 45 A S12 d1_42 rfl (by decide) rfl rfl ?_
  refine s_goto 13 A S12 d1_45 (by decide) (by decide) ?_
  refine s_iload 15 A S12 d1_13 rfl rfl ?_
  refine s_iflt (xi := 5) 48 18 A S12 rfl d1_15 (by decide) (by decide) rfl (fun c18 => (by exact absurd c18 (by decide) : False).elim) (fun c18 => ?_)
  refine s_iload 20 A S12 d1_18 rfl rfl ?_
  refine s_lloadN 21 A S12 d1_20 rfl rfl ?_
  refine s_ldc2 24 A S12 (hw _ (List.mem_of_getElem? (i := 7) rfl)) d1_21 rfl ?_
  obtain ⟨rm_19, h_rm_19⟩ : ∃ z_, (nn_16 - (nn_16 / (10 : Int64)) * (10 : Int64)) = z_ := ⟨_, rfl⟩
  refine s_lrem (z := rm_19) 25 A S12 d1_24 (by decide) h_rm_19 rfl ?_
  obtain ⟨ri_20, h_ri_20⟩ : ∃ z_, ((rm_19).toInt32) = z_ := ⟨_, rfl⟩
  refine s_l2i (z := ri_20) 26 A S12 d1_25 h_ri_20 rfl ?_
  refine s_getS 29 A S12 (hw _ (List.mem_of_getElem? (i := 5) rfl)) sw d1_26 rfl fun T21 S22 => ?_
  refine s_iload 31 A S22 d1_29 rfl rfl ?_
  refine s_iald (v := (.int (1 : Int32))) 32 A S22 vw ⟨by decide, by decide⟩ rfl d1_31 rfl ?_
  obtain ⟨pr_23, h_pr_23⟩ : ∃ z_, (ri_20 * (1 : Int32)) = z_ := ⟨_, rfl⟩
  refine s_imul (z := pr_23) 33 A S22 d1_32 h_pr_23 rfl ?_
  obtain ⟨sm_24, h_sm_24⟩ : ∃ z_, (sm_14 + pr_23) = z_ := ⟨_, rfl⟩
  refine s_iadd (z := sm_24) 34 A S22 d1_33 h_sm_24 rfl ?_
  have us25a : rm_19.toInt = d5 := by rw [← h_rm_19, (c_lrem nn_16 10 10 rfl).1 (by omega)]; omega
  have us25b : ri_20.toInt = d5 := by rw [← h_ri_20, own_l2i (by omega) (by omega)]; exact us25a
  have us25c : pr_23.toInt = d5 * 1 := by rw [← h_pr_23, own_imulK (b := 1) rfl (by omega) (by omega), us25b]
  have us25 : sm_24.toInt = 0 + d7 * 7 + d6 * 3 + d5 * 1 := by rw [← h_sm_24, own_iadd (by rw [us15]; omega) (by rw [us15]; omega), us15, us25c]
  refine s_istore (Ls' := #[.val (.long q), .second, .val (.long nn_16), .second, .val (.int sm_24), .val (.int (5 : Int32))]) 36 A S22 d1_34 rfl rfl ?_
  refine s_lloadN 37 A S22 d1_36 rfl rfl ?_
  refine s_ldc2 40 A S22 (hw _ (List.mem_of_getElem? (i := 7) rfl)) d1_37 rfl ?_
  obtain ⟨nn_26, h_nn_26⟩ : ∃ z_, (nn_16 / (10 : Int64)) = z_ := ⟨_, rfl⟩
  refine s_ldiv (z := nn_26) 41 A S22 d1_40 (by decide) h_nn_26 rfl ?_
  have un27 : nn_26.toInt = A4 := by rw [← h_nn_26, (c_ldiv nn_16 10 10 rfl (by decide)).1 (by omega)]; omega
  refine s_lstoreN (Ls' := #[.val (.long q), .second, .val (.long nn_26), .second, .val (.int sm_24), .val (.int (5 : Int32))]) 42 A S22 d1_41 rfl rfl ?_
  refine s_iinc (z := (4 : Int32)) (Ls' := #[.val (.long q), .second, .val (.long nn_26), .second, .val (.int sm_24), .val (.int (4 : Int32))]) 45 A S22 d1_42 rfl (by decide) rfl rfl ?_
  refine s_goto 13 A S22 d1_45 (by decide) (by decide) ?_
  refine s_iload 15 A S22 d1_13 rfl rfl ?_
  refine s_iflt (xi := 4) 48 18 A S22 rfl d1_15 (by decide) (by decide) rfl (fun c28 => (by exact absurd c28 (by decide) : False).elim) (fun c28 => ?_)
  refine s_iload 20 A S22 d1_18 rfl rfl ?_
  refine s_lloadN 21 A S22 d1_20 rfl rfl ?_
  refine s_ldc2 24 A S22 (hw _ (List.mem_of_getElem? (i := 7) rfl)) d1_21 rfl ?_
  obtain ⟨rm_29, h_rm_29⟩ : ∃ z_, (nn_26 - (nn_26 / (10 : Int64)) * (10 : Int64)) = z_ := ⟨_, rfl⟩
  refine s_lrem (z := rm_29) 25 A S22 d1_24 (by decide) h_rm_29 rfl ?_
  obtain ⟨ri_30, h_ri_30⟩ : ∃ z_, ((rm_29).toInt32) = z_ := ⟨_, rfl⟩
  refine s_l2i (z := ri_30) 26 A S22 d1_25 h_ri_30 rfl ?_
  refine s_getS 29 A S22 (hw _ (List.mem_of_getElem? (i := 5) rfl)) sw d1_26 rfl fun T31 S32 => ?_
  refine s_iload 31 A S32 d1_29 rfl rfl ?_
  refine s_iald (v := (.int (7 : Int32))) 32 A S32 vw ⟨by decide, by decide⟩ rfl d1_31 rfl ?_
  obtain ⟨pr_33, h_pr_33⟩ : ∃ z_, (ri_30 * (7 : Int32)) = z_ := ⟨_, rfl⟩
  refine s_imul (z := pr_33) 33 A S32 d1_32 h_pr_33 rfl ?_
  obtain ⟨sm_34, h_sm_34⟩ : ∃ z_, (sm_24 + pr_33) = z_ := ⟨_, rfl⟩
  refine s_iadd (z := sm_34) 34 A S32 d1_33 h_sm_34 rfl ?_
  have us35a : rm_29.toInt = d4 := by rw [← h_rm_29, (c_lrem nn_26 10 10 rfl).1 (by omega)]; omega
  have us35b : ri_30.toInt = d4 := by rw [← h_ri_30, own_l2i (by omega) (by omega)]; exact us35a
  have us35c : pr_33.toInt = d4 * 7 := by rw [← h_pr_33, own_imulK (b := 7) rfl (by omega) (by omega), us35b]
  have us35 : sm_34.toInt = 0 + d7 * 7 + d6 * 3 + d5 * 1 + d4 * 7 := by rw [← h_sm_34, own_iadd (by rw [us25]; omega) (by rw [us25]; omega), us25, us35c]
  refine s_istore (Ls' := #[.val (.long q), .second, .val (.long nn_26), .second, .val (.int sm_34), .val (.int (4 : Int32))]) 36 A S32 d1_34 rfl rfl ?_
  refine s_lloadN 37 A S32 d1_36 rfl rfl ?_
  refine s_ldc2 40 A S32 (hw _ (List.mem_of_getElem? (i := 7) rfl)) d1_37 rfl ?_
  obtain ⟨nn_36, h_nn_36⟩ : ∃ z_, (nn_26 / (10 : Int64)) = z_ := ⟨_, rfl⟩
  refine s_ldiv (z := nn_36) 41 A S32 d1_40 (by decide) h_nn_36 rfl ?_
  have un37 : nn_36.toInt = A3 := by rw [← h_nn_36, (c_ldiv nn_26 10 10 rfl (by decide)).1 (by omega)]; omega
  refine s_lstoreN (Ls' := #[.val (.long q), .second, .val (.long nn_36), .second, .val (.int sm_34), .val (.int (4 : Int32))]) 42 A S32 d1_41 rfl rfl ?_
  refine s_iinc (z := (3 : Int32)) (Ls' := #[.val (.long q), .second, .val (.long nn_36), .second, .val (.int sm_34), .val (.int (3 : Int32))]) 45 A S32 d1_42 rfl (by decide) rfl rfl ?_
  refine s_goto 13 A S32 d1_45 (by decide) (by decide) ?_
  refine s_iload 15 A S32 d1_13 rfl rfl ?_
  refine s_iflt (xi := 3) 48 18 A S32 rfl d1_15 (by decide) (by decide) rfl (fun c38 => (by exact absurd c38 (by decide) : False).elim) (fun c38 => ?_)
  refine s_iload 20 A S32 d1_18 rfl rfl ?_
  refine s_lloadN 21 A S32 d1_20 rfl rfl ?_
  refine s_ldc2 24 A S32 (hw _ (List.mem_of_getElem? (i := 7) rfl)) d1_21 rfl ?_
  obtain ⟨rm_39, h_rm_39⟩ : ∃ z_, (nn_36 - (nn_36 / (10 : Int64)) * (10 : Int64)) = z_ := ⟨_, rfl⟩
  refine s_lrem (z := rm_39) 25 A S32 d1_24 (by decide) h_rm_39 rfl ?_
  obtain ⟨ri_40, h_ri_40⟩ : ∃ z_, ((rm_39).toInt32) = z_ := ⟨_, rfl⟩
  refine s_l2i (z := ri_40) 26 A S32 d1_25 h_ri_40 rfl ?_
  refine s_getS 29 A S32 (hw _ (List.mem_of_getElem? (i := 5) rfl)) sw d1_26 rfl fun T41 S42 => ?_
  refine s_iload 31 A S42 d1_29 rfl rfl ?_
  refine s_iald (v := (.int (3 : Int32))) 32 A S42 vw ⟨by decide, by decide⟩ rfl d1_31 rfl ?_
  obtain ⟨pr_43, h_pr_43⟩ : ∃ z_, (ri_40 * (3 : Int32)) = z_ := ⟨_, rfl⟩
  refine s_imul (z := pr_43) 33 A S42 d1_32 h_pr_43 rfl ?_
  obtain ⟨sm_44, h_sm_44⟩ : ∃ z_, (sm_34 + pr_43) = z_ := ⟨_, rfl⟩
  refine s_iadd (z := sm_44) 34 A S42 d1_33 h_sm_44 rfl ?_
  have us45a : rm_39.toInt = d3 := by rw [← h_rm_39, (c_lrem nn_36 10 10 rfl).1 (by omega)]; omega
  have us45b : ri_40.toInt = d3 := by rw [← h_ri_40, own_l2i (by omega) (by omega)]; exact us45a
  have us45c : pr_43.toInt = d3 * 3 := by rw [← h_pr_43, own_imulK (b := 3) rfl (by omega) (by omega), us45b]
  have us45 : sm_44.toInt = 0 + d7 * 7 + d6 * 3 + d5 * 1 + d4 * 7 + d3 * 3 := by rw [← h_sm_44, own_iadd (by rw [us35]; omega) (by rw [us35]; omega), us35, us45c]
  refine s_istore (Ls' := #[.val (.long q), .second, .val (.long nn_36), .second, .val (.int sm_44), .val (.int (3 : Int32))]) 36 A S42 d1_34 rfl rfl ?_
  refine s_lloadN 37 A S42 d1_36 rfl rfl ?_
  refine s_ldc2 40 A S42 (hw _ (List.mem_of_getElem? (i := 7) rfl)) d1_37 rfl ?_
  obtain ⟨nn_46, h_nn_46⟩ : ∃ z_, (nn_36 / (10 : Int64)) = z_ := ⟨_, rfl⟩
  refine s_ldiv (z := nn_46) 41 A S42 d1_40 (by decide) h_nn_46 rfl ?_
  have un47 : nn_46.toInt = A2 := by rw [← h_nn_46, (c_ldiv nn_36 10 10 rfl (by decide)).1 (by omega)]; omega
  refine s_lstoreN (Ls' := #[.val (.long q), .second, .val (.long nn_46), .second, .val (.int sm_44), .val (.int (3 : Int32))]) 42 A S42 d1_41 rfl rfl ?_
  refine s_iinc (z := (2 : Int32)) (Ls' := #[.val (.long q), .second, .val (.long nn_46), .second, .val (.int sm_44), .val (.int (2 : Int32))]) 45 A S42 d1_42 rfl (by decide) rfl rfl ?_
  refine s_goto 13 A S42 d1_45 (by decide) (by decide) ?_
  refine s_iload 15 A S42 d1_13 rfl rfl ?_
  refine s_iflt (xi := 2) 48 18 A S42 rfl d1_15 (by decide) (by decide) rfl (fun c48 => (by exact absurd c48 (by decide) : False).elim) (fun c48 => ?_)
  refine s_iload 20 A S42 d1_18 rfl rfl ?_
  refine s_lloadN 21 A S42 d1_20 rfl rfl ?_
  refine s_ldc2 24 A S42 (hw _ (List.mem_of_getElem? (i := 7) rfl)) d1_21 rfl ?_
  obtain ⟨rm_49, h_rm_49⟩ : ∃ z_, (nn_46 - (nn_46 / (10 : Int64)) * (10 : Int64)) = z_ := ⟨_, rfl⟩
  refine s_lrem (z := rm_49) 25 A S42 d1_24 (by decide) h_rm_49 rfl ?_
  obtain ⟨ri_50, h_ri_50⟩ : ∃ z_, ((rm_49).toInt32) = z_ := ⟨_, rfl⟩
  refine s_l2i (z := ri_50) 26 A S42 d1_25 h_ri_50 rfl ?_
  refine s_getS 29 A S42 (hw _ (List.mem_of_getElem? (i := 5) rfl)) sw d1_26 rfl fun T51 S52 => ?_
  refine s_iload 31 A S52 d1_29 rfl rfl ?_
  refine s_iald (v := (.int (1 : Int32))) 32 A S52 vw ⟨by decide, by decide⟩ rfl d1_31 rfl ?_
  obtain ⟨pr_53, h_pr_53⟩ : ∃ z_, (ri_50 * (1 : Int32)) = z_ := ⟨_, rfl⟩
  refine s_imul (z := pr_53) 33 A S52 d1_32 h_pr_53 rfl ?_
  obtain ⟨sm_54, h_sm_54⟩ : ∃ z_, (sm_44 + pr_53) = z_ := ⟨_, rfl⟩
  refine s_iadd (z := sm_54) 34 A S52 d1_33 h_sm_54 rfl ?_
  have us55a : rm_49.toInt = d2 := by rw [← h_rm_49, (c_lrem nn_46 10 10 rfl).1 (by omega)]; omega
  have us55b : ri_50.toInt = d2 := by rw [← h_ri_50, own_l2i (by omega) (by omega)]; exact us55a
  have us55c : pr_53.toInt = d2 * 1 := by rw [← h_pr_53, own_imulK (b := 1) rfl (by omega) (by omega), us55b]
  have us55 : sm_54.toInt = 0 + d7 * 7 + d6 * 3 + d5 * 1 + d4 * 7 + d3 * 3 + d2 * 1 := by rw [← h_sm_54, own_iadd (by rw [us45]; omega) (by rw [us45]; omega), us45, us55c]
  refine s_istore (Ls' := #[.val (.long q), .second, .val (.long nn_46), .second, .val (.int sm_54), .val (.int (2 : Int32))]) 36 A S52 d1_34 rfl rfl ?_
  refine s_lloadN 37 A S52 d1_36 rfl rfl ?_
  refine s_ldc2 40 A S52 (hw _ (List.mem_of_getElem? (i := 7) rfl)) d1_37 rfl ?_
  obtain ⟨nn_56, h_nn_56⟩ : ∃ z_, (nn_46 / (10 : Int64)) = z_ := ⟨_, rfl⟩
  refine s_ldiv (z := nn_56) 41 A S52 d1_40 (by decide) h_nn_56 rfl ?_
  have un57 : nn_56.toInt = A1 := by rw [← h_nn_56, (c_ldiv nn_46 10 10 rfl (by decide)).1 (by omega)]; omega
  refine s_lstoreN (Ls' := #[.val (.long q), .second, .val (.long nn_56), .second, .val (.int sm_54), .val (.int (2 : Int32))]) 42 A S52 d1_41 rfl rfl ?_
  refine s_iinc (z := (1 : Int32)) (Ls' := #[.val (.long q), .second, .val (.long nn_56), .second, .val (.int sm_54), .val (.int (1 : Int32))]) 45 A S52 d1_42 rfl (by decide) rfl rfl ?_
  refine s_goto 13 A S52 d1_45 (by decide) (by decide) ?_
  refine s_iload 15 A S52 d1_13 rfl rfl ?_
  refine s_iflt (xi := 1) 48 18 A S52 rfl d1_15 (by decide) (by decide) rfl (fun c58 => (by exact absurd c58 (by decide) : False).elim) (fun c58 => ?_)
  refine s_iload 20 A S52 d1_18 rfl rfl ?_
  refine s_lloadN 21 A S52 d1_20 rfl rfl ?_
  refine s_ldc2 24 A S52 (hw _ (List.mem_of_getElem? (i := 7) rfl)) d1_21 rfl ?_
  obtain ⟨rm_59, h_rm_59⟩ : ∃ z_, (nn_56 - (nn_56 / (10 : Int64)) * (10 : Int64)) = z_ := ⟨_, rfl⟩
  refine s_lrem (z := rm_59) 25 A S52 d1_24 (by decide) h_rm_59 rfl ?_
  obtain ⟨ri_60, h_ri_60⟩ : ∃ z_, ((rm_59).toInt32) = z_ := ⟨_, rfl⟩
  refine s_l2i (z := ri_60) 26 A S52 d1_25 h_ri_60 rfl ?_
  refine s_getS 29 A S52 (hw _ (List.mem_of_getElem? (i := 5) rfl)) sw d1_26 rfl fun T61 S62 => ?_
  refine s_iload 31 A S62 d1_29 rfl rfl ?_
  refine s_iald (v := (.int (7 : Int32))) 32 A S62 vw ⟨by decide, by decide⟩ rfl d1_31 rfl ?_
  obtain ⟨pr_63, h_pr_63⟩ : ∃ z_, (ri_60 * (7 : Int32)) = z_ := ⟨_, rfl⟩
  refine s_imul (z := pr_63) 33 A S62 d1_32 h_pr_63 rfl ?_
  obtain ⟨sm_64, h_sm_64⟩ : ∃ z_, (sm_54 + pr_63) = z_ := ⟨_, rfl⟩
  refine s_iadd (z := sm_64) 34 A S62 d1_33 h_sm_64 rfl ?_
  have us65a : rm_59.toInt = d1 := by rw [← h_rm_59, (c_lrem nn_56 10 10 rfl).1 (by omega)]; omega
  have us65b : ri_60.toInt = d1 := by rw [← h_ri_60, own_l2i (by omega) (by omega)]; exact us65a
  have us65c : pr_63.toInt = d1 * 7 := by rw [← h_pr_63, own_imulK (b := 7) rfl (by omega) (by omega), us65b]
  have us65 : sm_64.toInt = 0 + d7 * 7 + d6 * 3 + d5 * 1 + d4 * 7 + d3 * 3 + d2 * 1 + d1 * 7 := by rw [← h_sm_64, own_iadd (by rw [us55]; omega) (by rw [us55]; omega), us55, us65c]
  refine s_istore (Ls' := #[.val (.long q), .second, .val (.long nn_56), .second, .val (.int sm_64), .val (.int (1 : Int32))]) 36 A S62 d1_34 rfl rfl ?_
  refine s_lloadN 37 A S62 d1_36 rfl rfl ?_
  refine s_ldc2 40 A S62 (hw _ (List.mem_of_getElem? (i := 7) rfl)) d1_37 rfl ?_
  obtain ⟨nn_66, h_nn_66⟩ : ∃ z_, (nn_56 / (10 : Int64)) = z_ := ⟨_, rfl⟩
  refine s_ldiv (z := nn_66) 41 A S62 d1_40 (by decide) h_nn_66 rfl ?_
  have un67 : nn_66.toInt = d0 := by rw [← h_nn_66, (c_ldiv nn_56 10 10 rfl (by decide)).1 (by omega)]; omega
  refine s_lstoreN (Ls' := #[.val (.long q), .second, .val (.long nn_66), .second, .val (.int sm_64), .val (.int (1 : Int32))]) 42 A S62 d1_41 rfl rfl ?_
  refine s_iinc (z := (0 : Int32)) (Ls' := #[.val (.long q), .second, .val (.long nn_66), .second, .val (.int sm_64), .val (.int (0 : Int32))]) 45 A S62 d1_42 rfl (by decide) rfl rfl ?_
  refine s_goto 13 A S62 d1_45 (by decide) (by decide) ?_
  refine s_iload 15 A S62 d1_13 rfl rfl ?_
  refine s_iflt (xi := 0) 48 18 A S62 rfl d1_15 (by decide) (by decide) rfl (fun c68 => (by exact absurd c68 (by decide) : False).elim) (fun c68 => ?_)
  refine s_iload 20 A S62 d1_18 rfl rfl ?_
  refine s_lloadN 21 A S62 d1_20 rfl rfl ?_
  refine s_ldc2 24 A S62 (hw _ (List.mem_of_getElem? (i := 7) rfl)) d1_21 rfl ?_
  obtain ⟨rm_69, h_rm_69⟩ : ∃ z_, (nn_66 - (nn_66 / (10 : Int64)) * (10 : Int64)) = z_ := ⟨_, rfl⟩
  refine s_lrem (z := rm_69) 25 A S62 d1_24 (by decide) h_rm_69 rfl ?_
  obtain ⟨ri_70, h_ri_70⟩ : ∃ z_, ((rm_69).toInt32) = z_ := ⟨_, rfl⟩
  refine s_l2i (z := ri_70) 26 A S62 d1_25 h_ri_70 rfl ?_
  refine s_getS 29 A S62 (hw _ (List.mem_of_getElem? (i := 5) rfl)) sw d1_26 rfl fun T71 S72 => ?_
  refine s_iload 31 A S72 d1_29 rfl rfl ?_
  refine s_iald (v := (.int (3 : Int32))) 32 A S72 vw ⟨by decide, by decide⟩ rfl d1_31 rfl ?_
  obtain ⟨pr_73, h_pr_73⟩ : ∃ z_, (ri_70 * (3 : Int32)) = z_ := ⟨_, rfl⟩
  refine s_imul (z := pr_73) 33 A S72 d1_32 h_pr_73 rfl ?_
  obtain ⟨sm_74, h_sm_74⟩ : ∃ z_, (sm_64 + pr_73) = z_ := ⟨_, rfl⟩
  refine s_iadd (z := sm_74) 34 A S72 d1_33 h_sm_74 rfl ?_
  have us75a : rm_69.toInt = d0 := by rw [← h_rm_69, (c_lrem nn_66 10 10 rfl).1 (by omega)]; omega
  have us75b : ri_70.toInt = d0 := by rw [← h_ri_70, own_l2i (by omega) (by omega)]; exact us75a
  have us75c : pr_73.toInt = d0 * 3 := by rw [← h_pr_73, own_imulK (b := 3) rfl (by omega) (by omega), us75b]
  have us75 : sm_74.toInt = 0 + d7 * 7 + d6 * 3 + d5 * 1 + d4 * 7 + d3 * 3 + d2 * 1 + d1 * 7 + d0 * 3 := by rw [← h_sm_74, own_iadd (by rw [us65]; omega) (by rw [us65]; omega), us65, us75c]
  refine s_istore (Ls' := #[.val (.long q), .second, .val (.long nn_66), .second, .val (.int sm_74), .val (.int (0 : Int32))]) 36 A S72 d1_34 rfl rfl ?_
  refine s_lloadN 37 A S72 d1_36 rfl rfl ?_
  refine s_ldc2 40 A S72 (hw _ (List.mem_of_getElem? (i := 7) rfl)) d1_37 rfl ?_
  obtain ⟨nn_76, h_nn_76⟩ : ∃ z_, (nn_66 / (10 : Int64)) = z_ := ⟨_, rfl⟩
  refine s_ldiv (z := nn_76) 41 A S72 d1_40 (by decide) h_nn_76 rfl ?_
  have un77 : nn_76.toInt = 0 := by rw [← h_nn_76, (c_ldiv nn_66 10 10 rfl (by decide)).1 (by omega)]; omega
  refine s_lstoreN (Ls' := #[.val (.long q), .second, .val (.long nn_76), .second, .val (.int sm_74), .val (.int (0 : Int32))]) 42 A S72 d1_41 rfl rfl ?_
  refine s_iinc (z := (-1 : Int32)) (Ls' := #[.val (.long q), .second, .val (.long nn_76), .second, .val (.int sm_74), .val (.int (-1 : Int32))]) 45 A S72 d1_42 rfl (by decide) rfl rfl ?_
  refine s_goto 13 A S72 d1_45 (by decide) (by decide) ?_
  refine s_iload 15 A S72 d1_13 rfl rfl ?_
  refine s_iflt (xi := -1) 48 18 A S72 rfl d1_15 (by decide) (by decide) rfl (fun c78 => ?_) (fun c78 => (by exact absurd c78 (by decide) : False).elim)
  refine s_bipush (z := (10 : Int32)) 50 A S72 d1_48 rfl rfl ?_
  refine s_iload 52 A S72 d1_50 rfl rfl ?_
  refine s_bipush (z := (10 : Int32)) 54 A S72 d1_52 rfl rfl ?_
  obtain ⟨x1, h_x1⟩ : ∃ z_, (sm_74 % (10 : Int32)) = z_ := ⟨_, rfl⟩
  refine s_irem (z := x1) 55 A S72 d1_54 (by decide) h_x1 rfl ?_
  obtain ⟨x2, h_x2⟩ : ∃ z_, ((10 : Int32) - x1) = z_ := ⟨_, rfl⟩
  refine s_isub (z := x2) 56 A S72 d1_55 h_x2 rfl ?_
  refine s_bipush (z := (10 : Int32)) 58 A S72 d1_56 rfl rfl ?_
  obtain ⟨x3, h_x3⟩ : ∃ z_, (x2 % (10 : Int32)) = z_ := ⟨_, rfl⟩
  refine s_irem (z := x3) 59 A S72 d1_58 (by decide) h_x3 rfl ?_
  have y1 : x1.toInt = sm_74.toInt % 10 := by rw [← h_x1, (c_irem sm_74 10 10 rfl).1 (by omega)]
  have y2 : x2.toInt = 10 - x1.toInt := by rw [← h_x2, own_isubL (a := 10) rfl (by omega) (by omega)]
  have y3 : x3.toInt = x2.toInt % 10 := by rw [← h_x3, (c_irem x2 10 10 rfl).1 (by omega)]
  exact s_retI A S72 d1_59 (by decide) (by decide) ⟨⟨_, rfl, by omega⟩, rfl⟩
theorem pn_0 : plainFor (⟨"com/example/cuadre/cuadre/format/CheckDigitOfPinLaw", "law", "(I)Z"⟩ : MethodName) = true := plainFor_of_name (by first | (simp [plainName, overriddenIn]; done) | decide +kernel)
theorem ef_0 (m : MethodId) (x0 : Int32) : entryFrame m #[(.int x0)] maxLocals = mkF m 0 #[.val (.int x0), .unset, .unset, .unset, .unset, .unset, .unset, .unset, .unset, .unset, .unset, .unset, .unset] [] := by first | (simp [entryFrame, mkF, argsToLocals, Value.category, maxLocals]; done) | rfl
set_option maxRecDepth 65536 in
set_option maxHeartbeats 40000000 in
theorem rm0 (l : Launch) (Z : State) (a0 : Array Value) (hw : ∀ d ∈ tables_1, d.before a0 Z = true) (ws : List Jvm.Cond) (i0 : Int32) (aw : Addr) (kw : ClassId) (h0 : Heap) (n0 : Nat) (Z0 : n0 ≤ h0.size) (sw : Sta Z h0 "com/example/cuadre/cuadre/format/CheckDigit" "WEIGHTS" "[I" (.ref aw)) (vw : Arv Z h0 aw kw .int (8 : Int32) [(.int (3 : Int32)), (.int (7 : Int32)), (.int (1 : Int32)), (.int (3 : Int32)), (.int (7 : Int32)), (.int (1 : Int32)), (.int (3 : Int32)), (.int (7 : Int32))] (.int 0)) :
    own_C l Z x code maxLocals ret room_1 n0 ws #[(.int i0)] h0 (fun v h' => v = some (.int 1)) := by
  refine own_C.of pn_0 Z0 ?_
  intro p e s m below meth c T A S
  rw [ef_0]
  refine s_iloadN 1 A S at_0 rfl rfl ?_
  refine s_bipush (z := (28 : Int32)) 3 A S at_1 rfl rfl ?_
  refine s_iushr (z := (own_ushr i0 (28 : Int32))) 4 A S at_3 rfl rfl ?_
  refine s_bipush (z := (15 : Int32)) 6 A S at_4 rfl rfl ?_
  refine s_iand (z := ((own_ushr i0 (28 : Int32)) &&& (15 : Int32))) 7 A S at_6 rfl rfl ?_
  refine s_bipush (z := (10 : Int32)) 9 A S at_7 rfl rfl ?_
  obtain ⟨e0, h_e0⟩ : ∃ z_, (((own_ushr i0 (28 : Int32)) &&& (15 : Int32)) % (10 : Int32)) = z_ := ⟨_, rfl⟩
  refine s_irem (z := e0) 10 A S at_9 (by decide) h_e0 rfl ?_
  have b0 := own_dig (own_ushr i0 (28 : Int32))
  rw [h_e0] at b0
  refine s_istoreN (Ls' := #[.val (.int i0), .val (.int e0), .unset, .unset, .unset, .unset, .unset, .unset, .unset, .unset, .unset, .unset, .unset]) 11 A S at_10 rfl rfl ?_
  refine s_iloadN 12 A S at_11 rfl rfl ?_
  refine s_bipush (z := (24 : Int32)) 14 A S at_12 rfl rfl ?_
  refine s_iushr (z := (own_ushr i0 (24 : Int32))) 15 A S at_14 rfl rfl ?_
  refine s_bipush (z := (15 : Int32)) 17 A S at_15 rfl rfl ?_
  refine s_iand (z := ((own_ushr i0 (24 : Int32)) &&& (15 : Int32))) 18 A S at_17 rfl rfl ?_
  refine s_bipush (z := (10 : Int32)) 20 A S at_18 rfl rfl ?_
  obtain ⟨e1, h_e1⟩ : ∃ z_, (((own_ushr i0 (24 : Int32)) &&& (15 : Int32)) % (10 : Int32)) = z_ := ⟨_, rfl⟩
  refine s_irem (z := e1) 21 A S at_20 (by decide) h_e1 rfl ?_
  have b1 := own_dig (own_ushr i0 (24 : Int32))
  rw [h_e1] at b1
  refine s_istoreN (Ls' := #[.val (.int i0), .val (.int e0), .val (.int e1), .unset, .unset, .unset, .unset, .unset, .unset, .unset, .unset, .unset, .unset]) 22 A S at_21 rfl rfl ?_
  refine s_iloadN 23 A S at_22 rfl rfl ?_
  refine s_bipush (z := (20 : Int32)) 25 A S at_23 rfl rfl ?_
  refine s_iushr (z := (own_ushr i0 (20 : Int32))) 26 A S at_25 rfl rfl ?_
  refine s_bipush (z := (15 : Int32)) 28 A S at_26 rfl rfl ?_
  refine s_iand (z := ((own_ushr i0 (20 : Int32)) &&& (15 : Int32))) 29 A S at_28 rfl rfl ?_
  refine s_bipush (z := (10 : Int32)) 31 A S at_29 rfl rfl ?_
  obtain ⟨e2, h_e2⟩ : ∃ z_, (((own_ushr i0 (20 : Int32)) &&& (15 : Int32)) % (10 : Int32)) = z_ := ⟨_, rfl⟩
  refine s_irem (z := e2) 32 A S at_31 (by decide) h_e2 rfl ?_
  have b2 := own_dig (own_ushr i0 (20 : Int32))
  rw [h_e2] at b2
  refine s_istoreN (Ls' := #[.val (.int i0), .val (.int e0), .val (.int e1), .val (.int e2), .unset, .unset, .unset, .unset, .unset, .unset, .unset, .unset, .unset]) 33 A S at_32 rfl rfl ?_
  refine s_iloadN 34 A S at_33 rfl rfl ?_
  refine s_bipush (z := (16 : Int32)) 36 A S at_34 rfl rfl ?_
  refine s_iushr (z := (own_ushr i0 (16 : Int32))) 37 A S at_36 rfl rfl ?_
  refine s_bipush (z := (15 : Int32)) 39 A S at_37 rfl rfl ?_
  refine s_iand (z := ((own_ushr i0 (16 : Int32)) &&& (15 : Int32))) 40 A S at_39 rfl rfl ?_
  refine s_bipush (z := (10 : Int32)) 42 A S at_40 rfl rfl ?_
  obtain ⟨e3, h_e3⟩ : ∃ z_, (((own_ushr i0 (16 : Int32)) &&& (15 : Int32)) % (10 : Int32)) = z_ := ⟨_, rfl⟩
  refine s_irem (z := e3) 43 A S at_42 (by decide) h_e3 rfl ?_
  have b3 := own_dig (own_ushr i0 (16 : Int32))
  rw [h_e3] at b3
  refine s_istore (Ls' := #[.val (.int i0), .val (.int e0), .val (.int e1), .val (.int e2), .val (.int e3), .unset, .unset, .unset, .unset, .unset, .unset, .unset, .unset]) 45 A S at_43 rfl rfl ?_
  refine s_iloadN 46 A S at_45 rfl rfl ?_
  refine s_bipush (z := (12 : Int32)) 48 A S at_46 rfl rfl ?_
  refine s_iushr (z := (own_ushr i0 (12 : Int32))) 49 A S at_48 rfl rfl ?_
  refine s_bipush (z := (15 : Int32)) 51 A S at_49 rfl rfl ?_
  refine s_iand (z := ((own_ushr i0 (12 : Int32)) &&& (15 : Int32))) 52 A S at_51 rfl rfl ?_
  refine s_bipush (z := (10 : Int32)) 54 A S at_52 rfl rfl ?_
  obtain ⟨e4, h_e4⟩ : ∃ z_, (((own_ushr i0 (12 : Int32)) &&& (15 : Int32)) % (10 : Int32)) = z_ := ⟨_, rfl⟩
  refine s_irem (z := e4) 55 A S at_54 (by decide) h_e4 rfl ?_
  have b4 := own_dig (own_ushr i0 (12 : Int32))
  rw [h_e4] at b4
  refine s_istore (Ls' := #[.val (.int i0), .val (.int e0), .val (.int e1), .val (.int e2), .val (.int e3), .val (.int e4), .unset, .unset, .unset, .unset, .unset, .unset, .unset]) 57 A S at_55 rfl rfl ?_
  refine s_iloadN 58 A S at_57 rfl rfl ?_
  refine s_bipush (z := (8 : Int32)) 60 A S at_58 rfl rfl ?_
  refine s_iushr (z := (own_ushr i0 (8 : Int32))) 61 A S at_60 rfl rfl ?_
  refine s_bipush (z := (15 : Int32)) 63 A S at_61 rfl rfl ?_
  refine s_iand (z := ((own_ushr i0 (8 : Int32)) &&& (15 : Int32))) 64 A S at_63 rfl rfl ?_
  refine s_bipush (z := (10 : Int32)) 66 A S at_64 rfl rfl ?_
  obtain ⟨e5, h_e5⟩ : ∃ z_, (((own_ushr i0 (8 : Int32)) &&& (15 : Int32)) % (10 : Int32)) = z_ := ⟨_, rfl⟩
  refine s_irem (z := e5) 67 A S at_66 (by decide) h_e5 rfl ?_
  have b5 := own_dig (own_ushr i0 (8 : Int32))
  rw [h_e5] at b5
  refine s_istore (Ls' := #[.val (.int i0), .val (.int e0), .val (.int e1), .val (.int e2), .val (.int e3), .val (.int e4), .val (.int e5), .unset, .unset, .unset, .unset, .unset, .unset]) 69 A S at_67 rfl rfl ?_
  refine s_iloadN 70 A S at_69 rfl rfl ?_
  refine s_iconst (z := (4 : Int32)) 71 A S at_70 rfl rfl ?_
  refine s_iushr (z := (own_ushr i0 (4 : Int32))) 72 A S at_71 rfl rfl ?_
  refine s_bipush (z := (15 : Int32)) 74 A S at_72 rfl rfl ?_
  refine s_iand (z := ((own_ushr i0 (4 : Int32)) &&& (15 : Int32))) 75 A S at_74 rfl rfl ?_
  refine s_bipush (z := (10 : Int32)) 77 A S at_75 rfl rfl ?_
  obtain ⟨e6, h_e6⟩ : ∃ z_, (((own_ushr i0 (4 : Int32)) &&& (15 : Int32)) % (10 : Int32)) = z_ := ⟨_, rfl⟩
  refine s_irem (z := e6) 78 A S at_77 (by decide) h_e6 rfl ?_
  have b6 := own_dig (own_ushr i0 (4 : Int32))
  rw [h_e6] at b6
  refine s_istore (Ls' := #[.val (.int i0), .val (.int e0), .val (.int e1), .val (.int e2), .val (.int e3), .val (.int e4), .val (.int e5), .val (.int e6), .unset, .unset, .unset, .unset, .unset]) 80 A S at_78 rfl rfl ?_
  refine s_iloadN 81 A S at_80 rfl rfl ?_
  refine s_bipush (z := (15 : Int32)) 83 A S at_81 rfl rfl ?_
  refine s_iand (z := (i0 &&& (15 : Int32))) 84 A S at_83 rfl rfl ?_
  refine s_bipush (z := (10 : Int32)) 86 A S at_84 rfl rfl ?_
  obtain ⟨e7, h_e7⟩ : ∃ z_, ((i0 &&& (15 : Int32)) % (10 : Int32)) = z_ := ⟨_, rfl⟩
  refine s_irem (z := e7) 87 A S at_86 (by decide) h_e7 rfl ?_
  have b7 := own_dig i0
  rw [h_e7] at b7
  refine s_istore (Ls' := #[.val (.int i0), .val (.int e0), .val (.int e1), .val (.int e2), .val (.int e3), .val (.int e4), .val (.int e5), .val (.int e6), .val (.int e7), .unset, .unset, .unset, .unset]) 89 A S at_87 rfl rfl ?_
  refine s_iloadN 90 A S at_89 rfl rfl ?_
  obtain ⟨k0, h_k0⟩ : ∃ z_, ((e0).toInt64) = z_ := ⟨_, rfl⟩
  refine s_i2l (z := k0) 91 A S at_90 h_k0 rfl ?_
  have t0 : k0.toInt = e0.toInt := by rw [← h_k0, c_i2l]
  refine s_lstore (Ls' := #[.val (.int i0), .val (.int e0), .val (.int e1), .val (.int e2), .val (.int e3), .val (.int e4), .val (.int e5), .val (.int e6), .val (.int e7), .val (.long k0), .second, .unset, .unset]) 93 A S at_91 rfl rfl ?_
  refine s_lload 95 A S at_93 rfl rfl ?_
  refine s_ldc2 98 A S (hw _ (List.mem_of_getElem? (i := 0) rfl)) at_95 rfl ?_
  refine s_lmul (z := (k0 * (10 : Int64))) 99 A S at_98 rfl rfl ?_
  refine s_iloadN 100 A S at_99 rfl rfl ?_
  refine s_i2l (z := ((e1).toInt64)) 101 A S at_100 rfl rfl ?_
  obtain ⟨k1, h_k1⟩ : ∃ z_, ((k0 * (10 : Int64)) + ((e1).toInt64)) = z_ := ⟨_, rfl⟩
  refine s_ladd (z := k1) 102 A S at_101 h_k1 rfl ?_
  have t1 : k1.toInt = 10 * k0.toInt + e1.toInt := by rw [← h_k1]; exact own_step (by omega) (by omega) b1
  refine s_lstore (Ls' := #[.val (.int i0), .val (.int e0), .val (.int e1), .val (.int e2), .val (.int e3), .val (.int e4), .val (.int e5), .val (.int e6), .val (.int e7), .val (.long k1), .second, .unset, .unset]) 104 A S at_102 rfl rfl ?_
  refine s_lload 106 A S at_104 rfl rfl ?_
  refine s_ldc2 109 A S (hw _ (List.mem_of_getElem? (i := 0) rfl)) at_106 rfl ?_
  refine s_lmul (z := (k1 * (10 : Int64))) 110 A S at_109 rfl rfl ?_
  refine s_iloadN 111 A S at_110 rfl rfl ?_
  refine s_i2l (z := ((e2).toInt64)) 112 A S at_111 rfl rfl ?_
  obtain ⟨k2, h_k2⟩ : ∃ z_, ((k1 * (10 : Int64)) + ((e2).toInt64)) = z_ := ⟨_, rfl⟩
  refine s_ladd (z := k2) 113 A S at_112 h_k2 rfl ?_
  have t2 : k2.toInt = 10 * k1.toInt + e2.toInt := by rw [← h_k2]; exact own_step (by omega) (by omega) b2
  refine s_lstore (Ls' := #[.val (.int i0), .val (.int e0), .val (.int e1), .val (.int e2), .val (.int e3), .val (.int e4), .val (.int e5), .val (.int e6), .val (.int e7), .val (.long k2), .second, .unset, .unset]) 115 A S at_113 rfl rfl ?_
  refine s_lload 117 A S at_115 rfl rfl ?_
  refine s_ldc2 120 A S (hw _ (List.mem_of_getElem? (i := 0) rfl)) at_117 rfl ?_
  refine s_lmul (z := (k2 * (10 : Int64))) 121 A S at_120 rfl rfl ?_
  refine s_iload 123 A S at_121 rfl rfl ?_
  refine s_i2l (z := ((e3).toInt64)) 124 A S at_123 rfl rfl ?_
  obtain ⟨k3, h_k3⟩ : ∃ z_, ((k2 * (10 : Int64)) + ((e3).toInt64)) = z_ := ⟨_, rfl⟩
  refine s_ladd (z := k3) 125 A S at_124 h_k3 rfl ?_
  have t3 : k3.toInt = 10 * k2.toInt + e3.toInt := by rw [← h_k3]; exact own_step (by omega) (by omega) b3
  refine s_lstore (Ls' := #[.val (.int i0), .val (.int e0), .val (.int e1), .val (.int e2), .val (.int e3), .val (.int e4), .val (.int e5), .val (.int e6), .val (.int e7), .val (.long k3), .second, .unset, .unset]) 127 A S at_125 rfl rfl ?_
  refine s_lload 129 A S at_127 rfl rfl ?_
  refine s_ldc2 132 A S (hw _ (List.mem_of_getElem? (i := 0) rfl)) at_129 rfl ?_
  refine s_lmul (z := (k3 * (10 : Int64))) 133 A S at_132 rfl rfl ?_
  refine s_iload 135 A S at_133 rfl rfl ?_
  refine s_i2l (z := ((e4).toInt64)) 136 A S at_135 rfl rfl ?_
  obtain ⟨k4, h_k4⟩ : ∃ z_, ((k3 * (10 : Int64)) + ((e4).toInt64)) = z_ := ⟨_, rfl⟩
  refine s_ladd (z := k4) 137 A S at_136 h_k4 rfl ?_
  have t4 : k4.toInt = 10 * k3.toInt + e4.toInt := by rw [← h_k4]; exact own_step (by omega) (by omega) b4
  refine s_lstore (Ls' := #[.val (.int i0), .val (.int e0), .val (.int e1), .val (.int e2), .val (.int e3), .val (.int e4), .val (.int e5), .val (.int e6), .val (.int e7), .val (.long k4), .second, .unset, .unset]) 139 A S at_137 rfl rfl ?_
  refine s_lload 141 A S at_139 rfl rfl ?_
  refine s_ldc2 144 A S (hw _ (List.mem_of_getElem? (i := 0) rfl)) at_141 rfl ?_
  refine s_lmul (z := (k4 * (10 : Int64))) 145 A S at_144 rfl rfl ?_
  refine s_iload 147 A S at_145 rfl rfl ?_
  refine s_i2l (z := ((e5).toInt64)) 148 A S at_147 rfl rfl ?_
  obtain ⟨k5, h_k5⟩ : ∃ z_, ((k4 * (10 : Int64)) + ((e5).toInt64)) = z_ := ⟨_, rfl⟩
  refine s_ladd (z := k5) 149 A S at_148 h_k5 rfl ?_
  have t5 : k5.toInt = 10 * k4.toInt + e5.toInt := by rw [← h_k5]; exact own_step (by omega) (by omega) b5
  refine s_lstore (Ls' := #[.val (.int i0), .val (.int e0), .val (.int e1), .val (.int e2), .val (.int e3), .val (.int e4), .val (.int e5), .val (.int e6), .val (.int e7), .val (.long k5), .second, .unset, .unset]) 151 A S at_149 rfl rfl ?_
  refine s_lload 153 A S at_151 rfl rfl ?_
  refine s_ldc2 156 A S (hw _ (List.mem_of_getElem? (i := 0) rfl)) at_153 rfl ?_
  refine s_lmul (z := (k5 * (10 : Int64))) 157 A S at_156 rfl rfl ?_
  refine s_iload 159 A S at_157 rfl rfl ?_
  refine s_i2l (z := ((e6).toInt64)) 160 A S at_159 rfl rfl ?_
  obtain ⟨k6, h_k6⟩ : ∃ z_, ((k5 * (10 : Int64)) + ((e6).toInt64)) = z_ := ⟨_, rfl⟩
  refine s_ladd (z := k6) 161 A S at_160 h_k6 rfl ?_
  have t6 : k6.toInt = 10 * k5.toInt + e6.toInt := by rw [← h_k6]; exact own_step (by omega) (by omega) b6
  refine s_lstore (Ls' := #[.val (.int i0), .val (.int e0), .val (.int e1), .val (.int e2), .val (.int e3), .val (.int e4), .val (.int e5), .val (.int e6), .val (.int e7), .val (.long k6), .second, .unset, .unset]) 163 A S at_161 rfl rfl ?_
  refine s_lload 165 A S at_163 rfl rfl ?_
  refine s_ldc2 168 A S (hw _ (List.mem_of_getElem? (i := 0) rfl)) at_165 rfl ?_
  refine s_lmul (z := (k6 * (10 : Int64))) 169 A S at_168 rfl rfl ?_
  refine s_iload 171 A S at_169 rfl rfl ?_
  refine s_i2l (z := ((e7).toInt64)) 172 A S at_171 rfl rfl ?_
  obtain ⟨k7, h_k7⟩ : ∃ z_, ((k6 * (10 : Int64)) + ((e7).toInt64)) = z_ := ⟨_, rfl⟩
  refine s_ladd (z := k7) 173 A S at_172 h_k7 rfl ?_
  have t7 : k7.toInt = 10 * k6.toInt + e7.toInt := by rw [← h_k7]; exact own_step (by omega) (by omega) b7
  refine s_lstore (Ls' := #[.val (.int i0), .val (.int e0), .val (.int e1), .val (.int e2), .val (.int e3), .val (.int e4), .val (.int e5), .val (.int e6), .val (.int e7), .val (.long k7), .second, .unset, .unset]) 175 A S at_173 rfl rfl ?_
  refine s_lload 177 A S at_175 rfl rfl ?_
  refine s_callS (y := (⟨"com/example/cuadre/cuadre/format/CheckDigit", "of", "(J)I"⟩ : MethodName)) (argsL := [(.long k7)]) (rest := []) 180 A S (hw _ (List.mem_of_getElem? (i := 1) rfl)) (hw _ (List.mem_of_getElem? (i := 2) rfl)) (hw _ (List.mem_of_getElem? (i := 3) rfl)) (hw _ (List.mem_of_getElem? (i := 4) rfl)) (rm1 l Z a0 hw [] aw kw k7 k1.toInt k2.toInt k3.toInt k4.toInt k5.toInt k6.toInt k7.toInt e0.toInt e1.toInt e2.toInt e3.toInt e4.toInt e5.toInt e6.toInt e7.toInt h0 n0 Z0 sw vw rfl (by rw [t1, t0]) t2 t3 t4 t5 t6 t7 b0 b1 b2 b3 b4 b5 b6 b7) (lenOf pd__J_I rfl) at_177 rfl rfl rfl (by decide) (by decide) (Nat.le_of_ble_eq_true rfl) (by decide) (by decide) fun T1 h3 v4 q5 S2 => ?_
  obtain ⟨⟨zz, rfl, hzz⟩, ee⟩ := q5
  rw [ee] at S2
  show own_G _ _ _ _ _ _ _ _ _ (mkF m 180 #[.val (.int i0), .val (.int e0), .val (.int e1), .val (.int e2), .val (.int e3), .val (.int e4), .val (.int e5), .val (.int e6), .val (.int e7), .val (.long k7), .second, .unset, .unset] [(.int zz)])
  refine s_istore (Ls' := #[.val (.int i0), .val (.int e0), .val (.int e1), .val (.int e2), .val (.int e3), .val (.int e4), .val (.int e5), .val (.int e6), .val (.int e7), .val (.long k7), .second, .val (.int zz), .unset]) 182 A S2 at_180 rfl rfl ?_
  refine s_iload 184 A S2 at_182 rfl rfl ?_
  refine s_iflt 194 187 A S2 rfl at_184 (by decide) (by decide) rfl (fun c6 => (by omega : False).elim) (fun c6 => ?_)
  refine s_iload 189 A S2 at_187 rfl rfl ?_
  refine s_bipush (z := (9 : Int32)) 191 A S2 at_189 rfl rfl ?_
  refine s_ile (yi := 9) 196 194 A S2 rfl rfl at_191 (by decide) (by decide) rfl (fun c7 => ?_) (fun c7 => (by omega : False).elim)
  refine s_iconst (z := (3 : Int32)) 197 A S2 at_196 rfl rfl ?_
  refine s_iloadN 198 A S2 at_197 rfl rfl ?_
  obtain ⟨p0, h_p0⟩ : ∃ z_, ((3 : Int32) * e0) = z_ := ⟨_, rfl⟩
  refine s_imul (z := p0) 199 A S2 at_198 h_p0 rfl ?_
  have v0 : p0.toInt = 3 * e0.toInt := by rw [← h_p0, own_imulL (a := 3) rfl (by omega) (by omega)]
  refine s_bipush (z := (7 : Int32)) 201 A S2 at_199 rfl rfl ?_
  refine s_iloadN 202 A S2 at_201 rfl rfl ?_
  obtain ⟨p1, h_p1⟩ : ∃ z_, ((7 : Int32) * e1) = z_ := ⟨_, rfl⟩
  refine s_imul (z := p1) 203 A S2 at_202 h_p1 rfl ?_
  have v1 : p1.toInt = 7 * e1.toInt := by rw [← h_p1, own_imulL (a := 7) rfl (by omega) (by omega)]
  obtain ⟨s0, h_s0⟩ : ∃ z_, (p0 + p1) = z_ := ⟨_, rfl⟩
  refine s_iadd (z := s0) 204 A S2 at_203 h_s0 rfl ?_
  have w0 : s0.toInt = p0.toInt + p1.toInt := by rw [← h_s0]; exact own_iadd (by omega) (by omega)
  refine s_iloadN 205 A S2 at_204 rfl rfl ?_
  obtain ⟨s1, h_s1⟩ : ∃ z_, (s0 + e2) = z_ := ⟨_, rfl⟩
  refine s_iadd (z := s1) 206 A S2 at_205 h_s1 rfl ?_
  have w1 : s1.toInt = s0.toInt + e2.toInt := by rw [← h_s1]; exact own_iadd (by omega) (by omega)
  refine s_iconst (z := (3 : Int32)) 207 A S2 at_206 rfl rfl ?_
  refine s_iload 209 A S2 at_207 rfl rfl ?_
  obtain ⟨p2, h_p2⟩ : ∃ z_, ((3 : Int32) * e3) = z_ := ⟨_, rfl⟩
  refine s_imul (z := p2) 210 A S2 at_209 h_p2 rfl ?_
  have v2 : p2.toInt = 3 * e3.toInt := by rw [← h_p2, own_imulL (a := 3) rfl (by omega) (by omega)]
  obtain ⟨s2, h_s2⟩ : ∃ z_, (s1 + p2) = z_ := ⟨_, rfl⟩
  refine s_iadd (z := s2) 211 A S2 at_210 h_s2 rfl ?_
  have w2 : s2.toInt = s1.toInt + p2.toInt := by rw [← h_s2]; exact own_iadd (by omega) (by omega)
  refine s_bipush (z := (7 : Int32)) 213 A S2 at_211 rfl rfl ?_
  refine s_iload 215 A S2 at_213 rfl rfl ?_
  obtain ⟨p3, h_p3⟩ : ∃ z_, ((7 : Int32) * e4) = z_ := ⟨_, rfl⟩
  refine s_imul (z := p3) 216 A S2 at_215 h_p3 rfl ?_
  have v3 : p3.toInt = 7 * e4.toInt := by rw [← h_p3, own_imulL (a := 7) rfl (by omega) (by omega)]
  obtain ⟨s3, h_s3⟩ : ∃ z_, (s2 + p3) = z_ := ⟨_, rfl⟩
  refine s_iadd (z := s3) 217 A S2 at_216 h_s3 rfl ?_
  have w3 : s3.toInt = s2.toInt + p3.toInt := by rw [← h_s3]; exact own_iadd (by omega) (by omega)
  refine s_iload 219 A S2 at_217 rfl rfl ?_
  obtain ⟨s4, h_s4⟩ : ∃ z_, (s3 + e5) = z_ := ⟨_, rfl⟩
  refine s_iadd (z := s4) 220 A S2 at_219 h_s4 rfl ?_
  have w4 : s4.toInt = s3.toInt + e5.toInt := by rw [← h_s4]; exact own_iadd (by omega) (by omega)
  refine s_iconst (z := (3 : Int32)) 221 A S2 at_220 rfl rfl ?_
  refine s_iload 223 A S2 at_221 rfl rfl ?_
  obtain ⟨p4, h_p4⟩ : ∃ z_, ((3 : Int32) * e6) = z_ := ⟨_, rfl⟩
  refine s_imul (z := p4) 224 A S2 at_223 h_p4 rfl ?_
  have v4 : p4.toInt = 3 * e6.toInt := by rw [← h_p4, own_imulL (a := 3) rfl (by omega) (by omega)]
  obtain ⟨s5, h_s5⟩ : ∃ z_, (s4 + p4) = z_ := ⟨_, rfl⟩
  refine s_iadd (z := s5) 225 A S2 at_224 h_s5 rfl ?_
  have w5 : s5.toInt = s4.toInt + p4.toInt := by rw [← h_s5]; exact own_iadd (by omega) (by omega)
  refine s_bipush (z := (7 : Int32)) 227 A S2 at_225 rfl rfl ?_
  refine s_iload 229 A S2 at_227 rfl rfl ?_
  obtain ⟨p5, h_p5⟩ : ∃ z_, ((7 : Int32) * e7) = z_ := ⟨_, rfl⟩
  refine s_imul (z := p5) 230 A S2 at_229 h_p5 rfl ?_
  have v5 : p5.toInt = 7 * e7.toInt := by rw [← h_p5, own_imulL (a := 7) rfl (by omega) (by omega)]
  obtain ⟨s6, h_s6⟩ : ∃ z_, (s5 + p5) = z_ := ⟨_, rfl⟩
  refine s_iadd (z := s6) 231 A S2 at_230 h_s6 rfl ?_
  have w6 : s6.toInt = s5.toInt + p5.toInt := by rw [← h_s6]; exact own_iadd (by omega) (by omega)
  refine s_istore (Ls' := #[.val (.int i0), .val (.int e0), .val (.int e1), .val (.int e2), .val (.int e3), .val (.int e4), .val (.int e5), .val (.int e6), .val (.int e7), .val (.long k7), .second, .val (.int zz), .val (.int s6)]) 233 A S2 at_231 rfl rfl ?_
  refine s_iload 235 A S2 at_233 rfl rfl ?_
  refine s_iload 237 A S2 at_235 rfl rfl ?_
  obtain ⟨tt, h_tt⟩ : ∃ z_, (s6 + zz) = z_ := ⟨_, rfl⟩
  refine s_iadd (z := tt) 238 A S2 at_237 h_tt rfl ?_
  refine s_bipush (z := (10 : Int32)) 240 A S2 at_238 rfl rfl ?_
  obtain ⟨uu, h_uu⟩ : ∃ z_, (tt % (10 : Int32)) = z_ := ⟨_, rfl⟩
  refine s_irem (z := uu) 241 A S2 at_240 (by decide) h_uu rfl ?_
  have x1 : tt.toInt = s6.toInt + zz.toInt := by rw [← h_tt]; exact own_iadd (by omega) (by omega)
  have x2 : uu.toInt = tt.toInt % 10 := by rw [← h_uu, (c_irem tt 10 10 rfl).1 (by omega)]
  refine s_ifne 248 244 A S2 rfl at_241 (by decide) (by decide) rfl (fun c8 tc8 => (by omega : False).elim) (fun c8 tc8 => ?_)
  refine s_iconst (z := (1 : Int32)) 245 A S2 at_244 rfl rfl ?_
  refine s_goto 249 A S2 at_245 (by decide) (by decide) ?_
  exact s_retZ A S2 at_249 rfl (by decide) (by decide) rfl
set_option maxRecDepth 65536 in
set_option maxHeartbeats 40000000 in
theorem comes_1 {Post : Tables → Env → Array Value → State → Outcome → State → Prop} (hpost : ∀ tb e args s v u, (limb_1_1.after args s (.returned v) u = true ∧ limb_1_2.after args s (.returned v) u = true ∧ True) → FrameEnd s (.returned v) u (Jvm.fieldLocs frame_1_writes args s ++ Jvm.arrayLocs frame_1_arrays args s ++ Jvm.staticLocs frame_1_statics s) 0 0 → Post tb e args s (.returned v) u) :
    ArmFor flags0 classFile x code maxLocals ret World_1 tables_1 room_1 Calls_1 rest_1 Pre_1 Post := by
  intro l hfl _ _ p e ha hc hk s m args below hf hA hF happ hP
  obtain ⟨hcalls, hrest, hpre⟩ := hP
  obtain ⟨-, -, -, hnamed, -, -, -, hat⟩ := (Spec.applies_iff hf).mp happ
  obtain ⟨hg, hn⟩ := and_e (Cond.before_iff.mp (show (Jvm.Cond.and given_1 narrow_1).before args s = true from hpre))
  obtain ⟨g0, k0⟩ := and_e hg
  obtain ⟨w0, rfl⟩ : ∃ w0 : Value, args = #[w0] := by
    have hs : args.size = 1 := by simpa [Cond.value, given_1] using g0
    obtain ⟨L⟩ := args
    match L, hs with
    | [w0], _ => exact ⟨w0, rfl⟩
  have hw := fun d (hd : d ∈ tables_1) => atoms_spec (ws := Jvm.Cond.code x code maxLocals ret :: tables_1) hat d (List.mem_cons_of_mem _ hd)
  have hfit : Fit s := fun {y c} hc i hi => by
    obtain ⟨ha, rfl⟩ := Array.getElem?_eq_some_iff.mp hc
    have q := List.all_eq_true.mp ((Array.all_eq_true_iff_forall_mem.mp hF) _ (Array.getElem_mem ha)) i (List.mem_range.mpr hi)
    simpa [Array.getElem?_eq_getElem hi] using q
  obtain ⟨i0, ei0⟩ := is_v k0
  obtain rfl : w0 = (.int i0) := Option.some.inj ei0
  obtain ⟨m0, hn⟩ := and_e hn
  obtain ⟨m1, hn⟩ := and_e hn
  obtain ⟨m2, hn⟩ := and_e hn
  obtain ⟨m3, hn⟩ := and_e hn
  obtain ⟨m4, hn⟩ := and_e hn
  obtain ⟨m5, hn⟩ := and_e hn
  obtain ⟨m6, hn⟩ := and_e hn
  obtain ⟨m7, hn⟩ := and_e hn
  obtain ⟨m8, hn⟩ := and_e hn
  have m9 := hn
  obtain ⟨aw, eaw⟩ := arr_v m0
  have sw : Sta s s.heap "com/example/cuadre/cuadre/format/CheckDigit" "WEIGHTS" "[I" (.ref aw) := Sta.start eaw (Or.inr ⟨(hw _ (List.mem_of_getElem? (i := 3) rfl)), (hw _ (List.mem_of_getElem? (i := 6) rfl))⟩)
  obtain ⟨cw, arw⟩ := Arr.start eaw m0
  obtain ⟨z1, z2⟩ := own_len (own_eqv m1) eaw arw.1
  have l0 := (elem_in (own_eqv m2) eaw (Term.int_eval ((0 : Int32))) arw.1).2
  have l1 := (elem_in (own_eqv m3) eaw (Term.int_eval ((1 : Int32))) arw.1).2
  have l2 := (elem_in (own_eqv m4) eaw (Term.int_eval ((2 : Int32))) arw.1).2
  have l3 := (elem_in (own_eqv m5) eaw (Term.int_eval ((3 : Int32))) arw.1).2
  have l4 := (elem_in (own_eqv m6) eaw (Term.int_eval ((4 : Int32))) arw.1).2
  have l5 := (elem_in (own_eqv m7) eaw (Term.int_eval ((5 : Int32))) arw.1).2
  have l6 := (elem_in (own_eqv m8) eaw (Term.int_eval ((6 : Int32))) arw.1).2
  have l7 := (elem_in (own_eqv m9) eaw (Term.int_eval ((7 : Int32))) arw.1).2
  have vw : Arv s s.heap aw cw.cls .int (8 : Int32) [(.int (3 : Int32)), (.int (7 : Int32)), (.int (1 : Int32)), (.int (3 : Int32)), (.int (7 : Int32)), (.int (1 : Int32)), (.int (3 : Int32)), (.int (7 : Int32))] (.int 0) := Arv.start hfit arw z1 z2 (by decide) (by decide) ⟨l0, l1, l2, l3, l4, l5, l6, l7, trivial⟩
  obtain ⟨n, o, h1, h2, h3, _, L, rfl, ⟨rfl, N⟩, hq⟩ := rm0 l s _ hw tables_1 i0 aw cw.cls s.heap s.heap.size (Nat.le_refl _) sw vw p e ha hc hk s m _ below hf ((Spec.applies_iff_loose hf).mp happ).1 ⟨rfl, State.Warmed39.refl s, rfl⟩ trivial
  refine ⟨n, _, h1, h2, h3, hpost _ _ _ _ _ _ ⟨Cond.after_iff.mpr rfl, Cond.after_iff.mpr (eq_i res_at (Term.int_eval (1)) rfl), trivial⟩ ⟨hq.1, hq.2.1, (hq.2.2.sift fun y hy => Or.inr (N y hy)).mono (by decide) (by decide)⟩⟩
theorem main_1_1 : Claimed_1_1 := comes_1 fun _ _ _ _ _ _ h hF => ⟨h.1, hF⟩
theorem main_1_2 : Claimed_1_2 := comes_1 fun _ _ _ _ _ _ h hF => ⟨h.2.1, hF⟩
end Jvm.Pilot.@@N@@
namespace Jvm.Pilot.@@N@@
open Jvm Jvm.ClassFile Sem Op Lib Jvm.Free Jvm.Stand Jvm.Pilot.@@N@@.Jvm.D
/-! MADE BY PROGRAM (witnessworld.py) out of the Statement's table words and the real class files: 9 classes; the members and pool entries that the words name. The judged class is class 1, her method 1. -/
namespace start1
open Jvm.ClassFile
def u (s : String) : CpInfo := .utf8 (stringToUtf16 s)
/-- a pool by its gaps: so many unusable entries, then the entry; so many at the end -/
def gap : Nat → List CpInfo → List CpInfo
  | 0, r => r
  | n + 1, r => .unusable :: gap n r
def poolList (es : List (Nat × CpInfo)) (last : Nat) : List CpInfo := es.foldr (fun e r => gap e.1 (e.2 :: r)) (gap last [])
def pool (es : List (Nat × CpInfo)) (last : Nat) : Array CpInfo := ⟨poolList es last⟩
def fileOf (pool : Array CpInfo) (this : Nat) (attrs : Array Attribute := #[]) (ms : Array MethodInfo := #[]) (fl : Nat := 33) (sup : Nat := 0) (ifs : Array Nat := #[]) (fds : Array FieldInfo := #[]) : ClassFile where
  minorVersion := 0
  majorVersion := 65
  constantPool := pool
  accessFlags := fl
  thisClass := this
  superClass := sup
  interfaces := ifs
  fields := fds
  methods := ms
  attributes := attrs
def plain (name : String) (sup : Option ClassId) : Class where
  name := name
  kind := .ordinary
  loader := none
  accessFlags := 33
  super := sup
  interfaces := #[]
  cf := none
  fields := #[]
  methods := #[]
  instanceTypes := #[]
  staticTypes := #[]
  resolved := #[]
  callSites := []
  init := .initialized
  statics := none
  mirror := none

def pool0 : Array CpInfo := pool [(5, u "<init>"), (0, u "()V"), (1, .class_ 10), (1, u "java/lang/Object")] 113

def k0m0 : Method := { name := "<init>", desc := "()V", sig := { parameters := [], returnType := none }, accessFlags := 1, code := none }
/-- java/lang/Object -/
def k0 : Class := { plain "java/lang/Object" none with
  accessFlags := 33
  interfaces := #[]
  cf := some (fileOf pool0 8 #[] #[{ accessFlags := 1, nameIndex := 5, descriptorIndex := 6, attributes := #[] }] 33 0 #[] #[])
  fields := #[]
  methods := #[k0m0]
  instanceTypes := #[]
  staticTypes := #[]
  resolved := Array.replicate 124 none
  statics := none }

def pool1 : Array CpInfo := pool [(2, .class_ 4), (1, u "java/lang/Object"), (0, u "<init>"), (0, u "()V"), (0, .long 10), (1, .methodref 10 11), (0, .class_ 12), (0, .nameAndType 13 14), (0, u "com/example/cuadre/cuadre/format/CheckDigit"), (0, u "of"), (0, u "(J)I"), (0, .class_ 16), (0, u "com/example/cuadre/cuadre/format/CheckDigitOfPinLaw"), (2, u "law"), (0, u "(I)Z")] 3

def k1m0 : Method := { name := "<init>", desc := "()V", sig := { parameters := [], returnType := none }, accessFlags := 2, code := none }
def k1c1 : Code := { maxStack := 4, maxLocals := 13, code := code, exceptionTable := #[], attributes := #[] }
def k1m1 : Method := { name := "law", desc := "(I)Z", sig := { parameters := [.int], returnType := some .boolean }, accessFlags := 9, code := some k1c1 }
/-- com/example/cuadre/cuadre/format/CheckDigitOfPinLaw -/
def k1 : Class := { plain "com/example/cuadre/cuadre/format/CheckDigitOfPinLaw" (some 0) with
  accessFlags := 49
  interfaces := #[]
  cf := some (fileOf pool1 15 #[] #[{ accessFlags := 2, nameIndex := 5, descriptorIndex := 6, attributes := #[] }, { accessFlags := 9, nameIndex := 19, descriptorIndex := 20, attributes := #[] }] 49 2 #[] #[])
  fields := #[]
  methods := #[k1m0, k1m1]
  instanceTypes := #[]
  staticTypes := #[]
  resolved := Array.replicate 24 none
  statics := none }

def pool2 : Array CpInfo := pool [(2, .class_ 4), (1, u "java/lang/Object"), (0, u "<init>"), (0, u "()V"), (0, .fieldref 8 9), (0, .class_ 10), (0, .nameAndType 11 12), (0, u "com/example/cuadre/cuadre/format/CheckDigit"), (0, u "WEIGHTS"), (0, u "[I"), (0, .long 10), (3, u "of"), (0, u "(J)I")] 4

def k2m0 : Method := { name := "<init>", desc := "()V", sig := { parameters := [], returnType := none }, accessFlags := 2, code := none }
def k2c1 : Code := { maxStack := 5, maxLocals := 6, code := prog_3_method_2_code, exceptionTable := #[], attributes := #[] }
def k2m1 : Method := { name := "of", desc := "(J)I", sig := { parameters := [.long], returnType := some .int }, accessFlags := 9, code := some k2c1 }
/-- com/example/cuadre/cuadre/format/CheckDigit -/
def k2 : Class := { plain "com/example/cuadre/cuadre/format/CheckDigit" (some 0) with
  accessFlags := 49
  interfaces := #[]
  cf := some (fileOf pool2 8 #[] #[{ accessFlags := 2, nameIndex := 5, descriptorIndex := 6, attributes := #[] }, { accessFlags := 9, nameIndex := 17, descriptorIndex := 18, attributes := #[] }] 49 2 #[] #[{ accessFlags := 26, nameIndex := 11, descriptorIndex := 12, attributes := #[] }])
  fields := #[{ name := "WEIGHTS", type := (.array .int), accessFlags := 26, slot := 0, constantValue := 0 }]
  methods := #[k2m0, k2m1]
  instanceTypes := #[]
  staticTypes := #[(.array .int)]
  resolved := Array.replicate 23 none
  statics := some 0 }

def pool3 : Array CpInfo := pool [(1, u "java/lang/Cloneable"), (0, .class_ 1), (0, u "java/lang/Object"), (0, .class_ 3)] 3

/-- java/lang/Cloneable -/
def k3 : Class := { plain "java/lang/Cloneable" (some 0) with
  accessFlags := 1537
  interfaces := #[]
  cf := some (fileOf pool3 2 #[] #[] 1537 4 #[] #[])
  fields := #[]
  methods := #[]
  instanceTypes := #[]
  staticTypes := #[]
  resolved := Array.replicate 8 none
  statics := none }

def pool4 : Array CpInfo := pool [(1, u "java/io/Serializable"), (0, .class_ 1), (0, u "java/lang/Object"), (0, .class_ 3)] 3

/-- java/io/Serializable -/
def k4 : Class := { plain "java/io/Serializable" (some 0) with
  accessFlags := 1537
  interfaces := #[]
  cf := some (fileOf pool4 2 #[] #[] 1537 4 #[] #[])
  fields := #[]
  methods := #[]
  instanceTypes := #[]
  staticTypes := #[]
  resolved := Array.replicate 8 none
  statics := none }

/-- the primitive byte -/
def k5 : Class := { plain "byte" none with kind := .primitive 'B', accessFlags := 0x411 }
/-- [B -/
def k6 : Class := { plain "[B" (some 0) with kind := .array 5 .byte, interfaces := #[3, 4], accessFlags := 1041 }

/-- the primitive int -/
def k7 : Class := { plain "int" none with kind := .primitive 'I', accessFlags := 0x411 }
/-- [I -/
def k8 : Class := { plain "[I" (some 0) with kind := .array 7 .int, interfaces := #[3, 4], accessFlags := 1041 }

def heap : Heap := #[{ cls := 2, slots := #[.ref 1], vm := .statics 2 },
  { cls := 8, slots := #[.int 3, .int 7, .int 1, .int 3, .int 7, .int 1, .int 3, .int 7], vm := .none }]
def classes : Array Class := #[k0, k1, k2, k3, k4, k5, k6, k7, k8]
def interned : List (Array UInt16 × Addr) := []
def slotsUsed : Nat := 9
def theMethod : MethodId := ⟨1, 1⟩
def args0 : Array Value := #[.int 305419896]
def aboutOver (below : List Frame) : State where
  vm := { classes := classes, interned := interned.toArray }
  heap := heap
  slotsUsed := slotsUsed
  threads := #[{ frames := .invoking theMethod args0 :: below }]
def below0 : List Frame := [.native { method := ⟨0, 0⟩, args := #[] }]
def about1 : State := aboutOver below0
def p0 : Program := .bare "" "" ""
def e0 : Env := launch0.env 0 0 0
theorem w_frames : about1.frames = Frame.invoking theMethod args0 :: below0 := rfl
set_option maxRecDepth 65536 in
theorem w_args : argsFit about1.vm theMethod args0 = true := by decide +kernel
set_option maxRecDepth 65536 in
theorem w_heap : heapFits about1 = true := by decide +kernel
set_option maxRecDepth 65536 in
theorem w_runnable : about1.curStatus? = some .runnable := by decide +kernel
set_option maxRecDepth 65536 in
theorem w_alone : about1.alone = true := by decide +kernel
set_option maxRecDepth 65536 in
theorem w_named : about1.methodNamed? x = some theMethod := by decide +kernel
set_option maxRecDepth 65536 in
theorem w_hears : about1.hears theMethod below0 = true := by decide +kernel
set_option maxRecDepth 65536 in
theorem w_ripe : about1.ripe theMethod args0 below0 = true := by decide +kernel
theorem w_running : about1.status = .running := rfl
set_option maxRecDepth 65536 in
theorem w_room : about1.hasRoom e0.platform room_1 = true :=
  launch0.hasRoom_least _ room_1 (by decide +kernel) (by decide +kernel) (by decide +kernel) (by decide +kernel) (by decide +kernel) (by decide +kernel)
theorem allAtoms_all (ts : List Jvm.Cond) (a : Array Jvm.Value) (st : Jvm.State) : (allAtoms ts).before a st = ts.all (fun c => c.before a st) := by
  induction ts with
  | nil => rfl
  | cons c t ih =>
    show (Jvm.Cond.and c (allAtoms t)).before a st = _
    rw [Jvm.Cond.before_and, ih, List.all_cons]
def words1 : List Jvm.Cond := Jvm.Cond.code x code maxLocals ret :: tables_1
/-- a 'code' word, met by the world's own term for the bytes: nothing is compared byte by byte -/
theorem code_word {y : MethodName} {bytes : ByteArray} {mx : Nat} {rt : Option FieldType} {a : Array Value} {s : State} {m : MethodId} {meth : Method} {c : Code} (h1 : s.methodNamed? y = some m) (h2 : s.vm.method? m = some meth) (h3 : meth.code = some c) (h4 : c.code = bytes)
    (h5 : (c.maxLocals == mx && c.exceptionTable.isEmpty && decide (c.maxStack ≤ mostOperands) && decide (meth.sig.returnType = rt) && !meth.locks && decide (parseMethodDescriptor y.desc = some meth.sig)) = true) : (Jvm.Cond.code y bytes mx rt).before a s = true := by
  simp only [Bool.and_eq_true, beq_iff_eq, Bool.not_eq_true', decide_eq_true_eq] at h5
  obtain ⟨⟨⟨⟨⟨g1, g2⟩, g3⟩, g4⟩, g5⟩, g6⟩ := h5
  simp [Cond.before, Cond.holds, Cond.value, h1, h2, h3, h4, g1, g2, g3, g4, g5, g6]
def isCode : Jvm.Cond → Bool
  | .code _ _ _ _ => true
  | _ => false
theorem all_split {L : List Jvm.Cond} {P : Jvm.Cond → Bool} (h1 : L.all (fun c => isCode c || P c) = true) (h2 : ∀ c ∈ L.filter isCode, P c = true) : L.all P = true := by
  refine List.all_eq_true.mpr fun c hc => ?_
  have h := List.all_eq_true.mp h1 c hc
  rcases Bool.eq_false_or_eq_true (isCode c) with hi | hi
  · exact h2 c (List.mem_filter.mpr ⟨hc, hi⟩)
  · simpa [hi] using h
set_option maxRecDepth 65536 in
theorem w_c0 : (Jvm.Cond.code x code maxLocals ret).before args0 about1 = true := code_word (m := ⟨1, 1⟩) (meth := k1m1) (c := k1c1) (by decide +kernel) rfl rfl rfl (by decide +kernel)
set_option maxRecDepth 65536 in
theorem w_c1 : (Jvm.Cond.code ({ cls := "com/example/cuadre/cuadre/format/CheckDigit", name := "of", desc := "(J)I" } : Jvm.MethodName) prog_3_method_2_code (6 : Nat) (Option.some Jvm.ClassFile.FieldType.int)).before args0 about1 = true := code_word (m := ⟨2, 1⟩) (meth := k2m1) (c := k2c1) (by decide +kernel) rfl rfl rfl (by decide +kernel)
def codes1 : List Jvm.Cond := [Jvm.Cond.code x code maxLocals ret, Jvm.Cond.code ({ cls := "com/example/cuadre/cuadre/format/CheckDigit", name := "of", desc := "(J)I" } : Jvm.MethodName) prog_3_method_2_code (6 : Nat) (Option.some Jvm.ClassFile.FieldType.int)]
set_option maxRecDepth 65536 in
theorem codes_eq : words1.filter isCode = codes1 := rfl
theorem w_codes : ∀ c ∈ words1.filter isCode, c.before args0 about1 = true := by
  rw [codes_eq]
  intro c hc
  simp only [codes1, List.mem_cons, List.not_mem_nil, or_false] at hc
  rcases hc with rfl | rfl
  · exact w_c0
  · exact w_c1
set_option maxRecDepth 65536 in
theorem w_t1 : words1.all (fun c => isCode c || c.before args0 about1) = true := by decide +kernel
theorem w_tables : (allAtoms (Jvm.Cond.code x code maxLocals ret :: tables_1)).before args0 about1 = true := by
  rw [allAtoms_all]
  show words1.all (fun c => c.before args0 about1) = true
  refine all_split ?_ w_codes
  rw [w_t1]
set_option maxRecDepth 65536 in
theorem w_case : (Jvm.Cond.and given_1 narrow_1).before args0 about1 = true := by decide +kernel
theorem w_applies : (headSpec (Jvm.Cond.code x code maxLocals ret :: tables_1) room_1).applies x e0.platform about1 = true :=
  (Spec.applies_iff w_frames).mpr ⟨w_running, w_runnable, w_alone, w_named, w_hears, w_ripe, w_room, w_tables⟩
theorem atStart : AtStart classFile x code maxLocals ret World_1 tables_1 room_1 Calls_1 rest_1 Pre_1 launch0 p0 e0 about1 theMethod args0 below0 :=
  ⟨lists_1, trivial, launch0.admits_env _ _ _, launch0.least_env, fairChoices_fair.cas, fairChoices_fair.clock, w_frames, w_args, w_heap, w_applies, trivial, trivial, w_case⟩
end start1
theorem witness_1 : WitnessClaimed_1 := ⟨start1.p0, start1.e0, start1.about1, start1.theMethod, start1.args0, start1.below0, start1.atStart⟩
end Jvm.Pilot.@@N@@
