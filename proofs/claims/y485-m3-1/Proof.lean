import JvmDerived
import JvmDerived.Pilot.@@N@@Statement
import JvmDerived.Pilot.@@N@@Code
set_option linter.unusedVariables false
set_option linter.unusedSimpArgs false
namespace Jvm.Pilot.@@N@@
open Jvm Jvm.ClassFile Sem Op Lib Jvm.Free Jvm.Stand Jvm.LawKit Jvm.RoadKit Bundle Jvm.Pilot.@@N@@.Jvm.D
def own_A (p : Program) (l : Launch) (e : Env) (R : Room) (s : State) (m : MethodId) (args : Array Value) (below : List Frame) (meth : Method) (c : Code) (Z : State) (own name : String) (bytes : ByteArray) (maxL : Nat) (ret : Option FieldType) : Prop :=
  p.tables.exec = Jvm.exec ∧ c.code = bytes ∧ c.maxLocals = maxL ∧ s.vm.findClass own = some m.cls ∧ meth.name = name ∧ meth.sig.returnType = ret ∧ meth.locks = false ∧ Z.Warmed39 s.vm
def own_S (p : Program) (l : Launch) (e : Env) (R : Room) (s : State) (m : MethodId) (args : Array Value) (below : List Frame) (meth : Method) (c : Code) (n0 : Nat) (T : State) (h : Heap) (k n : Nat) : Prop :=
  ∃ locs, Stand p l e R s m args below meth c T locs k n ∧ T.heap = h ∧ Fr n0 locs
def own_G (p : Program) (e : Env) (below : List Frame) (s : State) (n0 kc ks : Nat) (Q : Option Value → Heap → Prop) (T : State) (g : JFrame) : Prop :=
  ∃ s₂ o, Steps p.tables e below (T.setTop g) s₂ ∧ s₂.status = .running ∧ Ended s₂ below o ∧ ∃ v L, o = .returned v ∧ (Q v s₂.heap ∧ Fr n0 L) ∧ FrameEnd s o s₂ L kc ks
def own_C (l : Launch) (Z : State) (y : MethodName) (bytes : ByteArray) (maxL : Nat) (ret : Option FieldType) (rm : Room) (n0 : Nat) (ws : List Jvm.Cond) (as' : Array Value) (h0 : Heap) (Q : Option Value → Heap → Prop) : Prop :=
  MetFree l y (head1 (Jvm.Cond.code y bytes maxL ret :: ws) rm) (fun a U => a = as' ∧ Z.Warmed39 U.vm ∧ U.heap = h0) (fun _ _ _ _ _ => True) (fun _ U o U' => ∃ v L, o = .returned v ∧ (Q v U'.heap ∧ Fr n0 L) ∧ FrameEnd U o U' L rm.cells rm.slots)
section OwnLayer
variable {p : Program} {l : Launch} {e : Env} {R : Room} {s : State} {m : MethodId} {args : Array Value} {below : List Frame} {meth : Method} {c : Code} {Z : State} {own name : String} {bytes : ByteArray} {maxL : Nat} {ret : Option FieldType} {T T' : State} {h : Heap} {k n n0 kc ks pc : Nat} {Ls Ls' : Array Slot} {st : List Value} {Q : Option Value → Heap → Prop} {g g' : JFrame} {a0 : Array Value}
theorem own_st (q : ∀ t, Steps p.tables e below (T'.setTop g') t → Steps p.tables e below (T.setTop g) t) (K : own_G p e below s n0 kc ks Q T' g') : own_G p e below s n0 kc ks Q T g := by
  obtain ⟨s2, o, a, b⟩ := K; exact ⟨s2, o, q _ a, b⟩
theorem own_C.of {y : MethodName} {rm : Room} {ws : List Jvm.Cond} {as' : Array Value} {h0 : Heap} (pn : plainFor y = true) (hn : n0 ≤ h0.size)
    (body : ∀ (p : Program) (e : Env) (s : State) (m : MethodId) (below : List Frame) (meth : Method) (c : Code) (T : State), own_A p l e rm s m as' below meth c Z y.cls y.name bytes maxL ret → own_S p l e rm s m as' below meth c n0 T h0 0 0 → own_G p e below s n0 rm.cells rm.slots Q T (entryFrame m as' maxL)) :
    own_C l Z y bytes maxL ret rm n0 ws as' h0 Q := by
  refine MetFree.of_bodySF pn hisR ?_
  intro p e s m args below meth c s₁ Bd hml0 hP hK
  obtain ⟨rfl, hZ, hh⟩ := hP
  have e0 : s₁.heap = h0 := by rw [← hh, Bd.state]; rfl
  exact body p e s m below meth c s₁ ⟨Bd.exec, Bd.bytes, hml0, findClass_of_methodNamed Bd.named, (name_of_methodNamed Bd.named Bd.method).1, Bd.returns, Bd.notSynchronized, hZ⟩ ⟨[], Stand.of_body Bd, e0, Fr.nil n0⟩
def own_ushr (x y : Int32) : Int32 := (x.toUInt32 >>> (y &&& 31).toUInt32).toInt32
def own_ushrL (x : Int64) (y : Int32) : Int64 := (x.toUInt64 >>> (y &&& 0x3f).toInt64.toUInt64).toInt64
theorem own_toInt {x y : Int32} (hh : ¬ x = y) : x.toInt ≠ y.toInt := fun q => hh (Int32.toInt_inj.mp q)
theorem own_toIntL {x y : Int64} (hh : ¬ x = y) : x.toInt ≠ y.toInt := fun q => hh (Int64.toInt_inj.mp q)
theorem s_iloadN (pc' : Nat) {i : Fin 4} {v : Int32} (A : own_A p l e R s m args below meth c Z own name bytes maxL ret) (S : own_S p l e R s m args below meth c n0 T h k n) (hd : decode bytes pc = .ok (.iload_n i, 1)) (hl : Ls[i.val]? = some (.val (.int v))) (hp : pc + 1 = pc') (K : own_G p e below s n0 kc ks Q T (mkF m pc' Ls (.int v :: st))) : own_G p e below s n0 kc ks Q T (mkF m pc Ls st) := by
  obtain ⟨_, X, -, -⟩ := S
  subst hp
  exact own_st (T' := T) (g' := mkF m _ Ls (.int v :: st)) (fun t ht => XS.iloadN X.here A.1 rfl (hb A.2.1 hd) hl ht) K
theorem s_iload (pc' : Nat) {i : Nat} {v : Int32} (A : own_A p l e R s m args below meth c Z own name bytes maxL ret) (S : own_S p l e R s m args below meth c n0 T h k n) (hd : decode bytes pc = .ok (.iload i, 2)) (hl : Ls[i]? = some (.val (.int v))) (hp : pc + 2 = pc') (K : own_G p e below s n0 kc ks Q T (mkF m pc' Ls (.int v :: st))) : own_G p e below s n0 kc ks Q T (mkF m pc Ls st) := by
  obtain ⟨_, X, -, -⟩ := S
  subst hp
  exact own_st (T' := T) (g' := mkF m _ Ls (.int v :: st)) (fun t ht => XS.iload X.here A.1 rfl (hb A.2.1 hd) hl ht) K
theorem s_istoreN (pc' : Nat) {i : Fin 4} {v : Int32} (A : own_A p l e R s m args below meth c Z own name bytes maxL ret) (S : own_S p l e R s m args below meth c n0 T h k n) (hd : decode bytes pc = .ok (.istore_n i, 1)) (hl : storeLocals Ls i.val (.int v) = some Ls') (hp : pc + 1 = pc') (K : own_G p e below s n0 kc ks Q T (mkF m pc' Ls' st)) : own_G p e below s n0 kc ks Q T (mkF m pc Ls (.int v :: st)) := by
  obtain ⟨_, X, -, -⟩ := S
  subst hp
  exact own_st (T' := T) (g' := mkF m _ Ls' st) (fun t ht => XS.istoreN X.here A.1 rfl (hb A.2.1 hd) rfl hl ht) K
theorem s_istore (pc' : Nat) {i : Nat} {v : Int32} (A : own_A p l e R s m args below meth c Z own name bytes maxL ret) (S : own_S p l e R s m args below meth c n0 T h k n) (hd : decode bytes pc = .ok (.istore i, 2)) (hl : storeLocals Ls i (.int v) = some Ls') (hp : pc + 2 = pc') (K : own_G p e below s n0 kc ks Q T (mkF m pc' Ls' st)) : own_G p e below s n0 kc ks Q T (mkF m pc Ls (.int v :: st)) := by
  obtain ⟨_, X, -, -⟩ := S
  subst hp
  exact own_st (T' := T) (g' := mkF m _ Ls' st) (fun t ht => XS.istore X.here A.1 rfl (hb A.2.1 hd) rfl hl ht) K
theorem s_lloadN (pc' : Nat) {i : Fin 4} {v : Int64} (A : own_A p l e R s m args below meth c Z own name bytes maxL ret) (S : own_S p l e R s m args below meth c n0 T h k n) (hd : decode bytes pc = .ok (.lload_n i, 1)) (hl : Ls[i.val]? = some (.val (.long v))) (hp : pc + 1 = pc') (K : own_G p e below s n0 kc ks Q T (mkF m pc' Ls (.long v :: st))) : own_G p e below s n0 kc ks Q T (mkF m pc Ls st) := by
  obtain ⟨_, X, -, -⟩ := S
  subst hp
  exact own_st (T' := T) (g' := mkF m _ Ls (.long v :: st)) (fun t ht => XS.lloadN X.here A.1 rfl (hb A.2.1 hd) hl ht) K
theorem s_lload (pc' : Nat) {i : Nat} {v : Int64} (A : own_A p l e R s m args below meth c Z own name bytes maxL ret) (S : own_S p l e R s m args below meth c n0 T h k n) (hd : decode bytes pc = .ok (.lload i, 2)) (hl : Ls[i]? = some (.val (.long v))) (hp : pc + 2 = pc') (K : own_G p e below s n0 kc ks Q T (mkF m pc' Ls (.long v :: st))) : own_G p e below s n0 kc ks Q T (mkF m pc Ls st) := by
  obtain ⟨_, X, -, -⟩ := S
  subst hp
  exact own_st (T' := T) (g' := mkF m _ Ls (.long v :: st)) (fun t ht => XS.lload X.here A.1 rfl (hb A.2.1 hd) hl ht) K
theorem s_lstoreN (pc' : Nat) {i : Fin 4} {v : Int64} (A : own_A p l e R s m args below meth c Z own name bytes maxL ret) (S : own_S p l e R s m args below meth c n0 T h k n) (hd : decode bytes pc = .ok (.lstore_n i, 1)) (hl : storeLocals Ls i.val (.long v) = some Ls') (hp : pc + 1 = pc') (K : own_G p e below s n0 kc ks Q T (mkF m pc' Ls' st)) : own_G p e below s n0 kc ks Q T (mkF m pc Ls (.long v :: st)) := by
  obtain ⟨_, X, -, -⟩ := S
  subst hp
  exact own_st (T' := T) (g' := mkF m _ Ls' st) (fun t ht => XS.lstoreN X.here A.1 rfl (hb A.2.1 hd) rfl hl ht) K
theorem s_lstore (pc' : Nat) {i : Nat} {v : Int64} (A : own_A p l e R s m args below meth c Z own name bytes maxL ret) (S : own_S p l e R s m args below meth c n0 T h k n) (hd : decode bytes pc = .ok (.lstore i, 2)) (hl : storeLocals Ls i (.long v) = some Ls') (hp : pc + 2 = pc') (K : own_G p e below s n0 kc ks Q T (mkF m pc' Ls' st)) : own_G p e below s n0 kc ks Q T (mkF m pc Ls (.long v :: st)) := by
  obtain ⟨_, X, -, -⟩ := S
  subst hp
  exact own_st (T' := T) (g' := mkF m _ Ls' st) (fun t ht => XS.lstore X.here A.1 rfl (hb A.2.1 hd) rfl hl ht) K
theorem s_aloadN (pc' : Nat) {i : Fin 4} {v : Value} (A : own_A p l e R s m args below meth c Z own name bytes maxL ret) (S : own_S p l e R s m args below meth c n0 T h k n) (hd : decode bytes pc = .ok (.aload_n i, 1)) (hl : Ls[i.val]? = some (.val v)) (hv : v.isRef = true) (hp : pc + 1 = pc') (K : own_G p e below s n0 kc ks Q T (mkF m pc' Ls (v :: st))) : own_G p e below s n0 kc ks Q T (mkF m pc Ls st) := by
  obtain ⟨_, X, -, -⟩ := S
  subst hp
  exact own_st (T' := T) (g' := mkF m _ Ls (v :: st)) (fun t ht => XS.aloadN X.here A.1 rfl (hb A.2.1 hd) hl hv ht) K
theorem s_aload (pc' : Nat) {i : Nat} {v : Value} (A : own_A p l e R s m args below meth c Z own name bytes maxL ret) (S : own_S p l e R s m args below meth c n0 T h k n) (hd : decode bytes pc = .ok (.aload i, 2)) (hl : Ls[i]? = some (.val v)) (hv : v.isRef = true) (hp : pc + 2 = pc') (K : own_G p e below s n0 kc ks Q T (mkF m pc' Ls (v :: st))) : own_G p e below s n0 kc ks Q T (mkF m pc Ls st) := by
  obtain ⟨_, X, -, -⟩ := S
  subst hp
  exact own_st (T' := T) (g' := mkF m _ Ls (v :: st)) (fun t ht => XS.aload X.here A.1 rfl (hb A.2.1 hd) hl hv ht) K
theorem s_astoreN (pc' : Nat) {i : Fin 4} {v : Value} (A : own_A p l e R s m args below meth c Z own name bytes maxL ret) (S : own_S p l e R s m args below meth c n0 T h k n) (hd : decode bytes pc = .ok (.astore_n i, 1)) (hv : v.isRef = true) (hl : storeLocals Ls i.val v = some Ls') (hp : pc + 1 = pc') (K : own_G p e below s n0 kc ks Q T (mkF m pc' Ls' st)) : own_G p e below s n0 kc ks Q T (mkF m pc Ls (v :: st)) := by
  obtain ⟨_, X, -, -⟩ := S
  subst hp
  exact own_st (T' := T) (g' := mkF m _ Ls' st) (fun t ht => XS.astoreN X.here A.1 rfl (hb A.2.1 hd) rfl hv hl ht) K
theorem s_astore (pc' : Nat) {i : Nat} {v : Value} (A : own_A p l e R s m args below meth c Z own name bytes maxL ret) (S : own_S p l e R s m args below meth c n0 T h k n) (hd : decode bytes pc = .ok (.astore i, 2)) (hv : v.isRef = true) (hl : storeLocals Ls i v = some Ls') (hp : pc + 2 = pc') (K : own_G p e below s n0 kc ks Q T (mkF m pc' Ls' st)) : own_G p e below s n0 kc ks Q T (mkF m pc Ls (v :: st)) := by
  obtain ⟨_, X, -, -⟩ := S
  subst hp
  exact own_st (T' := T) (g' := mkF m _ Ls' st) (fun t ht => XS.astore X.here A.1 rfl (hb A.2.1 hd) rfl hv hl ht) K
theorem s_iconst (pc' : Nat) {i : Int} {z : Int32} (A : own_A p l e R s m args below meth c Z own name bytes maxL ret) (S : own_S p l e R s m args below meth c n0 T h k n) (hd : decode bytes pc = .ok (.iconst i, 1)) (hz : Int32.ofInt i = z) (hp : pc + 1 = pc') (K : own_G p e below s n0 kc ks Q T (mkF m pc' Ls (.int z :: st))) : own_G p e below s n0 kc ks Q T (mkF m pc Ls st) := by
  obtain ⟨_, X, -, -⟩ := S
  subst hp hz
  exact own_st (T' := T) (g' := mkF m _ Ls (.int _ :: st)) (fun t ht => XS.iconst X.here A.1 rfl (hb A.2.1 hd) ht) K
theorem s_bipush (pc' : Nat) {i : Int} {z : Int32} (A : own_A p l e R s m args below meth c Z own name bytes maxL ret) (S : own_S p l e R s m args below meth c n0 T h k n) (hd : decode bytes pc = .ok (.bipush i, 2)) (hz : (Int8.ofInt i).toInt32 = z) (hp : pc + 2 = pc') (K : own_G p e below s n0 kc ks Q T (mkF m pc' Ls (.int z :: st))) : own_G p e below s n0 kc ks Q T (mkF m pc Ls st) := by
  obtain ⟨_, X, -, -⟩ := S
  subst hp hz
  exact own_st (T' := T) (g' := mkF m _ Ls (.int _ :: st)) (fun t ht => XS.bipush X.here A.1 rfl (hb A.2.1 hd) ht) K
theorem s_sipush (pc' : Nat) {i : Int} {z : Int32} (A : own_A p l e R s m args below meth c Z own name bytes maxL ret) (S : own_S p l e R s m args below meth c n0 T h k n) (hd : decode bytes pc = .ok (.sipush i, 3)) (hz : (Int16.ofInt i).toInt32 = z) (hp : pc + 3 = pc') (K : own_G p e below s n0 kc ks Q T (mkF m pc' Ls (.int z :: st))) : own_G p e below s n0 kc ks Q T (mkF m pc Ls st) := by
  obtain ⟨_, X, -, -⟩ := S
  subst hp hz
  exact own_st (T' := T) (g' := mkF m _ Ls (.int _ :: st)) (fun t ht => XS.sipush X.here A.1 rfl (hb A.2.1 hd) ht) K
theorem s_lconst (pc' : Nat) {i : Fin 2} {z : Int64} (A : own_A p l e R s m args below meth c Z own name bytes maxL ret) (S : own_S p l e R s m args below meth c n0 T h k n) (hd : decode bytes pc = .ok (.lconst i, 1)) (hz : Int64.ofNat i = z) (hp : pc + 1 = pc') (K : own_G p e below s n0 kc ks Q T (mkF m pc' Ls (.long z :: st))) : own_G p e below s n0 kc ks Q T (mkF m pc Ls st) := by
  obtain ⟨_, X, -, -⟩ := S
  subst hp hz
  exact own_st (T' := T) (g' := mkF m _ Ls (.long _ :: st)) (fun t ht => XS.lconst X.here A.1 rfl (hb A.2.1 hd) ht) K
theorem s_aconstNull (pc' : Nat)  (A : own_A p l e R s m args below meth c Z own name bytes maxL ret) (S : own_S p l e R s m args below meth c n0 T h k n) (hd : decode bytes pc = .ok (.aconst_null, 1)) (hp : pc + 1 = pc') (K : own_G p e below s n0 kc ks Q T (mkF m pc' Ls (.null :: st))) : own_G p e below s n0 kc ks Q T (mkF m pc Ls st) := by
  obtain ⟨_, X, -, -⟩ := S
  subst hp
  exact own_st (T' := T) (g' := mkF m _ Ls (.null :: st)) (fun t ht => XS.aconstNull X.here A.1 rfl (hb A.2.1 hd)  ht) K
theorem s_ldc (pc' : Nat) {i : Nat} {v : Int32} (A : own_A p l e R s m args below meth c Z own name bytes maxL ret) (S : own_S p l e R s m args below meth c n0 T h k n) (w : (Jvm.Cond.constant own i v).before a0 Z = true) (hd : decode bytes pc = .ok (.ldc i, 2)) (hp : pc + 2 = pc') (K : own_G p e below s n0 kc ks Q T (mkF m pc' Ls (.int v :: st))) : own_G p e below s n0 kc ks Q T (mkF m pc Ls st) := by
  obtain ⟨_, X, -, -⟩ := S
  obtain ⟨hx, hby, -, hown, -, -, -, hZ⟩ := A
  subst hp
  exact own_st (T' := T) (g' := mkF m _ Ls (.int v :: st)) (X.ldcInt hx hown (mvT hZ w) (g := mkF m pc Ls st) rfl (hb hby hd)) K
theorem s_ldc2 (pc' : Nat) {i : Nat} {v : Int64} (A : own_A p l e R s m args below meth c Z own name bytes maxL ret) (S : own_S p l e R s m args below meth c n0 T h k n) (w : (Jvm.Cond.constantLong own i v).before a0 Z = true) (hd : decode bytes pc = .ok (.ldc2_w i, 3)) (hp : pc + 3 = pc') (K : own_G p e below s n0 kc ks Q T (mkF m pc' Ls (.long v :: st))) : own_G p e below s n0 kc ks Q T (mkF m pc Ls st) := by
  obtain ⟨_, X, -, -⟩ := S
  obtain ⟨hx, hby, -, hown, -, -, -, hZ⟩ := A
  subst hp
  exact own_st (T' := T) (g' := mkF m _ Ls (.long v :: st)) (X.ldc2Long hx hown (mvT hZ w) (g := mkF m pc Ls st) rfl (hb hby hd)) K
theorem s_iadd (pc' : Nat) {x y : Int32} {z : Int32} (A : own_A p l e R s m args below meth c Z own name bytes maxL ret) (S : own_S p l e R s m args below meth c n0 T h k n) (hd : decode bytes pc = .ok (.iadd, 1)) (hz : x + y = z) (hp : pc + 1 = pc') (K : own_G p e below s n0 kc ks Q T (mkF m pc' Ls (.int z :: st))) : own_G p e below s n0 kc ks Q T (mkF m pc Ls (.int y :: .int x :: st)) := by
  obtain ⟨_, X, -, -⟩ := S
  subst hp hz
  exact own_st (T' := T) (g' := mkF m _ Ls (.int _ :: st)) (fun t ht => XS.iadd X.here A.1 rfl (hb A.2.1 hd) rfl  ht) K
theorem s_isub (pc' : Nat) {x y : Int32} {z : Int32} (A : own_A p l e R s m args below meth c Z own name bytes maxL ret) (S : own_S p l e R s m args below meth c n0 T h k n) (hd : decode bytes pc = .ok (.isub, 1)) (hz : x - y = z) (hp : pc + 1 = pc') (K : own_G p e below s n0 kc ks Q T (mkF m pc' Ls (.int z :: st))) : own_G p e below s n0 kc ks Q T (mkF m pc Ls (.int y :: .int x :: st)) := by
  obtain ⟨_, X, -, -⟩ := S
  subst hp hz
  exact own_st (T' := T) (g' := mkF m _ Ls (.int _ :: st)) (fun t ht => XS.isub X.here A.1 rfl (hb A.2.1 hd) rfl  ht) K
theorem s_imul (pc' : Nat) {x y : Int32} {z : Int32} (A : own_A p l e R s m args below meth c Z own name bytes maxL ret) (S : own_S p l e R s m args below meth c n0 T h k n) (hd : decode bytes pc = .ok (.imul, 1)) (hz : x * y = z) (hp : pc + 1 = pc') (K : own_G p e below s n0 kc ks Q T (mkF m pc' Ls (.int z :: st))) : own_G p e below s n0 kc ks Q T (mkF m pc Ls (.int y :: .int x :: st)) := by
  obtain ⟨_, X, -, -⟩ := S
  subst hp hz
  exact own_st (T' := T) (g' := mkF m _ Ls (.int _ :: st)) (fun t ht => XS.imul X.here A.1 rfl (hb A.2.1 hd) rfl  ht) K
theorem s_iand (pc' : Nat) {x y : Int32} {z : Int32} (A : own_A p l e R s m args below meth c Z own name bytes maxL ret) (S : own_S p l e R s m args below meth c n0 T h k n) (hd : decode bytes pc = .ok (.iand, 1)) (hz : x &&& y = z) (hp : pc + 1 = pc') (K : own_G p e below s n0 kc ks Q T (mkF m pc' Ls (.int z :: st))) : own_G p e below s n0 kc ks Q T (mkF m pc Ls (.int y :: .int x :: st)) := by
  obtain ⟨_, X, -, -⟩ := S
  subst hp hz
  exact own_st (T' := T) (g' := mkF m _ Ls (.int _ :: st)) (fun t ht => XS.iand X.here A.1 rfl (hb A.2.1 hd) rfl  ht) K
theorem s_ior (pc' : Nat) {x y : Int32} {z : Int32} (A : own_A p l e R s m args below meth c Z own name bytes maxL ret) (S : own_S p l e R s m args below meth c n0 T h k n) (hd : decode bytes pc = .ok (.ior, 1)) (hz : x ||| y = z) (hp : pc + 1 = pc') (K : own_G p e below s n0 kc ks Q T (mkF m pc' Ls (.int z :: st))) : own_G p e below s n0 kc ks Q T (mkF m pc Ls (.int y :: .int x :: st)) := by
  obtain ⟨_, X, -, -⟩ := S
  subst hp hz
  exact own_st (T' := T) (g' := mkF m _ Ls (.int _ :: st)) (fun t ht => XS.ior X.here A.1 rfl (hb A.2.1 hd) rfl  ht) K
theorem s_ixor (pc' : Nat) {x y : Int32} {z : Int32} (A : own_A p l e R s m args below meth c Z own name bytes maxL ret) (S : own_S p l e R s m args below meth c n0 T h k n) (hd : decode bytes pc = .ok (.ixor, 1)) (hz : x ^^^ y = z) (hp : pc + 1 = pc') (K : own_G p e below s n0 kc ks Q T (mkF m pc' Ls (.int z :: st))) : own_G p e below s n0 kc ks Q T (mkF m pc Ls (.int y :: .int x :: st)) := by
  obtain ⟨_, X, -, -⟩ := S
  subst hp hz
  exact own_st (T' := T) (g' := mkF m _ Ls (.int _ :: st)) (fun t ht => XS.ixor X.here A.1 rfl (hb A.2.1 hd) rfl  ht) K
theorem s_ishl (pc' : Nat) {x y : Int32} {z : Int32} (A : own_A p l e R s m args below meth c Z own name bytes maxL ret) (S : own_S p l e R s m args below meth c n0 T h k n) (hd : decode bytes pc = .ok (.ishl, 1)) (hz : x <<< (y &&& 31) = z) (hp : pc + 1 = pc') (K : own_G p e below s n0 kc ks Q T (mkF m pc' Ls (.int z :: st))) : own_G p e below s n0 kc ks Q T (mkF m pc Ls (.int y :: .int x :: st)) := by
  obtain ⟨_, X, -, -⟩ := S
  subst hp hz
  exact own_st (T' := T) (g' := mkF m _ Ls (.int _ :: st)) (fun t ht => XS.ishl X.here A.1 rfl (hb A.2.1 hd) rfl  ht) K
theorem s_ishr (pc' : Nat) {x y : Int32} {z : Int32} (A : own_A p l e R s m args below meth c Z own name bytes maxL ret) (S : own_S p l e R s m args below meth c n0 T h k n) (hd : decode bytes pc = .ok (.ishr, 1)) (hz : x >>> (y &&& 31) = z) (hp : pc + 1 = pc') (K : own_G p e below s n0 kc ks Q T (mkF m pc' Ls (.int z :: st))) : own_G p e below s n0 kc ks Q T (mkF m pc Ls (.int y :: .int x :: st)) := by
  obtain ⟨_, X, -, -⟩ := S
  subst hp hz
  exact own_st (T' := T) (g' := mkF m _ Ls (.int _ :: st)) (fun t ht => XS.ishr X.here A.1 rfl (hb A.2.1 hd) rfl  ht) K
theorem s_iushr (pc' : Nat) {x y : Int32} {z : Int32} (A : own_A p l e R s m args below meth c Z own name bytes maxL ret) (S : own_S p l e R s m args below meth c n0 T h k n) (hd : decode bytes pc = .ok (.iushr, 1)) (hz : own_ushr x y = z) (hp : pc + 1 = pc') (K : own_G p e below s n0 kc ks Q T (mkF m pc' Ls (.int z :: st))) : own_G p e below s n0 kc ks Q T (mkF m pc Ls (.int y :: .int x :: st)) := by
  obtain ⟨_, X, -, -⟩ := S
  subst hp hz
  exact own_st (T' := T) (g' := mkF m _ Ls (.int _ :: st)) (fun t ht => XS.iushr X.here A.1 rfl (hb A.2.1 hd) rfl  ht) K
theorem s_idiv (pc' : Nat) {x y : Int32} {z : Int32} (A : own_A p l e R s m args below meth c Z own name bytes maxL ret) (S : own_S p l e R s m args below meth c n0 T h k n) (hd : decode bytes pc = .ok (.idiv, 1)) (hy : y ≠ 0) (hz : x / y = z) (hp : pc + 1 = pc') (K : own_G p e below s n0 kc ks Q T (mkF m pc' Ls (.int z :: st))) : own_G p e below s n0 kc ks Q T (mkF m pc Ls (.int y :: .int x :: st)) := by
  obtain ⟨_, X, -, -⟩ := S
  subst hp hz
  exact own_st (T' := T) (g' := mkF m _ Ls (.int _ :: st)) (fun t ht => XS.idiv X.here A.1 rfl (hb A.2.1 hd) rfl hy ht) K
theorem s_irem (pc' : Nat) {x y : Int32} {z : Int32} (A : own_A p l e R s m args below meth c Z own name bytes maxL ret) (S : own_S p l e R s m args below meth c n0 T h k n) (hd : decode bytes pc = .ok (.irem, 1)) (hy : y ≠ 0) (hz : x % y = z) (hp : pc + 1 = pc') (K : own_G p e below s n0 kc ks Q T (mkF m pc' Ls (.int z :: st))) : own_G p e below s n0 kc ks Q T (mkF m pc Ls (.int y :: .int x :: st)) := by
  obtain ⟨_, X, -, -⟩ := S
  subst hp hz
  exact own_st (T' := T) (g' := mkF m _ Ls (.int _ :: st)) (fun t ht => iremM X A.1 rfl (hb A.2.1 hd) rfl hy ht) K
theorem s_ladd (pc' : Nat) {x y : Int64} {z : Int64} (A : own_A p l e R s m args below meth c Z own name bytes maxL ret) (S : own_S p l e R s m args below meth c n0 T h k n) (hd : decode bytes pc = .ok (.ladd, 1)) (hz : x + y = z) (hp : pc + 1 = pc') (K : own_G p e below s n0 kc ks Q T (mkF m pc' Ls (.long z :: st))) : own_G p e below s n0 kc ks Q T (mkF m pc Ls (.long y :: .long x :: st)) := by
  obtain ⟨_, X, -, -⟩ := S
  subst hp hz
  exact own_st (T' := T) (g' := mkF m _ Ls (.long _ :: st)) (fun t ht => XS.ladd X.here A.1 rfl (hb A.2.1 hd) rfl  ht) K
theorem s_lsub (pc' : Nat) {x y : Int64} {z : Int64} (A : own_A p l e R s m args below meth c Z own name bytes maxL ret) (S : own_S p l e R s m args below meth c n0 T h k n) (hd : decode bytes pc = .ok (.lsub, 1)) (hz : x - y = z) (hp : pc + 1 = pc') (K : own_G p e below s n0 kc ks Q T (mkF m pc' Ls (.long z :: st))) : own_G p e below s n0 kc ks Q T (mkF m pc Ls (.long y :: .long x :: st)) := by
  obtain ⟨_, X, -, -⟩ := S
  subst hp hz
  exact own_st (T' := T) (g' := mkF m _ Ls (.long _ :: st)) (fun t ht => XS.lsub X.here A.1 rfl (hb A.2.1 hd) rfl  ht) K
theorem s_lmul (pc' : Nat) {x y : Int64} {z : Int64} (A : own_A p l e R s m args below meth c Z own name bytes maxL ret) (S : own_S p l e R s m args below meth c n0 T h k n) (hd : decode bytes pc = .ok (.lmul, 1)) (hz : x * y = z) (hp : pc + 1 = pc') (K : own_G p e below s n0 kc ks Q T (mkF m pc' Ls (.long z :: st))) : own_G p e below s n0 kc ks Q T (mkF m pc Ls (.long y :: .long x :: st)) := by
  obtain ⟨_, X, -, -⟩ := S
  subst hp hz
  exact own_st (T' := T) (g' := mkF m _ Ls (.long _ :: st)) (fun t ht => XS.lmul X.here A.1 rfl (hb A.2.1 hd) rfl  ht) K
theorem s_land (pc' : Nat) {x y : Int64} {z : Int64} (A : own_A p l e R s m args below meth c Z own name bytes maxL ret) (S : own_S p l e R s m args below meth c n0 T h k n) (hd : decode bytes pc = .ok (.land, 1)) (hz : x &&& y = z) (hp : pc + 1 = pc') (K : own_G p e below s n0 kc ks Q T (mkF m pc' Ls (.long z :: st))) : own_G p e below s n0 kc ks Q T (mkF m pc Ls (.long y :: .long x :: st)) := by
  obtain ⟨_, X, -, -⟩ := S
  subst hp hz
  exact own_st (T' := T) (g' := mkF m _ Ls (.long _ :: st)) (fun t ht => XS.land X.here A.1 rfl (hb A.2.1 hd) rfl  ht) K
theorem s_lor (pc' : Nat) {x y : Int64} {z : Int64} (A : own_A p l e R s m args below meth c Z own name bytes maxL ret) (S : own_S p l e R s m args below meth c n0 T h k n) (hd : decode bytes pc = .ok (.lor, 1)) (hz : x ||| y = z) (hp : pc + 1 = pc') (K : own_G p e below s n0 kc ks Q T (mkF m pc' Ls (.long z :: st))) : own_G p e below s n0 kc ks Q T (mkF m pc Ls (.long y :: .long x :: st)) := by
  obtain ⟨_, X, -, -⟩ := S
  subst hp hz
  exact own_st (T' := T) (g' := mkF m _ Ls (.long _ :: st)) (fun t ht => XS.lor X.here A.1 rfl (hb A.2.1 hd) rfl  ht) K
theorem s_lxor (pc' : Nat) {x y : Int64} {z : Int64} (A : own_A p l e R s m args below meth c Z own name bytes maxL ret) (S : own_S p l e R s m args below meth c n0 T h k n) (hd : decode bytes pc = .ok (.lxor, 1)) (hz : x ^^^ y = z) (hp : pc + 1 = pc') (K : own_G p e below s n0 kc ks Q T (mkF m pc' Ls (.long z :: st))) : own_G p e below s n0 kc ks Q T (mkF m pc Ls (.long y :: .long x :: st)) := by
  obtain ⟨_, X, -, -⟩ := S
  subst hp hz
  exact own_st (T' := T) (g' := mkF m _ Ls (.long _ :: st)) (fun t ht => XS.lxor X.here A.1 rfl (hb A.2.1 hd) rfl  ht) K
theorem s_ldiv (pc' : Nat) {x y : Int64} {z : Int64} (A : own_A p l e R s m args below meth c Z own name bytes maxL ret) (S : own_S p l e R s m args below meth c n0 T h k n) (hd : decode bytes pc = .ok (.ldiv, 1)) (hy : y ≠ 0) (hz : x / y = z) (hp : pc + 1 = pc') (K : own_G p e below s n0 kc ks Q T (mkF m pc' Ls (.long z :: st))) : own_G p e below s n0 kc ks Q T (mkF m pc Ls (.long y :: .long x :: st)) := by
  obtain ⟨_, X, -, -⟩ := S
  subst hp hz
  exact own_st (T' := T) (g' := mkF m _ Ls (.long _ :: st)) (fun t ht => XS.ldiv X.here A.1 rfl (hb A.2.1 hd) rfl hy ht) K
theorem s_lrem (pc' : Nat) {x y : Int64} {z : Int64} (A : own_A p l e R s m args below meth c Z own name bytes maxL ret) (S : own_S p l e R s m args below meth c n0 T h k n) (hd : decode bytes pc = .ok (.lrem, 1)) (hy : y ≠ 0) (hz : x - (x / y) * y = z) (hp : pc + 1 = pc') (K : own_G p e below s n0 kc ks Q T (mkF m pc' Ls (.long z :: st))) : own_G p e below s n0 kc ks Q T (mkF m pc Ls (.long y :: .long x :: st)) := by
  obtain ⟨_, X, -, -⟩ := S
  subst hp hz
  exact own_st (T' := T) (g' := mkF m _ Ls (.long _ :: st)) (fun t ht => XS.lrem X.here A.1 rfl (hb A.2.1 hd) rfl hy ht) K
theorem s_lshl (pc' : Nat) {x : Int64} {y : Int32} {z : Int64} (A : own_A p l e R s m args below meth c Z own name bytes maxL ret) (S : own_S p l e R s m args below meth c n0 T h k n) (hd : decode bytes pc = .ok (.lshl, 1)) (hz : x <<< (y &&& 63).toInt64 = z) (hp : pc + 1 = pc') (K : own_G p e below s n0 kc ks Q T (mkF m pc' Ls (.long z :: st))) : own_G p e below s n0 kc ks Q T (mkF m pc Ls (.int y :: .long x :: st)) := by
  obtain ⟨_, X, -, -⟩ := S
  subst hp hz
  exact own_st (T' := T) (g' := mkF m _ Ls (.long _ :: st)) (fun t ht => XS.lshl X.here A.1 rfl (hb A.2.1 hd) rfl  ht) K
theorem s_lshr (pc' : Nat) {x : Int64} {y : Int32} {z : Int64} (A : own_A p l e R s m args below meth c Z own name bytes maxL ret) (S : own_S p l e R s m args below meth c n0 T h k n) (hd : decode bytes pc = .ok (.lshr, 1)) (hz : x >>> (y &&& 63).toInt64 = z) (hp : pc + 1 = pc') (K : own_G p e below s n0 kc ks Q T (mkF m pc' Ls (.long z :: st))) : own_G p e below s n0 kc ks Q T (mkF m pc Ls (.int y :: .long x :: st)) := by
  obtain ⟨_, X, -, -⟩ := S
  subst hp hz
  exact own_st (T' := T) (g' := mkF m _ Ls (.long _ :: st)) (fun t ht => XS.lshr X.here A.1 rfl (hb A.2.1 hd) rfl  ht) K
theorem s_lushr (pc' : Nat) {x : Int64} {y : Int32} {z : Int64} (A : own_A p l e R s m args below meth c Z own name bytes maxL ret) (S : own_S p l e R s m args below meth c n0 T h k n) (hd : decode bytes pc = .ok (.lushr, 1)) (hz : own_ushrL x y = z) (hp : pc + 1 = pc') (K : own_G p e below s n0 kc ks Q T (mkF m pc' Ls (.long z :: st))) : own_G p e below s n0 kc ks Q T (mkF m pc Ls (.int y :: .long x :: st)) := by
  obtain ⟨_, X, -, -⟩ := S
  subst hp hz
  exact own_st (T' := T) (g' := mkF m _ Ls (.long _ :: st)) (fun t ht => XS.lushr X.here A.1 rfl (hb A.2.1 hd) rfl  ht) K
theorem s_ineg (pc' : Nat) {x : Int32} {z : Int32} (A : own_A p l e R s m args below meth c Z own name bytes maxL ret) (S : own_S p l e R s m args below meth c n0 T h k n) (hd : decode bytes pc = .ok (.ineg, 1)) (hz : -x = z) (hp : pc + 1 = pc') (K : own_G p e below s n0 kc ks Q T (mkF m pc' Ls (.int z :: st))) : own_G p e below s n0 kc ks Q T (mkF m pc Ls (.int x :: st)) := by
  obtain ⟨_, X, -, -⟩ := S
  subst hp hz
  exact own_st (T' := T) (g' := mkF m _ Ls (.int _ :: st)) (fun t ht => XS.ineg X.here A.1 rfl (hb A.2.1 hd) rfl  ht) K
theorem s_lneg (pc' : Nat) {x : Int64} {z : Int64} (A : own_A p l e R s m args below meth c Z own name bytes maxL ret) (S : own_S p l e R s m args below meth c n0 T h k n) (hd : decode bytes pc = .ok (.lneg, 1)) (hz : -x = z) (hp : pc + 1 = pc') (K : own_G p e below s n0 kc ks Q T (mkF m pc' Ls (.long z :: st))) : own_G p e below s n0 kc ks Q T (mkF m pc Ls (.long x :: st)) := by
  obtain ⟨_, X, -, -⟩ := S
  subst hp hz
  exact own_st (T' := T) (g' := mkF m _ Ls (.long _ :: st)) (fun t ht => XS.lneg X.here A.1 rfl (hb A.2.1 hd) rfl  ht) K
theorem s_i2l (pc' : Nat) {x : Int32} {z : Int64} (A : own_A p l e R s m args below meth c Z own name bytes maxL ret) (S : own_S p l e R s m args below meth c n0 T h k n) (hd : decode bytes pc = .ok (.i2l, 1)) (hz : x.toInt64 = z) (hp : pc + 1 = pc') (K : own_G p e below s n0 kc ks Q T (mkF m pc' Ls (.long z :: st))) : own_G p e below s n0 kc ks Q T (mkF m pc Ls (.int x :: st)) := by
  obtain ⟨_, X, -, -⟩ := S
  subst hp hz
  exact own_st (T' := T) (g' := mkF m _ Ls (.long _ :: st)) (fun t ht => XS.i2l X.here A.1 rfl (hb A.2.1 hd) rfl  ht) K
theorem s_l2i (pc' : Nat) {x : Int64} {z : Int32} (A : own_A p l e R s m args below meth c Z own name bytes maxL ret) (S : own_S p l e R s m args below meth c n0 T h k n) (hd : decode bytes pc = .ok (.l2i, 1)) (hz : x.toInt32 = z) (hp : pc + 1 = pc') (K : own_G p e below s n0 kc ks Q T (mkF m pc' Ls (.int z :: st))) : own_G p e below s n0 kc ks Q T (mkF m pc Ls (.long x :: st)) := by
  obtain ⟨_, X, -, -⟩ := S
  subst hp hz
  exact own_st (T' := T) (g' := mkF m _ Ls (.int _ :: st)) (fun t ht => XS.l2i X.here A.1 rfl (hb A.2.1 hd) rfl  ht) K
theorem s_i2b (pc' : Nat) {x : Int32} {z : Int32} (A : own_A p l e R s m args below meth c Z own name bytes maxL ret) (S : own_S p l e R s m args below meth c n0 T h k n) (hd : decode bytes pc = .ok (.i2b, 1)) (hz : x.toInt8.toInt32 = z) (hp : pc + 1 = pc') (K : own_G p e below s n0 kc ks Q T (mkF m pc' Ls (.int z :: st))) : own_G p e below s n0 kc ks Q T (mkF m pc Ls (.int x :: st)) := by
  obtain ⟨_, X, -, -⟩ := S
  subst hp hz
  exact own_st (T' := T) (g' := mkF m _ Ls (.int _ :: st)) (fun t ht => XS.i2b X.here A.1 rfl (hb A.2.1 hd) rfl  ht) K
theorem s_i2c (pc' : Nat) {x : Int32} {z : Int32} (A : own_A p l e R s m args below meth c Z own name bytes maxL ret) (S : own_S p l e R s m args below meth c n0 T h k n) (hd : decode bytes pc = .ok (.i2c, 1)) (hz : x.toUInt32.toUInt16.toUInt32.toInt32 = z) (hp : pc + 1 = pc') (K : own_G p e below s n0 kc ks Q T (mkF m pc' Ls (.int z :: st))) : own_G p e below s n0 kc ks Q T (mkF m pc Ls (.int x :: st)) := by
  obtain ⟨_, X, -, -⟩ := S
  subst hp hz
  exact own_st (T' := T) (g' := mkF m _ Ls (.int _ :: st)) (fun t ht => XS.i2c X.here A.1 rfl (hb A.2.1 hd) rfl  ht) K
theorem s_i2s (pc' : Nat) {x : Int32} {z : Int32} (A : own_A p l e R s m args below meth c Z own name bytes maxL ret) (S : own_S p l e R s m args below meth c n0 T h k n) (hd : decode bytes pc = .ok (.i2s, 1)) (hz : x.toInt16.toInt32 = z) (hp : pc + 1 = pc') (K : own_G p e below s n0 kc ks Q T (mkF m pc' Ls (.int z :: st))) : own_G p e below s n0 kc ks Q T (mkF m pc Ls (.int x :: st)) := by
  obtain ⟨_, X, -, -⟩ := S
  subst hp hz
  exact own_st (T' := T) (g' := mkF m _ Ls (.int _ :: st)) (fun t ht => XS.i2s X.here A.1 rfl (hb A.2.1 hd) rfl  ht) K
theorem s_lcmp (pc' : Nat) {x y : Int64} {z : Int32} (A : own_A p l e R s m args below meth c Z own name bytes maxL ret) (S : own_S p l e R s m args below meth c n0 T h k n) (hd : decode bytes pc = .ok (.lcmp, 1)) (hz : lcmpW x y = z) (hp : pc + 1 = pc') (K : own_G p e below s n0 kc ks Q T (mkF m pc' Ls (.int z :: st))) : own_G p e below s n0 kc ks Q T (mkF m pc Ls (.long y :: .long x :: st)) := by
  obtain ⟨_, X, -, -⟩ := S
  subst hp hz
  exact own_st (T' := T) (g' := mkF m _ Ls (.int _ :: st)) (fun t ht => XS.lcmp X.here A.1 rfl (hb A.2.1 hd) rfl  ht) K
theorem s_dup (pc' : Nat) {v : Value} (A : own_A p l e R s m args below meth c Z own name bytes maxL ret) (S : own_S p l e R s m args below meth c n0 T h k n) (hd : decode bytes pc = .ok (.dup, 1)) (hv : v.category = 1) (hp : pc + 1 = pc') (K : own_G p e below s n0 kc ks Q T (mkF m pc' Ls (v :: v :: st))) : own_G p e below s n0 kc ks Q T (mkF m pc Ls (v :: st)) := by
  obtain ⟨_, X, -, -⟩ := S
  subst hp
  exact own_st (T' := T) (g' := mkF m _ Ls (v :: v :: st)) (fun t ht => XS.dup X.here A.1 rfl (hb A.2.1 hd) rfl hv ht) K
theorem s_dup2 (pc' : Nat) {v w : Value} (A : own_A p l e R s m args below meth c Z own name bytes maxL ret) (S : own_S p l e R s m args below meth c n0 T h k n) (hd : decode bytes pc = .ok (.dup2, 1)) (hv : v.category = 1) (hv' : w.category = 1) (hp : pc + 1 = pc') (K : own_G p e below s n0 kc ks Q T (mkF m pc' Ls (v :: w :: v :: w :: st))) : own_G p e below s n0 kc ks Q T (mkF m pc Ls (v :: w :: st)) := by
  obtain ⟨_, X, -, -⟩ := S
  subst hp
  exact own_st (T' := T) (g' := mkF m _ Ls (v :: w :: v :: w :: st)) (fun t ht => Jvm.Free.XT.dup2 X.here A.1 rfl (hb A.2.1 hd) rfl hv hv' ht) K
theorem s_dup2L (pc' : Nat) {v : Int64} (A : own_A p l e R s m args below meth c Z own name bytes maxL ret) (S : own_S p l e R s m args below meth c n0 T h k n) (hd : decode bytes pc = .ok (.dup2, 1)) (hp : pc + 1 = pc') (K : own_G p e below s n0 kc ks Q T (mkF m pc' Ls (.long v :: .long v :: st))) : own_G p e below s n0 kc ks Q T (mkF m pc Ls (.long v :: st)) := by
  obtain ⟨_, X, -, -⟩ := S
  subst hp
  exact own_st (T' := T) (g' := mkF m _ Ls (.long v :: .long v :: st)) (fun t ht => Jvm.Free.XT.dup2L X.here A.1 rfl (hb A.2.1 hd) rfl ht) K
theorem s_dupX1 (pc' : Nat) {v w : Value} (A : own_A p l e R s m args below meth c Z own name bytes maxL ret) (S : own_S p l e R s m args below meth c n0 T h k n) (hd : decode bytes pc = .ok (.dup_x1, 1)) (hv : v.category = 1) (hv' : w.category = 1) (hp : pc + 1 = pc') (K : own_G p e below s n0 kc ks Q T (mkF m pc' Ls (v :: w :: v :: st))) : own_G p e below s n0 kc ks Q T (mkF m pc Ls (v :: w :: st)) := by
  obtain ⟨_, X, -, -⟩ := S
  subst hp
  exact own_st (T' := T) (g' := mkF m _ Ls (v :: w :: v :: st)) (fun t ht => XS.dupX1 X.here A.1 rfl (hb A.2.1 hd) rfl hv hv' ht) K
theorem s_pop (pc' : Nat) {v : Value} (A : own_A p l e R s m args below meth c Z own name bytes maxL ret) (S : own_S p l e R s m args below meth c n0 T h k n) (hd : decode bytes pc = .ok (.pop, 1)) (hv : v.category = 1) (hp : pc + 1 = pc') (K : own_G p e below s n0 kc ks Q T (mkF m pc' Ls st)) : own_G p e below s n0 kc ks Q T (mkF m pc Ls (v :: st)) := by
  obtain ⟨_, X, -, -⟩ := S
  subst hp
  exact own_st (T' := T) (g' := mkF m _ Ls st) (fun t ht => XS.pop X.here A.1 rfl (hb A.2.1 hd) rfl hv ht) K
theorem s_iinc (pc' : Nat) {i : Nat} {cst : Int} {x z : Int32} (A : own_A p l e R s m args below meth c Z own name bytes maxL ret) (S : own_S p l e R s m args below meth c n0 T h k n) (hd : decode bytes pc = .ok (.iinc i cst, 3)) (hl : Ls[i]? = some (.val (.int x))) (hz : x + Int32.ofInt cst = z) (hl' : storeLocals Ls i (.int z) = some Ls') (hp : pc + 3 = pc') (K : own_G p e below s n0 kc ks Q T (mkF m pc' Ls' st)) : own_G p e below s n0 kc ks Q T (mkF m pc Ls st) := by
  obtain ⟨_, X, -, -⟩ := S
  subst hp hz
  exact own_st (T' := T) (g' := mkF m _ Ls' st) (fun t ht => XS.iinc X.here A.1 rfl (hb A.2.1 hd) hl hl' ht) K
theorem s_goto (pc' : Nat) {o : Int} (A : own_A p l e R s m args below meth c Z own name bytes maxL ret) (S : own_S p l e R s m args below meth c n0 T h k n) (hd : decode bytes pc = .ok (.goto o, 3)) (ho : 0 ≤ (pc : Int) + o) (hp : ((pc : Int) + o).toNat = pc') (K : own_G p e below s n0 kc ks Q T (mkF m pc' Ls st)) : own_G p e below s n0 kc ks Q T (mkF m pc Ls st) := by
  obtain ⟨_, X, -, -⟩ := S
  exact own_st (T' := T) (g' := mkF m pc' Ls st) (fun t ht => XS.goto X.here A.1 rfl (pc0 := pc) (pc' := pc') rfl (hb A.2.1 hd) ho hp ht) K
theorem s_icmp (pcY pcN : Nat) {cd : ClassFile.Cond} {o : Int} {x y : Int32} (A : own_A p l e R s m args below meth c Z own name bytes maxL ret) (S : own_S p l e R s m args below meth c n0 T h k n) (hd : decode bytes pc = .ok (.if_icmp cd o, 3)) (ho : 0 ≤ (pc : Int) + o) (hp : ((pc : Int) + o).toNat = pcY) (hn : pc + 3 = pcN) (KY : if_icmp.holds cd x y = true → own_G p e below s n0 kc ks Q T (mkF m pcY Ls st)) (KN : if_icmp.holds cd x y = false → own_G p e below s n0 kc ks Q T (mkF m pcN Ls st)) : own_G p e below s n0 kc ks Q T (mkF m pc Ls (.int y :: .int x :: st)) := by
  obtain ⟨_, X, -, -⟩ := S
  subst hn
  rcases Bool.eq_false_or_eq_true (if_icmp.holds cd x y) with hc | hc
  · exact own_st (T' := T) (g' := mkF m pcY Ls st) (fun t ht => XS.icmpYes X.here A.1 rfl (pc0 := pc) (pc' := pcY) rfl (hb A.2.1 hd) rfl hc ho hp ht) (KY hc)
  · exact own_st (T' := T) (g' := mkF m _ Ls st) (fun t ht => XS.icmpNo X.here A.1 rfl (hb A.2.1 hd) rfl hc ht) (KN hc)
theorem s_ifc (pcY pcN : Nat) {cd : ClassFile.Cond} {o : Int} {x : Int32} (A : own_A p l e R s m args below meth c Z own name bytes maxL ret) (S : own_S p l e R s m args below meth c n0 T h k n) (hd : decode bytes pc = .ok (.ifCond cd o, 3)) (ho : 0 ≤ (pc : Int) + o) (hp : ((pc : Int) + o).toNat = pcY) (hn : pc + 3 = pcN) (KY : ifCond.holds cd x = true → own_G p e below s n0 kc ks Q T (mkF m pcY Ls st)) (KN : ifCond.holds cd x = false → own_G p e below s n0 kc ks Q T (mkF m pcN Ls st)) : own_G p e below s n0 kc ks Q T (mkF m pc Ls (.int x :: st)) := by
  obtain ⟨_, X, -, -⟩ := S
  subst hn
  rcases Bool.eq_false_or_eq_true (ifCond.holds cd x) with hc | hc
  · exact own_st (T' := T) (g' := mkF m pcY Ls st) (fun t ht => XS.ifYes X.here A.1 rfl (pc0 := pc) (pc' := pcY) rfl (hb A.2.1 hd) rfl hc ho hp ht) (KY hc)
  · exact own_st (T' := T) (g' := mkF m _ Ls st) (fun t ht => XS.ifNo X.here A.1 rfl (hb A.2.1 hd) rfl hc ht) (KN hc)
theorem own_eqY {x y : Int32} : if_icmp.holds .eq x y = true → x = y := by simp [if_icmp.holds]
theorem own_eqN {x y : Int32} : if_icmp.holds .eq x y = false → ¬ x = y := by simp [if_icmp.holds]
theorem own_neY {x y : Int32} : if_icmp.holds .ne x y = true → ¬ x = y := by simp [if_icmp.holds]
theorem own_neN {x y : Int32} : if_icmp.holds .ne x y = false → x = y := by simp [if_icmp.holds]
theorem own_ltY {x y : Int32} : if_icmp.holds .lt x y = true → x.toInt < y.toInt := by simp [if_icmp.holds, Int32.lt_iff_toInt_lt]
theorem own_ltN {x y : Int32} : if_icmp.holds .lt x y = false → y.toInt ≤ x.toInt := by simp [if_icmp.holds, Int32.le_iff_toInt_le]
theorem own_geY {x y : Int32} : if_icmp.holds .ge x y = true → y.toInt ≤ x.toInt := by simp [if_icmp.holds, Int32.le_iff_toInt_le]
theorem own_geN {x y : Int32} : if_icmp.holds .ge x y = false → x.toInt < y.toInt := by simp [if_icmp.holds, Int32.lt_iff_toInt_lt]
theorem own_gtY {x y : Int32} : if_icmp.holds .gt x y = true → y.toInt < x.toInt := by simp [if_icmp.holds, Int32.lt_iff_toInt_lt]
theorem own_gtN {x y : Int32} : if_icmp.holds .gt x y = false → x.toInt ≤ y.toInt := by simp [if_icmp.holds, Int32.le_iff_toInt_le]
theorem own_leY {x y : Int32} : if_icmp.holds .le x y = true → x.toInt ≤ y.toInt := by simp [if_icmp.holds, Int32.le_iff_toInt_le]
theorem own_leN {x y : Int32} : if_icmp.holds .le x y = false → y.toInt < x.toInt := by simp [if_icmp.holds, Int32.lt_iff_toInt_lt]
theorem own_lcmp_lt (x y : Int64) : lcmpW x y < 0 ↔ x.toInt < y.toInt := by rw [lw_lt, Int64.lt_iff_toInt_lt]
theorem own_lcmp_gt (x y : Int64) : 0 < lcmpW x y ↔ y.toInt < x.toInt := by rw [lw_gt, Int64.lt_iff_toInt_lt]
theorem own_lcmp_eq (x y : Int64) : lcmpW x y = 0 ↔ x = y := by rw [lw_eq]
theorem s_ieq (pcY pcN : Nat) {o : Int} {x y : Int32} {xi yi : Int} (A : own_A p l e R s m args below meth c Z own name bytes maxL ret) (S : own_S p l e R s m args below meth c n0 T h k n) (hxi : x.toInt = xi) (hyi : y.toInt = yi) (hd : decode bytes pc = .ok (.if_icmp .eq o, 3)) (ho : 0 ≤ (pc : Int) + o) (hp : ((pc : Int) + o).toNat = pcY) (hn : pc + 3 = pcN) (KY : x = y → xi = yi → own_G p e below s n0 kc ks Q T (mkF m pcY Ls st)) (KN : ¬ x = y → xi ≠ yi → own_G p e below s n0 kc ks Q T (mkF m pcN Ls st)) : own_G p e below s n0 kc ks Q T (mkF m pc Ls (.int y :: .int x :: st)) :=
  s_icmp pcY pcN A S hd ho hp hn (fun q => by have q := own_eqY q; exact KY q (by subst hxi hyi; rw [q])) (fun q => by have q := own_eqN q; exact KN q (by subst hxi hyi; exact own_toInt q))
theorem s_ifeq (pcY pcN : Nat) {o : Int} {x : Int32} {xi : Int} (A : own_A p l e R s m args below meth c Z own name bytes maxL ret) (S : own_S p l e R s m args below meth c n0 T h k n) (hxi : x.toInt = xi) (hd : decode bytes pc = .ok (.ifCond .eq o, 3)) (ho : 0 ≤ (pc : Int) + o) (hp : ((pc : Int) + o).toNat = pcY) (hn : pc + 3 = pcN) (KY : x = 0 → xi = 0 → own_G p e below s n0 kc ks Q T (mkF m pcY Ls st)) (KN : ¬ x = 0 → xi ≠ 0 → own_G p e below s n0 kc ks Q T (mkF m pcN Ls st)) : own_G p e below s n0 kc ks Q T (mkF m pc Ls (.int x :: st)) :=
  s_ifc pcY pcN A S hd ho hp hn (fun q => by have q := own_eqY (y := 0) ((if0 _ _).symm.trans q); exact KY q (by subst hxi; rw [q]; rfl)) (fun q => by have q := own_eqN (y := 0) ((if0 _ _).symm.trans q); exact KN q (by subst hxi; exact own_toInt q))
theorem s_lifeq (pcY pcN pcM : Nat) {o : Int} {x y : Int64} {xi yi : Int} (A : own_A p l e R s m args below meth c Z own name bytes maxL ret) (S : own_S p l e R s m args below meth c n0 T h k n) (hxi : x.toInt = xi) (hyi : y.toInt = yi) (hd0 : decode bytes pc = .ok (.lcmp, 1)) (hm : pc + 1 = pcM) (hd : decode bytes pcM = .ok (.ifCond .eq o, 3)) (ho : 0 ≤ (pcM : Int) + o) (hp : ((pcM : Int) + o).toNat = pcY) (hn : pcM + 3 = pcN) (KY : x = y → xi = yi → own_G p e below s n0 kc ks Q T (mkF m pcY Ls st)) (KN : ¬ x = y → xi ≠ yi → own_G p e below s n0 kc ks Q T (mkF m pcN Ls st)) : own_G p e below s n0 kc ks Q T (mkF m pc Ls (.long y :: .long x :: st)) :=
  s_lcmp pcM A S hd0 rfl hm (s_ifeq pcY pcN A S rfl hd ho hp hn (fun q _ => by have q : x = y := (own_lcmp_eq x y).mp q; exact KY q (by subst hxi hyi; rw [q])) (fun q _ => by have q : ¬ x = y := fun w => q ((own_lcmp_eq x y).mpr w); exact KN q (by subst hxi hyi; exact own_toIntL q)))
theorem s_ine (pcY pcN : Nat) {o : Int} {x y : Int32} {xi yi : Int} (A : own_A p l e R s m args below meth c Z own name bytes maxL ret) (S : own_S p l e R s m args below meth c n0 T h k n) (hxi : x.toInt = xi) (hyi : y.toInt = yi) (hd : decode bytes pc = .ok (.if_icmp .ne o, 3)) (ho : 0 ≤ (pc : Int) + o) (hp : ((pc : Int) + o).toNat = pcY) (hn : pc + 3 = pcN) (KY : ¬ x = y → xi ≠ yi → own_G p e below s n0 kc ks Q T (mkF m pcY Ls st)) (KN : x = y → xi = yi → own_G p e below s n0 kc ks Q T (mkF m pcN Ls st)) : own_G p e below s n0 kc ks Q T (mkF m pc Ls (.int y :: .int x :: st)) :=
  s_icmp pcY pcN A S hd ho hp hn (fun q => by have q := own_neY q; exact KY q (by subst hxi hyi; exact own_toInt q)) (fun q => by have q := own_neN q; exact KN q (by subst hxi hyi; rw [q]))
theorem s_ifne (pcY pcN : Nat) {o : Int} {x : Int32} {xi : Int} (A : own_A p l e R s m args below meth c Z own name bytes maxL ret) (S : own_S p l e R s m args below meth c n0 T h k n) (hxi : x.toInt = xi) (hd : decode bytes pc = .ok (.ifCond .ne o, 3)) (ho : 0 ≤ (pc : Int) + o) (hp : ((pc : Int) + o).toNat = pcY) (hn : pc + 3 = pcN) (KY : ¬ x = 0 → xi ≠ 0 → own_G p e below s n0 kc ks Q T (mkF m pcY Ls st)) (KN : x = 0 → xi = 0 → own_G p e below s n0 kc ks Q T (mkF m pcN Ls st)) : own_G p e below s n0 kc ks Q T (mkF m pc Ls (.int x :: st)) :=
  s_ifc pcY pcN A S hd ho hp hn (fun q => by have q := own_neY (y := 0) ((if0 _ _).symm.trans q); exact KY q (by subst hxi; exact own_toInt q)) (fun q => by have q := own_neN (y := 0) ((if0 _ _).symm.trans q); exact KN q (by subst hxi; rw [q]; rfl))
theorem s_lifne (pcY pcN pcM : Nat) {o : Int} {x y : Int64} {xi yi : Int} (A : own_A p l e R s m args below meth c Z own name bytes maxL ret) (S : own_S p l e R s m args below meth c n0 T h k n) (hxi : x.toInt = xi) (hyi : y.toInt = yi) (hd0 : decode bytes pc = .ok (.lcmp, 1)) (hm : pc + 1 = pcM) (hd : decode bytes pcM = .ok (.ifCond .ne o, 3)) (ho : 0 ≤ (pcM : Int) + o) (hp : ((pcM : Int) + o).toNat = pcY) (hn : pcM + 3 = pcN) (KY : ¬ x = y → xi ≠ yi → own_G p e below s n0 kc ks Q T (mkF m pcY Ls st)) (KN : x = y → xi = yi → own_G p e below s n0 kc ks Q T (mkF m pcN Ls st)) : own_G p e below s n0 kc ks Q T (mkF m pc Ls (.long y :: .long x :: st)) :=
  s_lcmp pcM A S hd0 rfl hm (s_ifne pcY pcN A S rfl hd ho hp hn (fun q _ => by have q : ¬ x = y := fun w => q ((own_lcmp_eq x y).mpr w); exact KY q (by subst hxi hyi; exact own_toIntL q)) (fun q _ => by have q : x = y := (own_lcmp_eq x y).mp q; exact KN q (by subst hxi hyi; rw [q])))
theorem s_ilt (pcY pcN : Nat) {o : Int} {x y : Int32} {xi yi : Int} (A : own_A p l e R s m args below meth c Z own name bytes maxL ret) (S : own_S p l e R s m args below meth c n0 T h k n) (hxi : x.toInt = xi) (hyi : y.toInt = yi) (hd : decode bytes pc = .ok (.if_icmp .lt o, 3)) (ho : 0 ≤ (pc : Int) + o) (hp : ((pc : Int) + o).toNat = pcY) (hn : pc + 3 = pcN) (KY : xi < yi → own_G p e below s n0 kc ks Q T (mkF m pcY Ls st)) (KN : yi ≤ xi → own_G p e below s n0 kc ks Q T (mkF m pcN Ls st)) : own_G p e below s n0 kc ks Q T (mkF m pc Ls (.int y :: .int x :: st)) :=
  s_icmp pcY pcN A S hd ho hp hn (fun q => by have q := own_ltY q; exact KY (by subst hxi hyi; exact q)) (fun q => by have q := own_ltN q; exact KN (by subst hxi hyi; exact q))
theorem s_iflt (pcY pcN : Nat) {o : Int} {x : Int32} {xi : Int} (A : own_A p l e R s m args below meth c Z own name bytes maxL ret) (S : own_S p l e R s m args below meth c n0 T h k n) (hxi : x.toInt = xi) (hd : decode bytes pc = .ok (.ifCond .lt o, 3)) (ho : 0 ≤ (pc : Int) + o) (hp : ((pc : Int) + o).toNat = pcY) (hn : pc + 3 = pcN) (KY : xi < 0 → own_G p e below s n0 kc ks Q T (mkF m pcY Ls st)) (KN : 0 ≤ xi → own_G p e below s n0 kc ks Q T (mkF m pcN Ls st)) : own_G p e below s n0 kc ks Q T (mkF m pc Ls (.int x :: st)) :=
  s_ifc pcY pcN A S hd ho hp hn (fun q => by have q := own_ltY (y := 0) ((if0 _ _).symm.trans q); exact KY (by subst hxi; exact q)) (fun q => by have q := own_ltN (y := 0) ((if0 _ _).symm.trans q); exact KN (by subst hxi; exact q))
theorem s_liflt (pcY pcN pcM : Nat) {o : Int} {x y : Int64} {xi yi : Int} (A : own_A p l e R s m args below meth c Z own name bytes maxL ret) (S : own_S p l e R s m args below meth c n0 T h k n) (hxi : x.toInt = xi) (hyi : y.toInt = yi) (hd0 : decode bytes pc = .ok (.lcmp, 1)) (hm : pc + 1 = pcM) (hd : decode bytes pcM = .ok (.ifCond .lt o, 3)) (ho : 0 ≤ (pcM : Int) + o) (hp : ((pcM : Int) + o).toNat = pcY) (hn : pcM + 3 = pcN) (KY : xi < yi → own_G p e below s n0 kc ks Q T (mkF m pcY Ls st)) (KN : yi ≤ xi → own_G p e below s n0 kc ks Q T (mkF m pcN Ls st)) : own_G p e below s n0 kc ks Q T (mkF m pc Ls (.long y :: .long x :: st)) :=
  s_lcmp pcM A S hd0 rfl hm (s_iflt pcY pcN A S rfl hd ho hp hn (fun q => by have q : x.toInt < y.toInt := (own_lcmp_lt x y).mp (Int32.lt_iff_toInt_lt.mpr q); exact KY (by subst hxi hyi; exact q)) (fun q => by have q : y.toInt ≤ x.toInt := Int.not_lt.mp fun w => Int.not_lt.mpr q (Int32.lt_iff_toInt_lt.mp ((own_lcmp_lt x y).mpr w)); exact KN (by subst hxi hyi; exact q)))
theorem s_ige (pcY pcN : Nat) {o : Int} {x y : Int32} {xi yi : Int} (A : own_A p l e R s m args below meth c Z own name bytes maxL ret) (S : own_S p l e R s m args below meth c n0 T h k n) (hxi : x.toInt = xi) (hyi : y.toInt = yi) (hd : decode bytes pc = .ok (.if_icmp .ge o, 3)) (ho : 0 ≤ (pc : Int) + o) (hp : ((pc : Int) + o).toNat = pcY) (hn : pc + 3 = pcN) (KY : yi ≤ xi → own_G p e below s n0 kc ks Q T (mkF m pcY Ls st)) (KN : xi < yi → own_G p e below s n0 kc ks Q T (mkF m pcN Ls st)) : own_G p e below s n0 kc ks Q T (mkF m pc Ls (.int y :: .int x :: st)) :=
  s_icmp pcY pcN A S hd ho hp hn (fun q => by have q := own_geY q; exact KY (by subst hxi hyi; exact q)) (fun q => by have q := own_geN q; exact KN (by subst hxi hyi; exact q))
theorem s_ifge (pcY pcN : Nat) {o : Int} {x : Int32} {xi : Int} (A : own_A p l e R s m args below meth c Z own name bytes maxL ret) (S : own_S p l e R s m args below meth c n0 T h k n) (hxi : x.toInt = xi) (hd : decode bytes pc = .ok (.ifCond .ge o, 3)) (ho : 0 ≤ (pc : Int) + o) (hp : ((pc : Int) + o).toNat = pcY) (hn : pc + 3 = pcN) (KY : 0 ≤ xi → own_G p e below s n0 kc ks Q T (mkF m pcY Ls st)) (KN : xi < 0 → own_G p e below s n0 kc ks Q T (mkF m pcN Ls st)) : own_G p e below s n0 kc ks Q T (mkF m pc Ls (.int x :: st)) :=
  s_ifc pcY pcN A S hd ho hp hn (fun q => by have q := own_geY (y := 0) ((if0 _ _).symm.trans q); exact KY (by subst hxi; exact q)) (fun q => by have q := own_geN (y := 0) ((if0 _ _).symm.trans q); exact KN (by subst hxi; exact q))
theorem s_lifge (pcY pcN pcM : Nat) {o : Int} {x y : Int64} {xi yi : Int} (A : own_A p l e R s m args below meth c Z own name bytes maxL ret) (S : own_S p l e R s m args below meth c n0 T h k n) (hxi : x.toInt = xi) (hyi : y.toInt = yi) (hd0 : decode bytes pc = .ok (.lcmp, 1)) (hm : pc + 1 = pcM) (hd : decode bytes pcM = .ok (.ifCond .ge o, 3)) (ho : 0 ≤ (pcM : Int) + o) (hp : ((pcM : Int) + o).toNat = pcY) (hn : pcM + 3 = pcN) (KY : yi ≤ xi → own_G p e below s n0 kc ks Q T (mkF m pcY Ls st)) (KN : xi < yi → own_G p e below s n0 kc ks Q T (mkF m pcN Ls st)) : own_G p e below s n0 kc ks Q T (mkF m pc Ls (.long y :: .long x :: st)) :=
  s_lcmp pcM A S hd0 rfl hm (s_ifge pcY pcN A S rfl hd ho hp hn (fun q => by have q : y.toInt ≤ x.toInt := Int.not_lt.mp fun w => Int.not_lt.mpr q (Int32.lt_iff_toInt_lt.mp ((own_lcmp_lt x y).mpr w)); exact KY (by subst hxi hyi; exact q)) (fun q => by have q : x.toInt < y.toInt := (own_lcmp_lt x y).mp (Int32.lt_iff_toInt_lt.mpr q); exact KN (by subst hxi hyi; exact q)))
theorem s_igt (pcY pcN : Nat) {o : Int} {x y : Int32} {xi yi : Int} (A : own_A p l e R s m args below meth c Z own name bytes maxL ret) (S : own_S p l e R s m args below meth c n0 T h k n) (hxi : x.toInt = xi) (hyi : y.toInt = yi) (hd : decode bytes pc = .ok (.if_icmp .gt o, 3)) (ho : 0 ≤ (pc : Int) + o) (hp : ((pc : Int) + o).toNat = pcY) (hn : pc + 3 = pcN) (KY : yi < xi → own_G p e below s n0 kc ks Q T (mkF m pcY Ls st)) (KN : xi ≤ yi → own_G p e below s n0 kc ks Q T (mkF m pcN Ls st)) : own_G p e below s n0 kc ks Q T (mkF m pc Ls (.int y :: .int x :: st)) :=
  s_icmp pcY pcN A S hd ho hp hn (fun q => by have q := own_gtY q; exact KY (by subst hxi hyi; exact q)) (fun q => by have q := own_gtN q; exact KN (by subst hxi hyi; exact q))
theorem s_ifgt (pcY pcN : Nat) {o : Int} {x : Int32} {xi : Int} (A : own_A p l e R s m args below meth c Z own name bytes maxL ret) (S : own_S p l e R s m args below meth c n0 T h k n) (hxi : x.toInt = xi) (hd : decode bytes pc = .ok (.ifCond .gt o, 3)) (ho : 0 ≤ (pc : Int) + o) (hp : ((pc : Int) + o).toNat = pcY) (hn : pc + 3 = pcN) (KY : 0 < xi → own_G p e below s n0 kc ks Q T (mkF m pcY Ls st)) (KN : xi ≤ 0 → own_G p e below s n0 kc ks Q T (mkF m pcN Ls st)) : own_G p e below s n0 kc ks Q T (mkF m pc Ls (.int x :: st)) :=
  s_ifc pcY pcN A S hd ho hp hn (fun q => by have q := own_gtY (y := 0) ((if0 _ _).symm.trans q); exact KY (by subst hxi; exact q)) (fun q => by have q := own_gtN (y := 0) ((if0 _ _).symm.trans q); exact KN (by subst hxi; exact q))
theorem s_lifgt (pcY pcN pcM : Nat) {o : Int} {x y : Int64} {xi yi : Int} (A : own_A p l e R s m args below meth c Z own name bytes maxL ret) (S : own_S p l e R s m args below meth c n0 T h k n) (hxi : x.toInt = xi) (hyi : y.toInt = yi) (hd0 : decode bytes pc = .ok (.lcmp, 1)) (hm : pc + 1 = pcM) (hd : decode bytes pcM = .ok (.ifCond .gt o, 3)) (ho : 0 ≤ (pcM : Int) + o) (hp : ((pcM : Int) + o).toNat = pcY) (hn : pcM + 3 = pcN) (KY : yi < xi → own_G p e below s n0 kc ks Q T (mkF m pcY Ls st)) (KN : xi ≤ yi → own_G p e below s n0 kc ks Q T (mkF m pcN Ls st)) : own_G p e below s n0 kc ks Q T (mkF m pc Ls (.long y :: .long x :: st)) :=
  s_lcmp pcM A S hd0 rfl hm (s_ifgt pcY pcN A S rfl hd ho hp hn (fun q => by have q : y.toInt < x.toInt := (own_lcmp_gt x y).mp (Int32.lt_iff_toInt_lt.mpr q); exact KY (by subst hxi hyi; exact q)) (fun q => by have q : x.toInt ≤ y.toInt := Int.not_lt.mp fun w => Int.not_lt.mpr q (Int32.lt_iff_toInt_lt.mp ((own_lcmp_gt x y).mpr w)); exact KN (by subst hxi hyi; exact q)))
theorem s_ile (pcY pcN : Nat) {o : Int} {x y : Int32} {xi yi : Int} (A : own_A p l e R s m args below meth c Z own name bytes maxL ret) (S : own_S p l e R s m args below meth c n0 T h k n) (hxi : x.toInt = xi) (hyi : y.toInt = yi) (hd : decode bytes pc = .ok (.if_icmp .le o, 3)) (ho : 0 ≤ (pc : Int) + o) (hp : ((pc : Int) + o).toNat = pcY) (hn : pc + 3 = pcN) (KY : xi ≤ yi → own_G p e below s n0 kc ks Q T (mkF m pcY Ls st)) (KN : yi < xi → own_G p e below s n0 kc ks Q T (mkF m pcN Ls st)) : own_G p e below s n0 kc ks Q T (mkF m pc Ls (.int y :: .int x :: st)) :=
  s_icmp pcY pcN A S hd ho hp hn (fun q => by have q := own_leY q; exact KY (by subst hxi hyi; exact q)) (fun q => by have q := own_leN q; exact KN (by subst hxi hyi; exact q))
theorem s_ifle (pcY pcN : Nat) {o : Int} {x : Int32} {xi : Int} (A : own_A p l e R s m args below meth c Z own name bytes maxL ret) (S : own_S p l e R s m args below meth c n0 T h k n) (hxi : x.toInt = xi) (hd : decode bytes pc = .ok (.ifCond .le o, 3)) (ho : 0 ≤ (pc : Int) + o) (hp : ((pc : Int) + o).toNat = pcY) (hn : pc + 3 = pcN) (KY : xi ≤ 0 → own_G p e below s n0 kc ks Q T (mkF m pcY Ls st)) (KN : 0 < xi → own_G p e below s n0 kc ks Q T (mkF m pcN Ls st)) : own_G p e below s n0 kc ks Q T (mkF m pc Ls (.int x :: st)) :=
  s_ifc pcY pcN A S hd ho hp hn (fun q => by have q := own_leY (y := 0) ((if0 _ _).symm.trans q); exact KY (by subst hxi; exact q)) (fun q => by have q := own_leN (y := 0) ((if0 _ _).symm.trans q); exact KN (by subst hxi; exact q))
theorem s_lifle (pcY pcN pcM : Nat) {o : Int} {x y : Int64} {xi yi : Int} (A : own_A p l e R s m args below meth c Z own name bytes maxL ret) (S : own_S p l e R s m args below meth c n0 T h k n) (hxi : x.toInt = xi) (hyi : y.toInt = yi) (hd0 : decode bytes pc = .ok (.lcmp, 1)) (hm : pc + 1 = pcM) (hd : decode bytes pcM = .ok (.ifCond .le o, 3)) (ho : 0 ≤ (pcM : Int) + o) (hp : ((pcM : Int) + o).toNat = pcY) (hn : pcM + 3 = pcN) (KY : xi ≤ yi → own_G p e below s n0 kc ks Q T (mkF m pcY Ls st)) (KN : yi < xi → own_G p e below s n0 kc ks Q T (mkF m pcN Ls st)) : own_G p e below s n0 kc ks Q T (mkF m pc Ls (.long y :: .long x :: st)) :=
  s_lcmp pcM A S hd0 rfl hm (s_ifle pcY pcN A S rfl hd ho hp hn (fun q => by have q : x.toInt ≤ y.toInt := Int.not_lt.mp fun w => Int.not_lt.mpr q (Int32.lt_iff_toInt_lt.mp ((own_lcmp_gt x y).mpr w)); exact KY (by subst hxi hyi; exact q)) (fun q => by have q : y.toInt < x.toInt := (own_lcmp_gt x y).mp (Int32.lt_iff_toInt_lt.mpr q); exact KN (by subst hxi hyi; exact q)))
theorem s_aeq (pcY pcN : Nat) {o : Int} {v w : Value} (A : own_A p l e R s m args below meth c Z own name bytes maxL ret) (S : own_S p l e R s m args below meth c n0 T h k n) (hv : v.isRef = true) (hw' : w.isRef = true) (hd : decode bytes pc = .ok (.if_acmp .eq o, 3)) (ho : 0 ≤ (pc : Int) + o) (hp : ((pc : Int) + o).toNat = pcY) (hn : pc + 3 = pcN) (KY : v = w → own_G p e below s n0 kc ks Q T (mkF m pcY Ls st)) (KN : ¬ v = w → own_G p e below s n0 kc ks Q T (mkF m pcN Ls st)) : own_G p e below s n0 kc ks Q T (mkF m pc Ls (w :: v :: st)) := by
  obtain ⟨_, X, -, -⟩ := S
  subst hn
  by_cases q : v = w
  · exact own_st (T' := T) (g' := mkF m pcY Ls st) (fun t ht => RoadKit.acmp X A.1 rfl hv hw' (pc0 := pc) (same := true) rfl (hb A.2.1 hd) rfl (decide_eq_true q) ho hp.symm ht) (KY q)
  · exact own_st (T' := T) (g' := mkF m _ Ls st) (fun t ht => RoadKit.acmp X A.1 rfl hv hw' (pc0 := pc) (same := false) rfl (hb A.2.1 hd) rfl (decide_eq_false q) ho rfl ht) (KN q)
theorem s_ane (pcY pcN : Nat) {o : Int} {v w : Value} (A : own_A p l e R s m args below meth c Z own name bytes maxL ret) (S : own_S p l e R s m args below meth c n0 T h k n) (hv : v.isRef = true) (hw' : w.isRef = true) (hd : decode bytes pc = .ok (.if_acmp .ne o, 3)) (ho : 0 ≤ (pc : Int) + o) (hp : ((pc : Int) + o).toNat = pcY) (hn : pc + 3 = pcN) (KY : ¬ v = w → own_G p e below s n0 kc ks Q T (mkF m pcY Ls st)) (KN : v = w → own_G p e below s n0 kc ks Q T (mkF m pcN Ls st)) : own_G p e below s n0 kc ks Q T (mkF m pc Ls (w :: v :: st)) := by
  obtain ⟨_, X, -, -⟩ := S
  subst hn
  by_cases q : v = w
  · exact own_st (T' := T) (g' := mkF m _ Ls st) (fun t ht => RoadKit.acmp X A.1 rfl hv hw' (pc0 := pc) (same := true) rfl (hb A.2.1 hd) rfl (decide_eq_true q) ho rfl ht) (KN q)
  · exact own_st (T' := T) (g' := mkF m pcY Ls st) (fun t ht => RoadKit.acmp X A.1 rfl hv hw' (pc0 := pc) (same := false) rfl (hb A.2.1 hd) rfl (decide_eq_false q) ho hp.symm ht) (KY q)
theorem own_leave {v : Option Value} (A : own_A p l e R s m args below meth c Z own name bytes maxL ret) (S : own_S p l e R s m args below meth c n0 T h k n) (hv : meth.sig.returnType = none → v = none) (hk : k ≤ kc) (hn : n ≤ ks) (hq : Q v h)
    (go : ∀ (locs : List Loc) (X : Stand p l e R s m args below meth c T locs k n) (fs : List Frame), (∀ (f : JFrame) (acts : List Action), f.method = m → f.locked = none → f.entered = [] → (doReturn e (T.setTop f) acts v).1 = T.setFrames fs) → Steps p.tables e below (T.setTop g) (T.setFrames fs)) : own_G p e below s n0 kc ks Q T g := by
  obtain ⟨locs, X, hh, N⟩ := S
  obtain ⟨-, -, -, -, -, -, hlk, -⟩ := A
  obtain ⟨fs, hr, hrun, hended, hW, hsame⟩ := X.leave (v := v) hv hlk
  exact ⟨_, _, go locs X fs hr, hrun, hended, v, locs, rfl, ⟨by show Q v T.heap; rw [hh]; exact hq, N⟩, ⟨v, rfl⟩, hW, hsame.mono hk hn⟩
theorem s_ret (A : own_A p l e R s m args below meth c Z own name bytes maxL none) (S : own_S p l e R s m args below meth c n0 T h k n) (hd : decode bytes pc = .ok (.return_, 1)) (hk : k ≤ kc) (hn : n ≤ ks) (hq : Q none h) : own_G p e below s n0 kc ks Q T (mkF m pc Ls []) :=
  own_leave A S (fun _ => rfl) hk hn hq fun locs X fs hr => X.returnOut A.1 A.2.2.2.2.2.1 (hb A.2.1 hd) hr
theorem s_retV {w : Value} {t : FieldType} {i : Instr} (A : own_A p l e R s m args below meth c Z own name bytes maxL (some t)) (S : own_S p l e R s m args below meth c n0 T h k n) (hd : decode bytes pc = .ok (i, 1)) (hn' : narrow t w = w) (hi : (i = .ireturn ∧ (t = .int ∨ t = .boolean ∨ t = .byte ∨ t = .char ∨ t = .short) ∧ ∃ z, w = .int z) ∨ (i = .lreturn ∧ t = .long ∧ ∃ z, w = .long z) ∨ (i = .dreturn ∧ t = .double ∧ ∃ z, w = .double z) ∨ (i = .freturn ∧ t = .float ∧ ∃ z, w = .float z) ∨ (i = .areturn ∧ t.isReference = true ∧ w.isRef = true)) (hk : k ≤ kc) (hn : n ≤ ks) (hq : Q (some w) h) : own_G p e below s n0 kc ks Q T (mkF m pc Ls (w :: st)) :=
  own_leave A S (fun q => by rw [A.2.2.2.2.2.1] at q; cases q) hk hn hq fun locs X fs hr => retOut X A.1 A.2.2.2.2.2.1 hn' hi (hb A.2.1 hd) hr
theorem s_retI {z : Int32} (A : own_A p l e R s m args below meth c Z own name bytes maxL (some .int)) (S : own_S p l e R s m args below meth c n0 T h k n) (hd : decode bytes pc = .ok (.ireturn, 1)) (hk : k ≤ kc) (hn : n ≤ ks) (hq : Q (some (.int z)) h) : own_G p e below s n0 kc ks Q T (mkF m pc Ls (.int z :: st)) :=
  s_retV A S hd rfl (Or.inl ⟨rfl, Or.inl rfl, z, rfl⟩) hk hn hq
theorem s_retZ {z : Int32} (A : own_A p l e R s m args below meth c Z own name bytes maxL (some .boolean)) (S : own_S p l e R s m args below meth c n0 T h k n) (hd : decode bytes pc = .ok (.ireturn, 1)) (hz : narrow .boolean (.int z) = .int z) (hk : k ≤ kc) (hn : n ≤ ks) (hq : Q (some (.int z)) h) : own_G p e below s n0 kc ks Q T (mkF m pc Ls (.int z :: st)) :=
  s_retV A S hd hz (Or.inl ⟨rfl, Or.inr (Or.inl rfl), z, rfl⟩) hk hn hq
theorem s_retJ {z : Int64} (A : own_A p l e R s m args below meth c Z own name bytes maxL (some .long)) (S : own_S p l e R s m args below meth c n0 T h k n) (hd : decode bytes pc = .ok (.lreturn, 1)) (hk : k ≤ kc) (hn : n ≤ ks) (hq : Q (some (.long z)) h) : own_G p e below s n0 kc ks Q T (mkF m pc Ls (.long z :: st)) :=
  s_retV A S hd rfl (Or.inr (Or.inl ⟨rfl, rfl, z, rfl⟩)) hk hn hq
theorem s_retA {w : Value} {t : FieldType} (A : own_A p l e R s m args below meth c Z own name bytes maxL (some t)) (S : own_S p l e R s m args below meth c n0 T h k n) (hd : decode bytes pc = .ok (.areturn, 1)) (ht : t.isReference = true) (hn' : narrow t w = w) (hw' : w.isRef = true) (hk : k ≤ kc) (hn : n ≤ ks) (hq : Q (some w) h) : own_G p e below s n0 kc ks Q T (mkF m pc Ls (w :: st)) :=
  s_retV A S hd hn' (Or.inr (Or.inr (Or.inr (Or.inr ⟨rfl, ht, hw'⟩)))) hk hn hq
theorem s_callS (pc' : Nat) {y : MethodName} {index : Nat} {bytes' : ByteArray} {maxL' : Nat} {ret' : Option FieldType} {rm : Room} {argsL rest stk : List Value} {Q' : Option Value → Heap → Prop}
    (A : own_A p l e R s m args below meth c Z own name bytes maxL ret) (S : own_S p l e R s m args below meth c n0 T h k n)
    (w1 : (Jvm.Cond.methodLink own index y).before a0 Z = true) (w2 : (Jvm.Cond.static y).before a0 Z = true) (w3 : (Jvm.Cond.initialized y.cls).before a0 Z = true) (w4 : (Jvm.Cond.code y bytes' maxL' ret').before a0 Z = true)
    (C : own_C l Z y bytes' maxL' ret' rm n0 [] argsL.toArray h Q') (hlen : ∀ sig, parseMethodDescriptor y.desc = some sig → argsL.length = sig.parameters.length)
    (hd : decode bytes pc = .ok (.invokestatic index, 3)) (hst : stk = argsL.reverse ++ rest) (hp : pc + 3 = pc') (hsize : Ls.size = maxL) (hy : y.cls ≠ "java/lang/invoke/MethodHandle" ∧ y.cls ≠ "java/lang/invoke/VarHandle")
    (hf : rm.frames + 1 ≤ R.frames) (hl : (rest.map fun v => v.category).sum + (maxL' + 11) + rm.locals ≤ R.locals) (hc : k + rm.cells ≤ R.cells) (hs : n + rm.slots ≤ R.slots)
    (K : ∀ (T' : State) (h' : Heap) (v : Option Value), Q' v h' → own_S p l e R s m args below meth c n0 T' h' (k + rm.cells) (n + rm.slots) → own_G p e below s n0 kc ks Q T' (mkF m pc' Ls (v.toList ++ rest))) : own_G p e below s n0 kc ks Q T (mkF m pc Ls stk) := by
  obtain ⟨locs, X, eT, N⟩ := S
  obtain ⟨hx, hby, hml, hown, -, -, -, hZ⟩ := A
  subst hp
  obtain ⟨v, _, ⟨T1, L1, k1, n1⟩, -, X1, ⟨Lc, hQ1, l1, y1, z1⟩, st1⟩ := Jvm.LawKit.callS X hx (y := y) hown (mvT hZ w1) (mvT hZ w2) (mvT hZ w3) (mvT hZ w4) hy (backOf (W := (rest.map fun v => v.category).sum) (Q := fun v h L => Q' v h ∧ Fr n0 L) C hZ w4 w3 hf hl) (g := mkF m pc Ls stk) rfl (by rw [hml]; exact hsize) (argsL := argsL) (rest := rest) hlen hst (by show 2 * 0 + _ ≤ _; omega) (hb hby hd) (fun _ _ => ⟨rfl, eT, hc, hs⟩)
  dsimp only [Pt.U, Pt.locs, Pt.cells, Pt.slots] at X1 l1 y1 z1 st1 hQ1
  subst l1 y1 z1
  exact own_st (T' := T1) (g' := mkF m _ Ls (v.toList ++ rest)) st1 (K T1 T1.heap v hQ1.1 ⟨_, X1, rfl, Fr.app N hQ1.2⟩)
theorem s_callV (pc' : Nat) {y : MethodName} {index : Nat} {bytes' : ByteArray} {maxL' : Nat} {ret' : Option FieldType} {rm : Room} {argsL rest stk : List Value} {w : Value}
    (A : own_A p l e R s m args below meth c Z own name bytes maxL ret) (S : own_S p l e R s m args below meth c n0 T h k n)
    (w1 : (Jvm.Cond.methodLink own index y).before a0 Z = true) (w2 : (Jvm.Cond.static y).before a0 Z = true) (w3 : (Jvm.Cond.initialized y.cls).before a0 Z = true) (w4 : (Jvm.Cond.code y bytes' maxL' ret').before a0 Z = true)
    (C : own_C l Z y bytes' maxL' ret' rm n0 [] argsL.toArray h (fun v h' => v = some w ∧ h' = h)) (hlen : ∀ sig, parseMethodDescriptor y.desc = some sig → argsL.length = sig.parameters.length)
    (hd : decode bytes pc = .ok (.invokestatic index, 3)) (hst : stk = argsL.reverse ++ rest) (hp : pc + 3 = pc') (hsize : Ls.size = maxL) (hy : y.cls ≠ "java/lang/invoke/MethodHandle" ∧ y.cls ≠ "java/lang/invoke/VarHandle")
    (hf : rm.frames + 1 ≤ R.frames) (hl : (rest.map fun v => v.category).sum + (maxL' + 11) + rm.locals ≤ R.locals) (hc : k + rm.cells ≤ R.cells) (hs : n + rm.slots ≤ R.slots)
    (K : ∀ (T' : State), own_S p l e R s m args below meth c n0 T' h (k + rm.cells) (n + rm.slots) → own_G p e below s n0 kc ks Q T' (mkF m pc' Ls (w :: rest))) : own_G p e below s n0 kc ks Q T (mkF m pc Ls stk) :=
  s_callS pc' A S w1 w2 w3 w4 C hlen hd hst hp hsize hy hf hl hc hs (fun T' h' v q S' => by obtain ⟨rfl, rfl⟩ := q; exact K T' S')
theorem s_callN (pc' : Nat) {y : MethodName} {index : Nat} {bytes' : ByteArray} {maxL' : Nat} {ret' : Option FieldType} {rm : Room} {argsL rest stk : List Value}
    (A : own_A p l e R s m args below meth c Z own name bytes maxL ret) (S : own_S p l e R s m args below meth c n0 T h k n)
    (w1 : (Jvm.Cond.methodLink own index y).before a0 Z = true) (w2 : (Jvm.Cond.static y).before a0 Z = true) (w3 : (Jvm.Cond.initialized y.cls).before a0 Z = true) (w4 : (Jvm.Cond.code y bytes' maxL' ret').before a0 Z = true)
    (C : own_C l Z y bytes' maxL' ret' rm n0 [] argsL.toArray h (fun v h' => v = none ∧ h' = h)) (hlen : ∀ sig, parseMethodDescriptor y.desc = some sig → argsL.length = sig.parameters.length)
    (hd : decode bytes pc = .ok (.invokestatic index, 3)) (hst : stk = argsL.reverse ++ rest) (hp : pc + 3 = pc') (hsize : Ls.size = maxL) (hy : y.cls ≠ "java/lang/invoke/MethodHandle" ∧ y.cls ≠ "java/lang/invoke/VarHandle")
    (hf : rm.frames + 1 ≤ R.frames) (hl : (rest.map fun v => v.category).sum + (maxL' + 11) + rm.locals ≤ R.locals) (hc : k + rm.cells ≤ R.cells) (hs : n + rm.slots ≤ R.slots)
    (K : ∀ (T' : State), own_S p l e R s m args below meth c n0 T' h (k + rm.cells) (n + rm.slots) → own_G p e below s n0 kc ks Q T' (mkF m pc' Ls rest)) : own_G p e below s n0 kc ks Q T (mkF m pc Ls stk) :=
  s_callS pc' A S w1 w2 w3 w4 C hlen hd hst hp hsize hy hf hl hc hs (fun T' h' v q S' => by obtain ⟨rfl, rfl⟩ := q; exact K T' S')
theorem s_virt (pc' : Nat) {y z : MethodName} {CC : String} {index : Nat} {bytes' : ByteArray} {maxL' : Nat} {ret' : Option FieldType} {rm : Room} {argsL rest stk : List Value} {b : Addr} {Q' : Option Value → Heap → Prop}
    (A : own_A p l e R s m args below meth c Z own name bytes maxL ret) (S : own_S p l e R s m args below meth c n0 T h k n) (E : Exa Z h b CC)
    (w1 : (Jvm.Cond.methodLink own index y).before a0 Z = true) (w2 : (Jvm.Cond.declares y).before a0 Z = true) (nf : NotFace s y) (w5 : (Jvm.Cond.selects CC y z).before a0 Z = true) (w6 : (Jvm.Cond.instanceMethod z).before a0 Z = true) (w3 : (Jvm.Cond.initialized z.cls).before a0 Z = true) (w4 : (Jvm.Cond.code z bytes' maxL' ret').before a0 Z = true)
    (C : own_C l Z z bytes' maxL' ret' rm n0 [] (Value.ref b :: argsL).toArray h Q') (hlen : ∀ sig, parseMethodDescriptor y.desc = some sig → argsL.length = sig.parameters.length)
    (hd : decode bytes pc = .ok (.invokevirtual index, 3)) (hst : stk = argsL.reverse ++ Value.ref b :: rest) (hp : pc + 3 = pc') (hsize : Ls.size = maxL) (hy : y.cls ≠ "java/lang/invoke/MethodHandle" ∧ y.cls ≠ "java/lang/invoke/VarHandle")
    (hf : rm.frames + 1 ≤ R.frames) (hl : (rest.map fun v => v.category).sum + (maxL' + 11) + rm.locals ≤ R.locals) (hc : k + rm.cells ≤ R.cells) (hs : n + rm.slots ≤ R.slots)
    (K : ∀ (T' : State) (h' : Heap) (v : Option Value), Q' v h' → own_S p l e R s m args below meth c n0 T' h' (k + rm.cells) (n + rm.slots) → own_G p e below s n0 kc ks Q T' (mkF m pc' Ls (v.toList ++ rest))) : own_G p e below s n0 kc ks Q T (mkF m pc Ls stk) := by
  obtain ⟨locs, X, eT, N⟩ := S
  obtain ⟨hx, hby, hml, hown, -, -, -, hZ⟩ := A
  subst hp
  obtain ⟨cq, kq, qa, qb, qc⟩ := isOf hZ eT E
  obtain ⟨v, _, ⟨T1, L1, k1, n1⟩, -, X1, ⟨Lc, hQ1, l1, y1, z1⟩, st1⟩ := X.virtualBack hx (y := y) (z := z) hown (mvT hZ w1) (mvT hZ w2) nf (mvT hZ w5) (mvT hZ w6) hy (backOf (W := (rest.map fun v => v.category).sum) (Q := fun v h L => Q' v h ∧ Fr n0 L) C hZ w4 w3 hf hl) qa qc (g := mkF m pc Ls stk) rfl (by rw [hml]; exact hsize) (Steps.refl _) (argsL := argsL) (rest := rest) hlen hst (by show 2 * 0 + _ ≤ _; omega) (hb hby hd) (fun _ _ => ⟨rfl, eT, hc, hs⟩)
  dsimp only [Pt.U, Pt.locs, Pt.cells, Pt.slots] at X1 l1 y1 z1 st1 hQ1
  subst l1 y1 z1
  exact own_st (T' := T1) (g' := mkF m _ Ls (v.toList ++ rest)) (fun t => st1.trans) (K T1 T1.heap v hQ1.1 ⟨_, X1, rfl, Fr.app N hQ1.2⟩)
theorem s_virtV (pc' : Nat) {y z : MethodName} {CC : String} {index : Nat} {bytes' : ByteArray} {maxL' : Nat} {ret' : Option FieldType} {rm : Room} {argsL rest stk : List Value} {b : Addr} {w : Value}
    (A : own_A p l e R s m args below meth c Z own name bytes maxL ret) (S : own_S p l e R s m args below meth c n0 T h k n) (E : Exa Z h b CC)
    (w1 : (Jvm.Cond.methodLink own index y).before a0 Z = true) (w2 : (Jvm.Cond.declares y).before a0 Z = true) (nf : NotFace s y) (w5 : (Jvm.Cond.selects CC y z).before a0 Z = true) (w6 : (Jvm.Cond.instanceMethod z).before a0 Z = true) (w3 : (Jvm.Cond.initialized z.cls).before a0 Z = true) (w4 : (Jvm.Cond.code z bytes' maxL' ret').before a0 Z = true)
    (C : own_C l Z z bytes' maxL' ret' rm n0 [] (Value.ref b :: argsL).toArray h (fun v h' => v = some w ∧ h' = h)) (hlen : ∀ sig, parseMethodDescriptor y.desc = some sig → argsL.length = sig.parameters.length)
    (hd : decode bytes pc = .ok (.invokevirtual index, 3)) (hst : stk = argsL.reverse ++ Value.ref b :: rest) (hp : pc + 3 = pc') (hsize : Ls.size = maxL) (hy : y.cls ≠ "java/lang/invoke/MethodHandle" ∧ y.cls ≠ "java/lang/invoke/VarHandle")
    (hf : rm.frames + 1 ≤ R.frames) (hl : (rest.map fun v => v.category).sum + (maxL' + 11) + rm.locals ≤ R.locals) (hc : k + rm.cells ≤ R.cells) (hs : n + rm.slots ≤ R.slots)
    (K : ∀ (T' : State), own_S p l e R s m args below meth c n0 T' h (k + rm.cells) (n + rm.slots) → own_G p e below s n0 kc ks Q T' (mkF m pc' Ls (w :: rest))) : own_G p e below s n0 kc ks Q T (mkF m pc Ls stk) :=
  s_virt pc' A S E w1 w2 nf w5 w6 w3 w4 C hlen hd hst hp hsize hy hf hl hc hs (fun T' h' v q S' => by obtain ⟨rfl, rfl⟩ := q; exact K T' S')
theorem s_virtN (pc' : Nat) {y z : MethodName} {CC : String} {index : Nat} {bytes' : ByteArray} {maxL' : Nat} {ret' : Option FieldType} {rm : Room} {argsL rest stk : List Value} {b : Addr}
    (A : own_A p l e R s m args below meth c Z own name bytes maxL ret) (S : own_S p l e R s m args below meth c n0 T h k n) (E : Exa Z h b CC)
    (w1 : (Jvm.Cond.methodLink own index y).before a0 Z = true) (w2 : (Jvm.Cond.declares y).before a0 Z = true) (nf : NotFace s y) (w5 : (Jvm.Cond.selects CC y z).before a0 Z = true) (w6 : (Jvm.Cond.instanceMethod z).before a0 Z = true) (w3 : (Jvm.Cond.initialized z.cls).before a0 Z = true) (w4 : (Jvm.Cond.code z bytes' maxL' ret').before a0 Z = true)
    (C : own_C l Z z bytes' maxL' ret' rm n0 [] (Value.ref b :: argsL).toArray h (fun v h' => v = none ∧ h' = h)) (hlen : ∀ sig, parseMethodDescriptor y.desc = some sig → argsL.length = sig.parameters.length)
    (hd : decode bytes pc = .ok (.invokevirtual index, 3)) (hst : stk = argsL.reverse ++ Value.ref b :: rest) (hp : pc + 3 = pc') (hsize : Ls.size = maxL) (hy : y.cls ≠ "java/lang/invoke/MethodHandle" ∧ y.cls ≠ "java/lang/invoke/VarHandle")
    (hf : rm.frames + 1 ≤ R.frames) (hl : (rest.map fun v => v.category).sum + (maxL' + 11) + rm.locals ≤ R.locals) (hc : k + rm.cells ≤ R.cells) (hs : n + rm.slots ≤ R.slots)
    (K : ∀ (T' : State), own_S p l e R s m args below meth c n0 T' h (k + rm.cells) (n + rm.slots) → own_G p e below s n0 kc ks Q T' (mkF m pc' Ls rest)) : own_G p e below s n0 kc ks Q T (mkF m pc Ls stk) :=
  s_virt pc' A S E w1 w2 nf w5 w6 w3 w4 C hlen hd hst hp hsize hy hf hl hc hs (fun T' h' v q S' => by obtain ⟨rfl, rfl⟩ := q; exact K T' S')
theorem s_spec (pc' : Nat) {y : MethodName} {index : Nat} {bytes' : ByteArray} {maxL' : Nat} {rm : Room} {argsL rest stk : List Value} {b : Addr} {Q' : Option Value → Heap → Prop}
    (A : own_A p l e R s m args below meth c Z own name bytes maxL ret) (S : own_S p l e R s m args below meth c n0 T h k n)
    (w1 : (Jvm.Cond.methodLink own index y).before a0 Z = true) (w2 : (Jvm.Cond.instanceMethod y).before a0 Z = true) (w3 : (Jvm.Cond.initialized y.cls).before a0 Z = true) (w4 : (Jvm.Cond.code y bytes' maxL' none).before a0 Z = true)
    (C : own_C l Z y bytes' maxL' none rm n0 [] (Value.ref b :: argsL).toArray h Q') (hlen : ∀ sig, parseMethodDescriptor y.desc = some sig → argsL.length = sig.parameters.length)
    (hd : decode bytes pc = .ok (.invokespecial index, 3)) (hst : stk = argsL.reverse ++ Value.ref b :: rest) (hp : pc + 3 = pc') (hsize : Ls.size = maxL) (hy1 : y.name = "<init>") (hy : y.cls ≠ "java/lang/invoke/MethodHandle" ∧ y.cls ≠ "java/lang/invoke/VarHandle")
    (hf : rm.frames + 1 ≤ R.frames) (hl : (rest.map fun v => v.category).sum + (maxL' + 11) + rm.locals ≤ R.locals) (hc : k + rm.cells ≤ R.cells) (hs : n + rm.slots ≤ R.slots)
    (K : ∀ (T' : State) (h' : Heap) (v : Option Value), Q' v h' → own_S p l e R s m args below meth c n0 T' h' (k + rm.cells) (n + rm.slots) → own_G p e below s n0 kc ks Q T' (mkF m pc' Ls (v.toList ++ rest))) : own_G p e below s n0 kc ks Q T (mkF m pc Ls stk) := by
  obtain ⟨locs, X, eT, N⟩ := S
  obtain ⟨hx, hby, hml, hown, -, -, -, hZ⟩ := A
  subst hp
  obtain ⟨v, _, ⟨T1, L1, k1, n1⟩, -, X1, ⟨Lc, hQ1, l1, y1, z1⟩, st1⟩ := X.specialBack hx (y := y) hy1 hown (mvT hZ w1) (mvT hZ w2) (mvT hZ w4) hy (backOf (W := (rest.map fun v => v.category).sum) (Q := fun v h L => Q' v h ∧ Fr n0 L) C hZ w4 w3 hf hl) (g := mkF m pc Ls stk) rfl (by rw [hml]; exact hsize) (Steps.refl _) (a := b) (argsL := argsL) (rest := rest) hlen hst (by show 2 * 0 + _ ≤ _; omega) (hb hby hd) (fun _ _ => ⟨rfl, eT, hc, hs⟩)
  dsimp only [Pt.U, Pt.locs, Pt.cells, Pt.slots] at X1 l1 y1 z1 st1 hQ1
  subst l1 y1 z1
  exact own_st (T' := T1) (g' := mkF m _ Ls (v.toList ++ rest)) (fun t => st1.trans) (K T1 T1.heap v hQ1.1 ⟨_, X1, rfl, Fr.app N hQ1.2⟩)
theorem s_specN (pc' : Nat) {y : MethodName} {index : Nat} {bytes' : ByteArray} {maxL' : Nat} {rm : Room} {argsL rest stk : List Value} {b : Addr}
    (A : own_A p l e R s m args below meth c Z own name bytes maxL ret) (S : own_S p l e R s m args below meth c n0 T h k n)
    (w1 : (Jvm.Cond.methodLink own index y).before a0 Z = true) (w2 : (Jvm.Cond.instanceMethod y).before a0 Z = true) (w3 : (Jvm.Cond.initialized y.cls).before a0 Z = true) (w4 : (Jvm.Cond.code y bytes' maxL' none).before a0 Z = true)
    (C : own_C l Z y bytes' maxL' none rm n0 [] (Value.ref b :: argsL).toArray h (fun v h' => v = none ∧ h' = h)) (hlen : ∀ sig, parseMethodDescriptor y.desc = some sig → argsL.length = sig.parameters.length)
    (hd : decode bytes pc = .ok (.invokespecial index, 3)) (hst : stk = argsL.reverse ++ Value.ref b :: rest) (hp : pc + 3 = pc') (hsize : Ls.size = maxL) (hy1 : y.name = "<init>") (hy : y.cls ≠ "java/lang/invoke/MethodHandle" ∧ y.cls ≠ "java/lang/invoke/VarHandle")
    (hf : rm.frames + 1 ≤ R.frames) (hl : (rest.map fun v => v.category).sum + (maxL' + 11) + rm.locals ≤ R.locals) (hc : k + rm.cells ≤ R.cells) (hs : n + rm.slots ≤ R.slots)
    (K : ∀ (T' : State), own_S p l e R s m args below meth c n0 T' h (k + rm.cells) (n + rm.slots) → own_G p e below s n0 kc ks Q T' (mkF m pc' Ls rest)) : own_G p e below s n0 kc ks Q T (mkF m pc Ls stk) :=
  s_spec pc' A S w1 w2 w3 w4 C hlen hd hst hp hsize hy1 hy hf hl hc hs (fun T' h' v q S' => by obtain ⟨rfl, rfl⟩ := q; exact K T' S')
theorem s_getS (pc' : Nat) {O nm dd : String} {index : Nat} {v : Value} (A : own_A p l e R s m args below meth c Z own name bytes maxL ret) (S : own_S p l e R s m args below meth c n0 T h k n)
    (w : (Jvm.Cond.fieldLink own index O nm dd).before a0 Z = true) (F : Sta Z h O nm dd v) (hd : decode bytes pc = .ok (.getstatic index, 3)) (hp : pc + 3 = pc')
    (K : ∀ T', own_S p l e R s m args below meth c n0 T' h k n → own_G p e below s n0 kc ks Q T' (mkF m pc' Ls (v :: st))) : own_G p e below s n0 kc ks Q T (mkF m pc Ls st) := by
  obtain ⟨locs, X, eT, N⟩ := S
  obtain ⟨hx, hby, hml, hown, -, -, -, hZ⟩ := A
  subst hp
  obtain ⟨T1, X1, e1, st1⟩ := getS (host := "") X hx hZ hown w Via.refl eT F (g := mkF m pc Ls st) rfl (hb hby hd)
  exact own_st (T' := T1) (g' := mkF m _ Ls (v :: st)) st1 (K T1 ⟨_, X1, e1, N⟩)
theorem s_getF (pc' : Nat) {O nm dd : String} {index : Nat} {v : Value} {a : Addr} (A : own_A p l e R s m args below meth c Z own name bytes maxL ret) (S : own_S p l e R s m args below meth c n0 T h k n)
    (w : (Jvm.Cond.fieldLink own index O nm dd).before a0 Z = true) (F : Fld Z h a O nm dd v) (hd : decode bytes pc = .ok (.getfield index, 3)) (hp : pc + 3 = pc')
    (K : ∀ T', own_S p l e R s m args below meth c n0 T' h k n → own_G p e below s n0 kc ks Q T' (mkF m pc' Ls (v :: st))) : own_G p e below s n0 kc ks Q T (mkF m pc Ls (.ref a :: st)) := by
  obtain ⟨locs, X, eT, N⟩ := S
  obtain ⟨hx, hby, hml, hown, -, -, -, hZ⟩ := A
  subst hp
  obtain ⟨T1, X1, e1, st1⟩ := getF X hx hZ hown (host := "") (Or.inl w) Via.refl eT F (g := mkF m pc Ls (.ref a :: st)) rfl rfl (hb hby hd)
  exact own_st (T' := T1) (g' := mkF m _ Ls (v :: st)) st1 (K T1 ⟨_, X1, e1, N⟩)
theorem s_putF (pc' : Nat) {O nm dd CC : String} {index kk : Nat} {v old : Value} {a : Addr} {ty : FieldType} (A : own_A p l e R s m args below meth c Z own name bytes maxL ret) (S : own_S p l e R s m args below meth c n0 T h k n)
    (w : (Jvm.Cond.fieldLink own index O nm dd).before a0 Z = true) (F : Fld Z h a O nm dd old) (E : Exa Z h a CC) (L : (Jvm.Cond.lays CC O nm dd).before a0 Z = true ∨ ((Jvm.Cond.laysFinal CC O nm dd).before a0 Z = true ∧ own = O ∧ name = "<init>")) (wi : (Jvm.Cond.instantiable CC kk).before a0 Z = true) (hge : n0 ≤ a)
    (hd : decode bytes pc = .ok (.putfield index, 3)) (hty : parseFieldDescriptor dd = some ty) (hn : narrow ty v = v) (hf : fits ty v = true) (hp : pc + 3 = pc')
    (K : ∀ T' h', Wr h h' a (RoadKit.slotOf Z O nm dd) v → own_S p l e R s m args below meth c n0 T' h' k n → own_G p e below s n0 kc ks Q T' (mkF m pc' Ls st)) : own_G p e below s n0 kc ks Q T (mkF m pc Ls (v :: .ref a :: st)) := by
  obtain ⟨locs, X, eT, N⟩ := S
  obtain ⟨hx, hby, hml, hown, hnm, -, -, hZ⟩ := A
  subst hp
  obtain ⟨T1, h1, X1, e1, W1, st1⟩ := putF X hx hZ hown (host := "") (Or.inl w) Via.refl eT F E (L.imp id fun q => ⟨q.1, q.2.1, hnm.trans q.2.2⟩) wi hty hn hf (g := mkF m pc Ls (v :: .ref a :: st)) rfl rfl (hb hby hd)
  exact own_st (T' := T1) (g' := mkF m _ Ls st) st1 (K T1 h1 W1 ⟨_, X1, e1, Fr.snoc X1 N hge⟩)
theorem s_new (pc' : Nat) {CC : String} {index nn : Nat} (A : own_A p l e R s m args below meth c Z own name bytes maxL ret) (S : own_S p l e R s m args below meth c n0 T h k n)
    (w : (Jvm.Cond.classLink own index CC).before a0 Z = true) (wi : (Jvm.Cond.instantiable CC nn).before a0 Z = true) (wz : (Jvm.Cond.initialized CC).before a0 Z = true) (hd : decode bytes pc = .ok (.new index, 3)) (hp : pc + 3 = pc') (hc : k + 1 ≤ R.cells) (hl : n + nn ≤ R.slots)
    (K : ∀ T' h' (a : Addr), a = h.size → Ext h h' → Exa Z h' a CC → (∀ {O nm dd : String} {ty : FieldType}, Laid Z a0 CC O nm dd → parseFieldDescriptor dd = some ty → Fld Z h' a O nm dd (defaultValue ty)) → own_S p l e R s m args below meth c n0 T' h' (k + 1) (n + nn) → own_G p e below s n0 kc ks Q T' (mkF m pc' Ls (.ref a :: st))) : own_G p e below s n0 kc ks Q T (mkF m pc Ls st) := by
  obtain ⟨locs, X, eT, N⟩ := S
  obtain ⟨hx, hby, hml, hown, -, -, -, hZ⟩ := A
  subst hp
  obtain ⟨T1, h1, X1, e1, E1, A1, D1, -, st1⟩ := newO X hx hZ hown w wi wz eT (g := mkF m pc Ls st) rfl (hb hby hd) hc hl
  exact own_st (T' := T1) (g' := mkF m _ Ls (.ref h.size :: st)) st1 (K T1 h1 h.size rfl E1 A1 D1 ⟨_, X1, e1, N⟩)
theorem s_initO (pc' : Nat) {idx : Nat} {a : Addr} (A : own_A p l e R s m args below meth c Z own name bytes maxL ret) (S : own_S p l e R s m args below meth c n0 T h k n)
    (w1 : (Jvm.Cond.methodLink own idx Lib.objectInit).before a0 Z = true) (w2 : (Jvm.Cond.instanceMethod Lib.objectInit).before a0 Z = true) (w3 : (Jvm.Cond.code Lib.objectInit ⟨#[0xb1]⟩ 1 none).before a0 Z = true) (hd : decode bytes pc = .ok (.invokespecial idx, 3)) (hp : pc + 3 = pc') (hsize : Ls.size = maxL) (hf : 1 ≤ R.frames) (hl : (st.map fun v => v.category).sum + 12 ≤ R.locals)
    (K : ∀ T', own_S p l e R s m args below meth c n0 T' h k n → own_G p e below s n0 kc ks Q T' (mkF m pc' Ls st)) : own_G p e below s n0 kc ks Q T (mkF m pc Ls (.ref a :: st)) := by
  obtain ⟨locs, X, eT, N⟩ := S
  obtain ⟨hx, hby, hml, hown, -, -, -, hZ⟩ := A
  subst hp
  obtain ⟨T1, X1, e1, st1⟩ := initO X hx hZ hown w1 w2 w3 eT (g := mkF m pc Ls (.ref a :: st)) rfl (by rw [hml]; exact hsize) rfl (hb hby hd) hf (W := (st.map fun v => v.category).sum) (by show 2 * 0 + _ ≤ _; omega) hl
  exact own_st (T' := T1) (g' := mkF m _ Ls st) st1 (K T1 ⟨_, X1, e1, N⟩)
theorem s_newP (pc' : Nat) {aty : ArrayType} {z : Int32} {cap : Nat} (A : own_A p l e R s m args below meth c Z own name bytes maxL ret) (S : own_S p l e R s m args below meth c n0 T h k n)
    (w : (Jvm.Cond.arrayClass (newarray.typeOf aty)).before a0 Z = true) (hd : decode bytes pc = .ok (.newarray aty, 2)) (hn : ¬ z < 0) (hcap : z.toNatClampNeg ≤ cap) (hbb : cap * 8 ≤ 536870912) (hp : pc + 2 = pc') (hc : k + 1 ≤ R.cells) (hl : n + cap ≤ R.slots)
    (K : ∀ T' h' (cA : ClassId) (a : Addr), a = h.size → Ext h h' → Arv Z h' a cA (newarray.typeOf aty) z [] (defaultValue (newarray.typeOf aty)) → own_S p l e R s m args below meth c n0 T' h' (k + 1) (n + cap) → own_G p e below s n0 kc ks Q T' (mkF m pc' Ls (.ref a :: st))) : own_G p e below s n0 kc ks Q T (mkF m pc Ls (.int z :: st)) := by
  obtain ⟨locs, X, eT, N⟩ := S
  obtain ⟨hx, hby, hml, hown, -, -, -, hZ⟩ := A
  subst hp
  obtain ⟨T1, h1, cA, X1, e1, E1, A1, st1⟩ := newP X hx hZ w eT (g := mkF m pc Ls (.int z :: st)) rfl (hb hby hd) rfl hn (cap := cap) hcap hbb hc hl
  exact own_st (T' := T1) (g' := mkF m _ Ls (.ref h.size :: st)) st1 (K T1 h1 cA h.size rfl E1 (Arv.new A1 hn) ⟨_, X1, e1, N⟩)
theorem s_alen (pc' : Nat) {a : Addr} {cA : ClassId} {ty : FieldType} {z : Int32} {vs : List Value} {dv : Value} (A : own_A p l e R s m args below meth c Z own name bytes maxL ret) (S : own_S p l e R s m args below meth c n0 T h k n)
    (V : Arv Z h a cA ty z vs dv) (hd : decode bytes pc = .ok (.arraylength, 1)) (hp : pc + 1 = pc') (K : own_G p e below s n0 kc ks Q T (mkF m pc' Ls (.int z :: st))) : own_G p e below s n0 kc ks Q T (mkF m pc Ls (.ref a :: st)) := by
  obtain ⟨locs, X, eT, N⟩ := S
  obtain ⟨hx, hby, hml, hown, -, -, -, hZ⟩ := A
  obtain ⟨cl, Ar, -, S1, N1, -, -⟩ := V
  subst hp
  rw [← len_of S1 N1] at K
  exact own_st (T' := T) (g' := mkF m _ Ls (.int cl.slots.size.toInt32 :: st)) (X.arraylength hx (by rw [eT]; exact Ar.1) (State.isArrayOf_alike hZ.alike Ar.2.1) (g := mkF m pc Ls (.ref a :: st)) rfl rfl (hb hby hd)) K
theorem s_instY (pc' : Nat) {KK : String} {index : Nat} {a : Addr} (A : own_A p l e R s m args below meth c Z own name bytes maxL ret) (S : own_S p l e R s m args below meth c n0 T h k n)
    (w : (Jvm.Cond.classLink own index KK).before a0 Z = true) (F : Ins Z h a KK true) (hd : decode bytes pc = .ok (.instanceof index, 3)) (hp : pc + 3 = pc')
    (K : ∀ T', own_S p l e R s m args below meth c n0 T' h k n → own_G p e below s n0 kc ks Q T' (mkF m pc' Ls (.int 1 :: st))) : own_G p e below s n0 kc ks Q T (mkF m pc Ls (.ref a :: st)) := by
  obtain ⟨locs, X, eT, N⟩ := S
  obtain ⟨hx, hby, hml, hown, -, -, -, hZ⟩ := A
  subst hp
  obtain ⟨T1, X1, e1, st1⟩ := instY X hx hZ hown w eT F (g := mkF m pc Ls (.ref a :: st)) rfl rfl (hb hby hd)
  exact own_st (T' := T1) (g' := mkF m _ Ls (.int 1 :: st)) st1 (K T1 ⟨_, X1, e1, N⟩)
theorem s_instNo (pc' : Nat) {KK CC : String} {index : Nat} {a : Addr} (A : own_A p l e R s m args below meth c Z own name bytes maxL ret) (S : own_S p l e R s m args below meth c n0 T h k n)
    (w : (Jvm.Cond.classLink own index KK).before a0 Z = true) (E : Exa Z h a CC) (F : ∃ c t, Z.vm.findClass CC = some c ∧ Z.vm.findClass KK = some t ∧ Z.vm.assignable c t = false) (hd : decode bytes pc = .ok (.instanceof index, 3)) (hp : pc + 3 = pc')
    (K : ∀ T', own_S p l e R s m args below meth c n0 T' h k n → own_G p e below s n0 kc ks Q T' (mkF m pc' Ls (.int 0 :: st))) : own_G p e below s n0 kc ks Q T (mkF m pc Ls (.ref a :: st)) := by
  obtain ⟨locs, X, eT, N⟩ := S
  obtain ⟨hx, hby, hml, hown, -, -, -, hZ⟩ := A
  subst hp
  obtain ⟨T1, X1, e1, st1⟩ := instNo X hx hZ hown w eT E F (g := mkF m pc Ls (.ref a :: st)) rfl rfl (hb hby hd)
  exact own_st (T' := T1) (g' := mkF m _ Ls (.int 0 :: st)) st1 (K T1 ⟨_, X1, e1, N⟩)
theorem s_instNull (pc' : Nat) {index : Nat} (A : own_A p l e R s m args below meth c Z own name bytes maxL ret) (S : own_S p l e R s m args below meth c n0 T h k n)
    (hd : decode bytes pc = .ok (.instanceof index, 3)) (hp : pc + 3 = pc') (K : own_G p e below s n0 kc ks Q T (mkF m pc' Ls (.int 0 :: st))) : own_G p e below s n0 kc ks Q T (mkF m pc Ls (.null :: st)) := by
  obtain ⟨locs, X, eT, N⟩ := S
  obtain ⟨hx, hby, hml, hown, -, -, -, hZ⟩ := A
  subst hp
  exact own_st (T' := T) (g' := mkF m _ Ls (.int 0 :: st)) (X.instanceofNull hx (g := mkF m pc Ls (.null :: st)) rfl rfl (hb hby hd)) K
theorem s_castY (pc' : Nat) {KK : String} {index : Nat} {a : Addr} (A : own_A p l e R s m args below meth c Z own name bytes maxL ret) (S : own_S p l e R s m args below meth c n0 T h k n)
    (w : (Jvm.Cond.classLink own index KK).before a0 Z = true) (F : Ins Z h a KK true) (hd : decode bytes pc = .ok (.checkcast index, 3)) (hp : pc + 3 = pc')
    (K : ∀ T', own_S p l e R s m args below meth c n0 T' h k n → own_G p e below s n0 kc ks Q T' (mkF m pc' Ls (.ref a :: st))) : own_G p e below s n0 kc ks Q T (mkF m pc Ls (.ref a :: st)) := by
  obtain ⟨locs, X, eT, N⟩ := S
  obtain ⟨hx, hby, hml, hown, -, -, -, hZ⟩ := A
  subst hp
  obtain ⟨T1, X1, e1, st1⟩ := castY X hx hZ hown w eT F (g := mkF m pc Ls (.ref a :: st)) rfl rfl (hb hby hd)
  exact own_st (T' := T1) (g' := mkF m _ Ls (.ref a :: st)) st1 (K T1 ⟨_, X1, e1, N⟩)
theorem s_aald (pc' : Nat) {a : Addr} {cl : Cell} {ty : FieldType} {j : Int32} {v : Value} (A : own_A p l e R s m args below meth c Z own name bytes maxL ret) (S : own_S p l e R s m args below meth c n0 T h k n)
    (Ar : Arr Z h a cl ty) (hty : ty.isReference = true) (hin : ¬ (j < 0 ∨ cl.slots.size ≤ j.toNatClampNeg)) (hv : cl.slots[j.toNatClampNeg]? = some v) (hd : decode bytes pc = .ok (.aaload, 1)) (hp : pc + 1 = pc') (K : own_G p e below s n0 kc ks Q T (mkF m pc' Ls (v :: st))) : own_G p e below s n0 kc ks Q T (mkF m pc Ls (.int j :: .ref a :: st)) := by
  obtain ⟨locs, X, eT, N⟩ := S
  obtain ⟨hx, hby, hml, hown, -, -, -, hZ⟩ := A
  subst hp
  exact own_st (T' := T) (g' := mkF m _ Ls (v :: st)) (X.aaload hx (by rw [eT]; exact Ar.1) (State.isArrayOf_alike hZ.alike Ar.2.1) hty Ar.2.2 hin hv (g := mkF m pc Ls (.int j :: .ref a :: st)) rfl rfl (hb hby hd)) K
theorem s_iald (pc' : Nat) {a : Addr} {cA : ClassId} {z j : Int32} {vs : List Value} {v dv : Value} (A : own_A p l e R s m args below meth c Z own name bytes maxL ret) (S : own_S p l e R s m args below meth c n0 T h k n)
    (V : Arv Z h a cA .int z vs dv) (hj : ¬ j < 0 ∧ j < z) (hv : vs.getD j.toNatClampNeg dv = v) (hd : decode bytes pc = .ok (.iaload, 1)) (hp : pc + 1 = pc') (K : own_G p e below s n0 kc ks Q T (mkF m pc' Ls (v :: st))) : own_G p e below s n0 kc ks Q T (mkF m pc Ls (.int j :: .ref a :: st)) := by
  obtain ⟨locs, X, eT, N⟩ := S
  obtain ⟨hx, hby, hml, hown, -, -, -, hZ⟩ := A
  obtain ⟨cl, Ar, -, S1, N1, H1, G1⟩ := V
  subst hp
  exact own_st (T' := T) (g' := mkF m _ Ls (v :: st)) (X.iaload hx (by rw [eT]; exact Ar.1) (State.isArrayOf_alike hZ.alike Ar.2.1) Ar.2.2 (inb_of S1 hj) (H1.at (inb_of S1 hj) hv) (g := mkF m pc Ls (.int j :: .ref a :: st)) rfl rfl (hb hby hd)) K
theorem s_lald (pc' : Nat) {a : Addr} {cA : ClassId} {z j : Int32} {vs : List Value} {v dv : Value} (A : own_A p l e R s m args below meth c Z own name bytes maxL ret) (S : own_S p l e R s m args below meth c n0 T h k n)
    (V : Arv Z h a cA .long z vs dv) (hj : ¬ j < 0 ∧ j < z) (hv : vs.getD j.toNatClampNeg dv = v) (hd : decode bytes pc = .ok (.laload, 1)) (hp : pc + 1 = pc') (K : own_G p e below s n0 kc ks Q T (mkF m pc' Ls (v :: st))) : own_G p e below s n0 kc ks Q T (mkF m pc Ls (.int j :: .ref a :: st)) := by
  obtain ⟨locs, X, eT, N⟩ := S
  obtain ⟨hx, hby, hml, hown, -, -, -, hZ⟩ := A
  obtain ⟨cl, Ar, -, S1, N1, H1, G1⟩ := V
  subst hp
  exact own_st (T' := T) (g' := mkF m _ Ls (v :: st)) (X.laload hx (by rw [eT]; exact Ar.1) (State.isArrayOf_alike hZ.alike Ar.2.1) Ar.2.2 (inb_of S1 hj) (H1.at (inb_of S1 hj) hv) (g := mkF m pc Ls (.int j :: .ref a :: st)) rfl rfl (hb hby hd)) K
theorem s_bald (pc' : Nat) {a : Addr} {cA : ClassId} {z j : Int32} {vs : List Value} {v dv : Value} (A : own_A p l e R s m args below meth c Z own name bytes maxL ret) (S : own_S p l e R s m args below meth c n0 T h k n)
    (V : Arv Z h a cA .byte z vs dv) (hj : ¬ j < 0 ∧ j < z) (hv : vs.getD j.toNatClampNeg dv = v) (hd : decode bytes pc = .ok (.baload, 1)) (hp : pc + 1 = pc') (K : own_G p e below s n0 kc ks Q T (mkF m pc' Ls (v :: st))) : own_G p e below s n0 kc ks Q T (mkF m pc Ls (.int j :: .ref a :: st)) := by
  obtain ⟨locs, X, eT, N⟩ := S
  obtain ⟨hx, hby, hml, hown, -, -, -, hZ⟩ := A
  obtain ⟨cl, Ar, -, S1, N1, H1, G1⟩ := V
  subst hp
  exact own_st (T' := T) (g' := mkF m _ Ls (v :: st)) (X.baloadBytes hx (by rw [eT]; exact Ar.1) (State.isArrayOf_alike hZ.alike Ar.2.1) Ar.2.2 (inb_of S1 hj) (H1.at (inb_of S1 hj) hv) (g := mkF m pc Ls (.int j :: .ref a :: st)) rfl rfl (hb hby hd)) K
theorem s_cald (pc' : Nat) {a : Addr} {cA : ClassId} {z j : Int32} {vs : List Value} {v dv : Value} (A : own_A p l e R s m args below meth c Z own name bytes maxL ret) (S : own_S p l e R s m args below meth c n0 T h k n)
    (V : Arv Z h a cA .char z vs dv) (hj : ¬ j < 0 ∧ j < z) (hv : vs.getD j.toNatClampNeg dv = v) (hd : decode bytes pc = .ok (.caload, 1)) (hp : pc + 1 = pc') (K : own_G p e below s n0 kc ks Q T (mkF m pc' Ls (v :: st))) : own_G p e below s n0 kc ks Q T (mkF m pc Ls (.int j :: .ref a :: st)) := by
  obtain ⟨locs, X, eT, N⟩ := S
  obtain ⟨hx, hby, hml, hown, -, -, -, hZ⟩ := A
  obtain ⟨cl, Ar, -, S1, N1, H1, G1⟩ := V
  subst hp
  exact own_st (T' := T) (g' := mkF m _ Ls (v :: st)) (X.caload hx (by rw [eT]; exact Ar.1) (State.isArrayOf_alike hZ.alike Ar.2.1) Ar.2.2 (inb_of S1 hj) (H1.at (inb_of S1 hj) hv) (g := mkF m pc Ls (.int j :: .ref a :: st)) rfl rfl (hb hby hd)) K
theorem s_iast (pc' : Nat) {a : Addr} {cA : ClassId} {z j : Int32} {x : Int32} {vs : List Value} {dv : Value} (A : own_A p l e R s m args below meth c Z own name bytes maxL ret) (S : own_S p l e R s m args below meth c n0 T h k n)
    (V : Arv Z h a cA .int z vs dv) (hj : ¬ j < 0 ∧ j < z) (i : Nat) (hi : j.toNatClampNeg = i) (hi' : i < vs.length) (hge : n0 ≤ a) (hd : decode bytes pc = .ok (.iastore, 1)) (hp : pc + 1 = pc')
    (K : ∀ T' h', Wr h h' a i (.int x) → Arv Z h' a cA .int z (vs.set i (.int x)) dv → own_S p l e R s m args below meth c n0 T' h' k n → own_G p e below s n0 kc ks Q T' (mkF m pc' Ls st)) : own_G p e below s n0 kc ks Q T (mkF m pc Ls (.int x :: .int j :: .ref a :: st)) := by
  obtain ⟨locs, X, eT, N⟩ := S
  obtain ⟨hx, hby, hml, hown, -, -, -, hZ⟩ := A
  obtain ⟨cl, Ar, q1, S1, N1, H1, G1⟩ := V
  subst hp
  obtain ⟨T1, h1, X1, e1, W1, st1⟩ := stI X hx hZ eT Ar (j := j) (inb_of S1 hj) (g := mkF m pc Ls (.int x :: .int j :: .ref a :: st)) rfl rfl (hb hby hd)
  have V1 := Arv.set Ar q1 S1 N1 H1 G1 rfl W1 i hi hi'
  rw [hi] at W1
  exact own_st (T' := T1) (g' := mkF m _ Ls st) st1 (K T1 h1 W1 V1 ⟨_, X1, e1, Fr.snoc X1 N hge⟩)
theorem s_last (pc' : Nat) {a : Addr} {cA : ClassId} {z j : Int32} {x : Int64} {vs : List Value} {dv : Value} (A : own_A p l e R s m args below meth c Z own name bytes maxL ret) (S : own_S p l e R s m args below meth c n0 T h k n)
    (V : Arv Z h a cA .long z vs dv) (hj : ¬ j < 0 ∧ j < z) (i : Nat) (hi : j.toNatClampNeg = i) (hi' : i < vs.length) (hge : n0 ≤ a) (hd : decode bytes pc = .ok (.lastore, 1)) (hp : pc + 1 = pc')
    (K : ∀ T' h', Wr h h' a i (.long x) → Arv Z h' a cA .long z (vs.set i (.long x)) dv → own_S p l e R s m args below meth c n0 T' h' k n → own_G p e below s n0 kc ks Q T' (mkF m pc' Ls st)) : own_G p e below s n0 kc ks Q T (mkF m pc Ls (.long x :: .int j :: .ref a :: st)) := by
  obtain ⟨locs, X, eT, N⟩ := S
  obtain ⟨hx, hby, hml, hown, -, -, -, hZ⟩ := A
  obtain ⟨cl, Ar, q1, S1, N1, H1, G1⟩ := V
  subst hp
  obtain ⟨T1, h1, X1, e1, W1, st1⟩ := stJ X hx hZ eT Ar (j := j) (inb_of S1 hj) (g := mkF m pc Ls (.long x :: .int j :: .ref a :: st)) rfl rfl (hb hby hd)
  have V1 := Arv.set Ar q1 S1 N1 H1 G1 rfl W1 i hi hi'
  rw [hi] at W1
  exact own_st (T' := T1) (g' := mkF m _ Ls st) st1 (K T1 h1 W1 V1 ⟨_, X1, e1, Fr.snoc X1 N hge⟩)
theorem s_bast (pc' : Nat) {a : Addr} {cA : ClassId} {z j : Int32} {x : Int32} {vs : List Value} {dv : Value} (A : own_A p l e R s m args below meth c Z own name bytes maxL ret) (S : own_S p l e R s m args below meth c n0 T h k n)
    (V : Arv Z h a cA .byte z vs dv) (hj : ¬ j < 0 ∧ j < z) (i : Nat) (hi : j.toNatClampNeg = i) (hi' : i < vs.length) (hge : n0 ≤ a) (hd : decode bytes pc = .ok (.bastore, 1)) (hp : pc + 1 = pc')
    (K : ∀ T' h', Wr h h' a i (.int (nar .byte x)) → Arv Z h' a cA .byte z (vs.set i (.int (nar .byte x))) dv → own_S p l e R s m args below meth c n0 T' h' k n → own_G p e below s n0 kc ks Q T' (mkF m pc' Ls st)) : own_G p e below s n0 kc ks Q T (mkF m pc Ls (.int x :: .int j :: .ref a :: st)) := by
  obtain ⟨locs, X, eT, N⟩ := S
  obtain ⟨hx, hby, hml, hown, -, -, -, hZ⟩ := A
  obtain ⟨cl, Ar, q1, S1, N1, H1, G1⟩ := V
  subst hp
  obtain ⟨T1, h1, X1, e1, W1, st1⟩ := stB X hx hZ eT Ar (j := j) (inb_of S1 hj) (g := mkF m pc Ls (.int x :: .int j :: .ref a :: st)) rfl rfl (hb hby hd)
  have V1 := Arv.set Ar q1 S1 N1 H1 G1 (fits_nar_byte _) W1 i hi hi'
  rw [hi] at W1
  exact own_st (T' := T1) (g' := mkF m _ Ls st) st1 (K T1 h1 W1 V1 ⟨_, X1, e1, Fr.snoc X1 N hge⟩)
theorem s_cast (pc' : Nat) {a : Addr} {cA : ClassId} {z j : Int32} {x : Int32} {vs : List Value} {dv : Value} (A : own_A p l e R s m args below meth c Z own name bytes maxL ret) (S : own_S p l e R s m args below meth c n0 T h k n)
    (V : Arv Z h a cA .char z vs dv) (hj : ¬ j < 0 ∧ j < z) (i : Nat) (hi : j.toNatClampNeg = i) (hi' : i < vs.length) (hge : n0 ≤ a) (hd : decode bytes pc = .ok (.castore, 1)) (hp : pc + 1 = pc')
    (K : ∀ T' h', Wr h h' a i (.int (nar .char x)) → Arv Z h' a cA .char z (vs.set i (.int (nar .char x))) dv → own_S p l e R s m args below meth c n0 T' h' k n → own_G p e below s n0 kc ks Q T' (mkF m pc' Ls st)) : own_G p e below s n0 kc ks Q T (mkF m pc Ls (.int x :: .int j :: .ref a :: st)) := by
  obtain ⟨locs, X, eT, N⟩ := S
  obtain ⟨hx, hby, hml, hown, -, -, -, hZ⟩ := A
  obtain ⟨cl, Ar, q1, S1, N1, H1, G1⟩ := V
  subst hp
  obtain ⟨T1, h1, X1, e1, W1, st1⟩ := stC X hx hZ eT Ar (j := j) (inb_of S1 hj) (g := mkF m pc Ls (.int x :: .int j :: .ref a :: st)) rfl rfl (hb hby hd)
  have V1 := Arv.set Ar q1 S1 N1 H1 G1 (fits_nar_char _) W1 i hi hi'
  rw [hi] at W1
  exact own_st (T' := T1) (g' := mkF m _ Ls st) st1 (K T1 h1 W1 V1 ⟨_, X1, e1, Fr.snoc X1 N hge⟩)
end OwnLayer
theorem own_iadd {x y : Int32} (h1 : -2147483648 ≤ x.toInt + y.toInt) (h2 : x.toInt + y.toInt < 2147483648) : (x + y).toInt = x.toInt + y.toInt := by
  have := c_iadd x y; have := (x + y).toInt_lt; have := (x + y).le_toInt; omega
theorem own_isub {x y : Int32} (h1 : -2147483648 ≤ x.toInt - y.toInt) (h2 : x.toInt - y.toInt < 2147483648) : (x - y).toInt = x.toInt - y.toInt := by
  have := c_isub x y; have := (x - y).toInt_lt; have := (x - y).le_toInt; omega
theorem own_iaddK {x y : Int32} {b : Int} (hb : y.toInt = b) (h1 : -2147483648 ≤ x.toInt + b) (h2 : x.toInt + b < 2147483648) : (x + y).toInt = x.toInt + b := by
  subst hb; exact own_iadd h1 h2
theorem own_isubK {x y : Int32} {b : Int} (hb : y.toInt = b) (h1 : -2147483648 ≤ x.toInt - b) (h2 : x.toInt - b < 2147483648) : (x - y).toInt = x.toInt - b := by
  subst hb; exact own_isub h1 h2
theorem own_isubL {x y : Int32} {a : Int} (ha : x.toInt = a) (h1 : -2147483648 ≤ a - y.toInt) (h2 : a - y.toInt < 2147483648) : (x - y).toInt = a - y.toInt := by
  subst ha; exact own_isub h1 h2
theorem own_imulK {x y : Int32} {b : Int} (hb : y.toInt = b) (h1 : -2147483648 ≤ x.toInt * b) (h2 : x.toInt * b < 2147483648) : (x * y).toInt = x.toInt * b := by
  subst hb; have := c_imul x y; have := (x * y).toInt_lt; have := (x * y).le_toInt; omega
theorem own_imulL {x y : Int32} {a : Int} (ha : x.toInt = a) (h1 : -2147483648 ≤ a * y.toInt) (h2 : a * y.toInt < 2147483648) : (x * y).toInt = a * y.toInt := by
  subst ha; have := c_imul x y; have := (x * y).toInt_lt; have := (x * y).le_toInt; omega
theorem own_ladd {x y : Int64} (h1 : -9223372036854775808 ≤ x.toInt + y.toInt) (h2 : x.toInt + y.toInt < 9223372036854775808) : (x + y).toInt = x.toInt + y.toInt := by
  have := c_ladd x y; have := (x + y).toInt_lt; have := (x + y).le_toInt; omega
theorem own_lsub {x y : Int64} (h1 : -9223372036854775808 ≤ x.toInt - y.toInt) (h2 : x.toInt - y.toInt < 9223372036854775808) : (x - y).toInt = x.toInt - y.toInt := by
  have := c_lsub x y; have := (x - y).toInt_lt; have := (x - y).le_toInt; omega
theorem own_lmulK {x y : Int64} {b : Int} (hb : y.toInt = b) (h1 : -9223372036854775808 ≤ x.toInt * b) (h2 : x.toInt * b < 9223372036854775808) : (x * y).toInt = x.toInt * b := by
  subst hb; have := c_lmul x y; have := (x * y).toInt_lt; have := (x * y).le_toInt; omega
theorem own_l2i {x : Int64} (h1 : -2147483648 ≤ x.toInt) (h2 : x.toInt < 2147483648) : x.toInt32.toInt = x.toInt := by
  have := c_l2i x; have := x.toInt32.toInt_lt; have := x.toInt32.le_toInt; omega

def own_draw (x : Int32) : Int32 := if x &&& 256 = 0 then x.toInt8.toInt32 else ((48 : Int32) + (((own_ushr x 9) &&& 15) % 10)).toInt8.toInt32
theorem own_narnar (x : Int32) : nar .byte (nar .byte x) = nar .byte x := by
  show x.toInt8.toInt32.toInt8.toInt32 = x.toInt8.toInt32
  simp
def own_in (i f n : Int32) : Int32 := if f.toInt ≤ i.toInt ∧ i.toInt < (f + n).toInt then 1 else 0
theorem own_in1 {i f n : Int32} (hh : f.toInt ≤ i.toInt ∧ i.toInt < (f + n).toInt) : own_in i f n = 1 := if_pos hh
theorem own_in0 {i f n : Int32} (hh : ¬ (f.toInt ≤ i.toInt ∧ i.toInt < (f + n).toInt)) : own_in i f n = 0 := if_neg hh
theorem own_in01 (i f n : Int32) : narrow .boolean (.int (own_in i f n)) = .int (own_in i f n) := by unfold own_in; split <;> rfl
abbrev own_bad (b : Int32) : Prop := (b - 48).toInt < 0 ∨ 9 < (b - 48).toInt
def own_stepF (acc : Int64) (b : Int32) : Int64 := if acc.toInt < 0 then acc else if own_bad b then -1 else acc * 10 + (b - 48).toInt64
def own_step (acc : Int64) (b f : Int32) : Int64 := if f = 0 then acc else own_stepF acc b
theorem own_step0 (acc : Int64) (b : Int32) : own_step acc b 0 = acc := if_pos rfl
theorem own_step1 (acc : Int64) (b : Int32) : own_step acc b 1 = own_stepF acc b := if_neg (by decide)
def own_run : Int64 → List Int32 → Int64
  | acc, [] => acc
  | acc, b :: r => if own_bad b then -1 else own_run (acc * 10 + (b - 48).toInt64) r
theorem own_neg {acc : Int64} (hh : acc.toInt < 0) (b : Int32) : own_stepF acc b = acc := if_pos hh
theorem own_fneg : ∀ (bs : List Int32) (acc : Int64), acc.toInt < 0 → bs.foldl own_stepF acc = acc
  | [], _, _ => rfl
  | b :: r, acc, hh => by rw [List.foldl_cons, own_neg hh]; exact own_fneg r acc hh
theorem own_sbad {acc : Int64} {b : Int32} (h0 : 0 ≤ acc.toInt) (hb : own_bad b) : own_stepF acc b = -1 := by
  unfold own_stepF; rw [if_neg (by omega), if_pos hb]
theorem own_sgood {acc : Int64} {b : Int32} (h0 : 0 ≤ acc.toInt) (hb : ¬ own_bad b) : own_stepF acc b = acc * 10 + (b - 48).toInt64 := by
  unfold own_stepF; rw [if_neg (by omega), if_neg hb]
theorem own_val {acc : Int64} {b : Int32} (h0 : 0 ≤ acc.toInt) (h1 : acc.toInt < 100000000000000000) (hb : ¬ own_bad b) : (acc * 10 + (b - 48).toInt64).toInt = acc.toInt * 10 + (b - 48).toInt ∧ 0 ≤ (b - 48).toInt ∧ (b - 48).toInt ≤ 9 := by
  unfold own_bad at hb
  have q1 : (acc * 10).toInt = acc.toInt * 10 := own_lmulK rfl (by omega) (by omega)
  have q2 := c_i2l (b - 48)
  rw [own_ladd (by rw [q1, q2]; omega) (by rw [q1, q2]; omega), q1, q2]; omega
def own_B : Nat → Int
  | 0 => 1000000000000000000
  | n + 1 => own_B n / 10
theorem own_Ble : ∀ n, own_B n ≤ 1000000000000000000 ∧ 0 ≤ own_B n
  | 0 => by unfold own_B; omega
  | n + 1 => by have := own_Ble n; unfold own_B; omega
theorem own_run_fold : ∀ (bs : List Int32) (acc : Int64), 0 ≤ acc.toInt → acc.toInt < own_B bs.length → own_run acc bs = bs.foldl own_stepF acc
  | [], _, _, _ => rfl
  | b :: r, acc, h0, h1 => by
    have hB := own_Ble r.length
    have h2 : acc.toInt < own_B r.length / 10 := h1
    by_cases hb : own_bad b
    · rw [List.foldl_cons, own_sbad h0 hb, own_fneg r (-1) (by decide)]; exact if_pos hb
    · have v := own_val h0 (by omega) hb
      rw [List.foldl_cons, own_sgood h0 hb, ← own_run_fold r _ (by omega) (by omega)]; exact if_neg hb
theorem own_inT : ∀ (i : Fin 6) (f n : Fin 7), f.val + n.val ≤ 6 → own_in (Int32.ofNat i.val) (Int32.ofNat f.val) (Int32.ofNat n.val) = if f.val ≤ i.val ∧ i.val < f.val + n.val then 1 else 0 := by decide +kernel
theorem own_ofN {x : Int32} (h0 : 0 ≤ x.toInt) : x = Int32.ofNat x.toNatClampNeg := by
  apply Int32.toInt_inj.mp
  have h1 := x.toInt_lt
  simp only [Int32.toNatClampNeg]
  rw [Int32.toInt_ofNat_of_lt (by omega)]; omega
def own_chain (f n : Int32) (s0 s1 s2 s3 s4 s5 : Int32) : Int64 := own_step (own_step (own_step (own_step (own_step (own_step 0 s0 (own_in 0 f n)) s1 (own_in 1 f n)) s2 (own_in 2 f n)) s3 (own_in 3 f n)) s4 (own_in 4 f n)) s5 (own_in 5 f n)
theorem own_plain (f n : Int32) (h1 : 0 ≤ f.toInt) (h2 : 0 ≤ n.toInt) (h3 : f.toInt + n.toInt ≤ 6) (s0 s1 s2 s3 s4 s5 : Int32) : own_run 0 (([s0, s1, s2, s3, s4, s5].drop f.toNatClampNeg).take n.toNatClampNeg) = own_chain f n s0 s1 s2 s3 s4 s5 := by
  have ef := own_ofN h1
  have en := own_ofN h2
  have hs : f.toNatClampNeg + n.toNatClampNeg ≤ 6 := by simp only [Int32.toNatClampNeg]; omega
  generalize f.toNatClampNeg = F at ef hs ⊢
  generalize n.toNatClampNeg = N at en hs ⊢
  subst ef en
  have t0 : own_in 0 (Int32.ofNat F) (Int32.ofNat N) = if F ≤ 0 ∧ 0 < F + N then 1 else 0 := own_inT 0 ⟨F, by omega⟩ ⟨N, by omega⟩ hs
  have t1 : own_in 1 (Int32.ofNat F) (Int32.ofNat N) = if F ≤ 1 ∧ 1 < F + N then 1 else 0 := own_inT 1 ⟨F, by omega⟩ ⟨N, by omega⟩ hs
  have t2 : own_in 2 (Int32.ofNat F) (Int32.ofNat N) = if F ≤ 2 ∧ 2 < F + N then 1 else 0 := own_inT 2 ⟨F, by omega⟩ ⟨N, by omega⟩ hs
  have t3 : own_in 3 (Int32.ofNat F) (Int32.ofNat N) = if F ≤ 3 ∧ 3 < F + N then 1 else 0 := own_inT 3 ⟨F, by omega⟩ ⟨N, by omega⟩ hs
  have t4 : own_in 4 (Int32.ofNat F) (Int32.ofNat N) = if F ≤ 4 ∧ 4 < F + N then 1 else 0 := own_inT 4 ⟨F, by omega⟩ ⟨N, by omega⟩ hs
  have t5 : own_in 5 (Int32.ofNat F) (Int32.ofNat N) = if F ≤ 5 ∧ 5 < F + N then 1 else 0 := own_inT 5 ⟨F, by omega⟩ ⟨N, by omega⟩ hs
  unfold own_chain
  rw [t0, t1, t2, t3, t4, t5]
  have hF : F = 0 ∨ F = 1 ∨ F = 2 ∨ F = 3 ∨ F = 4 ∨ F = 5 ∨ F = 6 := by omega
  have hN : N = 0 ∨ N = 1 ∨ N = 2 ∨ N = 3 ∨ N = 4 ∨ N = 5 ∨ N = 6 := by omega
  clear t0 t1 t2 t3 t4 t5
  rcases hF with rfl | rfl | rfl | rfl | rfl | rfl | rfl <;> rcases hN with rfl | rfl | rfl | rfl | rfl | rfl | rfl <;> first | (exfalso; omega) | (rw [own_run_fold _ _ (by decide) (by simp only [List.length_take, List.length_drop, List.length_cons, List.length_nil]; decide)]; simp [own_step0, own_step1])
def own_all (s0 s1 s2 s3 s4 s5 : Int32) : Int64 := own_step (own_step (own_step (own_step (own_step (own_step 0 s0 1) s1 1) s2 1) s3 1) s4 1) s5 1
def own_fold6 (acc : Int64) (s0 s1 s2 s3 s4 s5 : Int32) : Int64 := own_stepF (own_stepF (own_stepF (own_stepF (own_stepF (own_stepF acc s0) s1) s2) s3) s4) s5
theorem own_m1 (b : Int32) : own_stepF (-1) b = -1 := own_neg (by decide) b
theorem own_six (s0 s1 s2 s3 s4 s5 : Int32) : (∀ acc : Int64, 0 ≤ acc.toInt → acc.toInt < 1000000000000 → own_fold6 acc s0 s1 s2 s3 s4 s5 = -1) ∨ (∃ V : Int, 0 ≤ V ∧ V < 1000000 ∧ ∀ acc : Int64, 0 ≤ acc.toInt → acc.toInt < 1000000000000 → (own_fold6 acc s0 s1 s2 s3 s4 s5).toInt = acc.toInt * 1000000 + V) := by
  by_cases b0 : own_bad s0
  · left; intro acc h0 h1; unfold own_fold6; rw [own_sbad h0 b0]; simp only [own_m1]
  by_cases b1 : own_bad s1
  · left; intro acc h0 h1; unfold own_fold6
    have v0 := own_val h0 (by omega) b0
    rw [own_sgood h0 b0, own_sbad (by omega) b1]; simp only [own_m1]
  by_cases b2 : own_bad s2
  · left; intro acc h0 h1; unfold own_fold6
    have v0 := own_val h0 (by omega) b0
    rw [own_sgood h0 b0, own_sgood (by omega) b1]
    have v1 := own_val (acc := acc * 10 + (s0 - 48).toInt64) (by omega) (by omega) b1
    rw [own_sbad (by omega) b2]; simp only [own_m1]
  by_cases b3 : own_bad s3
  · left; intro acc h0 h1; unfold own_fold6
    have v0 := own_val h0 (by omega) b0
    rw [own_sgood h0 b0]; generalize acc * 10 + (s0 - 48).toInt64 = a1 at v0 ⊢
    have v1 := own_val (acc := a1) (by omega) (by omega) b1
    rw [own_sgood (by omega) b1]; generalize a1 * 10 + (s1 - 48).toInt64 = a2 at v1 ⊢
    have v2 := own_val (acc := a2) (by omega) (by omega) b2
    rw [own_sgood (by omega) b2, own_sbad (by omega) b3]; simp only [own_m1]
  by_cases b4 : own_bad s4
  · left; intro acc h0 h1; unfold own_fold6
    have v0 := own_val h0 (by omega) b0
    rw [own_sgood h0 b0]; generalize acc * 10 + (s0 - 48).toInt64 = a1 at v0 ⊢
    have v1 := own_val (acc := a1) (by omega) (by omega) b1
    rw [own_sgood (by omega) b1]; generalize a1 * 10 + (s1 - 48).toInt64 = a2 at v1 ⊢
    have v2 := own_val (acc := a2) (by omega) (by omega) b2
    rw [own_sgood (by omega) b2]; generalize a2 * 10 + (s2 - 48).toInt64 = a3 at v2 ⊢
    have v3 := own_val (acc := a3) (by omega) (by omega) b3
    rw [own_sgood (by omega) b3, own_sbad (by omega) b4]; simp only [own_m1]
  by_cases b5 : own_bad s5
  · left; intro acc h0 h1; unfold own_fold6
    have v0 := own_val h0 (by omega) b0
    rw [own_sgood h0 b0]; generalize acc * 10 + (s0 - 48).toInt64 = a1 at v0 ⊢
    have v1 := own_val (acc := a1) (by omega) (by omega) b1
    rw [own_sgood (by omega) b1]; generalize a1 * 10 + (s1 - 48).toInt64 = a2 at v1 ⊢
    have v2 := own_val (acc := a2) (by omega) (by omega) b2
    rw [own_sgood (by omega) b2]; generalize a2 * 10 + (s2 - 48).toInt64 = a3 at v2 ⊢
    have v3 := own_val (acc := a3) (by omega) (by omega) b3
    rw [own_sgood (by omega) b3]; generalize a3 * 10 + (s3 - 48).toInt64 = a4 at v3 ⊢
    have v4 := own_val (acc := a4) (by omega) (by omega) b4
    rw [own_sgood (by omega) b4, own_sbad (by omega) b5]
  right
  have z := own_val (acc := 0) (by decide) (by decide) b0
  have y1 := own_val (acc := 0) (by decide) (by decide) b1
  have y2 := own_val (acc := 0) (by decide) (by decide) b2
  have y3 := own_val (acc := 0) (by decide) (by decide) b3
  have y4 := own_val (acc := 0) (by decide) (by decide) b4
  have y5 := own_val (acc := 0) (by decide) (by decide) b5
  refine ⟨100000 * (s0 - 48).toInt + 10000 * (s1 - 48).toInt + 1000 * (s2 - 48).toInt + 100 * (s3 - 48).toInt + 10 * (s4 - 48).toInt + (s5 - 48).toInt, by omega, by omega, fun acc h0 h1 => ?_⟩
  clear z y1 y2 y3 y4 y5
  unfold own_fold6
  have v0 := own_val h0 (by omega) b0
  rw [own_sgood h0 b0]; generalize acc * 10 + (s0 - 48).toInt64 = a1 at v0 ⊢
  have v1 := own_val (acc := a1) (by omega) (by omega) b1
  rw [own_sgood (by omega) b1]; generalize a1 * 10 + (s1 - 48).toInt64 = a2 at v1 ⊢
  have v2 := own_val (acc := a2) (by omega) (by omega) b2
  rw [own_sgood (by omega) b2]; generalize a2 * 10 + (s2 - 48).toInt64 = a3 at v2 ⊢
  have v3 := own_val (acc := a3) (by omega) (by omega) b3
  rw [own_sgood (by omega) b3]; generalize a3 * 10 + (s3 - 48).toInt64 = a4 at v3 ⊢
  have v4 := own_val (acc := a4) (by omega) (by omega) b4
  rw [own_sgood (by omega) b4]; generalize a4 * 10 + (s4 - 48).toInt64 = a5 at v4 ⊢
  have v5 := own_val (acc := a5) (by omega) (by omega) b5
  rw [own_sgood (by omega) b5]; omega
theorem own_alleq (s0 s1 s2 s3 s4 s5 : Int32) : own_all s0 s1 s2 s3 s4 s5 = own_fold6 0 s0 s1 s2 s3 s4 s5 := by unfold own_all own_fold6; simp only [own_step1]
def own_l18 (s0 s1 s2 s3 s4 s5 : Int32) : List Int32 := [s0, s1, s2, s3, s4, s5, s0, s1, s2, s3, s4, s5, s0, s1, s2, s3, s4, s5]
set_option maxRecDepth 65536 in
theorem own_bigrun (s0 s1 s2 s3 s4 s5 : Int32) : own_run 0 (((own_l18 s0 s1 s2 s3 s4 s5).drop (0 : Int32).toNatClampNeg).take (18 : Int32).toNatClampNeg) = own_fold6 (own_fold6 (own_fold6 0 s0 s1 s2 s3 s4 s5) s0 s1 s2 s3 s4 s5) s0 s1 s2 s3 s4 s5 := by
  have e : ((own_l18 s0 s1 s2 s3 s4 s5).drop (0 : Int32).toNatClampNeg).take (18 : Int32).toNatClampNeg = own_l18 s0 s1 s2 s3 s4 s5 := rfl
  rw [e, own_run_fold _ _ (by decide) (by show (0 : Int64).toInt < own_B 18; decide +kernel)]
  simp only [own_l18, own_fold6, List.foldl_cons, List.foldl_nil]
theorem own_bigneg (s0 s1 s2 s3 s4 s5 : Int32) (hh : (own_all s0 s1 s2 s3 s4 s5).toInt < 0) : own_run 0 (((own_l18 s0 s1 s2 s3 s4 s5).drop (0 : Int32).toNatClampNeg).take (18 : Int32).toNatClampNeg) = -1 := by
  rw [own_bigrun]
  rw [own_alleq] at hh
  rcases own_six s0 s1 s2 s3 s4 s5 with h | ⟨V, h1, h2, h⟩
  · rw [h 0 (by decide) (by decide)]; unfold own_fold6; simp only [own_m1]
  · have := h 0 (by decide) (by decide); rw [show (0 : Int64).toInt = 0 from rfl] at this; omega
theorem own_bigpos (s0 s1 s2 s3 s4 s5 : Int32) (hh : 0 ≤ (own_all s0 s1 s2 s3 s4 s5).toInt) : own_run 0 (((own_l18 s0 s1 s2 s3 s4 s5).drop (0 : Int32).toNatClampNeg).take (18 : Int32).toNatClampNeg) = own_all s0 s1 s2 s3 s4 s5 * 1000000000000 + own_all s0 s1 s2 s3 s4 s5 * 1000000 + own_all s0 s1 s2 s3 s4 s5 := by
  rw [own_bigrun]
  rw [own_alleq] at hh ⊢
  rcases own_six s0 s1 s2 s3 s4 s5 with h | ⟨V, h1, h2, h⟩
  · rw [h 0 (by decide) (by decide)] at hh; exact absurd hh (by decide)
  · have e0 := h 0 (by decide) (by decide)
    rw [show (0 : Int64).toInt = 0 from rfl] at e0
    generalize own_fold6 0 s0 s1 s2 s3 s4 s5 = A at *
    have e1 := h A (by omega) (by omega)
    have e2 := h _ (by rw [e1]; omega) (by rw [e1]; omega)
    apply Int64.toInt_inj.mp
    rw [e2, e1]
    have q1 : (A * 1000000000000).toInt = A.toInt * 1000000000000 := own_lmulK rfl (by omega) (by omega)
    have q2 : (A * 1000000).toInt = A.toInt * 1000000 := own_lmulK rfl (by omega) (by omega)
    have q3 : (A * 1000000000000 + A * 1000000).toInt = A.toInt * 1000000000000 + A.toInt * 1000000 := by rw [own_ladd (by rw [q1, q2]; omega) (by rw [q1, q2]; omega), q1, q2]
    rw [own_ladd (by rw [q3]; omega) (by rw [q3]; omega), q3]; omega
theorem own_at {bs : List Int32} {i : Nat} (hi : i < bs.length) : ∃ b r, bs.drop i = b :: r ∧ bs.drop (i + 1) = r ∧ (bs.map Value.int).getD i (.int 0) = .int b := by
  refine ⟨bs[i], bs.drop (i + 1), List.drop_eq_getElem_cons hi, rfl, ?_⟩
  simp [List.getD, hi]
theorem own_runcons {acc : Int64} {b : Int32} {r : List Int32} (hb : ¬ own_bad b) : own_run acc (b :: r) = own_run (acc * 10 + (b - 48).toInt64) r := if_neg hb
theorem own_runbad {acc : Int64} {b : Int32} {r : List Int32} (hb : own_bad b) : own_run acc (b :: r) = -1 := if_pos hb
theorem own_from (x : Int32) : 0 ≤ ((x &&& 7) % 7).toInt ∧ ((x &&& 7) % 7).toInt ≤ 6 := by
  have h1 := c_and x 7 (by decide)
  have h2 := (c_irem (x &&& 7) 7 7 rfl).1 h1.1
  rw [h2]; omega
theorem own_nn {x : Int32} (hh : 0 ≤ x.toInt) : ¬ x < 0 := by rw [Int32.lt_iff_toInt_lt]; exact Int.not_lt.mpr hh
theorem pd__III_Z : parseMethodDescriptor "(III)Z" = some ⟨[.int, .int, .int], some .boolean⟩ := by decide +kernel
theorem pd__I_B : parseMethodDescriptor "(I)B" = some ⟨[.int], some .byte⟩ := by decide +kernel
theorem pd__JBZ_J : parseMethodDescriptor "(JBZ)J" = some ⟨[.long, .byte, .boolean], some .long⟩ := by decide +kernel
theorem pd___BII_J : parseMethodDescriptor "([BII)J" = some ⟨[(.array .byte), .int, .int], some .long⟩ := by decide +kernel
theorem d1_0 : decode method_2_code 0 = .ok (.iload_n 0, 1) := by decide +kernel
theorem d1_1 : decode method_2_code 1 = .ok (.sipush 256, 3) := by decide +kernel
theorem d1_4 : decode method_2_code 4 = .ok (.iand, 1) := by decide +kernel
theorem d1_5 : decode method_2_code 5 = .ok (.ifCond .eq 18, 3) := by decide +kernel
theorem d1_8 : decode method_2_code 8 = .ok (.bipush 48, 2) := by decide +kernel
theorem d1_10 : decode method_2_code 10 = .ok (.iload_n 0, 1) := by decide +kernel
theorem d1_11 : decode method_2_code 11 = .ok (.bipush 9, 2) := by decide +kernel
theorem d1_13 : decode method_2_code 13 = .ok (.iushr, 1) := by decide +kernel
theorem d1_14 : decode method_2_code 14 = .ok (.bipush 15, 2) := by decide +kernel
theorem d1_16 : decode method_2_code 16 = .ok (.iand, 1) := by decide +kernel
theorem d1_17 : decode method_2_code 17 = .ok (.bipush 10, 2) := by decide +kernel
theorem d1_19 : decode method_2_code 19 = .ok (.irem, 1) := by decide +kernel
theorem d1_20 : decode method_2_code 20 = .ok (.iadd, 1) := by decide +kernel
theorem d1_21 : decode method_2_code 21 = .ok (.i2b, 1) := by decide +kernel
theorem d1_22 : decode method_2_code 22 = .ok (.ireturn, 1) := by decide +kernel
theorem d1_23 : decode method_2_code 23 = .ok (.iload_n 0, 1) := by decide +kernel
theorem d1_24 : decode method_2_code 24 = .ok (.i2b, 1) := by decide +kernel
theorem d1_25 : decode method_2_code 25 = .ok (.ireturn, 1) := by decide +kernel
theorem pn_1 : plainFor (⟨"com/example/cuadre/cuadre/format/FieldDigitsPinLaw", "draw", "(I)B"⟩ : MethodName) = true := plainFor_of_name (by first | (simp [plainName, overriddenIn]; done) | decide +kernel)
theorem ef_1 (m : MethodId) (x0 : Int32) : entryFrame m #[(.int x0)] 1 = mkF m 0 #[.val (.int x0)] [] := by first | (simp [entryFrame, mkF, argsToLocals, Value.category]; done) | rfl
set_option maxRecDepth 65536 in
set_option maxHeartbeats 40000000 in
theorem rm1 (l : Launch) (Z : State) (a0 : Array Value) (hw : ∀ d ∈ tables_1, d.before a0 Z = true) (ws : List Jvm.Cond) (q : Int32) (h0 : Heap) (n0 : Nat) (Z0 : n0 ≤ h0.size)  :
    own_C l Z (⟨"com/example/cuadre/cuadre/format/FieldDigitsPinLaw", "draw", "(I)B"⟩ : MethodName) method_2_code 1 (some .byte) ({ frames := 0, cells := 0, slots := 0, locals := 0 } : Room) n0 ws #[(.int q)] h0 (fun v h' => v = some (.int (own_draw q)) ∧ h' = h0) := by
  refine own_C.of pn_1 Z0 ?_
  intro p e s m below meth c T A S
  rw [ef_1]
  refine s_iloadN 1 A S d1_0 rfl rfl ?_
  refine s_sipush (z := (256 : Int32)) 4 A S d1_1 rfl rfl ?_
  refine s_iand (z := (q &&& (256 : Int32))) 5 A S d1_4 rfl rfl ?_
  refine s_ifeq 23 8 A S rfl d1_5 (by decide) (by decide) rfl (fun c1 tc1 => ?_) (fun c1 tc1 => ?_)
  · refine s_iloadN 24 A S d1_23 rfl rfl ?_
    refine s_i2b (z := ((q).toInt8.toInt32)) 25 A S d1_24 rfl rfl ?_
    exact s_retV A S d1_25 (Jvm.Free.XT.narrow_b _) (Or.inl ⟨rfl, (by simp), _, rfl⟩) (by decide) (by decide) ⟨by unfold own_draw; rw [if_pos c1], rfl⟩
  · refine s_bipush (z := (48 : Int32)) 10 A S d1_8 rfl rfl ?_
    refine s_iloadN 11 A S d1_10 rfl rfl ?_
    refine s_bipush (z := (9 : Int32)) 13 A S d1_11 rfl rfl ?_
    refine s_iushr (z := (own_ushr q (9 : Int32))) 14 A S d1_13 rfl rfl ?_
    refine s_bipush (z := (15 : Int32)) 16 A S d1_14 rfl rfl ?_
    refine s_iand (z := ((own_ushr q (9 : Int32)) &&& (15 : Int32))) 17 A S d1_16 rfl rfl ?_
    refine s_bipush (z := (10 : Int32)) 19 A S d1_17 rfl rfl ?_
    refine s_irem (z := (((own_ushr q (9 : Int32)) &&& (15 : Int32)) % (10 : Int32))) 20 A S d1_19 (by decide) rfl rfl ?_
    refine s_iadd (z := ((48 : Int32) + (((own_ushr q (9 : Int32)) &&& (15 : Int32)) % (10 : Int32)))) 21 A S d1_20 rfl rfl ?_
    refine s_i2b (z := ((((48 : Int32) + (((own_ushr q (9 : Int32)) &&& (15 : Int32)) % (10 : Int32)))).toInt8.toInt32)) 22 A S d1_21 rfl rfl ?_
    exact s_retV A S d1_22 (Jvm.Free.XT.narrow_b _) (Or.inl ⟨rfl, (by simp), _, rfl⟩) (by decide) (by decide) ⟨by unfold own_draw; rw [if_neg c1], rfl⟩
theorem d2_0 : decode method_3_code 0 = .ok (.iload_n 0, 1) := by decide +kernel
theorem d2_1 : decode method_3_code 1 = .ok (.iload_n 1, 1) := by decide +kernel
theorem d2_2 : decode method_3_code 2 = .ok (.if_icmp .lt 14, 3) := by decide +kernel
theorem d2_5 : decode method_3_code 5 = .ok (.iload_n 0, 1) := by decide +kernel
theorem d2_6 : decode method_3_code 6 = .ok (.iload_n 1, 1) := by decide +kernel
theorem d2_7 : decode method_3_code 7 = .ok (.iload_n 2, 1) := by decide +kernel
theorem d2_8 : decode method_3_code 8 = .ok (.iadd, 1) := by decide +kernel
theorem d2_9 : decode method_3_code 9 = .ok (.if_icmp .ge 7, 3) := by decide +kernel
theorem d2_12 : decode method_3_code 12 = .ok (.iconst 1, 1) := by decide +kernel
theorem d2_13 : decode method_3_code 13 = .ok (.goto 4, 3) := by decide +kernel
theorem d2_16 : decode method_3_code 16 = .ok (.iconst 0, 1) := by decide +kernel
theorem d2_17 : decode method_3_code 17 = .ok (.ireturn, 1) := by decide +kernel
theorem pn_2 : plainFor (⟨"com/example/cuadre/cuadre/format/FieldDigitsPinLaw", "in", "(III)Z"⟩ : MethodName) = true := plainFor_of_name (by first | (simp [plainName, overriddenIn]; done) | decide +kernel)
theorem ef_2 (m : MethodId) (x0 : Int32) (x1 : Int32) (x2 : Int32) : entryFrame m #[(.int x0), (.int x1), (.int x2)] 3 = mkF m 0 #[.val (.int x0), .val (.int x1), .val (.int x2)] [] := by first | (simp [entryFrame, mkF, argsToLocals, Value.category]; done) | rfl
set_option maxRecDepth 65536 in
set_option maxHeartbeats 40000000 in
theorem rm2 (l : Launch) (Z : State) (a0 : Array Value) (hw : ∀ d ∈ tables_1, d.before a0 Z = true) (ws : List Jvm.Cond) (i f n : Int32) (h0 : Heap) (n0 : Nat) (Z0 : n0 ≤ h0.size)  :
    own_C l Z (⟨"com/example/cuadre/cuadre/format/FieldDigitsPinLaw", "in", "(III)Z"⟩ : MethodName) method_3_code 3 (some .boolean) ({ frames := 0, cells := 0, slots := 0, locals := 0 } : Room) n0 ws #[(.int i), (.int f), (.int n)] h0 (fun v h' => v = some (.int (own_in i f n)) ∧ h' = h0) := by
  refine own_C.of pn_2 Z0 ?_
  intro p e s m below meth c T A S
  rw [ef_2]
  refine s_iloadN 1 A S d2_0 rfl rfl ?_
  refine s_iloadN 2 A S d2_1 rfl rfl ?_
  refine s_ilt 16 5 A S rfl rfl d2_2 (by decide) (by decide) rfl (fun c1 => ?_) (fun c1 => ?_)
  · refine s_iconst (z := (0 : Int32)) 17 A S d2_16 rfl rfl ?_
    exact s_retZ A S d2_17 rfl (by decide) (by decide) ⟨by rw [own_in0 (by omega)], rfl⟩
  · refine s_iloadN 6 A S d2_5 rfl rfl ?_
    refine s_iloadN 7 A S d2_6 rfl rfl ?_
    refine s_iloadN 8 A S d2_7 rfl rfl ?_
    refine s_iadd (z := (f + n)) 9 A S d2_8 rfl rfl ?_
    refine s_ige 16 12 A S rfl rfl d2_9 (by decide) (by decide) rfl (fun c2 => ?_) (fun c2 => ?_)
    · refine s_iconst (z := (0 : Int32)) 17 A S d2_16 rfl rfl ?_
      exact s_retZ A S d2_17 rfl (by decide) (by decide) ⟨by rw [own_in0 (by omega)], rfl⟩
    · refine s_iconst (z := (1 : Int32)) 13 A S d2_12 rfl rfl ?_
      refine s_goto 17 A S d2_13 (by decide) (by decide) ?_
      exact s_retZ A S d2_17 rfl (by decide) (by decide) ⟨by rw [own_in1 (by omega)], rfl⟩
theorem d3_0 : decode method_4_code 0 = .ok (.iload_n 3, 1) := by decide +kernel
theorem d3_1 : decode method_4_code 1 = .ok (.ifCond .eq 9, 3) := by decide +kernel
theorem d3_4 : decode method_4_code 4 = .ok (.lload_n 0, 1) := by decide +kernel
theorem d3_5 : decode method_4_code 5 = .ok (.lconst 0, 1) := by decide +kernel
theorem d3_6 : decode method_4_code 6 = .ok (.lcmp, 1) := by decide +kernel
theorem d3_7 : decode method_4_code 7 = .ok (.ifCond .ge 5, 3) := by decide +kernel
theorem d3_10 : decode method_4_code 10 = .ok (.lload_n 0, 1) := by decide +kernel
theorem d3_11 : decode method_4_code 11 = .ok (.lreturn, 1) := by decide +kernel
theorem d3_12 : decode method_4_code 12 = .ok (.iload_n 2, 1) := by decide +kernel
theorem d3_13 : decode method_4_code 13 = .ok (.bipush 48, 2) := by decide +kernel
theorem d3_15 : decode method_4_code 15 = .ok (.isub, 1) := by decide +kernel
theorem d3_16 : decode method_4_code 16 = .ok (.istore 4, 2) := by decide +kernel
theorem d3_18 : decode method_4_code 18 = .ok (.iload 4, 2) := by decide +kernel
theorem d3_20 : decode method_4_code 20 = .ok (.ifCond .lt 10, 3) := by decide +kernel
theorem d3_23 : decode method_4_code 23 = .ok (.iload 4, 2) := by decide +kernel
theorem d3_25 : decode method_4_code 25 = .ok (.bipush 9, 2) := by decide +kernel
theorem d3_27 : decode method_4_code 27 = .ok (.if_icmp .le 7, 3) := by decide +kernel
theorem d3_30 : decode method_4_code 30 = .ok (.ldc2_w 7, 3) := by decide +kernel
theorem d3_33 : decode method_4_code 33 = .ok (.lreturn, 1) := by decide +kernel
theorem d3_34 : decode method_4_code 34 = .ok (.lload_n 0, 1) := by decide +kernel
theorem d3_35 : decode method_4_code 35 = .ok (.ldc2_w 9, 3) := by decide +kernel
theorem d3_38 : decode method_4_code 38 = .ok (.lmul, 1) := by decide +kernel
theorem d3_39 : decode method_4_code 39 = .ok (.iload 4, 2) := by decide +kernel
theorem d3_41 : decode method_4_code 41 = .ok (.i2l, 1) := by decide +kernel
theorem d3_42 : decode method_4_code 42 = .ok (.ladd, 1) := by decide +kernel
theorem d3_43 : decode method_4_code 43 = .ok (.lreturn, 1) := by decide +kernel
theorem pn_3 : plainFor (⟨"com/example/cuadre/cuadre/format/FieldDigitsPinLaw", "step", "(JBZ)J"⟩ : MethodName) = true := plainFor_of_name (by first | (simp [plainName, overriddenIn]; done) | decide +kernel)
theorem ef_3 (m : MethodId) (x0 : Int64) (x1 : Int32) (x2 : Int32) : entryFrame m #[(.long x0), (.int x1), (.int x2)] 5 = mkF m 0 #[.val (.long x0), .second, .val (.int x1), .val (.int x2), .unset] [] := by first | (simp [entryFrame, mkF, argsToLocals, Value.category]; done) | rfl
set_option maxRecDepth 65536 in
set_option maxHeartbeats 40000000 in
theorem rm3 (l : Launch) (Z : State) (a0 : Array Value) (hw : ∀ d ∈ tables_1, d.before a0 Z = true) (ws : List Jvm.Cond) (acc : Int64) (q f : Int32) (h0 : Heap) (n0 : Nat) (Z0 : n0 ≤ h0.size)  :
    own_C l Z (⟨"com/example/cuadre/cuadre/format/FieldDigitsPinLaw", "step", "(JBZ)J"⟩ : MethodName) method_4_code 5 (some .long) ({ frames := 0, cells := 0, slots := 0, locals := 0 } : Room) n0 ws #[(.long acc), (.int q), (.int f)] h0 (fun v h' => v = some (.long (own_step acc q f)) ∧ h' = h0) := by
  refine own_C.of pn_3 Z0 ?_
  intro p e s m below meth c T A S
  rw [ef_3]
  refine s_iloadN 1 A S d3_0 rfl rfl ?_
  refine s_ifeq 10 4 A S rfl d3_1 (by decide) (by decide) rfl (fun c1 tc1 => ?_) (fun c1 tc1 => ?_)
  · refine s_lloadN 11 A S d3_10 rfl rfl ?_
    exact s_retJ A S d3_11 (by decide) (by decide) ⟨by unfold own_step; rw [if_pos c1], rfl⟩
  · refine s_lloadN 5 A S d3_4 rfl rfl ?_
    refine s_lconst (z := (0 : Int64)) 6 A S d3_5 rfl rfl ?_
    refine s_lifge (yi := 0) 12 10 7 A S rfl rfl d3_6 rfl d3_7 (by decide) (by decide) rfl (fun c2 => ?_) (fun c2 => ?_)
    · refine s_iloadN 13 A S d3_12 rfl rfl ?_
      refine s_bipush (z := (48 : Int32)) 15 A S d3_13 rfl rfl ?_
      refine s_isub (z := (q - (48 : Int32))) 16 A S d3_15 rfl rfl ?_
      refine s_istore (Ls' := #[.val (.long acc), .second, .val (.int q), .val (.int f), .val (.int (q - (48 : Int32)))]) 18 A S d3_16 rfl rfl ?_
      refine s_iload 20 A S d3_18 rfl rfl ?_
      refine s_iflt 30 23 A S rfl d3_20 (by decide) (by decide) rfl (fun c3 => ?_) (fun c3 => ?_)
      · refine s_ldc2 33 A S (hw _ (List.mem_of_getElem? (i := 11) rfl)) d3_30 rfl ?_
        exact s_retJ A S d3_33 (by decide) (by decide) ⟨by unfold own_step; rw [if_neg c1]; rw [own_sbad c2 (by unfold own_bad; omega)], rfl⟩
      · refine s_iload 25 A S d3_23 rfl rfl ?_
        refine s_bipush (z := (9 : Int32)) 27 A S d3_25 rfl rfl ?_
        refine s_ile (yi := 9) 34 30 A S rfl rfl d3_27 (by decide) (by decide) rfl (fun c4 => ?_) (fun c4 => ?_)
        · refine s_lloadN 35 A S d3_34 rfl rfl ?_
          refine s_ldc2 38 A S (hw _ (List.mem_of_getElem? (i := 17) rfl)) d3_35 rfl ?_
          refine s_lmul (z := (acc * (10 : Int64))) 39 A S d3_38 rfl rfl ?_
          refine s_iload 41 A S d3_39 rfl rfl ?_
          refine s_i2l (z := (((q - (48 : Int32))).toInt64)) 42 A S d3_41 rfl rfl ?_
          refine s_ladd (z := ((acc * (10 : Int64)) + (((q - (48 : Int32))).toInt64))) 43 A S d3_42 rfl rfl ?_
          exact s_retJ A S d3_43 (by decide) (by decide) ⟨by unfold own_step; rw [if_neg c1]; rw [own_sgood c2 (by unfold own_bad; omega)], rfl⟩
        · refine s_ldc2 33 A S (hw _ (List.mem_of_getElem? (i := 11) rfl)) d3_30 rfl ?_
          exact s_retJ A S d3_33 (by decide) (by decide) ⟨by unfold own_step; rw [if_neg c1]; rw [own_sbad c2 (by unfold own_bad; omega)], rfl⟩
    · refine s_lloadN 11 A S d3_10 rfl rfl ?_
      exact s_retJ A S d3_11 (by decide) (by decide) ⟨by unfold own_step; rw [if_neg c1]; unfold own_stepF; rw [if_pos c2], rfl⟩
theorem d4_0 : decode prog_6_method_4_code 0 = .ok (.lconst 0, 1) := by decide +kernel
theorem d4_1 : decode prog_6_method_4_code 1 = .ok (.lstore_n 3, 1) := by decide +kernel
theorem d4_2 : decode prog_6_method_4_code 2 = .ok (.iload_n 1, 1) := by decide +kernel
theorem d4_3 : decode prog_6_method_4_code 3 = .ok (.istore 5, 2) := by decide +kernel
theorem d4_5 : decode prog_6_method_4_code 5 = .ok (.iload 5, 2) := by decide +kernel
theorem d4_7 : decode prog_6_method_4_code 7 = .ok (.iload_n 1, 1) := by decide +kernel
theorem d4_8 : decode prog_6_method_4_code 8 = .ok (.iload_n 2, 1) := by decide +kernel
theorem d4_9 : decode prog_6_method_4_code 9 = .ok (.iadd, 1) := by decide +kernel
theorem d4_10 : decode prog_6_method_4_code 10 = .ok (.if_icmp .ge 44, 3) := by decide +kernel
theorem d4_13 : decode prog_6_method_4_code 13 = .ok (.aload_n 0, 1) := by decide +kernel
theorem d4_14 : decode prog_6_method_4_code 14 = .ok (.iload 5, 2) := by decide +kernel
theorem d4_16 : decode prog_6_method_4_code 16 = .ok (.baload, 1) := by decide +kernel
theorem d4_17 : decode prog_6_method_4_code 17 = .ok (.bipush 48, 2) := by decide +kernel
theorem d4_19 : decode prog_6_method_4_code 19 = .ok (.isub, 1) := by decide +kernel
theorem d4_20 : decode prog_6_method_4_code 20 = .ok (.istore 6, 2) := by decide +kernel
theorem d4_22 : decode prog_6_method_4_code 22 = .ok (.iload 6, 2) := by decide +kernel
theorem d4_24 : decode prog_6_method_4_code 24 = .ok (.ifCond .lt 10, 3) := by decide +kernel
theorem d4_27 : decode prog_6_method_4_code 27 = .ok (.iload 6, 2) := by decide +kernel
theorem d4_29 : decode prog_6_method_4_code 29 = .ok (.bipush 9, 2) := by decide +kernel
theorem d4_31 : decode prog_6_method_4_code 31 = .ok (.if_icmp .le 7, 3) := by decide +kernel
theorem d4_34 : decode prog_6_method_4_code 34 = .ok (.ldc2_w 114, 3) := by decide +kernel
theorem d4_37 : decode prog_6_method_4_code 37 = .ok (.lreturn, 1) := by decide +kernel
theorem d4_38 : decode prog_6_method_4_code 38 = .ok (.lload_n 3, 1) := by decide +kernel
theorem d4_39 : decode prog_6_method_4_code 39 = .ok (.ldc2_w 116, 3) := by decide +kernel
theorem d4_42 : decode prog_6_method_4_code 42 = .ok (.lmul, 1) := by decide +kernel
theorem d4_43 : decode prog_6_method_4_code 43 = .ok (.iload 6, 2) := by decide +kernel
theorem d4_45 : decode prog_6_method_4_code 45 = .ok (.i2l, 1) := by decide +kernel
theorem d4_46 : decode prog_6_method_4_code 46 = .ok (.ladd, 1) := by decide +kernel
theorem d4_47 : decode prog_6_method_4_code 47 = .ok (.lstore_n 3, 1) := by decide +kernel
theorem d4_48 : decode prog_6_method_4_code 48 = .ok (.iinc 5 1, 3) := by decide +kernel
theorem d4_51 : decode prog_6_method_4_code 51 = .ok (.goto (-46), 3) := by decide +kernel
theorem d4_54 : decode prog_6_method_4_code 54 = .ok (.lload_n 3, 1) := by decide +kernel
theorem d4_55 : decode prog_6_method_4_code 55 = .ok (.lreturn, 1) := by decide +kernel
theorem pn_4 : plainFor (⟨"com/example/cuadre/cuadre/format/Field", "digits", "([BII)J"⟩ : MethodName) = true := plainFor_of_name (by first | (simp [plainName, overriddenIn]; done) | decide +kernel)
theorem ef_4 (m : MethodId) (x0 : Addr) (x1 : Int32) (x2 : Int32) : entryFrame m #[(.ref x0), (.int x1), (.int x2)] 7 = mkF m 0 #[.val (.ref x0), .val (.int x1), .val (.int x2), .unset, .unset, .unset, .unset] [] := by first | (simp [entryFrame, mkF, argsToLocals, Value.category]; done) | rfl
set_option maxRecDepth 65536 in
set_option maxHeartbeats 40000000 in
theorem rm4 (l : Launch) (Z : State) (a0 : Array Value) (hw : ∀ d ∈ tables_1, d.before a0 Z = true) (ws : List Jvm.Cond) (ar : Addr) (k : ClassId) (z f n : Int32) (bs : List Int32) (h0 : Heap) (n0 : Nat) (Z0 : n0 ≤ h0.size) (V0 : Arv Z h0 ar k .byte z (bs.map Value.int) (.int 0)) (hz : z.toInt = bs.length) (h1 : 0 ≤ f.toInt) (h2 : 0 ≤ n.toInt) (h3 : f.toInt + n.toInt ≤ bs.length) (h4 : bs.length ≤ 100) :
    own_C l Z (⟨"com/example/cuadre/cuadre/format/Field", "digits", "([BII)J"⟩ : MethodName) prog_6_method_4_code 7 (some .long) ({ frames := 0, cells := 0, slots := 0, locals := 0 } : Room) n0 ws #[(.ref ar), (.int f), (.int n)] h0 (fun v h' => (v = some (.long (own_run 0 ((bs.drop f.toNatClampNeg).take n.toNatClampNeg)))) ∧ h' = h0) := by
  refine own_C.of pn_4 Z0 ?_
  intro p e s m below meth c T A S
  rw [ef_4]
  refine s_lconst (z := (0 : Int64)) 1 A S d4_0 rfl rfl ?_
  refine s_lstoreN (Ls' := #[.val (.ref ar), .val (.int f), .val (.int n), .val (.long (0 : Int64)), .second, .unset, .unset]) 2 A S d4_1 rfl rfl ?_
  refine s_iloadN 3 A S d4_2 rfl rfl ?_
  refine s_istore (Ls' := #[.val (.ref ar), .val (.int f), .val (.int n), .val (.long (0 : Int64)), .second, .val (.int f), .unset]) 5 A S d4_3 rfl rfl ?_
  have loop : ∀ (N : Nat) (i : Int32) (acc : Int64), own_run acc ((bs.drop i.toNatClampNeg).take N) = own_run 0 ((bs.drop f.toNatClampNeg).take n.toNatClampNeg) → i.toInt = f.toInt + n.toInt - N ∧ 0 ≤ i.toInt → ∀ sl : Slot, (sl = .unset ∨ ∃ w, sl = .val (.int w)) → own_G p e below s n0 ({ frames := 0, cells := 0, slots := 0, locals := 0 } : Room).cells ({ frames := 0, cells := 0, slots := 0, locals := 0 } : Room).slots (fun v h' => (v = some (.long (own_run 0 ((bs.drop f.toNatClampNeg).take n.toNatClampNeg)))) ∧ h' = h0) T (mkF m 5 #[.val (.ref ar), .val (.int f), .val (.int n), .val (.long acc), .second, .val (.int i), sl] []) := by
    intro N
    induction N with
    | zero =>
      intro i acc hq hi sl hsl
      refine s_iload 7 A S d4_5 rfl rfl ?_
      refine s_iloadN 8 A S d4_7 rfl rfl ?_
      refine s_iloadN 9 A S d4_8 rfl rfl ?_
      refine s_iadd (z := (f + n)) 10 A S d4_9 rfl rfl ?_
      refine s_ige 54 13 A S rfl rfl d4_10 (by decide) (by decide) rfl (fun c1 => ?_) (fun c1 => (by rw [own_iadd (by omega) (by omega)] at c1; omega : False).elim)
      refine s_lloadN 55 A S d4_54 rfl rfl ?_
      exact s_retJ A S d4_55 (by decide) (by decide) ⟨by rw [← hq]; rfl, rfl⟩
    | succ N ih =>
      intro i acc hq hi sl hsl
      obtain ⟨b, r, hb1, hb2, hb3⟩ := own_at (bs := bs) (i := i.toNatClampNeg) (by simp only [Int32.toNatClampNeg]; omega)
      rw [hb1] at hq
      rcases hsl with rfl | ⟨w0, rfl⟩
      all_goals
        refine s_iload 7 A S d4_5 rfl rfl ?_
        refine s_iloadN 8 A S d4_7 rfl rfl ?_
        refine s_iloadN 9 A S d4_8 rfl rfl ?_
        refine s_iadd (z := (f + n)) 10 A S d4_9 rfl rfl ?_
        refine s_ige 54 13 A S rfl rfl d4_10 (by decide) (by decide) rfl (fun c2 => (by rw [own_iadd (by omega) (by omega)] at c2; omega : False).elim) (fun c2 => ?_)
        refine s_aloadN 14 A S d4_13 rfl (by first | rfl | assumption) rfl ?_
        refine s_iload 16 A S d4_14 rfl rfl ?_
        refine s_bald (v := (.int b)) 17 A S V0 ⟨own_nn hi.2, Int32.lt_iff_toInt_lt.mpr (by omega)⟩ hb3 d4_16 rfl ?_
        refine s_bipush (z := (48 : Int32)) 19 A S d4_17 rfl rfl ?_
        refine s_isub (z := (b - (48 : Int32))) 20 A S d4_19 rfl rfl ?_
        refine s_istore (Ls' := #[.val (.ref ar), .val (.int f), .val (.int n), .val (.long acc), .second, .val (.int i), .val (.int (b - (48 : Int32)))]) 22 A S d4_20 rfl rfl ?_
        refine s_iload 24 A S d4_22 rfl rfl ?_
        refine s_iflt 34 27 A S rfl d4_24 (by decide) (by decide) rfl (fun c3 => ?_) (fun c3 => ?_)
        · refine s_ldc2 37 A S (hw _ (List.mem_of_getElem? (i := 16) rfl)) d4_34 rfl ?_
          exact s_retJ A S d4_37 (by decide) (by decide) ⟨by rw [← hq, List.take_succ_cons, own_runbad (by unfold own_bad; omega)], rfl⟩
        · refine s_iload 29 A S d4_27 rfl rfl ?_
          refine s_bipush (z := (9 : Int32)) 31 A S d4_29 rfl rfl ?_
          refine s_ile (yi := 9) 38 34 A S rfl rfl d4_31 (by decide) (by decide) rfl (fun c4 => ?_) (fun c4 => ?_)
          · refine s_lloadN 39 A S d4_38 rfl rfl ?_
            refine s_ldc2 42 A S (hw _ (List.mem_of_getElem? (i := 18) rfl)) d4_39 rfl ?_
            refine s_lmul (z := (acc * (10 : Int64))) 43 A S d4_42 rfl rfl ?_
            refine s_iload 45 A S d4_43 rfl rfl ?_
            refine s_i2l (z := (((b - (48 : Int32))).toInt64)) 46 A S d4_45 rfl rfl ?_
            refine s_ladd (z := ((acc * (10 : Int64)) + (((b - (48 : Int32))).toInt64))) 47 A S d4_46 rfl rfl ?_
            refine s_lstoreN (Ls' := #[.val (.ref ar), .val (.int f), .val (.int n), .val (.long ((acc * (10 : Int64)) + (((b - (48 : Int32))).toInt64))), .second, .val (.int i), .val (.int (b - (48 : Int32)))]) 48 A S d4_47 rfl rfl ?_
            have hg : ¬ own_bad b := by unfold own_bad; omega
            have hq1 : own_run (acc * 10 + (b - 48).toInt64) ((bs.drop (i + 1).toNatClampNeg).take N) = own_run 0 ((bs.drop f.toNatClampNeg).take n.toNatClampNeg) := by
              rw [← hq, List.take_succ_cons, own_runcons hg, ← hb2]
              have e1 : (i + 1).toNatClampNeg = i.toNatClampNeg + 1 := by have q := own_iaddK (x := i) (y := 1) (b := 1) rfl (by omega) (by omega); simp only [Int32.toNatClampNeg, q]; omega
              rw [e1]
            have hi1 := own_iaddK (x := i) (y := 1) (b := 1) rfl (by omega) (by omega)
            refine s_iinc (z := (i + (1 : Int32))) (Ls' := #[.val (.ref ar), .val (.int f), .val (.int n), .val (.long ((acc * (10 : Int64)) + (((b - (48 : Int32))).toInt64))), .second, .val (.int (i + (1 : Int32))), .val (.int (b - (48 : Int32)))]) 51 A S d4_48 rfl rfl rfl rfl ?_
            refine s_goto 5 A S d4_51 (by decide) (by decide) ?_
            exact ih (i + (1 : Int32)) ((acc * (10 : Int64)) + (((b - (48 : Int32))).toInt64)) hq1 (by omega) _ (Or.inr ⟨_, rfl⟩)
          · refine s_ldc2 37 A S (hw _ (List.mem_of_getElem? (i := 16) rfl)) d4_34 rfl ?_
            exact s_retJ A S d4_37 (by decide) (by decide) ⟨by rw [← hq, List.take_succ_cons, own_runbad (by unfold own_bad; omega)], rfl⟩
  exact loop n.toNatClampNeg f 0 rfl (by simp only [Int32.toNatClampNeg]; omega) .unset (Or.inl rfl)
theorem pn_0 : plainFor (⟨"com/example/cuadre/cuadre/format/FieldDigitsPinLaw", "law", "(IIIIII)Z"⟩ : MethodName) = true := plainFor_of_name (by first | (simp [plainName, overriddenIn]; done) | decide +kernel)
theorem ef_0 (m : MethodId) (x0 : Int32) (x1 : Int32) (x2 : Int32) (x3 : Int32) (x4 : Int32) (x5 : Int32) : entryFrame m #[(.int x0), (.int x1), (.int x2), (.int x3), (.int x4), (.int x5)] maxLocals = mkF m 0 #[.val (.int x0), .val (.int x1), .val (.int x2), .val (.int x3), .val (.int x4), .val (.int x5), .unset, .unset, .unset, .unset, .unset, .unset, .unset, .unset, .unset, .unset] [] := by first | (simp [entryFrame, mkF, argsToLocals, Value.category, maxLocals]; done) | rfl
set_option maxRecDepth 65536 in
set_option maxHeartbeats 40000000 in
theorem rm0 (l : Launch) (Z : State) (a0 : Array Value) (hw : ∀ d ∈ tables_1, d.before a0 Z = true) (ws : List Jvm.Cond) (i0 i1 i2 i3 i4 i5 : Int32) (h0 : Heap) (n0 : Nat) (Z0 : n0 ≤ h0.size)  :
    own_C l Z x code maxLocals ret room_1 n0 ws #[(.int i0), (.int i1), (.int i2), (.int i3), (.int i4), (.int i5)] h0 (fun v h' => v = some (.int 1)) := by
  refine own_C.of pn_0 Z0 ?_
  intro p e s m below meth c T A S
  rw [ef_0]
  refine s_bipush (z := (6 : Int32)) 2 A S at_0 rfl rfl ?_
  refine s_newP (cap := 6) 4 A S (hw _ (List.mem_of_getElem? (i := 0) rfl)) at_2 (by decide) (by decide) (by decide) rfl (by decide) (by decide) fun T1 h2 k4 a5 ha_a5 E_a5 V_a5 S3 => ?_
  have ge_a5 : n0 ≤ a5 := by rw [ha_a5]; exact Z0
  have Z6 : n0 ≤ h2.size := Nat.le_trans Z0 E_a5.1
  have V7 : Arv Z h2 a5 k4 .byte (6 : Int32) [(.int 0), (.int 0), (.int 0), (.int 0), (.int 0), (.int 0)] (.int 0) := Arv.pad V_a5 (fun i => by simpa using pad_rep [] (.int 0) 6 i)
  refine s_astore (Ls' := #[.val (.int i0), .val (.int i1), .val (.int i2), .val (.int i3), .val (.int i4), .val (.int i5), .val (.ref a5), .unset, .unset, .unset, .unset, .unset, .unset, .unset, .unset, .unset]) 6 A S3 at_4 (by first | rfl | assumption) rfl rfl ?_
  refine s_aload 8 A S3 at_6 rfl (by first | rfl | assumption) rfl ?_
  refine s_iconst (z := (0 : Int32)) 9 A S3 at_8 rfl rfl ?_
  refine s_iloadN 10 A S3 at_9 rfl rfl ?_
  refine s_callV (y := (⟨"com/example/cuadre/cuadre/format/FieldDigitsPinLaw", "draw", "(I)B"⟩ : MethodName)) (argsL := [(.int i0)]) (rest := [(.int (0 : Int32)), (.ref a5)]) 13 A S3 (hw _ (List.mem_of_getElem? (i := 1) rfl)) (hw _ (List.mem_of_getElem? (i := 2) rfl)) (hw _ (List.mem_of_getElem? (i := 3) rfl)) (hw _ (List.mem_of_getElem? (i := 4) rfl)) (rm1 l Z a0 hw [] i0 h2 n0 Z6) (lenOf pd__I_B rfl) at_10 rfl rfl rfl (by decide) (by decide) (Nat.le_of_ble_eq_true rfl) (by decide) (by decide) fun T8 S9 => ?_
  refine s_bast 14 A S9 V7 ⟨by decide, by decide⟩ 0 rfl (Nat.le_of_ble_eq_true rfl) ge_a5 at_13 rfl fun T10 h11 W13 V14 S12 => ?_
  obtain ⟨s0, h_s0⟩ : ∃ z, nar .byte (own_draw i0) = z := ⟨_, rfl⟩
  have n_s0 : nar .byte s0 = s0 := by rw [← h_s0]; exact own_narnar _
  rw [h_s0] at V14
  have Z16 : n0 ≤ h11.size := by rw [W13.size]; exact Z6
  have V17 : Arv Z h11 a5 k4 .byte (6 : Int32) [(.int s0), (.int 0), (.int 0), (.int 0), (.int 0), (.int 0)] (.int 0) := V14
  refine s_aload 16 A S12 at_14 rfl (by first | rfl | assumption) rfl ?_
  refine s_iconst (z := (1 : Int32)) 17 A S12 at_16 rfl rfl ?_
  refine s_iloadN 18 A S12 at_17 rfl rfl ?_
  refine s_callV (y := (⟨"com/example/cuadre/cuadre/format/FieldDigitsPinLaw", "draw", "(I)B"⟩ : MethodName)) (argsL := [(.int i1)]) (rest := [(.int (1 : Int32)), (.ref a5)]) 21 A S12 (hw _ (List.mem_of_getElem? (i := 1) rfl)) (hw _ (List.mem_of_getElem? (i := 2) rfl)) (hw _ (List.mem_of_getElem? (i := 3) rfl)) (hw _ (List.mem_of_getElem? (i := 4) rfl)) (rm1 l Z a0 hw [] i1 h11 n0 Z16) (lenOf pd__I_B rfl) at_18 rfl rfl rfl (by decide) (by decide) (Nat.le_of_ble_eq_true rfl) (by decide) (by decide) fun T18 S19 => ?_
  refine s_bast 22 A S19 V17 ⟨by decide, by decide⟩ 1 rfl (Nat.le_of_ble_eq_true rfl) ge_a5 at_21 rfl fun T20 h21 W23 V24 S22 => ?_
  obtain ⟨s1, h_s1⟩ : ∃ z, nar .byte (own_draw i1) = z := ⟨_, rfl⟩
  have n_s1 : nar .byte s1 = s1 := by rw [← h_s1]; exact own_narnar _
  rw [h_s1] at V24
  have Z26 : n0 ≤ h21.size := by rw [W23.size]; exact Z16
  have V27 : Arv Z h21 a5 k4 .byte (6 : Int32) [(.int s0), (.int s1), (.int 0), (.int 0), (.int 0), (.int 0)] (.int 0) := V24
  refine s_aload 24 A S22 at_22 rfl (by first | rfl | assumption) rfl ?_
  refine s_iconst (z := (2 : Int32)) 25 A S22 at_24 rfl rfl ?_
  refine s_iloadN 26 A S22 at_25 rfl rfl ?_
  refine s_callV (y := (⟨"com/example/cuadre/cuadre/format/FieldDigitsPinLaw", "draw", "(I)B"⟩ : MethodName)) (argsL := [(.int i2)]) (rest := [(.int (2 : Int32)), (.ref a5)]) 29 A S22 (hw _ (List.mem_of_getElem? (i := 1) rfl)) (hw _ (List.mem_of_getElem? (i := 2) rfl)) (hw _ (List.mem_of_getElem? (i := 3) rfl)) (hw _ (List.mem_of_getElem? (i := 4) rfl)) (rm1 l Z a0 hw [] i2 h21 n0 Z26) (lenOf pd__I_B rfl) at_26 rfl rfl rfl (by decide) (by decide) (Nat.le_of_ble_eq_true rfl) (by decide) (by decide) fun T28 S29 => ?_
  refine s_bast 30 A S29 V27 ⟨by decide, by decide⟩ 2 rfl (Nat.le_of_ble_eq_true rfl) ge_a5 at_29 rfl fun T30 h31 W33 V34 S32 => ?_
  obtain ⟨s2, h_s2⟩ : ∃ z, nar .byte (own_draw i2) = z := ⟨_, rfl⟩
  have n_s2 : nar .byte s2 = s2 := by rw [← h_s2]; exact own_narnar _
  rw [h_s2] at V34
  have Z36 : n0 ≤ h31.size := by rw [W33.size]; exact Z26
  have V37 : Arv Z h31 a5 k4 .byte (6 : Int32) [(.int s0), (.int s1), (.int s2), (.int 0), (.int 0), (.int 0)] (.int 0) := V34
  refine s_aload 32 A S32 at_30 rfl (by first | rfl | assumption) rfl ?_
  refine s_iconst (z := (3 : Int32)) 33 A S32 at_32 rfl rfl ?_
  refine s_iloadN 34 A S32 at_33 rfl rfl ?_
  refine s_callV (y := (⟨"com/example/cuadre/cuadre/format/FieldDigitsPinLaw", "draw", "(I)B"⟩ : MethodName)) (argsL := [(.int i3)]) (rest := [(.int (3 : Int32)), (.ref a5)]) 37 A S32 (hw _ (List.mem_of_getElem? (i := 1) rfl)) (hw _ (List.mem_of_getElem? (i := 2) rfl)) (hw _ (List.mem_of_getElem? (i := 3) rfl)) (hw _ (List.mem_of_getElem? (i := 4) rfl)) (rm1 l Z a0 hw [] i3 h31 n0 Z36) (lenOf pd__I_B rfl) at_34 rfl rfl rfl (by decide) (by decide) (Nat.le_of_ble_eq_true rfl) (by decide) (by decide) fun T38 S39 => ?_
  refine s_bast 38 A S39 V37 ⟨by decide, by decide⟩ 3 rfl (Nat.le_of_ble_eq_true rfl) ge_a5 at_37 rfl fun T40 h41 W43 V44 S42 => ?_
  obtain ⟨s3, h_s3⟩ : ∃ z, nar .byte (own_draw i3) = z := ⟨_, rfl⟩
  have n_s3 : nar .byte s3 = s3 := by rw [← h_s3]; exact own_narnar _
  rw [h_s3] at V44
  have Z46 : n0 ≤ h41.size := by rw [W43.size]; exact Z36
  have V47 : Arv Z h41 a5 k4 .byte (6 : Int32) [(.int s0), (.int s1), (.int s2), (.int s3), (.int 0), (.int 0)] (.int 0) := V44
  refine s_aload 40 A S42 at_38 rfl (by first | rfl | assumption) rfl ?_
  refine s_iconst (z := (4 : Int32)) 41 A S42 at_40 rfl rfl ?_
  refine s_iload 43 A S42 at_41 rfl rfl ?_
  refine s_callV (y := (⟨"com/example/cuadre/cuadre/format/FieldDigitsPinLaw", "draw", "(I)B"⟩ : MethodName)) (argsL := [(.int i4)]) (rest := [(.int (4 : Int32)), (.ref a5)]) 46 A S42 (hw _ (List.mem_of_getElem? (i := 1) rfl)) (hw _ (List.mem_of_getElem? (i := 2) rfl)) (hw _ (List.mem_of_getElem? (i := 3) rfl)) (hw _ (List.mem_of_getElem? (i := 4) rfl)) (rm1 l Z a0 hw [] i4 h41 n0 Z46) (lenOf pd__I_B rfl) at_43 rfl rfl rfl (by decide) (by decide) (Nat.le_of_ble_eq_true rfl) (by decide) (by decide) fun T48 S49 => ?_
  refine s_bast 47 A S49 V47 ⟨by decide, by decide⟩ 4 rfl (Nat.le_of_ble_eq_true rfl) ge_a5 at_46 rfl fun T50 h51 W53 V54 S52 => ?_
  obtain ⟨s4, h_s4⟩ : ∃ z, nar .byte (own_draw i4) = z := ⟨_, rfl⟩
  have n_s4 : nar .byte s4 = s4 := by rw [← h_s4]; exact own_narnar _
  rw [h_s4] at V54
  have Z56 : n0 ≤ h51.size := by rw [W53.size]; exact Z46
  have V57 : Arv Z h51 a5 k4 .byte (6 : Int32) [(.int s0), (.int s1), (.int s2), (.int s3), (.int s4), (.int 0)] (.int 0) := V54
  refine s_aload 49 A S52 at_47 rfl (by first | rfl | assumption) rfl ?_
  refine s_iconst (z := (5 : Int32)) 50 A S52 at_49 rfl rfl ?_
  refine s_iload 52 A S52 at_50 rfl rfl ?_
  refine s_callV (y := (⟨"com/example/cuadre/cuadre/format/FieldDigitsPinLaw", "draw", "(I)B"⟩ : MethodName)) (argsL := [(.int i5)]) (rest := [(.int (5 : Int32)), (.ref a5)]) 55 A S52 (hw _ (List.mem_of_getElem? (i := 1) rfl)) (hw _ (List.mem_of_getElem? (i := 2) rfl)) (hw _ (List.mem_of_getElem? (i := 3) rfl)) (hw _ (List.mem_of_getElem? (i := 4) rfl)) (rm1 l Z a0 hw [] i5 h51 n0 Z56) (lenOf pd__I_B rfl) at_52 rfl rfl rfl (by decide) (by decide) (Nat.le_of_ble_eq_true rfl) (by decide) (by decide) fun T58 S59 => ?_
  refine s_bast 56 A S59 V57 ⟨by decide, by decide⟩ 5 rfl (Nat.le_of_ble_eq_true rfl) ge_a5 at_55 rfl fun T60 h61 W63 V64 S62 => ?_
  obtain ⟨s5, h_s5⟩ : ∃ z, nar .byte (own_draw i5) = z := ⟨_, rfl⟩
  have n_s5 : nar .byte s5 = s5 := by rw [← h_s5]; exact own_narnar _
  rw [h_s5] at V64
  have Z66 : n0 ≤ h61.size := by rw [W63.size]; exact Z56
  have V67 : Arv Z h61 a5 k4 .byte (6 : Int32) [(.int s0), (.int s1), (.int s2), (.int s3), (.int s4), (.int s5)] (.int 0) := V64
  refine s_iloadN 57 A S62 at_56 rfl rfl ?_
  refine s_bipush (z := (16 : Int32)) 59 A S62 at_57 rfl rfl ?_
  refine s_iushr (z := (own_ushr i0 (16 : Int32))) 60 A S62 at_59 rfl rfl ?_
  refine s_bipush (z := (7 : Int32)) 62 A S62 at_60 rfl rfl ?_
  refine s_iand (z := ((own_ushr i0 (16 : Int32)) &&& (7 : Int32))) 63 A S62 at_62 rfl rfl ?_
  refine s_bipush (z := (7 : Int32)) 65 A S62 at_63 rfl rfl ?_
  obtain ⟨fr, h_fr⟩ : ∃ z_, (((own_ushr i0 (16 : Int32)) &&& (7 : Int32)) % (7 : Int32)) = z_ := ⟨_, rfl⟩
  refine s_irem (z := fr) 66 A S62 at_65 (by decide) h_fr rfl ?_
  have b_fr := own_from (own_ushr i0 16)
  rw [h_fr] at b_fr
  refine s_istore (Ls' := #[.val (.int i0), .val (.int i1), .val (.int i2), .val (.int i3), .val (.int i4), .val (.int i5), .val (.ref a5), .val (.int fr), .unset, .unset, .unset, .unset, .unset, .unset, .unset, .unset]) 68 A S62 at_66 rfl rfl ?_
  refine s_iloadN 69 A S62 at_68 rfl rfl ?_
  refine s_bipush (z := (20 : Int32)) 71 A S62 at_69 rfl rfl ?_
  refine s_iushr (z := (own_ushr i0 (20 : Int32))) 72 A S62 at_71 rfl rfl ?_
  refine s_bipush (z := (7 : Int32)) 74 A S62 at_72 rfl rfl ?_
  refine s_iand (z := ((own_ushr i0 (20 : Int32)) &&& (7 : Int32))) 75 A S62 at_74 rfl rfl ?_
  refine s_bipush (z := (7 : Int32)) 77 A S62 at_75 rfl rfl ?_
  refine s_iload 79 A S62 at_77 rfl rfl ?_
  obtain ⟨sv, h_sv⟩ : ∃ z_, ((7 : Int32) - fr) = z_ := ⟨_, rfl⟩
  refine s_isub (z := sv) 80 A S62 at_79 h_sv rfl ?_
  have b_sv : sv.toInt = 7 - fr.toInt := by rw [← h_sv, own_isubL (a := 7) rfl (by omega) (by omega)]
  have nz : sv ≠ 0 := fun q => by rw [q] at b_sv; have : (0 : Int32).toInt = 0 := rfl; omega
  obtain ⟨ct, h_ct⟩ : ∃ z_, (((own_ushr i0 (20 : Int32)) &&& (7 : Int32)) % sv) = z_ := ⟨_, rfl⟩
  refine s_irem (z := ct) 81 A S62 at_80 (nz) h_ct rfl ?_
  have b_ct := (c_iremV (own_ushr i0 20 &&& 7) sv).1 (c_and (own_ushr i0 20) 7 (by decide)).1 (by omega)
  rw [h_ct] at b_ct
  refine s_istore (Ls' := #[.val (.int i0), .val (.int i1), .val (.int i2), .val (.int i3), .val (.int i4), .val (.int i5), .val (.ref a5), .val (.int fr), .val (.int ct), .unset, .unset, .unset, .unset, .unset, .unset, .unset]) 83 A S62 at_81 rfl rfl ?_
  refine s_lconst (z := (0 : Int64)) 84 A S62 at_83 rfl rfl ?_
  refine s_lstore (Ls' := #[.val (.int i0), .val (.int i1), .val (.int i2), .val (.int i3), .val (.int i4), .val (.int i5), .val (.ref a5), .val (.int fr), .val (.int ct), .val (.long (0 : Int64)), .second, .unset, .unset, .unset, .unset, .unset]) 86 A S62 at_84 rfl rfl ?_
  refine s_lload 88 A S62 at_86 rfl rfl ?_
  refine s_aload 90 A S62 at_88 rfl (by first | rfl | assumption) rfl ?_
  refine s_iconst (z := (0 : Int32)) 91 A S62 at_90 rfl rfl ?_
  refine s_bald (v := (.int s0)) 92 A S62 V67 ⟨by decide, by decide⟩ rfl at_91 rfl ?_
  refine s_iconst (z := (0 : Int32)) 93 A S62 at_92 rfl rfl ?_
  refine s_iload 95 A S62 at_93 rfl rfl ?_
  refine s_iload 97 A S62 at_95 rfl rfl ?_
  refine s_callV (y := (⟨"com/example/cuadre/cuadre/format/FieldDigitsPinLaw", "in", "(III)Z"⟩ : MethodName)) (argsL := [(.int (0 : Int32)), (.int fr), (.int ct)]) (rest := [(.int s0), (.long (0 : Int64))]) 100 A S62 (hw _ (List.mem_of_getElem? (i := 5) rfl)) (hw _ (List.mem_of_getElem? (i := 6) rfl)) (hw _ (List.mem_of_getElem? (i := 3) rfl)) (hw _ (List.mem_of_getElem? (i := 7) rfl)) (rm2 l Z a0 hw [] (0 : Int32) fr ct h61 n0 Z66) (lenOf pd__III_Z rfl) at_97 rfl rfl rfl (by decide) (by decide) (Nat.le_of_ble_eq_true rfl) (by decide) (by decide) fun T68 S69 => ?_
  refine s_callV (y := (⟨"com/example/cuadre/cuadre/format/FieldDigitsPinLaw", "step", "(JBZ)J"⟩ : MethodName)) (argsL := [(.long (0 : Int64)), (.int s0), (.int (own_in (0 : Int32) fr ct))]) (rest := []) 103 A S69 (hw _ (List.mem_of_getElem? (i := 8) rfl)) (hw _ (List.mem_of_getElem? (i := 9) rfl)) (hw _ (List.mem_of_getElem? (i := 3) rfl)) (hw _ (List.mem_of_getElem? (i := 10) rfl)) (rm3 l Z a0 hw [] (0 : Int64) s0 (own_in (0 : Int32) fr ct) h61 n0 Z66) (lenOf pd__JBZ_J rfl) at_100 rfl rfl rfl (by decide) (by decide) (Nat.le_of_ble_eq_true rfl) (by decide) (by decide) fun T70 S71 => ?_
  refine s_lstore (Ls' := #[.val (.int i0), .val (.int i1), .val (.int i2), .val (.int i3), .val (.int i4), .val (.int i5), .val (.ref a5), .val (.int fr), .val (.int ct), .val (.long (own_step (0 : Int64) s0 (own_in (0 : Int32) fr ct))), .second, .unset, .unset, .unset, .unset, .unset]) 105 A S71 at_103 rfl rfl ?_
  refine s_lload 107 A S71 at_105 rfl rfl ?_
  refine s_aload 109 A S71 at_107 rfl (by first | rfl | assumption) rfl ?_
  refine s_iconst (z := (1 : Int32)) 110 A S71 at_109 rfl rfl ?_
  refine s_bald (v := (.int s1)) 111 A S71 V67 ⟨by decide, by decide⟩ rfl at_110 rfl ?_
  refine s_iconst (z := (1 : Int32)) 112 A S71 at_111 rfl rfl ?_
  refine s_iload 114 A S71 at_112 rfl rfl ?_
  refine s_iload 116 A S71 at_114 rfl rfl ?_
  refine s_callV (y := (⟨"com/example/cuadre/cuadre/format/FieldDigitsPinLaw", "in", "(III)Z"⟩ : MethodName)) (argsL := [(.int (1 : Int32)), (.int fr), (.int ct)]) (rest := [(.int s1), (.long (own_step (0 : Int64) s0 (own_in (0 : Int32) fr ct)))]) 119 A S71 (hw _ (List.mem_of_getElem? (i := 5) rfl)) (hw _ (List.mem_of_getElem? (i := 6) rfl)) (hw _ (List.mem_of_getElem? (i := 3) rfl)) (hw _ (List.mem_of_getElem? (i := 7) rfl)) (rm2 l Z a0 hw [] (1 : Int32) fr ct h61 n0 Z66) (lenOf pd__III_Z rfl) at_116 rfl rfl rfl (by decide) (by decide) (Nat.le_of_ble_eq_true rfl) (by decide) (by decide) fun T72 S73 => ?_
  refine s_callV (y := (⟨"com/example/cuadre/cuadre/format/FieldDigitsPinLaw", "step", "(JBZ)J"⟩ : MethodName)) (argsL := [(.long (own_step (0 : Int64) s0 (own_in (0 : Int32) fr ct))), (.int s1), (.int (own_in (1 : Int32) fr ct))]) (rest := []) 122 A S73 (hw _ (List.mem_of_getElem? (i := 8) rfl)) (hw _ (List.mem_of_getElem? (i := 9) rfl)) (hw _ (List.mem_of_getElem? (i := 3) rfl)) (hw _ (List.mem_of_getElem? (i := 10) rfl)) (rm3 l Z a0 hw [] (own_step (0 : Int64) s0 (own_in (0 : Int32) fr ct)) s1 (own_in (1 : Int32) fr ct) h61 n0 Z66) (lenOf pd__JBZ_J rfl) at_119 rfl rfl rfl (by decide) (by decide) (Nat.le_of_ble_eq_true rfl) (by decide) (by decide) fun T74 S75 => ?_
  refine s_lstore (Ls' := #[.val (.int i0), .val (.int i1), .val (.int i2), .val (.int i3), .val (.int i4), .val (.int i5), .val (.ref a5), .val (.int fr), .val (.int ct), .val (.long (own_step (own_step (0 : Int64) s0 (own_in (0 : Int32) fr ct)) s1 (own_in (1 : Int32) fr ct))), .second, .unset, .unset, .unset, .unset, .unset]) 124 A S75 at_122 rfl rfl ?_
  refine s_lload 126 A S75 at_124 rfl rfl ?_
  refine s_aload 128 A S75 at_126 rfl (by first | rfl | assumption) rfl ?_
  refine s_iconst (z := (2 : Int32)) 129 A S75 at_128 rfl rfl ?_
  refine s_bald (v := (.int s2)) 130 A S75 V67 ⟨by decide, by decide⟩ rfl at_129 rfl ?_
  refine s_iconst (z := (2 : Int32)) 131 A S75 at_130 rfl rfl ?_
  refine s_iload 133 A S75 at_131 rfl rfl ?_
  refine s_iload 135 A S75 at_133 rfl rfl ?_
  refine s_callV (y := (⟨"com/example/cuadre/cuadre/format/FieldDigitsPinLaw", "in", "(III)Z"⟩ : MethodName)) (argsL := [(.int (2 : Int32)), (.int fr), (.int ct)]) (rest := [(.int s2), (.long (own_step (own_step (0 : Int64) s0 (own_in (0 : Int32) fr ct)) s1 (own_in (1 : Int32) fr ct)))]) 138 A S75 (hw _ (List.mem_of_getElem? (i := 5) rfl)) (hw _ (List.mem_of_getElem? (i := 6) rfl)) (hw _ (List.mem_of_getElem? (i := 3) rfl)) (hw _ (List.mem_of_getElem? (i := 7) rfl)) (rm2 l Z a0 hw [] (2 : Int32) fr ct h61 n0 Z66) (lenOf pd__III_Z rfl) at_135 rfl rfl rfl (by decide) (by decide) (Nat.le_of_ble_eq_true rfl) (by decide) (by decide) fun T76 S77 => ?_
  refine s_callV (y := (⟨"com/example/cuadre/cuadre/format/FieldDigitsPinLaw", "step", "(JBZ)J"⟩ : MethodName)) (argsL := [(.long (own_step (own_step (0 : Int64) s0 (own_in (0 : Int32) fr ct)) s1 (own_in (1 : Int32) fr ct))), (.int s2), (.int (own_in (2 : Int32) fr ct))]) (rest := []) 141 A S77 (hw _ (List.mem_of_getElem? (i := 8) rfl)) (hw _ (List.mem_of_getElem? (i := 9) rfl)) (hw _ (List.mem_of_getElem? (i := 3) rfl)) (hw _ (List.mem_of_getElem? (i := 10) rfl)) (rm3 l Z a0 hw [] (own_step (own_step (0 : Int64) s0 (own_in (0 : Int32) fr ct)) s1 (own_in (1 : Int32) fr ct)) s2 (own_in (2 : Int32) fr ct) h61 n0 Z66) (lenOf pd__JBZ_J rfl) at_138 rfl rfl rfl (by decide) (by decide) (Nat.le_of_ble_eq_true rfl) (by decide) (by decide) fun T78 S79 => ?_
  refine s_lstore (Ls' := #[.val (.int i0), .val (.int i1), .val (.int i2), .val (.int i3), .val (.int i4), .val (.int i5), .val (.ref a5), .val (.int fr), .val (.int ct), .val (.long (own_step (own_step (own_step (0 : Int64) s0 (own_in (0 : Int32) fr ct)) s1 (own_in (1 : Int32) fr ct)) s2 (own_in (2 : Int32) fr ct))), .second, .unset, .unset, .unset, .unset, .unset]) 143 A S79 at_141 rfl rfl ?_
  refine s_lload 145 A S79 at_143 rfl rfl ?_
  refine s_aload 147 A S79 at_145 rfl (by first | rfl | assumption) rfl ?_
  refine s_iconst (z := (3 : Int32)) 148 A S79 at_147 rfl rfl ?_
  refine s_bald (v := (.int s3)) 149 A S79 V67 ⟨by decide, by decide⟩ rfl at_148 rfl ?_
  refine s_iconst (z := (3 : Int32)) 150 A S79 at_149 rfl rfl ?_
  refine s_iload 152 A S79 at_150 rfl rfl ?_
  refine s_iload 154 A S79 at_152 rfl rfl ?_
  refine s_callV (y := (⟨"com/example/cuadre/cuadre/format/FieldDigitsPinLaw", "in", "(III)Z"⟩ : MethodName)) (argsL := [(.int (3 : Int32)), (.int fr), (.int ct)]) (rest := [(.int s3), (.long (own_step (own_step (own_step (0 : Int64) s0 (own_in (0 : Int32) fr ct)) s1 (own_in (1 : Int32) fr ct)) s2 (own_in (2 : Int32) fr ct)))]) 157 A S79 (hw _ (List.mem_of_getElem? (i := 5) rfl)) (hw _ (List.mem_of_getElem? (i := 6) rfl)) (hw _ (List.mem_of_getElem? (i := 3) rfl)) (hw _ (List.mem_of_getElem? (i := 7) rfl)) (rm2 l Z a0 hw [] (3 : Int32) fr ct h61 n0 Z66) (lenOf pd__III_Z rfl) at_154 rfl rfl rfl (by decide) (by decide) (Nat.le_of_ble_eq_true rfl) (by decide) (by decide) fun T80 S81 => ?_
  refine s_callV (y := (⟨"com/example/cuadre/cuadre/format/FieldDigitsPinLaw", "step", "(JBZ)J"⟩ : MethodName)) (argsL := [(.long (own_step (own_step (own_step (0 : Int64) s0 (own_in (0 : Int32) fr ct)) s1 (own_in (1 : Int32) fr ct)) s2 (own_in (2 : Int32) fr ct))), (.int s3), (.int (own_in (3 : Int32) fr ct))]) (rest := []) 160 A S81 (hw _ (List.mem_of_getElem? (i := 8) rfl)) (hw _ (List.mem_of_getElem? (i := 9) rfl)) (hw _ (List.mem_of_getElem? (i := 3) rfl)) (hw _ (List.mem_of_getElem? (i := 10) rfl)) (rm3 l Z a0 hw [] (own_step (own_step (own_step (0 : Int64) s0 (own_in (0 : Int32) fr ct)) s1 (own_in (1 : Int32) fr ct)) s2 (own_in (2 : Int32) fr ct)) s3 (own_in (3 : Int32) fr ct) h61 n0 Z66) (lenOf pd__JBZ_J rfl) at_157 rfl rfl rfl (by decide) (by decide) (Nat.le_of_ble_eq_true rfl) (by decide) (by decide) fun T82 S83 => ?_
  refine s_lstore (Ls' := #[.val (.int i0), .val (.int i1), .val (.int i2), .val (.int i3), .val (.int i4), .val (.int i5), .val (.ref a5), .val (.int fr), .val (.int ct), .val (.long (own_step (own_step (own_step (own_step (0 : Int64) s0 (own_in (0 : Int32) fr ct)) s1 (own_in (1 : Int32) fr ct)) s2 (own_in (2 : Int32) fr ct)) s3 (own_in (3 : Int32) fr ct))), .second, .unset, .unset, .unset, .unset, .unset]) 162 A S83 at_160 rfl rfl ?_
  refine s_lload 164 A S83 at_162 rfl rfl ?_
  refine s_aload 166 A S83 at_164 rfl (by first | rfl | assumption) rfl ?_
  refine s_iconst (z := (4 : Int32)) 167 A S83 at_166 rfl rfl ?_
  refine s_bald (v := (.int s4)) 168 A S83 V67 ⟨by decide, by decide⟩ rfl at_167 rfl ?_
  refine s_iconst (z := (4 : Int32)) 169 A S83 at_168 rfl rfl ?_
  refine s_iload 171 A S83 at_169 rfl rfl ?_
  refine s_iload 173 A S83 at_171 rfl rfl ?_
  refine s_callV (y := (⟨"com/example/cuadre/cuadre/format/FieldDigitsPinLaw", "in", "(III)Z"⟩ : MethodName)) (argsL := [(.int (4 : Int32)), (.int fr), (.int ct)]) (rest := [(.int s4), (.long (own_step (own_step (own_step (own_step (0 : Int64) s0 (own_in (0 : Int32) fr ct)) s1 (own_in (1 : Int32) fr ct)) s2 (own_in (2 : Int32) fr ct)) s3 (own_in (3 : Int32) fr ct)))]) 176 A S83 (hw _ (List.mem_of_getElem? (i := 5) rfl)) (hw _ (List.mem_of_getElem? (i := 6) rfl)) (hw _ (List.mem_of_getElem? (i := 3) rfl)) (hw _ (List.mem_of_getElem? (i := 7) rfl)) (rm2 l Z a0 hw [] (4 : Int32) fr ct h61 n0 Z66) (lenOf pd__III_Z rfl) at_173 rfl rfl rfl (by decide) (by decide) (Nat.le_of_ble_eq_true rfl) (by decide) (by decide) fun T84 S85 => ?_
  refine s_callV (y := (⟨"com/example/cuadre/cuadre/format/FieldDigitsPinLaw", "step", "(JBZ)J"⟩ : MethodName)) (argsL := [(.long (own_step (own_step (own_step (own_step (0 : Int64) s0 (own_in (0 : Int32) fr ct)) s1 (own_in (1 : Int32) fr ct)) s2 (own_in (2 : Int32) fr ct)) s3 (own_in (3 : Int32) fr ct))), (.int s4), (.int (own_in (4 : Int32) fr ct))]) (rest := []) 179 A S85 (hw _ (List.mem_of_getElem? (i := 8) rfl)) (hw _ (List.mem_of_getElem? (i := 9) rfl)) (hw _ (List.mem_of_getElem? (i := 3) rfl)) (hw _ (List.mem_of_getElem? (i := 10) rfl)) (rm3 l Z a0 hw [] (own_step (own_step (own_step (own_step (0 : Int64) s0 (own_in (0 : Int32) fr ct)) s1 (own_in (1 : Int32) fr ct)) s2 (own_in (2 : Int32) fr ct)) s3 (own_in (3 : Int32) fr ct)) s4 (own_in (4 : Int32) fr ct) h61 n0 Z66) (lenOf pd__JBZ_J rfl) at_176 rfl rfl rfl (by decide) (by decide) (Nat.le_of_ble_eq_true rfl) (by decide) (by decide) fun T86 S87 => ?_
  refine s_lstore (Ls' := #[.val (.int i0), .val (.int i1), .val (.int i2), .val (.int i3), .val (.int i4), .val (.int i5), .val (.ref a5), .val (.int fr), .val (.int ct), .val (.long (own_step (own_step (own_step (own_step (own_step (0 : Int64) s0 (own_in (0 : Int32) fr ct)) s1 (own_in (1 : Int32) fr ct)) s2 (own_in (2 : Int32) fr ct)) s3 (own_in (3 : Int32) fr ct)) s4 (own_in (4 : Int32) fr ct))), .second, .unset, .unset, .unset, .unset, .unset]) 181 A S87 at_179 rfl rfl ?_
  refine s_lload 183 A S87 at_181 rfl rfl ?_
  refine s_aload 185 A S87 at_183 rfl (by first | rfl | assumption) rfl ?_
  refine s_iconst (z := (5 : Int32)) 186 A S87 at_185 rfl rfl ?_
  refine s_bald (v := (.int s5)) 187 A S87 V67 ⟨by decide, by decide⟩ rfl at_186 rfl ?_
  refine s_iconst (z := (5 : Int32)) 188 A S87 at_187 rfl rfl ?_
  refine s_iload 190 A S87 at_188 rfl rfl ?_
  refine s_iload 192 A S87 at_190 rfl rfl ?_
  refine s_callV (y := (⟨"com/example/cuadre/cuadre/format/FieldDigitsPinLaw", "in", "(III)Z"⟩ : MethodName)) (argsL := [(.int (5 : Int32)), (.int fr), (.int ct)]) (rest := [(.int s5), (.long (own_step (own_step (own_step (own_step (own_step (0 : Int64) s0 (own_in (0 : Int32) fr ct)) s1 (own_in (1 : Int32) fr ct)) s2 (own_in (2 : Int32) fr ct)) s3 (own_in (3 : Int32) fr ct)) s4 (own_in (4 : Int32) fr ct)))]) 195 A S87 (hw _ (List.mem_of_getElem? (i := 5) rfl)) (hw _ (List.mem_of_getElem? (i := 6) rfl)) (hw _ (List.mem_of_getElem? (i := 3) rfl)) (hw _ (List.mem_of_getElem? (i := 7) rfl)) (rm2 l Z a0 hw [] (5 : Int32) fr ct h61 n0 Z66) (lenOf pd__III_Z rfl) at_192 rfl rfl rfl (by decide) (by decide) (Nat.le_of_ble_eq_true rfl) (by decide) (by decide) fun T88 S89 => ?_
  refine s_callV (y := (⟨"com/example/cuadre/cuadre/format/FieldDigitsPinLaw", "step", "(JBZ)J"⟩ : MethodName)) (argsL := [(.long (own_step (own_step (own_step (own_step (own_step (0 : Int64) s0 (own_in (0 : Int32) fr ct)) s1 (own_in (1 : Int32) fr ct)) s2 (own_in (2 : Int32) fr ct)) s3 (own_in (3 : Int32) fr ct)) s4 (own_in (4 : Int32) fr ct))), (.int s5), (.int (own_in (5 : Int32) fr ct))]) (rest := []) 198 A S89 (hw _ (List.mem_of_getElem? (i := 8) rfl)) (hw _ (List.mem_of_getElem? (i := 9) rfl)) (hw _ (List.mem_of_getElem? (i := 3) rfl)) (hw _ (List.mem_of_getElem? (i := 10) rfl)) (rm3 l Z a0 hw [] (own_step (own_step (own_step (own_step (own_step (0 : Int64) s0 (own_in (0 : Int32) fr ct)) s1 (own_in (1 : Int32) fr ct)) s2 (own_in (2 : Int32) fr ct)) s3 (own_in (3 : Int32) fr ct)) s4 (own_in (4 : Int32) fr ct)) s5 (own_in (5 : Int32) fr ct) h61 n0 Z66) (lenOf pd__JBZ_J rfl) at_195 rfl rfl rfl (by decide) (by decide) (Nat.le_of_ble_eq_true rfl) (by decide) (by decide) fun T90 S91 => ?_
  refine s_lstore (Ls' := #[.val (.int i0), .val (.int i1), .val (.int i2), .val (.int i3), .val (.int i4), .val (.int i5), .val (.ref a5), .val (.int fr), .val (.int ct), .val (.long (own_step (own_step (own_step (own_step (own_step (own_step (0 : Int64) s0 (own_in (0 : Int32) fr ct)) s1 (own_in (1 : Int32) fr ct)) s2 (own_in (2 : Int32) fr ct)) s3 (own_in (3 : Int32) fr ct)) s4 (own_in (4 : Int32) fr ct)) s5 (own_in (5 : Int32) fr ct))), .second, .unset, .unset, .unset, .unset, .unset]) 200 A S91 at_198 rfl rfl ?_
  refine s_lconst (z := (0 : Int64)) 201 A S91 at_200 rfl rfl ?_
  refine s_lstore (Ls' := #[.val (.int i0), .val (.int i1), .val (.int i2), .val (.int i3), .val (.int i4), .val (.int i5), .val (.ref a5), .val (.int fr), .val (.int ct), .val (.long (own_step (own_step (own_step (own_step (own_step (own_step (0 : Int64) s0 (own_in (0 : Int32) fr ct)) s1 (own_in (1 : Int32) fr ct)) s2 (own_in (2 : Int32) fr ct)) s3 (own_in (3 : Int32) fr ct)) s4 (own_in (4 : Int32) fr ct)) s5 (own_in (5 : Int32) fr ct))), .second, .val (.long (0 : Int64)), .second, .unset, .unset, .unset]) 203 A S91 at_201 rfl rfl ?_
  refine s_lload 205 A S91 at_203 rfl rfl ?_
  refine s_aload 207 A S91 at_205 rfl (by first | rfl | assumption) rfl ?_
  refine s_iconst (z := (0 : Int32)) 208 A S91 at_207 rfl rfl ?_
  refine s_bald (v := (.int s0)) 209 A S91 V67 ⟨by decide, by decide⟩ rfl at_208 rfl ?_
  refine s_iconst (z := (1 : Int32)) 210 A S91 at_209 rfl rfl ?_
  refine s_callV (y := (⟨"com/example/cuadre/cuadre/format/FieldDigitsPinLaw", "step", "(JBZ)J"⟩ : MethodName)) (argsL := [(.long (0 : Int64)), (.int s0), (.int (1 : Int32))]) (rest := []) 213 A S91 (hw _ (List.mem_of_getElem? (i := 8) rfl)) (hw _ (List.mem_of_getElem? (i := 9) rfl)) (hw _ (List.mem_of_getElem? (i := 3) rfl)) (hw _ (List.mem_of_getElem? (i := 10) rfl)) (rm3 l Z a0 hw [] (0 : Int64) s0 (1 : Int32) h61 n0 Z66) (lenOf pd__JBZ_J rfl) at_210 rfl rfl rfl (by decide) (by decide) (Nat.le_of_ble_eq_true rfl) (by decide) (by decide) fun T92 S93 => ?_
  refine s_lstore (Ls' := #[.val (.int i0), .val (.int i1), .val (.int i2), .val (.int i3), .val (.int i4), .val (.int i5), .val (.ref a5), .val (.int fr), .val (.int ct), .val (.long (own_step (own_step (own_step (own_step (own_step (own_step (0 : Int64) s0 (own_in (0 : Int32) fr ct)) s1 (own_in (1 : Int32) fr ct)) s2 (own_in (2 : Int32) fr ct)) s3 (own_in (3 : Int32) fr ct)) s4 (own_in (4 : Int32) fr ct)) s5 (own_in (5 : Int32) fr ct))), .second, .val (.long (own_step (0 : Int64) s0 (1 : Int32))), .second, .unset, .unset, .unset]) 215 A S93 at_213 rfl rfl ?_
  refine s_lload 217 A S93 at_215 rfl rfl ?_
  refine s_aload 219 A S93 at_217 rfl (by first | rfl | assumption) rfl ?_
  refine s_iconst (z := (1 : Int32)) 220 A S93 at_219 rfl rfl ?_
  refine s_bald (v := (.int s1)) 221 A S93 V67 ⟨by decide, by decide⟩ rfl at_220 rfl ?_
  refine s_iconst (z := (1 : Int32)) 222 A S93 at_221 rfl rfl ?_
  refine s_callV (y := (⟨"com/example/cuadre/cuadre/format/FieldDigitsPinLaw", "step", "(JBZ)J"⟩ : MethodName)) (argsL := [(.long (own_step (0 : Int64) s0 (1 : Int32))), (.int s1), (.int (1 : Int32))]) (rest := []) 225 A S93 (hw _ (List.mem_of_getElem? (i := 8) rfl)) (hw _ (List.mem_of_getElem? (i := 9) rfl)) (hw _ (List.mem_of_getElem? (i := 3) rfl)) (hw _ (List.mem_of_getElem? (i := 10) rfl)) (rm3 l Z a0 hw [] (own_step (0 : Int64) s0 (1 : Int32)) s1 (1 : Int32) h61 n0 Z66) (lenOf pd__JBZ_J rfl) at_222 rfl rfl rfl (by decide) (by decide) (Nat.le_of_ble_eq_true rfl) (by decide) (by decide) fun T94 S95 => ?_
  refine s_lstore (Ls' := #[.val (.int i0), .val (.int i1), .val (.int i2), .val (.int i3), .val (.int i4), .val (.int i5), .val (.ref a5), .val (.int fr), .val (.int ct), .val (.long (own_step (own_step (own_step (own_step (own_step (own_step (0 : Int64) s0 (own_in (0 : Int32) fr ct)) s1 (own_in (1 : Int32) fr ct)) s2 (own_in (2 : Int32) fr ct)) s3 (own_in (3 : Int32) fr ct)) s4 (own_in (4 : Int32) fr ct)) s5 (own_in (5 : Int32) fr ct))), .second, .val (.long (own_step (own_step (0 : Int64) s0 (1 : Int32)) s1 (1 : Int32))), .second, .unset, .unset, .unset]) 227 A S95 at_225 rfl rfl ?_
  refine s_lload 229 A S95 at_227 rfl rfl ?_
  refine s_aload 231 A S95 at_229 rfl (by first | rfl | assumption) rfl ?_
  refine s_iconst (z := (2 : Int32)) 232 A S95 at_231 rfl rfl ?_
  refine s_bald (v := (.int s2)) 233 A S95 V67 ⟨by decide, by decide⟩ rfl at_232 rfl ?_
  refine s_iconst (z := (1 : Int32)) 234 A S95 at_233 rfl rfl ?_
  refine s_callV (y := (⟨"com/example/cuadre/cuadre/format/FieldDigitsPinLaw", "step", "(JBZ)J"⟩ : MethodName)) (argsL := [(.long (own_step (own_step (0 : Int64) s0 (1 : Int32)) s1 (1 : Int32))), (.int s2), (.int (1 : Int32))]) (rest := []) 237 A S95 (hw _ (List.mem_of_getElem? (i := 8) rfl)) (hw _ (List.mem_of_getElem? (i := 9) rfl)) (hw _ (List.mem_of_getElem? (i := 3) rfl)) (hw _ (List.mem_of_getElem? (i := 10) rfl)) (rm3 l Z a0 hw [] (own_step (own_step (0 : Int64) s0 (1 : Int32)) s1 (1 : Int32)) s2 (1 : Int32) h61 n0 Z66) (lenOf pd__JBZ_J rfl) at_234 rfl rfl rfl (by decide) (by decide) (Nat.le_of_ble_eq_true rfl) (by decide) (by decide) fun T96 S97 => ?_
  refine s_lstore (Ls' := #[.val (.int i0), .val (.int i1), .val (.int i2), .val (.int i3), .val (.int i4), .val (.int i5), .val (.ref a5), .val (.int fr), .val (.int ct), .val (.long (own_step (own_step (own_step (own_step (own_step (own_step (0 : Int64) s0 (own_in (0 : Int32) fr ct)) s1 (own_in (1 : Int32) fr ct)) s2 (own_in (2 : Int32) fr ct)) s3 (own_in (3 : Int32) fr ct)) s4 (own_in (4 : Int32) fr ct)) s5 (own_in (5 : Int32) fr ct))), .second, .val (.long (own_step (own_step (own_step (0 : Int64) s0 (1 : Int32)) s1 (1 : Int32)) s2 (1 : Int32))), .second, .unset, .unset, .unset]) 239 A S97 at_237 rfl rfl ?_
  refine s_lload 241 A S97 at_239 rfl rfl ?_
  refine s_aload 243 A S97 at_241 rfl (by first | rfl | assumption) rfl ?_
  refine s_iconst (z := (3 : Int32)) 244 A S97 at_243 rfl rfl ?_
  refine s_bald (v := (.int s3)) 245 A S97 V67 ⟨by decide, by decide⟩ rfl at_244 rfl ?_
  refine s_iconst (z := (1 : Int32)) 246 A S97 at_245 rfl rfl ?_
  refine s_callV (y := (⟨"com/example/cuadre/cuadre/format/FieldDigitsPinLaw", "step", "(JBZ)J"⟩ : MethodName)) (argsL := [(.long (own_step (own_step (own_step (0 : Int64) s0 (1 : Int32)) s1 (1 : Int32)) s2 (1 : Int32))), (.int s3), (.int (1 : Int32))]) (rest := []) 249 A S97 (hw _ (List.mem_of_getElem? (i := 8) rfl)) (hw _ (List.mem_of_getElem? (i := 9) rfl)) (hw _ (List.mem_of_getElem? (i := 3) rfl)) (hw _ (List.mem_of_getElem? (i := 10) rfl)) (rm3 l Z a0 hw [] (own_step (own_step (own_step (0 : Int64) s0 (1 : Int32)) s1 (1 : Int32)) s2 (1 : Int32)) s3 (1 : Int32) h61 n0 Z66) (lenOf pd__JBZ_J rfl) at_246 rfl rfl rfl (by decide) (by decide) (Nat.le_of_ble_eq_true rfl) (by decide) (by decide) fun T98 S99 => ?_
  refine s_lstore (Ls' := #[.val (.int i0), .val (.int i1), .val (.int i2), .val (.int i3), .val (.int i4), .val (.int i5), .val (.ref a5), .val (.int fr), .val (.int ct), .val (.long (own_step (own_step (own_step (own_step (own_step (own_step (0 : Int64) s0 (own_in (0 : Int32) fr ct)) s1 (own_in (1 : Int32) fr ct)) s2 (own_in (2 : Int32) fr ct)) s3 (own_in (3 : Int32) fr ct)) s4 (own_in (4 : Int32) fr ct)) s5 (own_in (5 : Int32) fr ct))), .second, .val (.long (own_step (own_step (own_step (own_step (0 : Int64) s0 (1 : Int32)) s1 (1 : Int32)) s2 (1 : Int32)) s3 (1 : Int32))), .second, .unset, .unset, .unset]) 251 A S99 at_249 rfl rfl ?_
  refine s_lload 253 A S99 at_251 rfl rfl ?_
  refine s_aload 255 A S99 at_253 rfl (by first | rfl | assumption) rfl ?_
  refine s_iconst (z := (4 : Int32)) 256 A S99 at_255 rfl rfl ?_
  refine s_bald (v := (.int s4)) 257 A S99 V67 ⟨by decide, by decide⟩ rfl at_256 rfl ?_
  refine s_iconst (z := (1 : Int32)) 258 A S99 at_257 rfl rfl ?_
  refine s_callV (y := (⟨"com/example/cuadre/cuadre/format/FieldDigitsPinLaw", "step", "(JBZ)J"⟩ : MethodName)) (argsL := [(.long (own_step (own_step (own_step (own_step (0 : Int64) s0 (1 : Int32)) s1 (1 : Int32)) s2 (1 : Int32)) s3 (1 : Int32))), (.int s4), (.int (1 : Int32))]) (rest := []) 261 A S99 (hw _ (List.mem_of_getElem? (i := 8) rfl)) (hw _ (List.mem_of_getElem? (i := 9) rfl)) (hw _ (List.mem_of_getElem? (i := 3) rfl)) (hw _ (List.mem_of_getElem? (i := 10) rfl)) (rm3 l Z a0 hw [] (own_step (own_step (own_step (own_step (0 : Int64) s0 (1 : Int32)) s1 (1 : Int32)) s2 (1 : Int32)) s3 (1 : Int32)) s4 (1 : Int32) h61 n0 Z66) (lenOf pd__JBZ_J rfl) at_258 rfl rfl rfl (by decide) (by decide) (Nat.le_of_ble_eq_true rfl) (by decide) (by decide) fun T100 S101 => ?_
  refine s_lstore (Ls' := #[.val (.int i0), .val (.int i1), .val (.int i2), .val (.int i3), .val (.int i4), .val (.int i5), .val (.ref a5), .val (.int fr), .val (.int ct), .val (.long (own_step (own_step (own_step (own_step (own_step (own_step (0 : Int64) s0 (own_in (0 : Int32) fr ct)) s1 (own_in (1 : Int32) fr ct)) s2 (own_in (2 : Int32) fr ct)) s3 (own_in (3 : Int32) fr ct)) s4 (own_in (4 : Int32) fr ct)) s5 (own_in (5 : Int32) fr ct))), .second, .val (.long (own_step (own_step (own_step (own_step (own_step (0 : Int64) s0 (1 : Int32)) s1 (1 : Int32)) s2 (1 : Int32)) s3 (1 : Int32)) s4 (1 : Int32))), .second, .unset, .unset, .unset]) 263 A S101 at_261 rfl rfl ?_
  refine s_lload 265 A S101 at_263 rfl rfl ?_
  refine s_aload 267 A S101 at_265 rfl (by first | rfl | assumption) rfl ?_
  refine s_iconst (z := (5 : Int32)) 268 A S101 at_267 rfl rfl ?_
  refine s_bald (v := (.int s5)) 269 A S101 V67 ⟨by decide, by decide⟩ rfl at_268 rfl ?_
  refine s_iconst (z := (1 : Int32)) 270 A S101 at_269 rfl rfl ?_
  refine s_callV (y := (⟨"com/example/cuadre/cuadre/format/FieldDigitsPinLaw", "step", "(JBZ)J"⟩ : MethodName)) (argsL := [(.long (own_step (own_step (own_step (own_step (own_step (0 : Int64) s0 (1 : Int32)) s1 (1 : Int32)) s2 (1 : Int32)) s3 (1 : Int32)) s4 (1 : Int32))), (.int s5), (.int (1 : Int32))]) (rest := []) 273 A S101 (hw _ (List.mem_of_getElem? (i := 8) rfl)) (hw _ (List.mem_of_getElem? (i := 9) rfl)) (hw _ (List.mem_of_getElem? (i := 3) rfl)) (hw _ (List.mem_of_getElem? (i := 10) rfl)) (rm3 l Z a0 hw [] (own_step (own_step (own_step (own_step (own_step (0 : Int64) s0 (1 : Int32)) s1 (1 : Int32)) s2 (1 : Int32)) s3 (1 : Int32)) s4 (1 : Int32)) s5 (1 : Int32) h61 n0 Z66) (lenOf pd__JBZ_J rfl) at_270 rfl rfl rfl (by decide) (by decide) (Nat.le_of_ble_eq_true rfl) (by decide) (by decide) fun T102 S103 => ?_
  refine s_lstore (Ls' := #[.val (.int i0), .val (.int i1), .val (.int i2), .val (.int i3), .val (.int i4), .val (.int i5), .val (.ref a5), .val (.int fr), .val (.int ct), .val (.long (own_step (own_step (own_step (own_step (own_step (own_step (0 : Int64) s0 (own_in (0 : Int32) fr ct)) s1 (own_in (1 : Int32) fr ct)) s2 (own_in (2 : Int32) fr ct)) s3 (own_in (3 : Int32) fr ct)) s4 (own_in (4 : Int32) fr ct)) s5 (own_in (5 : Int32) fr ct))), .second, .val (.long (own_step (own_step (own_step (own_step (own_step (own_step (0 : Int64) s0 (1 : Int32)) s1 (1 : Int32)) s2 (1 : Int32)) s3 (1 : Int32)) s4 (1 : Int32)) s5 (1 : Int32))), .second, .unset, .unset, .unset]) 275 A S103 at_273 rfl rfl ?_
  refine s_bipush (z := (18 : Int32)) 277 A S103 at_275 rfl rfl ?_
  refine s_newP (cap := 18) 279 A S103 (hw _ (List.mem_of_getElem? (i := 0) rfl)) at_277 (by decide) (by decide) (by decide) rfl (by decide) (by decide) fun T104 h105 k107 a108 ha_a108 E_a108 V_a108 S106 => ?_
  have ne_a5_a108 : a5 ≠ a108 := by rw [ha_a108]; exact Nat.ne_of_lt V67.lt
  have ge_a108 : n0 ≤ a108 := by rw [ha_a108]; exact Z66
  have V109 := Arv.ext V67 E_a108
  have Z110 : n0 ≤ h105.size := Nat.le_trans Z66 E_a108.1
  have V111 : Arv Z h105 a108 k107 .byte (18 : Int32) [(.int 0), (.int 0), (.int 0), (.int 0), (.int 0), (.int 0), (.int 0), (.int 0), (.int 0), (.int 0), (.int 0), (.int 0), (.int 0), (.int 0), (.int 0), (.int 0), (.int 0), (.int 0)] (.int 0) := Arv.pad V_a108 (fun i => by simpa using pad_rep [] (.int 0) 18 i)
  refine s_astore (Ls' := #[.val (.int i0), .val (.int i1), .val (.int i2), .val (.int i3), .val (.int i4), .val (.int i5), .val (.ref a5), .val (.int fr), .val (.int ct), .val (.long (own_step (own_step (own_step (own_step (own_step (own_step (0 : Int64) s0 (own_in (0 : Int32) fr ct)) s1 (own_in (1 : Int32) fr ct)) s2 (own_in (2 : Int32) fr ct)) s3 (own_in (3 : Int32) fr ct)) s4 (own_in (4 : Int32) fr ct)) s5 (own_in (5 : Int32) fr ct))), .second, .val (.long (own_step (own_step (own_step (own_step (own_step (own_step (0 : Int64) s0 (1 : Int32)) s1 (1 : Int32)) s2 (1 : Int32)) s3 (1 : Int32)) s4 (1 : Int32)) s5 (1 : Int32))), .second, .val (.ref a108), .unset, .unset]) 281 A S106 at_279 (by first | rfl | assumption) rfl rfl ?_
  refine s_aload 283 A S106 at_281 rfl (by first | rfl | assumption) rfl ?_
  refine s_iconst (z := (0 : Int32)) 284 A S106 at_283 rfl rfl ?_
  refine s_aload 286 A S106 at_284 rfl (by first | rfl | assumption) rfl ?_
  refine s_iconst (z := (0 : Int32)) 287 A S106 at_286 rfl rfl ?_
  refine s_bald (v := (.int s0)) 288 A S106 V109 ⟨by decide, by decide⟩ rfl at_287 rfl ?_
  refine s_bast 289 A S106 V111 ⟨by decide, by decide⟩ 0 rfl (Nat.le_of_ble_eq_true rfl) ge_a108 at_288 rfl fun T112 h113 W115 V116 S114 => ?_
  rw [n_s0] at V116
  have V117 := Arv.other V109 W115 ne_a5_a108
  have Z119 : n0 ≤ h113.size := by rw [W115.size]; exact Z110
  have V120 : Arv Z h113 a108 k107 .byte (18 : Int32) [(.int s0), (.int 0), (.int 0), (.int 0), (.int 0), (.int 0), (.int 0), (.int 0), (.int 0), (.int 0), (.int 0), (.int 0), (.int 0), (.int 0), (.int 0), (.int 0), (.int 0), (.int 0)] (.int 0) := V116
  refine s_aload 291 A S114 at_289 rfl (by first | rfl | assumption) rfl ?_
  refine s_iconst (z := (1 : Int32)) 292 A S114 at_291 rfl rfl ?_
  refine s_aload 294 A S114 at_292 rfl (by first | rfl | assumption) rfl ?_
  refine s_iconst (z := (1 : Int32)) 295 A S114 at_294 rfl rfl ?_
  refine s_bald (v := (.int s1)) 296 A S114 V117 ⟨by decide, by decide⟩ rfl at_295 rfl ?_
  refine s_bast 297 A S114 V120 ⟨by decide, by decide⟩ 1 rfl (Nat.le_of_ble_eq_true rfl) ge_a108 at_296 rfl fun T121 h122 W124 V125 S123 => ?_
  rw [n_s1] at V125
  have V126 := Arv.other V117 W124 ne_a5_a108
  have Z128 : n0 ≤ h122.size := by rw [W124.size]; exact Z119
  have V129 : Arv Z h122 a108 k107 .byte (18 : Int32) [(.int s0), (.int s1), (.int 0), (.int 0), (.int 0), (.int 0), (.int 0), (.int 0), (.int 0), (.int 0), (.int 0), (.int 0), (.int 0), (.int 0), (.int 0), (.int 0), (.int 0), (.int 0)] (.int 0) := V125
  refine s_aload 299 A S123 at_297 rfl (by first | rfl | assumption) rfl ?_
  refine s_iconst (z := (2 : Int32)) 300 A S123 at_299 rfl rfl ?_
  refine s_aload 302 A S123 at_300 rfl (by first | rfl | assumption) rfl ?_
  refine s_iconst (z := (2 : Int32)) 303 A S123 at_302 rfl rfl ?_
  refine s_bald (v := (.int s2)) 304 A S123 V126 ⟨by decide, by decide⟩ rfl at_303 rfl ?_
  refine s_bast 305 A S123 V129 ⟨by decide, by decide⟩ 2 rfl (Nat.le_of_ble_eq_true rfl) ge_a108 at_304 rfl fun T130 h131 W133 V134 S132 => ?_
  rw [n_s2] at V134
  have V135 := Arv.other V126 W133 ne_a5_a108
  have Z137 : n0 ≤ h131.size := by rw [W133.size]; exact Z128
  have V138 : Arv Z h131 a108 k107 .byte (18 : Int32) [(.int s0), (.int s1), (.int s2), (.int 0), (.int 0), (.int 0), (.int 0), (.int 0), (.int 0), (.int 0), (.int 0), (.int 0), (.int 0), (.int 0), (.int 0), (.int 0), (.int 0), (.int 0)] (.int 0) := V134
  refine s_aload 307 A S132 at_305 rfl (by first | rfl | assumption) rfl ?_
  refine s_iconst (z := (3 : Int32)) 308 A S132 at_307 rfl rfl ?_
  refine s_aload 310 A S132 at_308 rfl (by first | rfl | assumption) rfl ?_
  refine s_iconst (z := (3 : Int32)) 311 A S132 at_310 rfl rfl ?_
  refine s_bald (v := (.int s3)) 312 A S132 V135 ⟨by decide, by decide⟩ rfl at_311 rfl ?_
  refine s_bast 313 A S132 V138 ⟨by decide, by decide⟩ 3 rfl (Nat.le_of_ble_eq_true rfl) ge_a108 at_312 rfl fun T139 h140 W142 V143 S141 => ?_
  rw [n_s3] at V143
  have V144 := Arv.other V135 W142 ne_a5_a108
  have Z146 : n0 ≤ h140.size := by rw [W142.size]; exact Z137
  have V147 : Arv Z h140 a108 k107 .byte (18 : Int32) [(.int s0), (.int s1), (.int s2), (.int s3), (.int 0), (.int 0), (.int 0), (.int 0), (.int 0), (.int 0), (.int 0), (.int 0), (.int 0), (.int 0), (.int 0), (.int 0), (.int 0), (.int 0)] (.int 0) := V143
  refine s_aload 315 A S141 at_313 rfl (by first | rfl | assumption) rfl ?_
  refine s_iconst (z := (4 : Int32)) 316 A S141 at_315 rfl rfl ?_
  refine s_aload 318 A S141 at_316 rfl (by first | rfl | assumption) rfl ?_
  refine s_iconst (z := (4 : Int32)) 319 A S141 at_318 rfl rfl ?_
  refine s_bald (v := (.int s4)) 320 A S141 V144 ⟨by decide, by decide⟩ rfl at_319 rfl ?_
  refine s_bast 321 A S141 V147 ⟨by decide, by decide⟩ 4 rfl (Nat.le_of_ble_eq_true rfl) ge_a108 at_320 rfl fun T148 h149 W151 V152 S150 => ?_
  rw [n_s4] at V152
  have V153 := Arv.other V144 W151 ne_a5_a108
  have Z155 : n0 ≤ h149.size := by rw [W151.size]; exact Z146
  have V156 : Arv Z h149 a108 k107 .byte (18 : Int32) [(.int s0), (.int s1), (.int s2), (.int s3), (.int s4), (.int 0), (.int 0), (.int 0), (.int 0), (.int 0), (.int 0), (.int 0), (.int 0), (.int 0), (.int 0), (.int 0), (.int 0), (.int 0)] (.int 0) := V152
  refine s_aload 323 A S150 at_321 rfl (by first | rfl | assumption) rfl ?_
  refine s_iconst (z := (5 : Int32)) 324 A S150 at_323 rfl rfl ?_
  refine s_aload 326 A S150 at_324 rfl (by first | rfl | assumption) rfl ?_
  refine s_iconst (z := (5 : Int32)) 327 A S150 at_326 rfl rfl ?_
  refine s_bald (v := (.int s5)) 328 A S150 V153 ⟨by decide, by decide⟩ rfl at_327 rfl ?_
  refine s_bast 329 A S150 V156 ⟨by decide, by decide⟩ 5 rfl (Nat.le_of_ble_eq_true rfl) ge_a108 at_328 rfl fun T157 h158 W160 V161 S159 => ?_
  rw [n_s5] at V161
  have V162 := Arv.other V153 W160 ne_a5_a108
  have Z164 : n0 ≤ h158.size := by rw [W160.size]; exact Z155
  have V165 : Arv Z h158 a108 k107 .byte (18 : Int32) [(.int s0), (.int s1), (.int s2), (.int s3), (.int s4), (.int s5), (.int 0), (.int 0), (.int 0), (.int 0), (.int 0), (.int 0), (.int 0), (.int 0), (.int 0), (.int 0), (.int 0), (.int 0)] (.int 0) := V161
  refine s_aload 331 A S159 at_329 rfl (by first | rfl | assumption) rfl ?_
  refine s_bipush (z := (6 : Int32)) 333 A S159 at_331 rfl rfl ?_
  refine s_aload 335 A S159 at_333 rfl (by first | rfl | assumption) rfl ?_
  refine s_iconst (z := (0 : Int32)) 336 A S159 at_335 rfl rfl ?_
  refine s_bald (v := (.int s0)) 337 A S159 V162 ⟨by decide, by decide⟩ rfl at_336 rfl ?_
  refine s_bast 338 A S159 V165 ⟨by decide, by decide⟩ 6 rfl (Nat.le_of_ble_eq_true rfl) ge_a108 at_337 rfl fun T166 h167 W169 V170 S168 => ?_
  rw [n_s0] at V170
  have V171 := Arv.other V162 W169 ne_a5_a108
  have Z173 : n0 ≤ h167.size := by rw [W169.size]; exact Z164
  have V174 : Arv Z h167 a108 k107 .byte (18 : Int32) [(.int s0), (.int s1), (.int s2), (.int s3), (.int s4), (.int s5), (.int s0), (.int 0), (.int 0), (.int 0), (.int 0), (.int 0), (.int 0), (.int 0), (.int 0), (.int 0), (.int 0), (.int 0)] (.int 0) := V170
  refine s_aload 340 A S168 at_338 rfl (by first | rfl | assumption) rfl ?_
  refine s_bipush (z := (7 : Int32)) 342 A S168 at_340 rfl rfl ?_
  refine s_aload 344 A S168 at_342 rfl (by first | rfl | assumption) rfl ?_
  refine s_iconst (z := (1 : Int32)) 345 A S168 at_344 rfl rfl ?_
  refine s_bald (v := (.int s1)) 346 A S168 V171 ⟨by decide, by decide⟩ rfl at_345 rfl ?_
  refine s_bast 347 A S168 V174 ⟨by decide, by decide⟩ 7 rfl (Nat.le_of_ble_eq_true rfl) ge_a108 at_346 rfl fun T175 h176 W178 V179 S177 => ?_
  rw [n_s1] at V179
  have V180 := Arv.other V171 W178 ne_a5_a108
  have Z182 : n0 ≤ h176.size := by rw [W178.size]; exact Z173
  have V183 : Arv Z h176 a108 k107 .byte (18 : Int32) [(.int s0), (.int s1), (.int s2), (.int s3), (.int s4), (.int s5), (.int s0), (.int s1), (.int 0), (.int 0), (.int 0), (.int 0), (.int 0), (.int 0), (.int 0), (.int 0), (.int 0), (.int 0)] (.int 0) := V179
  refine s_aload 349 A S177 at_347 rfl (by first | rfl | assumption) rfl ?_
  refine s_bipush (z := (8 : Int32)) 351 A S177 at_349 rfl rfl ?_
  refine s_aload 353 A S177 at_351 rfl (by first | rfl | assumption) rfl ?_
  refine s_iconst (z := (2 : Int32)) 354 A S177 at_353 rfl rfl ?_
  refine s_bald (v := (.int s2)) 355 A S177 V180 ⟨by decide, by decide⟩ rfl at_354 rfl ?_
  refine s_bast 356 A S177 V183 ⟨by decide, by decide⟩ 8 rfl (Nat.le_of_ble_eq_true rfl) ge_a108 at_355 rfl fun T184 h185 W187 V188 S186 => ?_
  rw [n_s2] at V188
  have V189 := Arv.other V180 W187 ne_a5_a108
  have Z191 : n0 ≤ h185.size := by rw [W187.size]; exact Z182
  have V192 : Arv Z h185 a108 k107 .byte (18 : Int32) [(.int s0), (.int s1), (.int s2), (.int s3), (.int s4), (.int s5), (.int s0), (.int s1), (.int s2), (.int 0), (.int 0), (.int 0), (.int 0), (.int 0), (.int 0), (.int 0), (.int 0), (.int 0)] (.int 0) := V188
  refine s_aload 358 A S186 at_356 rfl (by first | rfl | assumption) rfl ?_
  refine s_bipush (z := (9 : Int32)) 360 A S186 at_358 rfl rfl ?_
  refine s_aload 362 A S186 at_360 rfl (by first | rfl | assumption) rfl ?_
  refine s_iconst (z := (3 : Int32)) 363 A S186 at_362 rfl rfl ?_
  refine s_bald (v := (.int s3)) 364 A S186 V189 ⟨by decide, by decide⟩ rfl at_363 rfl ?_
  refine s_bast 365 A S186 V192 ⟨by decide, by decide⟩ 9 rfl (Nat.le_of_ble_eq_true rfl) ge_a108 at_364 rfl fun T193 h194 W196 V197 S195 => ?_
  rw [n_s3] at V197
  have V198 := Arv.other V189 W196 ne_a5_a108
  have Z200 : n0 ≤ h194.size := by rw [W196.size]; exact Z191
  have V201 : Arv Z h194 a108 k107 .byte (18 : Int32) [(.int s0), (.int s1), (.int s2), (.int s3), (.int s4), (.int s5), (.int s0), (.int s1), (.int s2), (.int s3), (.int 0), (.int 0), (.int 0), (.int 0), (.int 0), (.int 0), (.int 0), (.int 0)] (.int 0) := V197
  refine s_aload 367 A S195 at_365 rfl (by first | rfl | assumption) rfl ?_
  refine s_bipush (z := (10 : Int32)) 369 A S195 at_367 rfl rfl ?_
  refine s_aload 371 A S195 at_369 rfl (by first | rfl | assumption) rfl ?_
  refine s_iconst (z := (4 : Int32)) 372 A S195 at_371 rfl rfl ?_
  refine s_bald (v := (.int s4)) 373 A S195 V198 ⟨by decide, by decide⟩ rfl at_372 rfl ?_
  refine s_bast 374 A S195 V201 ⟨by decide, by decide⟩ 10 rfl (Nat.le_of_ble_eq_true rfl) ge_a108 at_373 rfl fun T202 h203 W205 V206 S204 => ?_
  rw [n_s4] at V206
  have V207 := Arv.other V198 W205 ne_a5_a108
  have Z209 : n0 ≤ h203.size := by rw [W205.size]; exact Z200
  have V210 : Arv Z h203 a108 k107 .byte (18 : Int32) [(.int s0), (.int s1), (.int s2), (.int s3), (.int s4), (.int s5), (.int s0), (.int s1), (.int s2), (.int s3), (.int s4), (.int 0), (.int 0), (.int 0), (.int 0), (.int 0), (.int 0), (.int 0)] (.int 0) := V206
  refine s_aload 376 A S204 at_374 rfl (by first | rfl | assumption) rfl ?_
  refine s_bipush (z := (11 : Int32)) 378 A S204 at_376 rfl rfl ?_
  refine s_aload 380 A S204 at_378 rfl (by first | rfl | assumption) rfl ?_
  refine s_iconst (z := (5 : Int32)) 381 A S204 at_380 rfl rfl ?_
  refine s_bald (v := (.int s5)) 382 A S204 V207 ⟨by decide, by decide⟩ rfl at_381 rfl ?_
  refine s_bast 383 A S204 V210 ⟨by decide, by decide⟩ 11 rfl (Nat.le_of_ble_eq_true rfl) ge_a108 at_382 rfl fun T211 h212 W214 V215 S213 => ?_
  rw [n_s5] at V215
  have V216 := Arv.other V207 W214 ne_a5_a108
  have Z218 : n0 ≤ h212.size := by rw [W214.size]; exact Z209
  have V219 : Arv Z h212 a108 k107 .byte (18 : Int32) [(.int s0), (.int s1), (.int s2), (.int s3), (.int s4), (.int s5), (.int s0), (.int s1), (.int s2), (.int s3), (.int s4), (.int s5), (.int 0), (.int 0), (.int 0), (.int 0), (.int 0), (.int 0)] (.int 0) := V215
  refine s_aload 385 A S213 at_383 rfl (by first | rfl | assumption) rfl ?_
  refine s_bipush (z := (12 : Int32)) 387 A S213 at_385 rfl rfl ?_
  refine s_aload 389 A S213 at_387 rfl (by first | rfl | assumption) rfl ?_
  refine s_iconst (z := (0 : Int32)) 390 A S213 at_389 rfl rfl ?_
  refine s_bald (v := (.int s0)) 391 A S213 V216 ⟨by decide, by decide⟩ rfl at_390 rfl ?_
  refine s_bast 392 A S213 V219 ⟨by decide, by decide⟩ 12 rfl (Nat.le_of_ble_eq_true rfl) ge_a108 at_391 rfl fun T220 h221 W223 V224 S222 => ?_
  rw [n_s0] at V224
  have V225 := Arv.other V216 W223 ne_a5_a108
  have Z227 : n0 ≤ h221.size := by rw [W223.size]; exact Z218
  have V228 : Arv Z h221 a108 k107 .byte (18 : Int32) [(.int s0), (.int s1), (.int s2), (.int s3), (.int s4), (.int s5), (.int s0), (.int s1), (.int s2), (.int s3), (.int s4), (.int s5), (.int s0), (.int 0), (.int 0), (.int 0), (.int 0), (.int 0)] (.int 0) := V224
  refine s_aload 394 A S222 at_392 rfl (by first | rfl | assumption) rfl ?_
  refine s_bipush (z := (13 : Int32)) 396 A S222 at_394 rfl rfl ?_
  refine s_aload 398 A S222 at_396 rfl (by first | rfl | assumption) rfl ?_
  refine s_iconst (z := (1 : Int32)) 399 A S222 at_398 rfl rfl ?_
  refine s_bald (v := (.int s1)) 400 A S222 V225 ⟨by decide, by decide⟩ rfl at_399 rfl ?_
  refine s_bast 401 A S222 V228 ⟨by decide, by decide⟩ 13 rfl (Nat.le_of_ble_eq_true rfl) ge_a108 at_400 rfl fun T229 h230 W232 V233 S231 => ?_
  rw [n_s1] at V233
  have V234 := Arv.other V225 W232 ne_a5_a108
  have Z236 : n0 ≤ h230.size := by rw [W232.size]; exact Z227
  have V237 : Arv Z h230 a108 k107 .byte (18 : Int32) [(.int s0), (.int s1), (.int s2), (.int s3), (.int s4), (.int s5), (.int s0), (.int s1), (.int s2), (.int s3), (.int s4), (.int s5), (.int s0), (.int s1), (.int 0), (.int 0), (.int 0), (.int 0)] (.int 0) := V233
  refine s_aload 403 A S231 at_401 rfl (by first | rfl | assumption) rfl ?_
  refine s_bipush (z := (14 : Int32)) 405 A S231 at_403 rfl rfl ?_
  refine s_aload 407 A S231 at_405 rfl (by first | rfl | assumption) rfl ?_
  refine s_iconst (z := (2 : Int32)) 408 A S231 at_407 rfl rfl ?_
  refine s_bald (v := (.int s2)) 409 A S231 V234 ⟨by decide, by decide⟩ rfl at_408 rfl ?_
  refine s_bast 410 A S231 V237 ⟨by decide, by decide⟩ 14 rfl (Nat.le_of_ble_eq_true rfl) ge_a108 at_409 rfl fun T238 h239 W241 V242 S240 => ?_
  rw [n_s2] at V242
  have V243 := Arv.other V234 W241 ne_a5_a108
  have Z245 : n0 ≤ h239.size := by rw [W241.size]; exact Z236
  have V246 : Arv Z h239 a108 k107 .byte (18 : Int32) [(.int s0), (.int s1), (.int s2), (.int s3), (.int s4), (.int s5), (.int s0), (.int s1), (.int s2), (.int s3), (.int s4), (.int s5), (.int s0), (.int s1), (.int s2), (.int 0), (.int 0), (.int 0)] (.int 0) := V242
  refine s_aload 412 A S240 at_410 rfl (by first | rfl | assumption) rfl ?_
  refine s_bipush (z := (15 : Int32)) 414 A S240 at_412 rfl rfl ?_
  refine s_aload 416 A S240 at_414 rfl (by first | rfl | assumption) rfl ?_
  refine s_iconst (z := (3 : Int32)) 417 A S240 at_416 rfl rfl ?_
  refine s_bald (v := (.int s3)) 418 A S240 V243 ⟨by decide, by decide⟩ rfl at_417 rfl ?_
  refine s_bast 419 A S240 V246 ⟨by decide, by decide⟩ 15 rfl (Nat.le_of_ble_eq_true rfl) ge_a108 at_418 rfl fun T247 h248 W250 V251 S249 => ?_
  rw [n_s3] at V251
  have V252 := Arv.other V243 W250 ne_a5_a108
  have Z254 : n0 ≤ h248.size := by rw [W250.size]; exact Z245
  have V255 : Arv Z h248 a108 k107 .byte (18 : Int32) [(.int s0), (.int s1), (.int s2), (.int s3), (.int s4), (.int s5), (.int s0), (.int s1), (.int s2), (.int s3), (.int s4), (.int s5), (.int s0), (.int s1), (.int s2), (.int s3), (.int 0), (.int 0)] (.int 0) := V251
  refine s_aload 421 A S249 at_419 rfl (by first | rfl | assumption) rfl ?_
  refine s_bipush (z := (16 : Int32)) 423 A S249 at_421 rfl rfl ?_
  refine s_aload 425 A S249 at_423 rfl (by first | rfl | assumption) rfl ?_
  refine s_iconst (z := (4 : Int32)) 426 A S249 at_425 rfl rfl ?_
  refine s_bald (v := (.int s4)) 427 A S249 V252 ⟨by decide, by decide⟩ rfl at_426 rfl ?_
  refine s_bast 428 A S249 V255 ⟨by decide, by decide⟩ 16 rfl (Nat.le_of_ble_eq_true rfl) ge_a108 at_427 rfl fun T256 h257 W259 V260 S258 => ?_
  rw [n_s4] at V260
  have V261 := Arv.other V252 W259 ne_a5_a108
  have Z263 : n0 ≤ h257.size := by rw [W259.size]; exact Z254
  have V264 : Arv Z h257 a108 k107 .byte (18 : Int32) [(.int s0), (.int s1), (.int s2), (.int s3), (.int s4), (.int s5), (.int s0), (.int s1), (.int s2), (.int s3), (.int s4), (.int s5), (.int s0), (.int s1), (.int s2), (.int s3), (.int s4), (.int 0)] (.int 0) := V260
  refine s_aload 430 A S258 at_428 rfl (by first | rfl | assumption) rfl ?_
  refine s_bipush (z := (17 : Int32)) 432 A S258 at_430 rfl rfl ?_
  refine s_aload 434 A S258 at_432 rfl (by first | rfl | assumption) rfl ?_
  refine s_iconst (z := (5 : Int32)) 435 A S258 at_434 rfl rfl ?_
  refine s_bald (v := (.int s5)) 436 A S258 V261 ⟨by decide, by decide⟩ rfl at_435 rfl ?_
  refine s_bast 437 A S258 V264 ⟨by decide, by decide⟩ 17 rfl (Nat.le_of_ble_eq_true rfl) ge_a108 at_436 rfl fun T265 h266 W268 V269 S267 => ?_
  rw [n_s5] at V269
  have V270 := Arv.other V261 W268 ne_a5_a108
  have Z272 : n0 ≤ h266.size := by rw [W268.size]; exact Z263
  have V273 : Arv Z h266 a108 k107 .byte (18 : Int32) [(.int s0), (.int s1), (.int s2), (.int s3), (.int s4), (.int s5), (.int s0), (.int s1), (.int s2), (.int s3), (.int s4), (.int s5), (.int s0), (.int s1), (.int s2), (.int s3), (.int s4), (.int s5)] (.int 0) := V269
  obtain ⟨al, h_al⟩ : ∃ z, own_all s0 s1 s2 s3 s4 s5 = z := ⟨_, rfl⟩
  have h_al2 := h_al
  unfold own_all at h_al2
  rw [h_al2]
  refine s_lload 439 A S267 at_437 rfl rfl ?_
  refine s_lconst (z := (0 : Int64)) 440 A S267 at_439 rfl rfl ?_
  refine s_lifge (yi := 0) 450 444 441 A S267 rfl rfl at_440 rfl at_441 (by decide) (by decide) rfl (fun c274 => ?_) (fun c274 => ?_)
  · refine s_lload 452 A S267 at_450 rfl rfl ?_
    refine s_ldc2 455 A S267 (hw _ (List.mem_of_getElem? (i := 19) rfl)) at_452 rfl ?_
    refine s_lmul (z := (al * (1000000000000 : Int64))) 456 A S267 at_455 rfl rfl ?_
    refine s_lload 458 A S267 at_456 rfl rfl ?_
    refine s_ldc2 461 A S267 (hw _ (List.mem_of_getElem? (i := 20) rfl)) at_458 rfl ?_
    refine s_lmul (z := (al * (1000000 : Int64))) 462 A S267 at_461 rfl rfl ?_
    refine s_ladd (z := ((al * (1000000000000 : Int64)) + (al * (1000000 : Int64)))) 463 A S267 at_462 rfl rfl ?_
    refine s_lload 465 A S267 at_463 rfl rfl ?_
    refine s_ladd (z := (((al * (1000000000000 : Int64)) + (al * (1000000 : Int64))) + al)) 466 A S267 at_465 rfl rfl ?_
    refine s_lstore (Ls' := #[.val (.int i0), .val (.int i1), .val (.int i2), .val (.int i3), .val (.int i4), .val (.int i5), .val (.ref a5), .val (.int fr), .val (.int ct), .val (.long (own_step (own_step (own_step (own_step (own_step (own_step (0 : Int64) s0 (own_in (0 : Int32) fr ct)) s1 (own_in (1 : Int32) fr ct)) s2 (own_in (2 : Int32) fr ct)) s3 (own_in (3 : Int32) fr ct)) s4 (own_in (4 : Int32) fr ct)) s5 (own_in (5 : Int32) fr ct))), .second, .val (.long al), .second, .val (.ref a108), .val (.long (((al * (1000000000000 : Int64)) + (al * (1000000 : Int64))) + al)), .second]) 468 A S267 at_466 rfl rfl ?_
    refine s_aload 470 A S267 at_468 rfl (by first | rfl | assumption) rfl ?_
    refine s_iload 472 A S267 at_470 rfl rfl ?_
    refine s_iload 474 A S267 at_472 rfl rfl ?_
    refine s_callV (y := (⟨"com/example/cuadre/cuadre/format/Field", "digits", "([BII)J"⟩ : MethodName)) (argsL := [(.ref a5), (.int fr), (.int ct)]) (rest := []) 477 A S267 (hw _ (List.mem_of_getElem? (i := 12) rfl)) (hw _ (List.mem_of_getElem? (i := 13) rfl)) (hw _ (List.mem_of_getElem? (i := 14) rfl)) (hw _ (List.mem_of_getElem? (i := 15) rfl)) (rm4 l Z a0 hw [] a5 k4 (6 : Int32) fr ct [s0, s1, s2, s3, s4, s5] h266 n0 Z272 V270 rfl b_fr.1 b_ct.1 (by show _ ≤ (6 : Int); omega) (Nat.le_of_ble_eq_true rfl)) (lenOf pd___BII_J rfl) at_474 rfl rfl rfl (by decide) (by decide) (Nat.le_of_ble_eq_true rfl) (by decide) (by decide) fun T275 S276 => ?_
    refine s_lload 479 A S276 at_477 rfl rfl ?_
    refine s_lifne 501 483 480 A S276 rfl rfl at_479 rfl at_480 (by decide) (by decide) rfl (fun c277 tc277 => (by exact c277 (own_plain fr ct b_fr.1 b_ct.1 (by omega) s0 s1 s2 s3 s4 s5) : False).elim) (fun c277 tc277 => ?_)
    refine s_aload 485 A S276 at_483 rfl (by first | rfl | assumption) rfl ?_
    refine s_iconst (z := (0 : Int32)) 486 A S276 at_485 rfl rfl ?_
    refine s_bipush (z := (18 : Int32)) 488 A S276 at_486 rfl rfl ?_
    refine s_callV (y := (⟨"com/example/cuadre/cuadre/format/Field", "digits", "([BII)J"⟩ : MethodName)) (argsL := [(.ref a108), (.int (0 : Int32)), (.int (18 : Int32))]) (rest := []) 491 A S276 (hw _ (List.mem_of_getElem? (i := 12) rfl)) (hw _ (List.mem_of_getElem? (i := 13) rfl)) (hw _ (List.mem_of_getElem? (i := 14) rfl)) (hw _ (List.mem_of_getElem? (i := 15) rfl)) (rm4 l Z a0 hw [] a108 k107 (18 : Int32) (0 : Int32) (18 : Int32) (own_l18 s0 s1 s2 s3 s4 s5) h266 n0 Z272 V273 rfl (by decide) (by decide) (by show (0 : Int) + 18 ≤ 18; decide) (Nat.le_of_ble_eq_true rfl)) (lenOf pd___BII_J rfl) at_488 rfl rfl rfl (by decide) (by decide) (Nat.le_of_ble_eq_true rfl) (by decide) (by decide) fun T278 S279 => ?_
    refine s_lload 493 A S279 at_491 rfl rfl ?_
    refine s_lifne 501 497 494 A S279 rfl rfl at_493 rfl at_494 (by decide) (by decide) rfl (fun c280 tc280 => (by exact c280 (by have q := own_bigpos s0 s1 s2 s3 s4 s5 (by rw [h_al]; omega); rw [h_al] at q; exact q) : False).elim) (fun c280 tc280 => ?_)
    refine s_iconst (z := (1 : Int32)) 498 A S279 at_497 rfl rfl ?_
    refine s_goto 502 A S279 at_498 (by decide) (by decide) ?_
    exact s_retZ A S279 at_502 rfl (by decide) (by decide) rfl
  · refine s_ldc2 447 A S267 (hw _ (List.mem_of_getElem? (i := 11) rfl)) at_444 rfl ?_
    refine s_goto 466 A S267 at_447 (by decide) (by decide) ?_
    refine s_lstore (Ls' := #[.val (.int i0), .val (.int i1), .val (.int i2), .val (.int i3), .val (.int i4), .val (.int i5), .val (.ref a5), .val (.int fr), .val (.int ct), .val (.long (own_step (own_step (own_step (own_step (own_step (own_step (0 : Int64) s0 (own_in (0 : Int32) fr ct)) s1 (own_in (1 : Int32) fr ct)) s2 (own_in (2 : Int32) fr ct)) s3 (own_in (3 : Int32) fr ct)) s4 (own_in (4 : Int32) fr ct)) s5 (own_in (5 : Int32) fr ct))), .second, .val (.long al), .second, .val (.ref a108), .val (.long (-1 : Int64)), .second]) 468 A S267 at_466 rfl rfl ?_
    refine s_aload 470 A S267 at_468 rfl (by first | rfl | assumption) rfl ?_
    refine s_iload 472 A S267 at_470 rfl rfl ?_
    refine s_iload 474 A S267 at_472 rfl rfl ?_
    refine s_callV (y := (⟨"com/example/cuadre/cuadre/format/Field", "digits", "([BII)J"⟩ : MethodName)) (argsL := [(.ref a5), (.int fr), (.int ct)]) (rest := []) 477 A S267 (hw _ (List.mem_of_getElem? (i := 12) rfl)) (hw _ (List.mem_of_getElem? (i := 13) rfl)) (hw _ (List.mem_of_getElem? (i := 14) rfl)) (hw _ (List.mem_of_getElem? (i := 15) rfl)) (rm4 l Z a0 hw [] a5 k4 (6 : Int32) fr ct [s0, s1, s2, s3, s4, s5] h266 n0 Z272 V270 rfl b_fr.1 b_ct.1 (by show _ ≤ (6 : Int); omega) (Nat.le_of_ble_eq_true rfl)) (lenOf pd___BII_J rfl) at_474 rfl rfl rfl (by decide) (by decide) (Nat.le_of_ble_eq_true rfl) (by decide) (by decide) fun T281 S282 => ?_
    refine s_lload 479 A S282 at_477 rfl rfl ?_
    refine s_lifne 501 483 480 A S282 rfl rfl at_479 rfl at_480 (by decide) (by decide) rfl (fun c283 tc283 => (by exact c283 (own_plain fr ct b_fr.1 b_ct.1 (by omega) s0 s1 s2 s3 s4 s5) : False).elim) (fun c283 tc283 => ?_)
    refine s_aload 485 A S282 at_483 rfl (by first | rfl | assumption) rfl ?_
    refine s_iconst (z := (0 : Int32)) 486 A S282 at_485 rfl rfl ?_
    refine s_bipush (z := (18 : Int32)) 488 A S282 at_486 rfl rfl ?_
    refine s_callV (y := (⟨"com/example/cuadre/cuadre/format/Field", "digits", "([BII)J"⟩ : MethodName)) (argsL := [(.ref a108), (.int (0 : Int32)), (.int (18 : Int32))]) (rest := []) 491 A S282 (hw _ (List.mem_of_getElem? (i := 12) rfl)) (hw _ (List.mem_of_getElem? (i := 13) rfl)) (hw _ (List.mem_of_getElem? (i := 14) rfl)) (hw _ (List.mem_of_getElem? (i := 15) rfl)) (rm4 l Z a0 hw [] a108 k107 (18 : Int32) (0 : Int32) (18 : Int32) (own_l18 s0 s1 s2 s3 s4 s5) h266 n0 Z272 V273 rfl (by decide) (by decide) (by show (0 : Int) + 18 ≤ 18; decide) (Nat.le_of_ble_eq_true rfl)) (lenOf pd___BII_J rfl) at_488 rfl rfl rfl (by decide) (by decide) (Nat.le_of_ble_eq_true rfl) (by decide) (by decide) fun T284 S285 => ?_
    refine s_lload 493 A S285 at_491 rfl rfl ?_
    refine s_lifne (yi := -1) 501 497 494 A S285 rfl rfl at_493 rfl at_494 (by decide) (by decide) rfl (fun c286 tc286 => (by exact c286 (own_bigneg s0 s1 s2 s3 s4 s5 (by rw [h_al]; omega)) : False).elim) (fun c286 tc286 => ?_)
    refine s_iconst (z := (1 : Int32)) 498 A S285 at_497 rfl rfl ?_
    refine s_goto 502 A S285 at_498 (by decide) (by decide) ?_
    exact s_retZ A S285 at_502 rfl (by decide) (by decide) rfl
set_option maxRecDepth 65536 in
set_option maxHeartbeats 40000000 in
theorem comes_1 {Post : Tables → Env → Array Value → State → Outcome → State → Prop} (hpost : ∀ tb e args s v u, (limb_1_1.after args s (.returned v) u = true ∧ limb_1_2.after args s (.returned v) u = true ∧ True) → FrameEnd s (.returned v) u (Jvm.fieldLocs frame_1_writes args s ++ Jvm.arrayLocs frame_1_arrays args s ++ Jvm.staticLocs frame_1_statics s) 16 128 → Post tb e args s (.returned v) u) :
    ArmFor flags0 classFile x code maxLocals ret World_1 tables_1 room_1 Calls_1 rest_1 Pre_1 Post := by
  intro l hfl _ _ p e ha hc hk s m args below hf hA hF happ hP
  obtain ⟨hcalls, hrest, hpre⟩ := hP
  obtain ⟨-, -, -, hnamed, -, -, -, hat⟩ := (Spec.applies_iff hf).mp happ
  obtain ⟨hg, hn⟩ := and_e (Cond.before_iff.mp (show (Jvm.Cond.and given_1 narrow_1).before args s = true from hpre))
  obtain ⟨g0, k0⟩ := and_e hg
  obtain ⟨j0, k1⟩ := and_e k0
  obtain ⟨j1, k2⟩ := and_e k1
  obtain ⟨j2, k3⟩ := and_e k2
  obtain ⟨j3, k4⟩ := and_e k3
  obtain ⟨j4, k5⟩ := and_e k4
  obtain ⟨w0, w1, w2, w3, w4, w5, rfl⟩ : ∃ w0 w1 w2 w3 w4 w5 : Value, args = #[w0, w1, w2, w3, w4, w5] := by
    have hs : args.size = 6 := by simpa [Cond.value, given_1] using g0
    obtain ⟨L⟩ := args
    match L, hs with
    | [w0, w1, w2, w3, w4, w5], _ => exact ⟨w0, w1, w2, w3, w4, w5, rfl⟩
  have hw := fun d (hd : d ∈ tables_1) => atoms_spec (ws := Jvm.Cond.code x code maxLocals ret :: tables_1) hat d (List.mem_cons_of_mem _ hd)
  have hfit : Fit s := fun {y c} hc i hi => by
    obtain ⟨ha, rfl⟩ := Array.getElem?_eq_some_iff.mp hc
    have q := List.all_eq_true.mp ((Array.all_eq_true_iff_forall_mem.mp hF) _ (Array.getElem_mem ha)) i (List.mem_range.mpr hi)
    simpa [Array.getElem?_eq_getElem hi] using q
  obtain ⟨i0, ei0⟩ := is_v j0
  obtain rfl : w0 = (.int i0) := Option.some.inj ei0
  obtain ⟨i1, ei1⟩ := is_v j1
  obtain rfl : w1 = (.int i1) := Option.some.inj ei1
  obtain ⟨i2, ei2⟩ := is_v j2
  obtain rfl : w2 = (.int i2) := Option.some.inj ei2
  obtain ⟨i3, ei3⟩ := is_v j3
  obtain rfl : w3 = (.int i3) := Option.some.inj ei3
  obtain ⟨i4, ei4⟩ := is_v j4
  obtain rfl : w4 = (.int i4) := Option.some.inj ei4
  obtain ⟨i5, ei5⟩ := is_v k5
  obtain rfl : w5 = (.int i5) := Option.some.inj ei5
  obtain ⟨n, o, h1, h2, h3, _, L, rfl, ⟨rfl, N⟩, hq⟩ := rm0 l s _ hw tables_1 i0 i1 i2 i3 i4 i5 s.heap s.heap.size (Nat.le_refl _)  p e ha hc hk s m _ below hf ((Spec.applies_iff_loose hf).mp happ).1 ⟨rfl, State.Warmed39.refl s, rfl⟩ trivial
  refine ⟨n, _, h1, h2, h3, hpost _ _ _ _ _ _ ⟨Cond.after_iff.mpr rfl, Cond.after_iff.mpr (eq_i res_at (Term.int_eval (1)) rfl), trivial⟩ ⟨hq.1, hq.2.1, (hq.2.2.sift fun y hy => Or.inr (N y hy)).mono (by decide) (by decide)⟩⟩
theorem main_1_1 : Claimed_1_1 := comes_1 fun _ _ _ _ _ _ h hF => ⟨h.1, hF⟩
theorem main_1_2 : Claimed_1_2 := comes_1 fun _ _ _ _ _ _ h hF => ⟨h.2.1, hF⟩
end Jvm.Pilot.@@N@@
namespace Jvm.Pilot.@@N@@
open Jvm Jvm.ClassFile Sem Op Lib Jvm.Free Jvm.Stand Jvm.Pilot.@@N@@.Jvm.D
/-! MADE BY PROGRAM (witnessworld.py) out of the Statement's table words and the real class files: 10 classes; the members and pool entries that the words name. The judged class is class 1, her method 4. -/
namespace start1
open Jvm.ClassFile
def u (s : String) : CpInfo := .utf8 (stringToUtf16 s)
/-- a pool by its gaps: so many unusable entries, then the entry; so many at the end -/
def gap : Nat → List CpInfo → List CpInfo
  | 0, r => r
  | n + 1, r => .unusable :: gap n r
def poolList (es : List (Nat × CpInfo)) (last : Nat) : List CpInfo := es.foldr (fun e r => gap e.1 (e.2 :: r)) (gap last [])
def pool (es : List (Nat × CpInfo)) (last : Nat) : Array CpInfo := ⟨poolList es last⟩
def fileOf (pool : Array CpInfo) (this : Nat) (attrs : Array Attribute := #[]) (ms : Array MethodInfo := #[]) (fl : Nat := 33) (sup : Nat := 0) (ifs : Array Nat := #[]) (fds : Array FieldInfo := #[]) : ClassFile where
  minorVersion := 0
  majorVersion := 65
  constantPool := pool
  accessFlags := fl
  thisClass := this
  superClass := sup
  interfaces := ifs
  fields := fds
  methods := ms
  attributes := attrs
def plain (name : String) (sup : Option ClassId) : Class where
  name := name
  kind := .ordinary
  loader := none
  accessFlags := 33
  super := sup
  interfaces := #[]
  cf := none
  fields := #[]
  methods := #[]
  instanceTypes := #[]
  staticTypes := #[]
  resolved := #[]
  callSites := []
  init := .initialized
  statics := none
  mirror := none

def pool0 : Array CpInfo := pool [(5, u "<init>"), (0, u "()V"), (1, .class_ 10), (1, u "java/lang/Object")] 113

def k0m0 : Method := { name := "<init>", desc := "()V", sig := { parameters := [], returnType := none }, accessFlags := 1, code := none }
/-- java/lang/Object -/
def k0 : Class := { plain "java/lang/Object" none with
  accessFlags := 33
  interfaces := #[]
  cf := some (fileOf pool0 8 #[] #[{ accessFlags := 1, nameIndex := 5, descriptorIndex := 6, attributes := #[] }] 33 0 #[] #[])
  fields := #[]
  methods := #[k0m0]
  instanceTypes := #[]
  staticTypes := #[]
  resolved := Array.replicate 124 none
  statics := none }

def pool1 : Array CpInfo := pool [(2, .class_ 4), (1, u "java/lang/Object"), (0, u "<init>"), (0, u "()V"), (0, .long 18446744073709551615), (1, .long 10), (1, .methodref 12 13), (0, .class_ 14), (0, .nameAndType 15 16), (0, u "com/example/cuadre/cuadre/format/FieldDigitsPinLaw"), (0, u "draw"), (0, u "(I)B"), (0, .methodref 12 18), (0, .nameAndType 19 20), (0, u "in"), (0, u "(III)Z"), (0, .methodref 12 22), (0, .nameAndType 23 24), (0, u "step"), (0, u "(JBZ)J"), (0, .long 1000000000000), (1, .long 1000000), (1, .methodref 30 31), (0, .class_ 32), (0, .nameAndType 33 34), (0, u "com/example/cuadre/cuadre/format/Field"), (0, u "digits"), (0, u "([BII)J"), (3, u "law"), (0, u "(IIIIII)Z")] 4

def k1m0 : Method := { name := "<init>", desc := "()V", sig := { parameters := [], returnType := none }, accessFlags := 1, code := none }
def k1c1 : Code := { maxStack := 3, maxLocals := 1, code := method_2_code, exceptionTable := #[], attributes := #[] }
def k1m1 : Method := { name := "draw", desc := "(I)B", sig := { parameters := [.int], returnType := some .byte }, accessFlags := 10, code := some k1c1 }
def k1c2 : Code := { maxStack := 3, maxLocals := 3, code := method_3_code, exceptionTable := #[], attributes := #[] }
def k1m2 : Method := { name := "in", desc := "(III)Z", sig := { parameters := [.int, .int, .int], returnType := some .boolean }, accessFlags := 10, code := some k1c2 }
def k1c3 : Code := { maxStack := 4, maxLocals := 5, code := method_4_code, exceptionTable := #[], attributes := #[] }
def k1m3 : Method := { name := "step", desc := "(JBZ)J", sig := { parameters := [.long, .byte, .boolean], returnType := some .long }, accessFlags := 10, code := some k1c3 }
def k1c4 : Code := { maxStack := 6, maxLocals := 16, code := code, exceptionTable := #[], attributes := #[] }
def k1m4 : Method := { name := "law", desc := "(IIIIII)Z", sig := { parameters := [.int, .int, .int, .int, .int, .int], returnType := some .boolean }, accessFlags := 9, code := some k1c4 }
/-- com/example/cuadre/cuadre/format/FieldDigitsPinLaw -/
def k1 : Class := { plain "com/example/cuadre/cuadre/format/FieldDigitsPinLaw" (some 0) with
  accessFlags := 49
  interfaces := #[]
  cf := some (fileOf pool1 12 #[] #[{ accessFlags := 1, nameIndex := 5, descriptorIndex := 6, attributes := #[] }, { accessFlags := 10, nameIndex := 15, descriptorIndex := 16, attributes := #[] }, { accessFlags := 10, nameIndex := 19, descriptorIndex := 20, attributes := #[] }, { accessFlags := 10, nameIndex := 23, descriptorIndex := 24, attributes := #[] }, { accessFlags := 9, nameIndex := 38, descriptorIndex := 39, attributes := #[] }] 49 2 #[] #[])
  fields := #[]
  methods := #[k1m0, k1m1, k1m2, k1m3, k1m4]
  instanceTypes := #[]
  staticTypes := #[]
  resolved := Array.replicate 44 none
  statics := none }

def pool2 : Array CpInfo := pool [(2, .class_ 4), (1, u "java/lang/Object"), (0, u "<init>"), (0, u "()V"), (0, .class_ 8), (0, u "java/lang/Record")] 13

def k2m0 : Method := { name := "<init>", desc := "()V", sig := { parameters := [], returnType := none }, accessFlags := 4, code := none }
/-- java/lang/Record -/
def k2 : Class := { plain "java/lang/Record" (some 0) with
  accessFlags := 1057
  interfaces := #[]
  cf := some (fileOf pool2 7 #[] #[{ accessFlags := 4, nameIndex := 5, descriptorIndex := 6, attributes := #[] }] 1057 2 #[] #[])
  fields := #[]
  methods := #[k2m0]
  instanceTypes := #[]
  staticTypes := #[]
  resolved := Array.replicate 22 none
  statics := none }

def pool3 : Array CpInfo := pool [(2, .class_ 4), (1, u "java/lang/Record"), (3, .class_ 10), (1, u "com/example/cuadre/cuadre/format/Field$Kind"), (1, u "Lcom/example/cuadre/cuadre/format/Field$Kind;"), (0, .class_ 14), (0, u "com/example/cuadre/cuadre/format/Field"), (45, u "length"), (27, u "name"), (0, u "Ljava/lang/String;"), (2, u "offset"), (0, u "I"), (4, u "kind"), (2, u "values"), (0, u "Ljava/util/List;"), (2, u "form"), (0, u "Lcom/example/cuadre/cuadre/format/Form;"), (5, u "digits"), (0, u "([BII)J"), (0, .long 18446744073709551615), (1, .long 10), (119, u "MAX_DIGITS")] 77

def k3c0 : Code := { maxStack := 4, maxLocals := 7, code := prog_6_method_4_code, exceptionTable := #[], attributes := #[] }
def k3m0 : Method := { name := "digits", desc := "([BII)J", sig := { parameters := [(.array .byte), .int, .int], returnType := some .long }, accessFlags := 8, code := some k3c0 }
/-- com/example/cuadre/cuadre/format/Field -/
def k3 : Class := { plain "com/example/cuadre/cuadre/format/Field" (some 2) with
  accessFlags := 49
  interfaces := #[]
  cf := some (fileOf pool3 13 #[.nestMembers #[8]] #[{ accessFlags := 8, nameIndex := 112, descriptorIndex := 113, attributes := #[] }] 49 2 #[] #[{ accessFlags := 18, nameIndex := 88, descriptorIndex := 89, attributes := #[] }, { accessFlags := 18, nameIndex := 92, descriptorIndex := 93, attributes := #[] }, { accessFlags := 18, nameIndex := 60, descriptorIndex := 93, attributes := #[] }, { accessFlags := 18, nameIndex := 98, descriptorIndex := 12, attributes := #[] }, { accessFlags := 18, nameIndex := 101, descriptorIndex := 102, attributes := #[] }, { accessFlags := 18, nameIndex := 105, descriptorIndex := 106, attributes := #[] }, { accessFlags := 25, nameIndex := 236, descriptorIndex := 93, attributes := #[] }])
  fields := #[{ name := "name", type := (.object "java/lang/String"), accessFlags := 18, slot := 0, constantValue := 0 }, { name := "offset", type := .int, accessFlags := 18, slot := 1, constantValue := 0 }, { name := "length", type := .int, accessFlags := 18, slot := 2, constantValue := 0 }, { name := "kind", type := (.object "com/example/cuadre/cuadre/format/Field$Kind"), accessFlags := 18, slot := 3, constantValue := 0 }, { name := "values", type := (.object "java/util/List"), accessFlags := 18, slot := 4, constantValue := 0 }, { name := "form", type := (.object "com/example/cuadre/cuadre/format/Form"), accessFlags := 18, slot := 5, constantValue := 0 }, { name := "MAX_DIGITS", type := .int, accessFlags := 25, slot := 0, constantValue := 0 }]
  methods := #[k3m0]
  instanceTypes := #[(.object "java/lang/String"), .int, .int, (.object "com/example/cuadre/cuadre/format/Field$Kind"), (.object "java/util/List"), (.object "com/example/cuadre/cuadre/format/Form")]
  staticTypes := #[.int]
  resolved := Array.replicate 314 none
  statics := none }

def pool4 : Array CpInfo := pool [(1, u "java/lang/Cloneable"), (0, .class_ 1), (0, u "java/lang/Object"), (0, .class_ 3)] 3

/-- java/lang/Cloneable -/
def k4 : Class := { plain "java/lang/Cloneable" (some 0) with
  accessFlags := 1537
  interfaces := #[]
  cf := some (fileOf pool4 2 #[] #[] 1537 4 #[] #[])
  fields := #[]
  methods := #[]
  instanceTypes := #[]
  staticTypes := #[]
  resolved := Array.replicate 8 none
  statics := none }

def pool5 : Array CpInfo := pool [(1, u "java/io/Serializable"), (0, .class_ 1), (0, u "java/lang/Object"), (0, .class_ 3)] 3

/-- java/io/Serializable -/
def k5 : Class := { plain "java/io/Serializable" (some 0) with
  accessFlags := 1537
  interfaces := #[]
  cf := some (fileOf pool5 2 #[] #[] 1537 4 #[] #[])
  fields := #[]
  methods := #[]
  instanceTypes := #[]
  staticTypes := #[]
  resolved := Array.replicate 8 none
  statics := none }

/-- the primitive byte -/
def k6 : Class := { plain "byte" none with kind := .primitive 'B', accessFlags := 0x411 }
/-- [B -/
def k7 : Class := { plain "[B" (some 0) with kind := .array 6 .byte, interfaces := #[4, 5], accessFlags := 1041 }

/-- the primitive int -/
def k8 : Class := { plain "int" none with kind := .primitive 'I', accessFlags := 0x411 }
/-- [I -/
def k9 : Class := { plain "[I" (some 0) with kind := .array 8 .int, interfaces := #[4, 5], accessFlags := 1041 }

def heap : Heap := #[]
def classes : Array Class := #[k0, k1, k2, k3, k4, k5, k6, k7, k8, k9]
def interned : List (Array UInt16 × Addr) := []
def slotsUsed : Nat := 0
def theMethod : MethodId := ⟨1, 4⟩
def args0 : Array Value := #[.int 305419896, .int 2, .int 3, .int 4, .int 5, .int 6]
def aboutOver (below : List Frame) : State where
  vm := { classes := classes, interned := interned.toArray }
  heap := heap
  slotsUsed := slotsUsed
  threads := #[{ frames := .invoking theMethod args0 :: below }]
def below0 : List Frame := [.native { method := ⟨0, 0⟩, args := #[] }]
def about1 : State := aboutOver below0
def p0 : Program := .bare "" "" ""
def e0 : Env := launch0.env 0 0 0
theorem w_frames : about1.frames = Frame.invoking theMethod args0 :: below0 := rfl
set_option maxRecDepth 65536 in
theorem w_args : argsFit about1.vm theMethod args0 = true := by decide +kernel
set_option maxRecDepth 65536 in
theorem w_heap : heapFits about1 = true := by decide +kernel
set_option maxRecDepth 65536 in
theorem w_runnable : about1.curStatus? = some .runnable := by decide +kernel
set_option maxRecDepth 65536 in
theorem w_alone : about1.alone = true := by decide +kernel
set_option maxRecDepth 65536 in
theorem w_named : about1.methodNamed? x = some theMethod := by decide +kernel
set_option maxRecDepth 65536 in
theorem w_hears : about1.hears theMethod below0 = true := by decide +kernel
set_option maxRecDepth 65536 in
theorem w_ripe : about1.ripe theMethod args0 below0 = true := by decide +kernel
theorem w_running : about1.status = .running := rfl
set_option maxRecDepth 65536 in
theorem w_room : about1.hasRoom e0.platform room_1 = true :=
  launch0.hasRoom_least _ room_1 (by decide +kernel) (by decide +kernel) (by decide +kernel) (by decide +kernel) (by decide +kernel) (by decide +kernel)
theorem allAtoms_all (ts : List Jvm.Cond) (a : Array Jvm.Value) (st : Jvm.State) : (allAtoms ts).before a st = ts.all (fun c => c.before a st) := by
  induction ts with
  | nil => rfl
  | cons c t ih =>
    show (Jvm.Cond.and c (allAtoms t)).before a st = _
    rw [Jvm.Cond.before_and, ih, List.all_cons]
def words1 : List Jvm.Cond := Jvm.Cond.code x code maxLocals ret :: tables_1
/-- a 'code' word, met by the world's own term for the bytes: nothing is compared byte by byte -/
theorem code_word {y : MethodName} {bytes : ByteArray} {mx : Nat} {rt : Option FieldType} {a : Array Value} {s : State} {m : MethodId} {meth : Method} {c : Code} (h1 : s.methodNamed? y = some m) (h2 : s.vm.method? m = some meth) (h3 : meth.code = some c) (h4 : c.code = bytes)
    (h5 : (c.maxLocals == mx && c.exceptionTable.isEmpty && decide (c.maxStack ≤ mostOperands) && decide (meth.sig.returnType = rt) && !meth.locks && decide (parseMethodDescriptor y.desc = some meth.sig)) = true) : (Jvm.Cond.code y bytes mx rt).before a s = true := by
  simp only [Bool.and_eq_true, beq_iff_eq, Bool.not_eq_true', decide_eq_true_eq] at h5
  obtain ⟨⟨⟨⟨⟨g1, g2⟩, g3⟩, g4⟩, g5⟩, g6⟩ := h5
  simp [Cond.before, Cond.holds, Cond.value, h1, h2, h3, h4, g1, g2, g3, g4, g5, g6]
def isCode : Jvm.Cond → Bool
  | .code _ _ _ _ => true
  | _ => false
theorem all_split {L : List Jvm.Cond} {P : Jvm.Cond → Bool} (h1 : L.all (fun c => isCode c || P c) = true) (h2 : ∀ c ∈ L.filter isCode, P c = true) : L.all P = true := by
  refine List.all_eq_true.mpr fun c hc => ?_
  have h := List.all_eq_true.mp h1 c hc
  rcases Bool.eq_false_or_eq_true (isCode c) with hi | hi
  · exact h2 c (List.mem_filter.mpr ⟨hc, hi⟩)
  · simpa [hi] using h
set_option maxRecDepth 65536 in
theorem w_c0 : (Jvm.Cond.code x code maxLocals ret).before args0 about1 = true := code_word (m := ⟨1, 4⟩) (meth := k1m4) (c := k1c4) (by decide +kernel) rfl rfl rfl (by decide +kernel)
set_option maxRecDepth 65536 in
theorem w_c1 : (Jvm.Cond.code ({ cls := "com/example/cuadre/cuadre/format/FieldDigitsPinLaw", name := "draw", desc := "(I)B" } : Jvm.MethodName) method_2_code (1 : Nat) (Option.some Jvm.ClassFile.FieldType.byte)).before args0 about1 = true := code_word (m := ⟨1, 1⟩) (meth := k1m1) (c := k1c1) (by decide +kernel) rfl rfl rfl (by decide +kernel)
set_option maxRecDepth 65536 in
theorem w_c2 : (Jvm.Cond.code ({ cls := "com/example/cuadre/cuadre/format/FieldDigitsPinLaw", name := "in", desc := "(III)Z" } : Jvm.MethodName) method_3_code (3 : Nat) (Option.some Jvm.ClassFile.FieldType.boolean)).before args0 about1 = true := code_word (m := ⟨1, 2⟩) (meth := k1m2) (c := k1c2) (by decide +kernel) rfl rfl rfl (by decide +kernel)
set_option maxRecDepth 65536 in
theorem w_c3 : (Jvm.Cond.code ({ cls := "com/example/cuadre/cuadre/format/FieldDigitsPinLaw", name := "step", desc := "(JBZ)J" } : Jvm.MethodName) method_4_code (5 : Nat) (Option.some Jvm.ClassFile.FieldType.long)).before args0 about1 = true := code_word (m := ⟨1, 3⟩) (meth := k1m3) (c := k1c3) (by decide +kernel) rfl rfl rfl (by decide +kernel)
set_option maxRecDepth 65536 in
theorem w_c4 : (Jvm.Cond.code ({ cls := "com/example/cuadre/cuadre/format/Field", name := "digits", desc := "([BII)J" } : Jvm.MethodName) prog_6_method_4_code (7 : Nat) (Option.some Jvm.ClassFile.FieldType.long)).before args0 about1 = true := code_word (m := ⟨3, 0⟩) (meth := k3m0) (c := k3c0) (by decide +kernel) rfl rfl rfl (by decide +kernel)
def codes1 : List Jvm.Cond := [Jvm.Cond.code x code maxLocals ret, Jvm.Cond.code ({ cls := "com/example/cuadre/cuadre/format/FieldDigitsPinLaw", name := "draw", desc := "(I)B" } : Jvm.MethodName) method_2_code (1 : Nat) (Option.some Jvm.ClassFile.FieldType.byte), Jvm.Cond.code ({ cls := "com/example/cuadre/cuadre/format/FieldDigitsPinLaw", name := "in", desc := "(III)Z" } : Jvm.MethodName) method_3_code (3 : Nat) (Option.some Jvm.ClassFile.FieldType.boolean), Jvm.Cond.code ({ cls := "com/example/cuadre/cuadre/format/FieldDigitsPinLaw", name := "step", desc := "(JBZ)J" } : Jvm.MethodName) method_4_code (5 : Nat) (Option.some Jvm.ClassFile.FieldType.long), Jvm.Cond.code ({ cls := "com/example/cuadre/cuadre/format/Field", name := "digits", desc := "([BII)J" } : Jvm.MethodName) prog_6_method_4_code (7 : Nat) (Option.some Jvm.ClassFile.FieldType.long)]
set_option maxRecDepth 65536 in
theorem codes_eq : words1.filter isCode = codes1 := rfl
theorem w_codes : ∀ c ∈ words1.filter isCode, c.before args0 about1 = true := by
  rw [codes_eq]
  intro c hc
  simp only [codes1, List.mem_cons, List.not_mem_nil, or_false] at hc
  rcases hc with rfl | rfl | rfl | rfl | rfl
  · exact w_c0
  · exact w_c1
  · exact w_c2
  · exact w_c3
  · exact w_c4
set_option maxRecDepth 65536 in
theorem w_t1 : words1.all (fun c => isCode c || c.before args0 about1) = true := by decide +kernel
theorem w_tables : (allAtoms (Jvm.Cond.code x code maxLocals ret :: tables_1)).before args0 about1 = true := by
  rw [allAtoms_all]
  show words1.all (fun c => c.before args0 about1) = true
  refine all_split ?_ w_codes
  rw [w_t1]
set_option maxRecDepth 65536 in
theorem w_case : (Jvm.Cond.and given_1 narrow_1).before args0 about1 = true := by decide +kernel
theorem w_applies : (headSpec (Jvm.Cond.code x code maxLocals ret :: tables_1) room_1).applies x e0.platform about1 = true :=
  (Spec.applies_iff w_frames).mpr ⟨w_running, w_runnable, w_alone, w_named, w_hears, w_ripe, w_room, w_tables⟩
theorem atStart : AtStart classFile x code maxLocals ret World_1 tables_1 room_1 Calls_1 rest_1 Pre_1 launch0 p0 e0 about1 theMethod args0 below0 :=
  ⟨lists_1, trivial, launch0.admits_env _ _ _, launch0.least_env, fairChoices_fair.cas, fairChoices_fair.clock, w_frames, w_args, w_heap, w_applies, trivial, trivial, w_case⟩
end start1
theorem witness_1 : WitnessClaimed_1 := ⟨start1.p0, start1.e0, start1.about1, start1.theMethod, start1.args0, start1.below0, start1.atStart⟩
end Jvm.Pilot.@@N@@
