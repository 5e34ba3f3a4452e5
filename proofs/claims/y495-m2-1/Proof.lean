import JvmDerived
import JvmDerived.Pilot.@@N@@Statement
import JvmDerived.Pilot.@@N@@Code
set_option linter.unusedVariables false
set_option linter.unusedSimpArgs false
namespace Jvm.Pilot.@@N@@
open Jvm Jvm.ClassFile Sem Op Lib Jvm.Free Jvm.Stand Jvm.LawKit Jvm.RoadKit Bundle Jvm.Pilot.@@N@@.Jvm.D
def own_A (p : Program) (l : Launch) (e : Env) (R : Room) (s : State) (m : MethodId) (args : Array Value) (below : List Frame) (meth : Method) (c : Code) (Z : State) (own name : String) (bytes : ByteArray) (maxL : Nat) (ret : Option FieldType) : Prop :=
  p.tables.exec = Jvm.exec ∧ c.code = bytes ∧ c.maxLocals = maxL ∧ s.vm.findClass own = some m.cls ∧ meth.name = name ∧ meth.sig.returnType = ret ∧ meth.locks = false ∧ Z.Warmed39 s.vm
def own_S (p : Program) (l : Launch) (e : Env) (R : Room) (s : State) (m : MethodId) (args : Array Value) (below : List Frame) (meth : Method) (c : Code) (n0 : Nat) (T : State) (h : Heap) (k n : Nat) : Prop :=
  ∃ locs, Stand p l e R s m args below meth c T locs k n ∧ T.heap = h ∧ Fr n0 locs
def own_G (p : Program) (e : Env) (below : List Frame) (s : State) (n0 kc ks : Nat) (Q : Option Value → Heap → Prop) (T : State) (g : JFrame) : Prop :=
  ∃ s₂ o, Steps p.tables e below (T.setTop g) s₂ ∧ s₂.status = .running ∧ Ended s₂ below o ∧ ∃ v L, o = .returned v ∧ (Q v s₂.heap ∧ Fr n0 L) ∧ FrameEnd s o s₂ L kc ks
def own_C (l : Launch) (Z : State) (y : MethodName) (bytes : ByteArray) (maxL : Nat) (ret : Option FieldType) (rm : Room) (n0 : Nat) (ws : List Jvm.Cond) (as' : Array Value) (h0 : Heap) (Q : Option Value → Heap → Prop) : Prop :=
  MetFree l y (head1 (Jvm.Cond.code y bytes maxL ret :: ws) rm) (fun a U => a = as' ∧ Z.Warmed39 U.vm ∧ U.heap = h0) (fun _ _ _ _ _ => True) (fun _ U o U' => ∃ v L, o = .returned v ∧ (Q v U'.heap ∧ Fr n0 L) ∧ FrameEnd U o U' L rm.cells rm.slots)
section OwnLayer
variable {p : Program} {l : Launch} {e : Env} {R : Room} {s : State} {m : MethodId} {args : Array Value} {below : List Frame} {meth : Method} {c : Code} {Z : State} {own name : String} {bytes : ByteArray} {maxL : Nat} {ret : Option FieldType} {T T' : State} {h : Heap} {k n n0 kc ks pc : Nat} {Ls Ls' : Array Slot} {st : List Value} {Q : Option Value → Heap → Prop} {g g' : JFrame} {a0 : Array Value}
theorem own_st (q : ∀ t, Steps p.tables e below (T'.setTop g') t → Steps p.tables e below (T.setTop g) t) (K : own_G p e below s n0 kc ks Q T' g') : own_G p e below s n0 kc ks Q T g := by
  obtain ⟨s2, o, a, b⟩ := K; exact ⟨s2, o, q _ a, b⟩
theorem own_C.of {y : MethodName} {rm : Room} {ws : List Jvm.Cond} {as' : Array Value} {h0 : Heap} (pn : plainFor y = true) (hn : n0 ≤ h0.size)
    (body : ∀ (p : Program) (e : Env) (s : State) (m : MethodId) (below : List Frame) (meth : Method) (c : Code) (T : State), own_A p l e rm s m as' below meth c Z y.cls y.name bytes maxL ret → own_S p l e rm s m as' below meth c n0 T h0 0 0 → own_G p e below s n0 rm.cells rm.slots Q T (entryFrame m as' maxL)) :
    own_C l Z y bytes maxL ret rm n0 ws as' h0 Q := by
  refine MetFree.of_bodySF pn hisR ?_
  intro p e s m args below meth c s₁ Bd hml0 hP hK
  obtain ⟨rfl, hZ, hh⟩ := hP
  have e0 : s₁.heap = h0 := by rw [← hh, Bd.state]; rfl
  exact body p e s m below meth c s₁ ⟨Bd.exec, Bd.bytes, hml0, findClass_of_methodNamed Bd.named, (name_of_methodNamed Bd.named Bd.method).1, Bd.returns, Bd.notSynchronized, hZ⟩ ⟨[], Stand.of_body Bd, e0, Fr.nil n0⟩
def own_ushr (x y : Int32) : Int32 := (x.toUInt32 >>> (y &&& 31).toUInt32).toInt32
def own_ushrL (x : Int64) (y : Int32) : Int64 := (x.toUInt64 >>> (y &&& 0x3f).toInt64.toUInt64).toInt64
theorem own_toInt {x y : Int32} (hh : ¬ x = y) : x.toInt ≠ y.toInt := fun q => hh (Int32.toInt_inj.mp q)
theorem own_toIntL {x y : Int64} (hh : ¬ x = y) : x.toInt ≠ y.toInt := fun q => hh (Int64.toInt_inj.mp q)
theorem s_iloadN (pc' : Nat) {i : Fin 4} {v : Int32} (A : own_A p l e R s m args below meth c Z own name bytes maxL ret) (S : own_S p l e R s m args below meth c n0 T h k n) (hd : decode bytes pc = .ok (.iload_n i, 1)) (hl : Ls[i.val]? = some (.val (.int v))) (hp : pc + 1 = pc') (K : own_G p e below s n0 kc ks Q T (mkF m pc' Ls (.int v :: st))) : own_G p e below s n0 kc ks Q T (mkF m pc Ls st) := by
  obtain ⟨_, X, -, -⟩ := S
  subst hp
  exact own_st (T' := T) (g' := mkF m _ Ls (.int v :: st)) (fun t ht => XS.iloadN X.here A.1 rfl (hb A.2.1 hd) hl ht) K
theorem s_iload (pc' : Nat) {i : Nat} {v : Int32} (A : own_A p l e R s m args below meth c Z own name bytes maxL ret) (S : own_S p l e R s m args below meth c n0 T h k n) (hd : decode bytes pc = .ok (.iload i, 2)) (hl : Ls[i]? = some (.val (.int v))) (hp : pc + 2 = pc') (K : own_G p e below s n0 kc ks Q T (mkF m pc' Ls (.int v :: st))) : own_G p e below s n0 kc ks Q T (mkF m pc Ls st) := by
  obtain ⟨_, X, -, -⟩ := S
  subst hp
  exact own_st (T' := T) (g' := mkF m _ Ls (.int v :: st)) (fun t ht => XS.iload X.here A.1 rfl (hb A.2.1 hd) hl ht) K
theorem s_istoreN (pc' : Nat) {i : Fin 4} {v : Int32} (A : own_A p l e R s m args below meth c Z own name bytes maxL ret) (S : own_S p l e R s m args below meth c n0 T h k n) (hd : decode bytes pc = .ok (.istore_n i, 1)) (hl : storeLocals Ls i.val (.int v) = some Ls') (hp : pc + 1 = pc') (K : own_G p e below s n0 kc ks Q T (mkF m pc' Ls' st)) : own_G p e below s n0 kc ks Q T (mkF m pc Ls (.int v :: st)) := by
  obtain ⟨_, X, -, -⟩ := S
  subst hp
  exact own_st (T' := T) (g' := mkF m _ Ls' st) (fun t ht => XS.istoreN X.here A.1 rfl (hb A.2.1 hd) rfl hl ht) K
theorem s_istore (pc' : Nat) {i : Nat} {v : Int32} (A : own_A p l e R s m args below meth c Z own name bytes maxL ret) (S : own_S p l e R s m args below meth c n0 T h k n) (hd : decode bytes pc = .ok (.istore i, 2)) (hl : storeLocals Ls i (.int v) = some Ls') (hp : pc + 2 = pc') (K : own_G p e below s n0 kc ks Q T (mkF m pc' Ls' st)) : own_G p e below s n0 kc ks Q T (mkF m pc Ls (.int v :: st)) := by
  obtain ⟨_, X, -, -⟩ := S
  subst hp
  exact own_st (T' := T) (g' := mkF m _ Ls' st) (fun t ht => XS.istore X.here A.1 rfl (hb A.2.1 hd) rfl hl ht) K
theorem s_lloadN (pc' : Nat) {i : Fin 4} {v : Int64} (A : own_A p l e R s m args below meth c Z own name bytes maxL ret) (S : own_S p l e R s m args below meth c n0 T h k n) (hd : decode bytes pc = .ok (.lload_n i, 1)) (hl : Ls[i.val]? = some (.val (.long v))) (hp : pc + 1 = pc') (K : own_G p e below s n0 kc ks Q T (mkF m pc' Ls (.long v :: st))) : own_G p e below s n0 kc ks Q T (mkF m pc Ls st) := by
  obtain ⟨_, X, -, -⟩ := S
  subst hp
  exact own_st (T' := T) (g' := mkF m _ Ls (.long v :: st)) (fun t ht => XS.lloadN X.here A.1 rfl (hb A.2.1 hd) hl ht) K
theorem s_lload (pc' : Nat) {i : Nat} {v : Int64} (A : own_A p l e R s m args below meth c Z own name bytes maxL ret) (S : own_S p l e R s m args below meth c n0 T h k n) (hd : decode bytes pc = .ok (.lload i, 2)) (hl : Ls[i]? = some (.val (.long v))) (hp : pc + 2 = pc') (K : own_G p e below s n0 kc ks Q T (mkF m pc' Ls (.long v :: st))) : own_G p e below s n0 kc ks Q T (mkF m pc Ls st) := by
  obtain ⟨_, X, -, -⟩ := S
  subst hp
  exact own_st (T' := T) (g' := mkF m _ Ls (.long v :: st)) (fun t ht => XS.lload X.here A.1 rfl (hb A.2.1 hd) hl ht) K
theorem s_lstoreN (pc' : Nat) {i : Fin 4} {v : Int64} (A : own_A p l e R s m args below meth c Z own name bytes maxL ret) (S : own_S p l e R s m args below meth c n0 T h k n) (hd : decode bytes pc = .ok (.lstore_n i, 1)) (hl : storeLocals Ls i.val (.long v) = some Ls') (hp : pc + 1 = pc') (K : own_G p e below s n0 kc ks Q T (mkF m pc' Ls' st)) : own_G p e below s n0 kc ks Q T (mkF m pc Ls (.long v :: st)) := by
  obtain ⟨_, X, -, -⟩ := S
  subst hp
  exact own_st (T' := T) (g' := mkF m _ Ls' st) (fun t ht => XS.lstoreN X.here A.1 rfl (hb A.2.1 hd) rfl hl ht) K
theorem s_lstore (pc' : Nat) {i : Nat} {v : Int64} (A : own_A p l e R s m args below meth c Z own name bytes maxL ret) (S : own_S p l e R s m args below meth c n0 T h k n) (hd : decode bytes pc = .ok (.lstore i, 2)) (hl : storeLocals Ls i (.long v) = some Ls') (hp : pc + 2 = pc') (K : own_G p e below s n0 kc ks Q T (mkF m pc' Ls' st)) : own_G p e below s n0 kc ks Q T (mkF m pc Ls (.long v :: st)) := by
  obtain ⟨_, X, -, -⟩ := S
  subst hp
  exact own_st (T' := T) (g' := mkF m _ Ls' st) (fun t ht => XS.lstore X.here A.1 rfl (hb A.2.1 hd) rfl hl ht) K
theorem s_aloadN (pc' : Nat) {i : Fin 4} {v : Value} (A : own_A p l e R s m args below meth c Z own name bytes maxL ret) (S : own_S p l e R s m args below meth c n0 T h k n) (hd : decode bytes pc = .ok (.aload_n i, 1)) (hl : Ls[i.val]? = some (.val v)) (hv : v.isRef = true) (hp : pc + 1 = pc') (K : own_G p e below s n0 kc ks Q T (mkF m pc' Ls (v :: st))) : own_G p e below s n0 kc ks Q T (mkF m pc Ls st) := by
  obtain ⟨_, X, -, -⟩ := S
  subst hp
  exact own_st (T' := T) (g' := mkF m _ Ls (v :: st)) (fun t ht => XS.aloadN X.here A.1 rfl (hb A.2.1 hd) hl hv ht) K
theorem s_aload (pc' : Nat) {i : Nat} {v : Value} (A : own_A p l e R s m args below meth c Z own name bytes maxL ret) (S : own_S p l e R s m args below meth c n0 T h k n) (hd : decode bytes pc = .ok (.aload i, 2)) (hl : Ls[i]? = some (.val v)) (hv : v.isRef = true) (hp : pc + 2 = pc') (K : own_G p e below s n0 kc ks Q T (mkF m pc' Ls (v :: st))) : own_G p e below s n0 kc ks Q T (mkF m pc Ls st) := by
  obtain ⟨_, X, -, -⟩ := S
  subst hp
  exact own_st (T' := T) (g' := mkF m _ Ls (v :: st)) (fun t ht => XS.aload X.here A.1 rfl (hb A.2.1 hd) hl hv ht) K
theorem s_astoreN (pc' : Nat) {i : Fin 4} {v : Value} (A : own_A p l e R s m args below meth c Z own name bytes maxL ret) (S : own_S p l e R s m args below meth c n0 T h k n) (hd : decode bytes pc = .ok (.astore_n i, 1)) (hv : v.isRef = true) (hl : storeLocals Ls i.val v = some Ls') (hp : pc + 1 = pc') (K : own_G p e below s n0 kc ks Q T (mkF m pc' Ls' st)) : own_G p e below s n0 kc ks Q T (mkF m pc Ls (v :: st)) := by
  obtain ⟨_, X, -, -⟩ := S
  subst hp
  exact own_st (T' := T) (g' := mkF m _ Ls' st) (fun t ht => XS.astoreN X.here A.1 rfl (hb A.2.1 hd) rfl hv hl ht) K
theorem s_astore (pc' : Nat) {i : Nat} {v : Value} (A : own_A p l e R s m args below meth c Z own name bytes maxL ret) (S : own_S p l e R s m args below meth c n0 T h k n) (hd : decode bytes pc = .ok (.astore i, 2)) (hv : v.isRef = true) (hl : storeLocals Ls i v = some Ls') (hp : pc + 2 = pc') (K : own_G p e below s n0 kc ks Q T (mkF m pc' Ls' st)) : own_G p e below s n0 kc ks Q T (mkF m pc Ls (v :: st)) := by
  obtain ⟨_, X, -, -⟩ := S
  subst hp
  exact own_st (T' := T) (g' := mkF m _ Ls' st) (fun t ht => XS.astore X.here A.1 rfl (hb A.2.1 hd) rfl hv hl ht) K
theorem s_iconst (pc' : Nat) {i : Int} {z : Int32} (A : own_A p l e R s m args below meth c Z own name bytes maxL ret) (S : own_S p l e R s m args below meth c n0 T h k n) (hd : decode bytes pc = .ok (.iconst i, 1)) (hz : Int32.ofInt i = z) (hp : pc + 1 = pc') (K : own_G p e below s n0 kc ks Q T (mkF m pc' Ls (.int z :: st))) : own_G p e below s n0 kc ks Q T (mkF m pc Ls st) := by
  obtain ⟨_, X, -, -⟩ := S
  subst hp hz
  exact own_st (T' := T) (g' := mkF m _ Ls (.int _ :: st)) (fun t ht => XS.iconst X.here A.1 rfl (hb A.2.1 hd) ht) K
theorem s_bipush (pc' : Nat) {i : Int} {z : Int32} (A : own_A p l e R s m args below meth c Z own name bytes maxL ret) (S : own_S p l e R s m args below meth c n0 T h k n) (hd : decode bytes pc = .ok (.bipush i, 2)) (hz : (Int8.ofInt i).toInt32 = z) (hp : pc + 2 = pc') (K : own_G p e below s n0 kc ks Q T (mkF m pc' Ls (.int z :: st))) : own_G p e below s n0 kc ks Q T (mkF m pc Ls st) := by
  obtain ⟨_, X, -, -⟩ := S
  subst hp hz
  exact own_st (T' := T) (g' := mkF m _ Ls (.int _ :: st)) (fun t ht => XS.bipush X.here A.1 rfl (hb A.2.1 hd) ht) K
theorem s_sipush (pc' : Nat) {i : Int} {z : Int32} (A : own_A p l e R s m args below meth c Z own name bytes maxL ret) (S : own_S p l e R s m args below meth c n0 T h k n) (hd : decode bytes pc = .ok (.sipush i, 3)) (hz : (Int16.ofInt i).toInt32 = z) (hp : pc + 3 = pc') (K : own_G p e below s n0 kc ks Q T (mkF m pc' Ls (.int z :: st))) : own_G p e below s n0 kc ks Q T (mkF m pc Ls st) := by
  obtain ⟨_, X, -, -⟩ := S
  subst hp hz
  exact own_st (T' := T) (g' := mkF m _ Ls (.int _ :: st)) (fun t ht => XS.sipush X.here A.1 rfl (hb A.2.1 hd) ht) K
theorem s_lconst (pc' : Nat) {i : Fin 2} {z : Int64} (A : own_A p l e R s m args below meth c Z own name bytes maxL ret) (S : own_S p l e R s m args below meth c n0 T h k n) (hd : decode bytes pc = .ok (.lconst i, 1)) (hz : Int64.ofNat i = z) (hp : pc + 1 = pc') (K : own_G p e below s n0 kc ks Q T (mkF m pc' Ls (.long z :: st))) : own_G p e below s n0 kc ks Q T (mkF m pc Ls st) := by
  obtain ⟨_, X, -, -⟩ := S
  subst hp hz
  exact own_st (T' := T) (g' := mkF m _ Ls (.long _ :: st)) (fun t ht => XS.lconst X.here A.1 rfl (hb A.2.1 hd) ht) K
theorem s_aconstNull (pc' : Nat)  (A : own_A p l e R s m args below meth c Z own name bytes maxL ret) (S : own_S p l e R s m args below meth c n0 T h k n) (hd : decode bytes pc = .ok (.aconst_null, 1)) (hp : pc + 1 = pc') (K : own_G p e below s n0 kc ks Q T (mkF m pc' Ls (.null :: st))) : own_G p e below s n0 kc ks Q T (mkF m pc Ls st) := by
  obtain ⟨_, X, -, -⟩ := S
  subst hp
  exact own_st (T' := T) (g' := mkF m _ Ls (.null :: st)) (fun t ht => XS.aconstNull X.here A.1 rfl (hb A.2.1 hd)  ht) K
theorem s_ldc (pc' : Nat) {i : Nat} {v : Int32} (A : own_A p l e R s m args below meth c Z own name bytes maxL ret) (S : own_S p l e R s m args below meth c n0 T h k n) (w : (Jvm.Cond.constant own i v).before a0 Z = true) (hd : decode bytes pc = .ok (.ldc i, 2)) (hp : pc + 2 = pc') (K : own_G p e below s n0 kc ks Q T (mkF m pc' Ls (.int v :: st))) : own_G p e below s n0 kc ks Q T (mkF m pc Ls st) := by
  obtain ⟨_, X, -, -⟩ := S
  obtain ⟨hx, hby, -, hown, -, -, -, hZ⟩ := A
  subst hp
  exact own_st (T' := T) (g' := mkF m _ Ls (.int v :: st)) (X.ldcInt hx hown (mvT hZ w) (g := mkF m pc Ls st) rfl (hb hby hd)) K
theorem s_ldc2 (pc' : Nat) {i : Nat} {v : Int64} (A : own_A p l e R s m args below meth c Z own name bytes maxL ret) (S : own_S p l e R s m args below meth c n0 T h k n) (w : (Jvm.Cond.constantLong own i v).before a0 Z = true) (hd : decode bytes pc = .ok (.ldc2_w i, 3)) (hp : pc + 3 = pc') (K : own_G p e below s n0 kc ks Q T (mkF m pc' Ls (.long v :: st))) : own_G p e below s n0 kc ks Q T (mkF m pc Ls st) := by
  obtain ⟨_, X, -, -⟩ := S
  obtain ⟨hx, hby, -, hown, -, -, -, hZ⟩ := A
  subst hp
  exact own_st (T' := T) (g' := mkF m _ Ls (.long v :: st)) (X.ldc2Long hx hown (mvT hZ w) (g := mkF m pc Ls st) rfl (hb hby hd)) K
theorem s_iadd (pc' : Nat) {x y : Int32} {z : Int32} (A : own_A p l e R s m args below meth c Z own name bytes maxL ret) (S : own_S p l e R s m args below meth c n0 T h k n) (hd : decode bytes pc = .ok (.iadd, 1)) (hz : x + y = z) (hp : pc + 1 = pc') (K : own_G p e below s n0 kc ks Q T (mkF m pc' Ls (.int z :: st))) : own_G p e below s n0 kc ks Q T (mkF m pc Ls (.int y :: .int x :: st)) := by
  obtain ⟨_, X, -, -⟩ := S
  subst hp hz
  exact own_st (T' := T) (g' := mkF m _ Ls (.int _ :: st)) (fun t ht => XS.iadd X.here A.1 rfl (hb A.2.1 hd) rfl  ht) K
theorem s_isub (pc' : Nat) {x y : Int32} {z : Int32} (A : own_A p l e R s m args below meth c Z own name bytes maxL ret) (S : own_S p l e R s m args below meth c n0 T h k n) (hd : decode bytes pc = .ok (.isub, 1)) (hz : x - y = z) (hp : pc + 1 = pc') (K : own_G p e below s n0 kc ks Q T (mkF m pc' Ls (.int z :: st))) : own_G p e below s n0 kc ks Q T (mkF m pc Ls (.int y :: .int x :: st)) := by
  obtain ⟨_, X, -, -⟩ := S
  subst hp hz
  exact own_st (T' := T) (g' := mkF m _ Ls (.int _ :: st)) (fun t ht => XS.isub X.here A.1 rfl (hb A.2.1 hd) rfl  ht) K
theorem s_imul (pc' : Nat) {x y : Int32} {z : Int32} (A : own_A p l e R s m args below meth c Z own name bytes maxL ret) (S : own_S p l e R s m args below meth c n0 T h k n) (hd : decode bytes pc = .ok (.imul, 1)) (hz : x * y = z) (hp : pc + 1 = pc') (K : own_G p e below s n0 kc ks Q T (mkF m pc' Ls (.int z :: st))) : own_G p e below s n0 kc ks Q T (mkF m pc Ls (.int y :: .int x :: st)) := by
  obtain ⟨_, X, -, -⟩ := S
  subst hp hz
  exact own_st (T' := T) (g' := mkF m _ Ls (.int _ :: st)) (fun t ht => XS.imul X.here A.1 rfl (hb A.2.1 hd) rfl  ht) K
theorem s_iand (pc' : Nat) {x y : Int32} {z : Int32} (A : own_A p l e R s m args below meth c Z own name bytes maxL ret) (S : own_S p l e R s m args below meth c n0 T h k n) (hd : decode bytes pc = .ok (.iand, 1)) (hz : x &&& y = z) (hp : pc + 1 = pc') (K : own_G p e below s n0 kc ks Q T (mkF m pc' Ls (.int z :: st))) : own_G p e below s n0 kc ks Q T (mkF m pc Ls (.int y :: .int x :: st)) := by
  obtain ⟨_, X, -, -⟩ := S
  subst hp hz
  exact own_st (T' := T) (g' := mkF m _ Ls (.int _ :: st)) (fun t ht => XS.iand X.here A.1 rfl (hb A.2.1 hd) rfl  ht) K
theorem s_ior (pc' : Nat) {x y : Int32} {z : Int32} (A : own_A p l e R s m args below meth c Z own name bytes maxL ret) (S : own_S p l e R s m args below meth c n0 T h k n) (hd : decode bytes pc = .ok (.ior, 1)) (hz : x ||| y = z) (hp : pc + 1 = pc') (K : own_G p e below s n0 kc ks Q T (mkF m pc' Ls (.int z :: st))) : own_G p e below s n0 kc ks Q T (mkF m pc Ls (.int y :: .int x :: st)) := by
  obtain ⟨_, X, -, -⟩ := S
  subst hp hz
  exact own_st (T' := T) (g' := mkF m _ Ls (.int _ :: st)) (fun t ht => XS.ior X.here A.1 rfl (hb A.2.1 hd) rfl  ht) K
theorem s_ixor (pc' : Nat) {x y : Int32} {z : Int32} (A : own_A p l e R s m args below meth c Z own name bytes maxL ret) (S : own_S p l e R s m args below meth c n0 T h k n) (hd : decode bytes pc = .ok (.ixor, 1)) (hz : x ^^^ y = z) (hp : pc + 1 = pc') (K : own_G p e below s n0 kc ks Q T (mkF m pc' Ls (.int z :: st))) : own_G p e below s n0 kc ks Q T (mkF m pc Ls (.int y :: .int x :: st)) := by
  obtain ⟨_, X, -, -⟩ := S
  subst hp hz
  exact own_st (T' := T) (g' := mkF m _ Ls (.int _ :: st)) (fun t ht => XS.ixor X.here A.1 rfl (hb A.2.1 hd) rfl  ht) K
theorem s_ishl (pc' : Nat) {x y : Int32} {z : Int32} (A : own_A p l e R s m args below meth c Z own name bytes maxL ret) (S : own_S p l e R s m args below meth c n0 T h k n) (hd : decode bytes pc = .ok (.ishl, 1)) (hz : x <<< (y &&& 31) = z) (hp : pc + 1 = pc') (K : own_G p e below s n0 kc ks Q T (mkF m pc' Ls (.int z :: st))) : own_G p e below s n0 kc ks Q T (mkF m pc Ls (.int y :: .int x :: st)) := by
  obtain ⟨_, X, -, -⟩ := S
  subst hp hz
  exact own_st (T' := T) (g' := mkF m _ Ls (.int _ :: st)) (fun t ht => XS.ishl X.here A.1 rfl (hb A.2.1 hd) rfl  ht) K
theorem s_ishr (pc' : Nat) {x y : Int32} {z : Int32} (A : own_A p l e R s m args below meth c Z own name bytes maxL ret) (S : own_S p l e R s m args below meth c n0 T h k n) (hd : decode bytes pc = .ok (.ishr, 1)) (hz : x >>> (y &&& 31) = z) (hp : pc + 1 = pc') (K : own_G p e below s n0 kc ks Q T (mkF m pc' Ls (.int z :: st))) : own_G p e below s n0 kc ks Q T (mkF m pc Ls (.int y :: .int x :: st)) := by
  obtain ⟨_, X, -, -⟩ := S
  subst hp hz
  exact own_st (T' := T) (g' := mkF m _ Ls (.int _ :: st)) (fun t ht => XS.ishr X.here A.1 rfl (hb A.2.1 hd) rfl  ht) K
theorem s_iushr (pc' : Nat) {x y : Int32} {z : Int32} (A : own_A p l e R s m args below meth c Z own name bytes maxL ret) (S : own_S p l e R s m args below meth c n0 T h k n) (hd : decode bytes pc = .ok (.iushr, 1)) (hz : own_ushr x y = z) (hp : pc + 1 = pc') (K : own_G p e below s n0 kc ks Q T (mkF m pc' Ls (.int z :: st))) : own_G p e below s n0 kc ks Q T (mkF m pc Ls (.int y :: .int x :: st)) := by
  obtain ⟨_, X, -, -⟩ := S
  subst hp hz
  exact own_st (T' := T) (g' := mkF m _ Ls (.int _ :: st)) (fun t ht => XS.iushr X.here A.1 rfl (hb A.2.1 hd) rfl  ht) K
theorem s_idiv (pc' : Nat) {x y : Int32} {z : Int32} (A : own_A p l e R s m args below meth c Z own name bytes maxL ret) (S : own_S p l e R s m args below meth c n0 T h k n) (hd : decode bytes pc = .ok (.idiv, 1)) (hy : y ≠ 0) (hz : x / y = z) (hp : pc + 1 = pc') (K : own_G p e below s n0 kc ks Q T (mkF m pc' Ls (.int z :: st))) : own_G p e below s n0 kc ks Q T (mkF m pc Ls (.int y :: .int x :: st)) := by
  obtain ⟨_, X, -, -⟩ := S
  subst hp hz
  exact own_st (T' := T) (g' := mkF m _ Ls (.int _ :: st)) (fun t ht => XS.idiv X.here A.1 rfl (hb A.2.1 hd) rfl hy ht) K
theorem s_irem (pc' : Nat) {x y : Int32} {z : Int32} (A : own_A p l e R s m args below meth c Z own name bytes maxL ret) (S : own_S p l e R s m args below meth c n0 T h k n) (hd : decode bytes pc = .ok (.irem, 1)) (hy : y ≠ 0) (hz : x % y = z) (hp : pc + 1 = pc') (K : own_G p e below s n0 kc ks Q T (mkF m pc' Ls (.int z :: st))) : own_G p e below s n0 kc ks Q T (mkF m pc Ls (.int y :: .int x :: st)) := by
  obtain ⟨_, X, -, -⟩ := S
  subst hp hz
  exact own_st (T' := T) (g' := mkF m _ Ls (.int _ :: st)) (fun t ht => iremM X A.1 rfl (hb A.2.1 hd) rfl hy ht) K
theorem s_ladd (pc' : Nat) {x y : Int64} {z : Int64} (A : own_A p l e R s m args below meth c Z own name bytes maxL ret) (S : own_S p l e R s m args below meth c n0 T h k n) (hd : decode bytes pc = .ok (.ladd, 1)) (hz : x + y = z) (hp : pc + 1 = pc') (K : own_G p e below s n0 kc ks Q T (mkF m pc' Ls (.long z :: st))) : own_G p e below s n0 kc ks Q T (mkF m pc Ls (.long y :: .long x :: st)) := by
  obtain ⟨_, X, -, -⟩ := S
  subst hp hz
  exact own_st (T' := T) (g' := mkF m _ Ls (.long _ :: st)) (fun t ht => XS.ladd X.here A.1 rfl (hb A.2.1 hd) rfl  ht) K
theorem s_lsub (pc' : Nat) {x y : Int64} {z : Int64} (A : own_A p l e R s m args below meth c Z own name bytes maxL ret) (S : own_S p l e R s m args below meth c n0 T h k n) (hd : decode bytes pc = .ok (.lsub, 1)) (hz : x - y = z) (hp : pc + 1 = pc') (K : own_G p e below s n0 kc ks Q T (mkF m pc' Ls (.long z :: st))) : own_G p e below s n0 kc ks Q T (mkF m pc Ls (.long y :: .long x :: st)) := by
  obtain ⟨_, X, -, -⟩ := S
  subst hp hz
  exact own_st (T' := T) (g' := mkF m _ Ls (.long _ :: st)) (fun t ht => XS.lsub X.here A.1 rfl (hb A.2.1 hd) rfl  ht) K
theorem s_lmul (pc' : Nat) {x y : Int64} {z : Int64} (A : own_A p l e R s m args below meth c Z own name bytes maxL ret) (S : own_S p l e R s m args below meth c n0 T h k n) (hd : decode bytes pc = .ok (.lmul, 1)) (hz : x * y = z) (hp : pc + 1 = pc') (K : own_G p e below s n0 kc ks Q T (mkF m pc' Ls (.long z :: st))) : own_G p e below s n0 kc ks Q T (mkF m pc Ls (.long y :: .long x :: st)) := by
  obtain ⟨_, X, -, -⟩ := S
  subst hp hz
  exact own_st (T' := T) (g' := mkF m _ Ls (.long _ :: st)) (fun t ht => XS.lmul X.here A.1 rfl (hb A.2.1 hd) rfl  ht) K
theorem s_land (pc' : Nat) {x y : Int64} {z : Int64} (A : own_A p l e R s m args below meth c Z own name bytes maxL ret) (S : own_S p l e R s m args below meth c n0 T h k n) (hd : decode bytes pc = .ok (.land, 1)) (hz : x &&& y = z) (hp : pc + 1 = pc') (K : own_G p e below s n0 kc ks Q T (mkF m pc' Ls (.long z :: st))) : own_G p e below s n0 kc ks Q T (mkF m pc Ls (.long y :: .long x :: st)) := by
  obtain ⟨_, X, -, -⟩ := S
  subst hp hz
  exact own_st (T' := T) (g' := mkF m _ Ls (.long _ :: st)) (fun t ht => XS.land X.here A.1 rfl (hb A.2.1 hd) rfl  ht) K
theorem s_lor (pc' : Nat) {x y : Int64} {z : Int64} (A : own_A p l e R s m args below meth c Z own name bytes maxL ret) (S : own_S p l e R s m args below meth c n0 T h k n) (hd : decode bytes pc = .ok (.lor, 1)) (hz : x ||| y = z) (hp : pc + 1 = pc') (K : own_G p e below s n0 kc ks Q T (mkF m pc' Ls (.long z :: st))) : own_G p e below s n0 kc ks Q T (mkF m pc Ls (.long y :: .long x :: st)) := by
  obtain ⟨_, X, -, -⟩ := S
  subst hp hz
  exact own_st (T' := T) (g' := mkF m _ Ls (.long _ :: st)) (fun t ht => XS.lor X.here A.1 rfl (hb A.2.1 hd) rfl  ht) K
theorem s_lxor (pc' : Nat) {x y : Int64} {z : Int64} (A : own_A p l e R s m args below meth c Z own name bytes maxL ret) (S : own_S p l e R s m args below meth c n0 T h k n) (hd : decode bytes pc = .ok (.lxor, 1)) (hz : x ^^^ y = z) (hp : pc + 1 = pc') (K : own_G p e below s n0 kc ks Q T (mkF m pc' Ls (.long z :: st))) : own_G p e below s n0 kc ks Q T (mkF m pc Ls (.long y :: .long x :: st)) := by
  obtain ⟨_, X, -, -⟩ := S
  subst hp hz
  exact own_st (T' := T) (g' := mkF m _ Ls (.long _ :: st)) (fun t ht => XS.lxor X.here A.1 rfl (hb A.2.1 hd) rfl  ht) K
theorem s_ldiv (pc' : Nat) {x y : Int64} {z : Int64} (A : own_A p l e R s m args below meth c Z own name bytes maxL ret) (S : own_S p l e R s m args below meth c n0 T h k n) (hd : decode bytes pc = .ok (.ldiv, 1)) (hy : y ≠ 0) (hz : x / y = z) (hp : pc + 1 = pc') (K : own_G p e below s n0 kc ks Q T (mkF m pc' Ls (.long z :: st))) : own_G p e below s n0 kc ks Q T (mkF m pc Ls (.long y :: .long x :: st)) := by
  obtain ⟨_, X, -, -⟩ := S
  subst hp hz
  exact own_st (T' := T) (g' := mkF m _ Ls (.long _ :: st)) (fun t ht => XS.ldiv X.here A.1 rfl (hb A.2.1 hd) rfl hy ht) K
theorem s_lrem (pc' : Nat) {x y : Int64} {z : Int64} (A : own_A p l e R s m args below meth c Z own name bytes maxL ret) (S : own_S p l e R s m args below meth c n0 T h k n) (hd : decode bytes pc = .ok (.lrem, 1)) (hy : y ≠ 0) (hz : x - (x / y) * y = z) (hp : pc + 1 = pc') (K : own_G p e below s n0 kc ks Q T (mkF m pc' Ls (.long z :: st))) : own_G p e below s n0 kc ks Q T (mkF m pc Ls (.long y :: .long x :: st)) := by
  obtain ⟨_, X, -, -⟩ := S
  subst hp hz
  exact own_st (T' := T) (g' := mkF m _ Ls (.long _ :: st)) (fun t ht => XS.lrem X.here A.1 rfl (hb A.2.1 hd) rfl hy ht) K
theorem s_lshl (pc' : Nat) {x : Int64} {y : Int32} {z : Int64} (A : own_A p l e R s m args below meth c Z own name bytes maxL ret) (S : own_S p l e R s m args below meth c n0 T h k n) (hd : decode bytes pc = .ok (.lshl, 1)) (hz : x <<< (y &&& 63).toInt64 = z) (hp : pc + 1 = pc') (K : own_G p e below s n0 kc ks Q T (mkF m pc' Ls (.long z :: st))) : own_G p e below s n0 kc ks Q T (mkF m pc Ls (.int y :: .long x :: st)) := by
  obtain ⟨_, X, -, -⟩ := S
  subst hp hz
  exact own_st (T' := T) (g' := mkF m _ Ls (.long _ :: st)) (fun t ht => XS.lshl X.here A.1 rfl (hb A.2.1 hd) rfl  ht) K
theorem s_lshr (pc' : Nat) {x : Int64} {y : Int32} {z : Int64} (A : own_A p l e R s m args below meth c Z own name bytes maxL ret) (S : own_S p l e R s m args below meth c n0 T h k n) (hd : decode bytes pc = .ok (.lshr, 1)) (hz : x >>> (y &&& 63).toInt64 = z) (hp : pc + 1 = pc') (K : own_G p e below s n0 kc ks Q T (mkF m pc' Ls (.long z :: st))) : own_G p e below s n0 kc ks Q T (mkF m pc Ls (.int y :: .long x :: st)) := by
  obtain ⟨_, X, -, -⟩ := S
  subst hp hz
  exact own_st (T' := T) (g' := mkF m _ Ls (.long _ :: st)) (fun t ht => XS.lshr X.here A.1 rfl (hb A.2.1 hd) rfl  ht) K
theorem s_lushr (pc' : Nat) {x : Int64} {y : Int32} {z : Int64} (A : own_A p l e R s m args below meth c Z own name bytes maxL ret) (S : own_S p l e R s m args below meth c n0 T h k n) (hd : decode bytes pc = .ok (.lushr, 1)) (hz : own_ushrL x y = z) (hp : pc + 1 = pc') (K : own_G p e below s n0 kc ks Q T (mkF m pc' Ls (.long z :: st))) : own_G p e below s n0 kc ks Q T (mkF m pc Ls (.int y :: .long x :: st)) := by
  obtain ⟨_, X, -, -⟩ := S
  subst hp hz
  exact own_st (T' := T) (g' := mkF m _ Ls (.long _ :: st)) (fun t ht => XS.lushr X.here A.1 rfl (hb A.2.1 hd) rfl  ht) K
theorem s_ineg (pc' : Nat) {x : Int32} {z : Int32} (A : own_A p l e R s m args below meth c Z own name bytes maxL ret) (S : own_S p l e R s m args below meth c n0 T h k n) (hd : decode bytes pc = .ok (.ineg, 1)) (hz : -x = z) (hp : pc + 1 = pc') (K : own_G p e below s n0 kc ks Q T (mkF m pc' Ls (.int z :: st))) : own_G p e below s n0 kc ks Q T (mkF m pc Ls (.int x :: st)) := by
  obtain ⟨_, X, -, -⟩ := S
  subst hp hz
  exact own_st (T' := T) (g' := mkF m _ Ls (.int _ :: st)) (fun t ht => XS.ineg X.here A.1 rfl (hb A.2.1 hd) rfl  ht) K
theorem s_lneg (pc' : Nat) {x : Int64} {z : Int64} (A : own_A p l e R s m args below meth c Z own name bytes maxL ret) (S : own_S p l e R s m args below meth c n0 T h k n) (hd : decode bytes pc = .ok (.lneg, 1)) (hz : -x = z) (hp : pc + 1 = pc') (K : own_G p e below s n0 kc ks Q T (mkF m pc' Ls (.long z :: st))) : own_G p e below s n0 kc ks Q T (mkF m pc Ls (.long x :: st)) := by
  obtain ⟨_, X, -, -⟩ := S
  subst hp hz
  exact own_st (T' := T) (g' := mkF m _ Ls (.long _ :: st)) (fun t ht => XS.lneg X.here A.1 rfl (hb A.2.1 hd) rfl  ht) K
theorem s_i2l (pc' : Nat) {x : Int32} {z : Int64} (A : own_A p l e R s m args below meth c Z own name bytes maxL ret) (S : own_S p l e R s m args below meth c n0 T h k n) (hd : decode bytes pc = .ok (.i2l, 1)) (hz : x.toInt64 = z) (hp : pc + 1 = pc') (K : own_G p e below s n0 kc ks Q T (mkF m pc' Ls (.long z :: st))) : own_G p e below s n0 kc ks Q T (mkF m pc Ls (.int x :: st)) := by
  obtain ⟨_, X, -, -⟩ := S
  subst hp hz
  exact own_st (T' := T) (g' := mkF m _ Ls (.long _ :: st)) (fun t ht => XS.i2l X.here A.1 rfl (hb A.2.1 hd) rfl  ht) K
theorem s_l2i (pc' : Nat) {x : Int64} {z : Int32} (A : own_A p l e R s m args below meth c Z own name bytes maxL ret) (S : own_S p l e R s m args below meth c n0 T h k n) (hd : decode bytes pc = .ok (.l2i, 1)) (hz : x.toInt32 = z) (hp : pc + 1 = pc') (K : own_G p e below s n0 kc ks Q T (mkF m pc' Ls (.int z :: st))) : own_G p e below s n0 kc ks Q T (mkF m pc Ls (.long x :: st)) := by
  obtain ⟨_, X, -, -⟩ := S
  subst hp hz
  exact own_st (T' := T) (g' := mkF m _ Ls (.int _ :: st)) (fun t ht => XS.l2i X.here A.1 rfl (hb A.2.1 hd) rfl  ht) K
theorem s_i2b (pc' : Nat) {x : Int32} {z : Int32} (A : own_A p l e R s m args below meth c Z own name bytes maxL ret) (S : own_S p l e R s m args below meth c n0 T h k n) (hd : decode bytes pc = .ok (.i2b, 1)) (hz : x.toInt8.toInt32 = z) (hp : pc + 1 = pc') (K : own_G p e below s n0 kc ks Q T (mkF m pc' Ls (.int z :: st))) : own_G p e below s n0 kc ks Q T (mkF m pc Ls (.int x :: st)) := by
  obtain ⟨_, X, -, -⟩ := S
  subst hp hz
  exact own_st (T' := T) (g' := mkF m _ Ls (.int _ :: st)) (fun t ht => XS.i2b X.here A.1 rfl (hb A.2.1 hd) rfl  ht) K
theorem s_i2c (pc' : Nat) {x : Int32} {z : Int32} (A : own_A p l e R s m args below meth c Z own name bytes maxL ret) (S : own_S p l e R s m args below meth c n0 T h k n) (hd : decode bytes pc = .ok (.i2c, 1)) (hz : x.toUInt32.toUInt16.toUInt32.toInt32 = z) (hp : pc + 1 = pc') (K : own_G p e below s n0 kc ks Q T (mkF m pc' Ls (.int z :: st))) : own_G p e below s n0 kc ks Q T (mkF m pc Ls (.int x :: st)) := by
  obtain ⟨_, X, -, -⟩ := S
  subst hp hz
  exact own_st (T' := T) (g' := mkF m _ Ls (.int _ :: st)) (fun t ht => XS.i2c X.here A.1 rfl (hb A.2.1 hd) rfl  ht) K
theorem s_i2s (pc' : Nat) {x : Int32} {z : Int32} (A : own_A p l e R s m args below meth c Z own name bytes maxL ret) (S : own_S p l e R s m args below meth c n0 T h k n) (hd : decode bytes pc = .ok (.i2s, 1)) (hz : x.toInt16.toInt32 = z) (hp : pc + 1 = pc') (K : own_G p e below s n0 kc ks Q T (mkF m pc' Ls (.int z :: st))) : own_G p e below s n0 kc ks Q T (mkF m pc Ls (.int x :: st)) := by
  obtain ⟨_, X, -, -⟩ := S
  subst hp hz
  exact own_st (T' := T) (g' := mkF m _ Ls (.int _ :: st)) (fun t ht => XS.i2s X.here A.1 rfl (hb A.2.1 hd) rfl  ht) K
theorem s_lcmp (pc' : Nat) {x y : Int64} {z : Int32} (A : own_A p l e R s m args below meth c Z own name bytes maxL ret) (S : own_S p l e R s m args below meth c n0 T h k n) (hd : decode bytes pc = .ok (.lcmp, 1)) (hz : lcmpW x y = z) (hp : pc + 1 = pc') (K : own_G p e below s n0 kc ks Q T (mkF m pc' Ls (.int z :: st))) : own_G p e below s n0 kc ks Q T (mkF m pc Ls (.long y :: .long x :: st)) := by
  obtain ⟨_, X, -, -⟩ := S
  subst hp hz
  exact own_st (T' := T) (g' := mkF m _ Ls (.int _ :: st)) (fun t ht => XS.lcmp X.here A.1 rfl (hb A.2.1 hd) rfl  ht) K
theorem s_dup (pc' : Nat) {v : Value} (A : own_A p l e R s m args below meth c Z own name bytes maxL ret) (S : own_S p l e R s m args below meth c n0 T h k n) (hd : decode bytes pc = .ok (.dup, 1)) (hv : v.category = 1) (hp : pc + 1 = pc') (K : own_G p e below s n0 kc ks Q T (mkF m pc' Ls (v :: v :: st))) : own_G p e below s n0 kc ks Q T (mkF m pc Ls (v :: st)) := by
  obtain ⟨_, X, -, -⟩ := S
  subst hp
  exact own_st (T' := T) (g' := mkF m _ Ls (v :: v :: st)) (fun t ht => XS.dup X.here A.1 rfl (hb A.2.1 hd) rfl hv ht) K
theorem s_dup2 (pc' : Nat) {v w : Value} (A : own_A p l e R s m args below meth c Z own name bytes maxL ret) (S : own_S p l e R s m args below meth c n0 T h k n) (hd : decode bytes pc = .ok (.dup2, 1)) (hv : v.category = 1) (hv' : w.category = 1) (hp : pc + 1 = pc') (K : own_G p e below s n0 kc ks Q T (mkF m pc' Ls (v :: w :: v :: w :: st))) : own_G p e below s n0 kc ks Q T (mkF m pc Ls (v :: w :: st)) := by
  obtain ⟨_, X, -, -⟩ := S
  subst hp
  exact own_st (T' := T) (g' := mkF m _ Ls (v :: w :: v :: w :: st)) (fun t ht => Jvm.Free.XT.dup2 X.here A.1 rfl (hb A.2.1 hd) rfl hv hv' ht) K
theorem s_dup2L (pc' : Nat) {v : Int64} (A : own_A p l e R s m args below meth c Z own name bytes maxL ret) (S : own_S p l e R s m args below meth c n0 T h k n) (hd : decode bytes pc = .ok (.dup2, 1)) (hp : pc + 1 = pc') (K : own_G p e below s n0 kc ks Q T (mkF m pc' Ls (.long v :: .long v :: st))) : own_G p e below s n0 kc ks Q T (mkF m pc Ls (.long v :: st)) := by
  obtain ⟨_, X, -, -⟩ := S
  subst hp
  exact own_st (T' := T) (g' := mkF m _ Ls (.long v :: .long v :: st)) (fun t ht => Jvm.Free.XT.dup2L X.here A.1 rfl (hb A.2.1 hd) rfl ht) K
theorem s_dupX1 (pc' : Nat) {v w : Value} (A : own_A p l e R s m args below meth c Z own name bytes maxL ret) (S : own_S p l e R s m args below meth c n0 T h k n) (hd : decode bytes pc = .ok (.dup_x1, 1)) (hv : v.category = 1) (hv' : w.category = 1) (hp : pc + 1 = pc') (K : own_G p e below s n0 kc ks Q T (mkF m pc' Ls (v :: w :: v :: st))) : own_G p e below s n0 kc ks Q T (mkF m pc Ls (v :: w :: st)) := by
  obtain ⟨_, X, -, -⟩ := S
  subst hp
  exact own_st (T' := T) (g' := mkF m _ Ls (v :: w :: v :: st)) (fun t ht => XS.dupX1 X.here A.1 rfl (hb A.2.1 hd) rfl hv hv' ht) K
theorem s_pop (pc' : Nat) {v : Value} (A : own_A p l e R s m args below meth c Z own name bytes maxL ret) (S : own_S p l e R s m args below meth c n0 T h k n) (hd : decode bytes pc = .ok (.pop, 1)) (hv : v.category = 1) (hp : pc + 1 = pc') (K : own_G p e below s n0 kc ks Q T (mkF m pc' Ls st)) : own_G p e below s n0 kc ks Q T (mkF m pc Ls (v :: st)) := by
  obtain ⟨_, X, -, -⟩ := S
  subst hp
  exact own_st (T' := T) (g' := mkF m _ Ls st) (fun t ht => XS.pop X.here A.1 rfl (hb A.2.1 hd) rfl hv ht) K
theorem s_iinc (pc' : Nat) {i : Nat} {cst : Int} {x z : Int32} (A : own_A p l e R s m args below meth c Z own name bytes maxL ret) (S : own_S p l e R s m args below meth c n0 T h k n) (hd : decode bytes pc = .ok (.iinc i cst, 3)) (hl : Ls[i]? = some (.val (.int x))) (hz : x + Int32.ofInt cst = z) (hl' : storeLocals Ls i (.int z) = some Ls') (hp : pc + 3 = pc') (K : own_G p e below s n0 kc ks Q T (mkF m pc' Ls' st)) : own_G p e below s n0 kc ks Q T (mkF m pc Ls st) := by
  obtain ⟨_, X, -, -⟩ := S
  subst hp hz
  exact own_st (T' := T) (g' := mkF m _ Ls' st) (fun t ht => XS.iinc X.here A.1 rfl (hb A.2.1 hd) hl hl' ht) K
theorem s_goto (pc' : Nat) {o : Int} (A : own_A p l e R s m args below meth c Z own name bytes maxL ret) (S : own_S p l e R s m args below meth c n0 T h k n) (hd : decode bytes pc = .ok (.goto o, 3)) (ho : 0 ≤ (pc : Int) + o) (hp : ((pc : Int) + o).toNat = pc') (K : own_G p e below s n0 kc ks Q T (mkF m pc' Ls st)) : own_G p e below s n0 kc ks Q T (mkF m pc Ls st) := by
  obtain ⟨_, X, -, -⟩ := S
  exact own_st (T' := T) (g' := mkF m pc' Ls st) (fun t ht => XS.goto X.here A.1 rfl (pc0 := pc) (pc' := pc') rfl (hb A.2.1 hd) ho hp ht) K
theorem s_icmp (pcY pcN : Nat) {cd : ClassFile.Cond} {o : Int} {x y : Int32} (A : own_A p l e R s m args below meth c Z own name bytes maxL ret) (S : own_S p l e R s m args below meth c n0 T h k n) (hd : decode bytes pc = .ok (.if_icmp cd o, 3)) (ho : 0 ≤ (pc : Int) + o) (hp : ((pc : Int) + o).toNat = pcY) (hn : pc + 3 = pcN) (KY : if_icmp.holds cd x y = true → own_G p e below s n0 kc ks Q T (mkF m pcY Ls st)) (KN : if_icmp.holds cd x y = false → own_G p e below s n0 kc ks Q T (mkF m pcN Ls st)) : own_G p e below s n0 kc ks Q T (mkF m pc Ls (.int y :: .int x :: st)) := by
  obtain ⟨_, X, -, -⟩ := S
  subst hn
  rcases Bool.eq_false_or_eq_true (if_icmp.holds cd x y) with hc | hc
  · exact own_st (T' := T) (g' := mkF m pcY Ls st) (fun t ht => XS.icmpYes X.here A.1 rfl (pc0 := pc) (pc' := pcY) rfl (hb A.2.1 hd) rfl hc ho hp ht) (KY hc)
  · exact own_st (T' := T) (g' := mkF m _ Ls st) (fun t ht => XS.icmpNo X.here A.1 rfl (hb A.2.1 hd) rfl hc ht) (KN hc)
theorem s_ifc (pcY pcN : Nat) {cd : ClassFile.Cond} {o : Int} {x : Int32} (A : own_A p l e R s m args below meth c Z own name bytes maxL ret) (S : own_S p l e R s m args below meth c n0 T h k n) (hd : decode bytes pc = .ok (.ifCond cd o, 3)) (ho : 0 ≤ (pc : Int) + o) (hp : ((pc : Int) + o).toNat = pcY) (hn : pc + 3 = pcN) (KY : ifCond.holds cd x = true → own_G p e below s n0 kc ks Q T (mkF m pcY Ls st)) (KN : ifCond.holds cd x = false → own_G p e below s n0 kc ks Q T (mkF m pcN Ls st)) : own_G p e below s n0 kc ks Q T (mkF m pc Ls (.int x :: st)) := by
  obtain ⟨_, X, -, -⟩ := S
  subst hn
  rcases Bool.eq_false_or_eq_true (ifCond.holds cd x) with hc | hc
  · exact own_st (T' := T) (g' := mkF m pcY Ls st) (fun t ht => XS.ifYes X.here A.1 rfl (pc0 := pc) (pc' := pcY) rfl (hb A.2.1 hd) rfl hc ho hp ht) (KY hc)
  · exact own_st (T' := T) (g' := mkF m _ Ls st) (fun t ht => XS.ifNo X.here A.1 rfl (hb A.2.1 hd) rfl hc ht) (KN hc)
theorem own_eqY {x y : Int32} : if_icmp.holds .eq x y = true → x = y := by simp [if_icmp.holds]
theorem own_eqN {x y : Int32} : if_icmp.holds .eq x y = false → ¬ x = y := by simp [if_icmp.holds]
theorem own_neY {x y : Int32} : if_icmp.holds .ne x y = true → ¬ x = y := by simp [if_icmp.holds]
theorem own_neN {x y : Int32} : if_icmp.holds .ne x y = false → x = y := by simp [if_icmp.holds]
theorem own_ltY {x y : Int32} : if_icmp.holds .lt x y = true → x.toInt < y.toInt := by simp [if_icmp.holds, Int32.lt_iff_toInt_lt]
theorem own_ltN {x y : Int32} : if_icmp.holds .lt x y = false → y.toInt ≤ x.toInt := by simp [if_icmp.holds, Int32.le_iff_toInt_le]
theorem own_geY {x y : Int32} : if_icmp.holds .ge x y = true → y.toInt ≤ x.toInt := by simp [if_icmp.holds, Int32.le_iff_toInt_le]
theorem own_geN {x y : Int32} : if_icmp.holds .ge x y = false → x.toInt < y.toInt := by simp [if_icmp.holds, Int32.lt_iff_toInt_lt]
theorem own_gtY {x y : Int32} : if_icmp.holds .gt x y = true → y.toInt < x.toInt := by simp [if_icmp.holds, Int32.lt_iff_toInt_lt]
theorem own_gtN {x y : Int32} : if_icmp.holds .gt x y = false → x.toInt ≤ y.toInt := by simp [if_icmp.holds, Int32.le_iff_toInt_le]
theorem own_leY {x y : Int32} : if_icmp.holds .le x y = true → x.toInt ≤ y.toInt := by simp [if_icmp.holds, Int32.le_iff_toInt_le]
theorem own_leN {x y : Int32} : if_icmp.holds .le x y = false → y.toInt < x.toInt := by simp [if_icmp.holds, Int32.lt_iff_toInt_lt]
theorem own_lcmp_lt (x y : Int64) : lcmpW x y < 0 ↔ x.toInt < y.toInt := by rw [lw_lt, Int64.lt_iff_toInt_lt]
theorem own_lcmp_gt (x y : Int64) : 0 < lcmpW x y ↔ y.toInt < x.toInt := by rw [lw_gt, Int64.lt_iff_toInt_lt]
theorem own_lcmp_eq (x y : Int64) : lcmpW x y = 0 ↔ x = y := by rw [lw_eq]
theorem s_ieq (pcY pcN : Nat) {o : Int} {x y : Int32} {xi yi : Int} (A : own_A p l e R s m args below meth c Z own name bytes maxL ret) (S : own_S p l e R s m args below meth c n0 T h k n) (hxi : x.toInt = xi) (hyi : y.toInt = yi) (hd : decode bytes pc = .ok (.if_icmp .eq o, 3)) (ho : 0 ≤ (pc : Int) + o) (hp : ((pc : Int) + o).toNat = pcY) (hn : pc + 3 = pcN) (KY : x = y → xi = yi → own_G p e below s n0 kc ks Q T (mkF m pcY Ls st)) (KN : ¬ x = y → xi ≠ yi → own_G p e below s n0 kc ks Q T (mkF m pcN Ls st)) : own_G p e below s n0 kc ks Q T (mkF m pc Ls (.int y :: .int x :: st)) :=
  s_icmp pcY pcN A S hd ho hp hn (fun q => by have q := own_eqY q; exact KY q (by subst hxi hyi; rw [q])) (fun q => by have q := own_eqN q; exact KN q (by subst hxi hyi; exact own_toInt q))
theorem s_ifeq (pcY pcN : Nat) {o : Int} {x : Int32} {xi : Int} (A : own_A p l e R s m args below meth c Z own name bytes maxL ret) (S : own_S p l e R s m args below meth c n0 T h k n) (hxi : x.toInt = xi) (hd : decode bytes pc = .ok (.ifCond .eq o, 3)) (ho : 0 ≤ (pc : Int) + o) (hp : ((pc : Int) + o).toNat = pcY) (hn : pc + 3 = pcN) (KY : x = 0 → xi = 0 → own_G p e below s n0 kc ks Q T (mkF m pcY Ls st)) (KN : ¬ x = 0 → xi ≠ 0 → own_G p e below s n0 kc ks Q T (mkF m pcN Ls st)) : own_G p e below s n0 kc ks Q T (mkF m pc Ls (.int x :: st)) :=
  s_ifc pcY pcN A S hd ho hp hn (fun q => by have q := own_eqY (y := 0) ((if0 _ _).symm.trans q); exact KY q (by subst hxi; rw [q]; rfl)) (fun q => by have q := own_eqN (y := 0) ((if0 _ _).symm.trans q); exact KN q (by subst hxi; exact own_toInt q))
theorem s_lifeq (pcY pcN pcM : Nat) {o : Int} {x y : Int64} {xi yi : Int} (A : own_A p l e R s m args below meth c Z own name bytes maxL ret) (S : own_S p l e R s m args below meth c n0 T h k n) (hxi : x.toInt = xi) (hyi : y.toInt = yi) (hd0 : decode bytes pc = .ok (.lcmp, 1)) (hm : pc + 1 = pcM) (hd : decode bytes pcM = .ok (.ifCond .eq o, 3)) (ho : 0 ≤ (pcM : Int) + o) (hp : ((pcM : Int) + o).toNat = pcY) (hn : pcM + 3 = pcN) (KY : x = y → xi = yi → own_G p e below s n0 kc ks Q T (mkF m pcY Ls st)) (KN : ¬ x = y → xi ≠ yi → own_G p e below s n0 kc ks Q T (mkF m pcN Ls st)) : own_G p e below s n0 kc ks Q T (mkF m pc Ls (.long y :: .long x :: st)) :=
  s_lcmp pcM A S hd0 rfl hm (s_ifeq pcY pcN A S rfl hd ho hp hn (fun q _ => by have q : x = y := (own_lcmp_eq x y).mp q; exact KY q (by subst hxi hyi; rw [q])) (fun q _ => by have q : ¬ x = y := fun w => q ((own_lcmp_eq x y).mpr w); exact KN q (by subst hxi hyi; exact own_toIntL q)))
theorem s_ine (pcY pcN : Nat) {o : Int} {x y : Int32} {xi yi : Int} (A : own_A p l e R s m args below meth c Z own name bytes maxL ret) (S : own_S p l e R s m args below meth c n0 T h k n) (hxi : x.toInt = xi) (hyi : y.toInt = yi) (hd : decode bytes pc = .ok (.if_icmp .ne o, 3)) (ho : 0 ≤ (pc : Int) + o) (hp : ((pc : Int) + o).toNat = pcY) (hn : pc + 3 = pcN) (KY : ¬ x = y → xi ≠ yi → own_G p e below s n0 kc ks Q T (mkF m pcY Ls st)) (KN : x = y → xi = yi → own_G p e below s n0 kc ks Q T (mkF m pcN Ls st)) : own_G p e below s n0 kc ks Q T (mkF m pc Ls (.int y :: .int x :: st)) :=
  s_icmp pcY pcN A S hd ho hp hn (fun q => by have q := own_neY q; exact KY q (by subst hxi hyi; exact own_toInt q)) (fun q => by have q := own_neN q; exact KN q (by subst hxi hyi; rw [q]))
theorem s_ifne (pcY pcN : Nat) {o : Int} {x : Int32} {xi : Int} (A : own_A p l e R s m args below meth c Z own name bytes maxL ret) (S : own_S p l e R s m args below meth c n0 T h k n) (hxi : x.toInt = xi) (hd : decode bytes pc = .ok (.ifCond .ne o, 3)) (ho : 0 ≤ (pc : Int) + o) (hp : ((pc : Int) + o).toNat = pcY) (hn : pc + 3 = pcN) (KY : ¬ x = 0 → xi ≠ 0 → own_G p e below s n0 kc ks Q T (mkF m pcY Ls st)) (KN : x = 0 → xi = 0 → own_G p e below s n0 kc ks Q T (mkF m pcN Ls st)) : own_G p e below s n0 kc ks Q T (mkF m pc Ls (.int x :: st)) :=
  s_ifc pcY pcN A S hd ho hp hn (fun q => by have q := own_neY (y := 0) ((if0 _ _).symm.trans q); exact KY q (by subst hxi; exact own_toInt q)) (fun q => by have q := own_neN (y := 0) ((if0 _ _).symm.trans q); exact KN q (by subst hxi; rw [q]; rfl))
theorem s_lifne (pcY pcN pcM : Nat) {o : Int} {x y : Int64} {xi yi : Int} (A : own_A p l e R s m args below meth c Z own name bytes maxL ret) (S : own_S p l e R s m args below meth c n0 T h k n) (hxi : x.toInt = xi) (hyi : y.toInt = yi) (hd0 : decode bytes pc = .ok (.lcmp, 1)) (hm : pc + 1 = pcM) (hd : decode bytes pcM = .ok (.ifCond .ne o, 3)) (ho : 0 ≤ (pcM : Int) + o) (hp : ((pcM : Int) + o).toNat = pcY) (hn : pcM + 3 = pcN) (KY : ¬ x = y → xi ≠ yi → own_G p e below s n0 kc ks Q T (mkF m pcY Ls st)) (KN : x = y → xi = yi → own_G p e below s n0 kc ks Q T (mkF m pcN Ls st)) : own_G p e below s n0 kc ks Q T (mkF m pc Ls (.long y :: .long x :: st)) :=
  s_lcmp pcM A S hd0 rfl hm (s_ifne pcY pcN A S rfl hd ho hp hn (fun q _ => by have q : ¬ x = y := fun w => q ((own_lcmp_eq x y).mpr w); exact KY q (by subst hxi hyi; exact own_toIntL q)) (fun q _ => by have q : x = y := (own_lcmp_eq x y).mp q; exact KN q (by subst hxi hyi; rw [q])))
theorem s_ilt (pcY pcN : Nat) {o : Int} {x y : Int32} {xi yi : Int} (A : own_A p l e R s m args below meth c Z own name bytes maxL ret) (S : own_S p l e R s m args below meth c n0 T h k n) (hxi : x.toInt = xi) (hyi : y.toInt = yi) (hd : decode bytes pc = .ok (.if_icmp .lt o, 3)) (ho : 0 ≤ (pc : Int) + o) (hp : ((pc : Int) + o).toNat = pcY) (hn : pc + 3 = pcN) (KY : xi < yi → own_G p e below s n0 kc ks Q T (mkF m pcY Ls st)) (KN : yi ≤ xi → own_G p e below s n0 kc ks Q T (mkF m pcN Ls st)) : own_G p e below s n0 kc ks Q T (mkF m pc Ls (.int y :: .int x :: st)) :=
  s_icmp pcY pcN A S hd ho hp hn (fun q => by have q := own_ltY q; exact KY (by subst hxi hyi; exact q)) (fun q => by have q := own_ltN q; exact KN (by subst hxi hyi; exact q))
theorem s_iflt (pcY pcN : Nat) {o : Int} {x : Int32} {xi : Int} (A : own_A p l e R s m args below meth c Z own name bytes maxL ret) (S : own_S p l e R s m args below meth c n0 T h k n) (hxi : x.toInt = xi) (hd : decode bytes pc = .ok (.ifCond .lt o, 3)) (ho : 0 ≤ (pc : Int) + o) (hp : ((pc : Int) + o).toNat = pcY) (hn : pc + 3 = pcN) (KY : xi < 0 → own_G p e below s n0 kc ks Q T (mkF m pcY Ls st)) (KN : 0 ≤ xi → own_G p e below s n0 kc ks Q T (mkF m pcN Ls st)) : own_G p e below s n0 kc ks Q T (mkF m pc Ls (.int x :: st)) :=
  s_ifc pcY pcN A S hd ho hp hn (fun q => by have q := own_ltY (y := 0) ((if0 _ _).symm.trans q); exact KY (by subst hxi; exact q)) (fun q => by have q := own_ltN (y := 0) ((if0 _ _).symm.trans q); exact KN (by subst hxi; exact q))
theorem s_liflt (pcY pcN pcM : Nat) {o : Int} {x y : Int64} {xi yi : Int} (A : own_A p l e R s m args below meth c Z own name bytes maxL ret) (S : own_S p l e R s m args below meth c n0 T h k n) (hxi : x.toInt = xi) (hyi : y.toInt = yi) (hd0 : decode bytes pc = .ok (.lcmp, 1)) (hm : pc + 1 = pcM) (hd : decode bytes pcM = .ok (.ifCond .lt o, 3)) (ho : 0 ≤ (pcM : Int) + o) (hp : ((pcM : Int) + o).toNat = pcY) (hn : pcM + 3 = pcN) (KY : xi < yi → own_G p e below s n0 kc ks Q T (mkF m pcY Ls st)) (KN : yi ≤ xi → own_G p e below s n0 kc ks Q T (mkF m pcN Ls st)) : own_G p e below s n0 kc ks Q T (mkF m pc Ls (.long y :: .long x :: st)) :=
  s_lcmp pcM A S hd0 rfl hm (s_iflt pcY pcN A S rfl hd ho hp hn (fun q => by have q : x.toInt < y.toInt := (own_lcmp_lt x y).mp (Int32.lt_iff_toInt_lt.mpr q); exact KY (by subst hxi hyi; exact q)) (fun q => by have q : y.toInt ≤ x.toInt := Int.not_lt.mp fun w => Int.not_lt.mpr q (Int32.lt_iff_toInt_lt.mp ((own_lcmp_lt x y).mpr w)); exact KN (by subst hxi hyi; exact q)))
theorem s_ige (pcY pcN : Nat) {o : Int} {x y : Int32} {xi yi : Int} (A : own_A p l e R s m args below meth c Z own name bytes maxL ret) (S : own_S p l e R s m args below meth c n0 T h k n) (hxi : x.toInt = xi) (hyi : y.toInt = yi) (hd : decode bytes pc = .ok (.if_icmp .ge o, 3)) (ho : 0 ≤ (pc : Int) + o) (hp : ((pc : Int) + o).toNat = pcY) (hn : pc + 3 = pcN) (KY : yi ≤ xi → own_G p e below s n0 kc ks Q T (mkF m pcY Ls st)) (KN : xi < yi → own_G p e below s n0 kc ks Q T (mkF m pcN Ls st)) : own_G p e below s n0 kc ks Q T (mkF m pc Ls (.int y :: .int x :: st)) :=
  s_icmp pcY pcN A S hd ho hp hn (fun q => by have q := own_geY q; exact KY (by subst hxi hyi; exact q)) (fun q => by have q := own_geN q; exact KN (by subst hxi hyi; exact q))
theorem s_ifge (pcY pcN : Nat) {o : Int} {x : Int32} {xi : Int} (A : own_A p l e R s m args below meth c Z own name bytes maxL ret) (S : own_S p l e R s m args below meth c n0 T h k n) (hxi : x.toInt = xi) (hd : decode bytes pc = .ok (.ifCond .ge o, 3)) (ho : 0 ≤ (pc : Int) + o) (hp : ((pc : Int) + o).toNat = pcY) (hn : pc + 3 = pcN) (KY : 0 ≤ xi → own_G p e below s n0 kc ks Q T (mkF m pcY Ls st)) (KN : xi < 0 → own_G p e below s n0 kc ks Q T (mkF m pcN Ls st)) : own_G p e below s n0 kc ks Q T (mkF m pc Ls (.int x :: st)) :=
  s_ifc pcY pcN A S hd ho hp hn (fun q => by have q := own_geY (y := 0) ((if0 _ _).symm.trans q); exact KY (by subst hxi; exact q)) (fun q => by have q := own_geN (y := 0) ((if0 _ _).symm.trans q); exact KN (by subst hxi; exact q))
theorem s_lifge (pcY pcN pcM : Nat) {o : Int} {x y : Int64} {xi yi : Int} (A : own_A p l e R s m args below meth c Z own name bytes maxL ret) (S : own_S p l e R s m args below meth c n0 T h k n) (hxi : x.toInt = xi) (hyi : y.toInt = yi) (hd0 : decode bytes pc = .ok (.lcmp, 1)) (hm : pc + 1 = pcM) (hd : decode bytes pcM = .ok (.ifCond .ge o, 3)) (ho : 0 ≤ (pcM : Int) + o) (hp : ((pcM : Int) + o).toNat = pcY) (hn : pcM + 3 = pcN) (KY : yi ≤ xi → own_G p e below s n0 kc ks Q T (mkF m pcY Ls st)) (KN : xi < yi → own_G p e below s n0 kc ks Q T (mkF m pcN Ls st)) : own_G p e below s n0 kc ks Q T (mkF m pc Ls (.long y :: .long x :: st)) :=
  s_lcmp pcM A S hd0 rfl hm (s_ifge pcY pcN A S rfl hd ho hp hn (fun q => by have q : y.toInt ≤ x.toInt := Int.not_lt.mp fun w => Int.not_lt.mpr q (Int32.lt_iff_toInt_lt.mp ((own_lcmp_lt x y).mpr w)); exact KY (by subst hxi hyi; exact q)) (fun q => by have q : x.toInt < y.toInt := (own_lcmp_lt x y).mp (Int32.lt_iff_toInt_lt.mpr q); exact KN (by subst hxi hyi; exact q)))
theorem s_igt (pcY pcN : Nat) {o : Int} {x y : Int32} {xi yi : Int} (A : own_A p l e R s m args below meth c Z own name bytes maxL ret) (S : own_S p l e R s m args below meth c n0 T h k n) (hxi : x.toInt = xi) (hyi : y.toInt = yi) (hd : decode bytes pc = .ok (.if_icmp .gt o, 3)) (ho : 0 ≤ (pc : Int) + o) (hp : ((pc : Int) + o).toNat = pcY) (hn : pc + 3 = pcN) (KY : yi < xi → own_G p e below s n0 kc ks Q T (mkF m pcY Ls st)) (KN : xi ≤ yi → own_G p e below s n0 kc ks Q T (mkF m pcN Ls st)) : own_G p e below s n0 kc ks Q T (mkF m pc Ls (.int y :: .int x :: st)) :=
  s_icmp pcY pcN A S hd ho hp hn (fun q => by have q := own_gtY q; exact KY (by subst hxi hyi; exact q)) (fun q => by have q := own_gtN q; exact KN (by subst hxi hyi; exact q))
theorem s_ifgt (pcY pcN : Nat) {o : Int} {x : Int32} {xi : Int} (A : own_A p l e R s m args below meth c Z own name bytes maxL ret) (S : own_S p l e R s m args below meth c n0 T h k n) (hxi : x.toInt = xi) (hd : decode bytes pc = .ok (.ifCond .gt o, 3)) (ho : 0 ≤ (pc : Int) + o) (hp : ((pc : Int) + o).toNat = pcY) (hn : pc + 3 = pcN) (KY : 0 < xi → own_G p e below s n0 kc ks Q T (mkF m pcY Ls st)) (KN : xi ≤ 0 → own_G p e below s n0 kc ks Q T (mkF m pcN Ls st)) : own_G p e below s n0 kc ks Q T (mkF m pc Ls (.int x :: st)) :=
  s_ifc pcY pcN A S hd ho hp hn (fun q => by have q := own_gtY (y := 0) ((if0 _ _).symm.trans q); exact KY (by subst hxi; exact q)) (fun q => by have q := own_gtN (y := 0) ((if0 _ _).symm.trans q); exact KN (by subst hxi; exact q))
theorem s_lifgt (pcY pcN pcM : Nat) {o : Int} {x y : Int64} {xi yi : Int} (A : own_A p l e R s m args below meth c Z own name bytes maxL ret) (S : own_S p l e R s m args below meth c n0 T h k n) (hxi : x.toInt = xi) (hyi : y.toInt = yi) (hd0 : decode bytes pc = .ok (.lcmp, 1)) (hm : pc + 1 = pcM) (hd : decode bytes pcM = .ok (.ifCond .gt o, 3)) (ho : 0 ≤ (pcM : Int) + o) (hp : ((pcM : Int) + o).toNat = pcY) (hn : pcM + 3 = pcN) (KY : yi < xi → own_G p e below s n0 kc ks Q T (mkF m pcY Ls st)) (KN : xi ≤ yi → own_G p e below s n0 kc ks Q T (mkF m pcN Ls st)) : own_G p e below s n0 kc ks Q T (mkF m pc Ls (.long y :: .long x :: st)) :=
  s_lcmp pcM A S hd0 rfl hm (s_ifgt pcY pcN A S rfl hd ho hp hn (fun q => by have q : y.toInt < x.toInt := (own_lcmp_gt x y).mp (Int32.lt_iff_toInt_lt.mpr q); exact KY (by subst hxi hyi; exact q)) (fun q => by have q : x.toInt ≤ y.toInt := Int.not_lt.mp fun w => Int.not_lt.mpr q (Int32.lt_iff_toInt_lt.mp ((own_lcmp_gt x y).mpr w)); exact KN (by subst hxi hyi; exact q)))
theorem s_ile (pcY pcN : Nat) {o : Int} {x y : Int32} {xi yi : Int} (A : own_A p l e R s m args below meth c Z own name bytes maxL ret) (S : own_S p l e R s m args below meth c n0 T h k n) (hxi : x.toInt = xi) (hyi : y.toInt = yi) (hd : decode bytes pc = .ok (.if_icmp .le o, 3)) (ho : 0 ≤ (pc : Int) + o) (hp : ((pc : Int) + o).toNat = pcY) (hn : pc + 3 = pcN) (KY : xi ≤ yi → own_G p e below s n0 kc ks Q T (mkF m pcY Ls st)) (KN : yi < xi → own_G p e below s n0 kc ks Q T (mkF m pcN Ls st)) : own_G p e below s n0 kc ks Q T (mkF m pc Ls (.int y :: .int x :: st)) :=
  s_icmp pcY pcN A S hd ho hp hn (fun q => by have q := own_leY q; exact KY (by subst hxi hyi; exact q)) (fun q => by have q := own_leN q; exact KN (by subst hxi hyi; exact q))
theorem s_ifle (pcY pcN : Nat) {o : Int} {x : Int32} {xi : Int} (A : own_A p l e R s m args below meth c Z own name bytes maxL ret) (S : own_S p l e R s m args below meth c n0 T h k n) (hxi : x.toInt = xi) (hd : decode bytes pc = .ok (.ifCond .le o, 3)) (ho : 0 ≤ (pc : Int) + o) (hp : ((pc : Int) + o).toNat = pcY) (hn : pc + 3 = pcN) (KY : xi ≤ 0 → own_G p e below s n0 kc ks Q T (mkF m pcY Ls st)) (KN : 0 < xi → own_G p e below s n0 kc ks Q T (mkF m pcN Ls st)) : own_G p e below s n0 kc ks Q T (mkF m pc Ls (.int x :: st)) :=
  s_ifc pcY pcN A S hd ho hp hn (fun q => by have q := own_leY (y := 0) ((if0 _ _).symm.trans q); exact KY (by subst hxi; exact q)) (fun q => by have q := own_leN (y := 0) ((if0 _ _).symm.trans q); exact KN (by subst hxi; exact q))
theorem s_lifle (pcY pcN pcM : Nat) {o : Int} {x y : Int64} {xi yi : Int} (A : own_A p l e R s m args below meth c Z own name bytes maxL ret) (S : own_S p l e R s m args below meth c n0 T h k n) (hxi : x.toInt = xi) (hyi : y.toInt = yi) (hd0 : decode bytes pc = .ok (.lcmp, 1)) (hm : pc + 1 = pcM) (hd : decode bytes pcM = .ok (.ifCond .le o, 3)) (ho : 0 ≤ (pcM : Int) + o) (hp : ((pcM : Int) + o).toNat = pcY) (hn : pcM + 3 = pcN) (KY : xi ≤ yi → own_G p e below s n0 kc ks Q T (mkF m pcY Ls st)) (KN : yi < xi → own_G p e below s n0 kc ks Q T (mkF m pcN Ls st)) : own_G p e below s n0 kc ks Q T (mkF m pc Ls (.long y :: .long x :: st)) :=
  s_lcmp pcM A S hd0 rfl hm (s_ifle pcY pcN A S rfl hd ho hp hn (fun q => by have q : x.toInt ≤ y.toInt := Int.not_lt.mp fun w => Int.not_lt.mpr q (Int32.lt_iff_toInt_lt.mp ((own_lcmp_gt x y).mpr w)); exact KY (by subst hxi hyi; exact q)) (fun q => by have q : y.toInt < x.toInt := (own_lcmp_gt x y).mp (Int32.lt_iff_toInt_lt.mpr q); exact KN (by subst hxi hyi; exact q)))
theorem s_aeq (pcY pcN : Nat) {o : Int} {v w : Value} (A : own_A p l e R s m args below meth c Z own name bytes maxL ret) (S : own_S p l e R s m args below meth c n0 T h k n) (hv : v.isRef = true) (hw' : w.isRef = true) (hd : decode bytes pc = .ok (.if_acmp .eq o, 3)) (ho : 0 ≤ (pc : Int) + o) (hp : ((pc : Int) + o).toNat = pcY) (hn : pc + 3 = pcN) (KY : v = w → own_G p e below s n0 kc ks Q T (mkF m pcY Ls st)) (KN : ¬ v = w → own_G p e below s n0 kc ks Q T (mkF m pcN Ls st)) : own_G p e below s n0 kc ks Q T (mkF m pc Ls (w :: v :: st)) := by
  obtain ⟨_, X, -, -⟩ := S
  subst hn
  by_cases q : v = w
  · exact own_st (T' := T) (g' := mkF m pcY Ls st) (fun t ht => RoadKit.acmp X A.1 rfl hv hw' (pc0 := pc) (same := true) rfl (hb A.2.1 hd) rfl (decide_eq_true q) ho hp.symm ht) (KY q)
  · exact own_st (T' := T) (g' := mkF m _ Ls st) (fun t ht => RoadKit.acmp X A.1 rfl hv hw' (pc0 := pc) (same := false) rfl (hb A.2.1 hd) rfl (decide_eq_false q) ho rfl ht) (KN q)
theorem s_ane (pcY pcN : Nat) {o : Int} {v w : Value} (A : own_A p l e R s m args below meth c Z own name bytes maxL ret) (S : own_S p l e R s m args below meth c n0 T h k n) (hv : v.isRef = true) (hw' : w.isRef = true) (hd : decode bytes pc = .ok (.if_acmp .ne o, 3)) (ho : 0 ≤ (pc : Int) + o) (hp : ((pc : Int) + o).toNat = pcY) (hn : pc + 3 = pcN) (KY : ¬ v = w → own_G p e below s n0 kc ks Q T (mkF m pcY Ls st)) (KN : v = w → own_G p e below s n0 kc ks Q T (mkF m pcN Ls st)) : own_G p e below s n0 kc ks Q T (mkF m pc Ls (w :: v :: st)) := by
  obtain ⟨_, X, -, -⟩ := S
  subst hn
  by_cases q : v = w
  · exact own_st (T' := T) (g' := mkF m _ Ls st) (fun t ht => RoadKit.acmp X A.1 rfl hv hw' (pc0 := pc) (same := true) rfl (hb A.2.1 hd) rfl (decide_eq_true q) ho rfl ht) (KN q)
  · exact own_st (T' := T) (g' := mkF m pcY Ls st) (fun t ht => RoadKit.acmp X A.1 rfl hv hw' (pc0 := pc) (same := false) rfl (hb A.2.1 hd) rfl (decide_eq_false q) ho hp.symm ht) (KY q)
theorem own_leave {v : Option Value} (A : own_A p l e R s m args below meth c Z own name bytes maxL ret) (S : own_S p l e R s m args below meth c n0 T h k n) (hv : meth.sig.returnType = none → v = none) (hk : k ≤ kc) (hn : n ≤ ks) (hq : Q v h)
    (go : ∀ (locs : List Loc) (X : Stand p l e R s m args below meth c T locs k n) (fs : List Frame), (∀ (f : JFrame) (acts : List Action), f.method = m → f.locked = none → f.entered = [] → (doReturn e (T.setTop f) acts v).1 = T.setFrames fs) → Steps p.tables e below (T.setTop g) (T.setFrames fs)) : own_G p e below s n0 kc ks Q T g := by
  obtain ⟨locs, X, hh, N⟩ := S
  obtain ⟨-, -, -, -, -, -, hlk, -⟩ := A
  obtain ⟨fs, hr, hrun, hended, hW, hsame⟩ := X.leave (v := v) hv hlk
  exact ⟨_, _, go locs X fs hr, hrun, hended, v, locs, rfl, ⟨by show Q v T.heap; rw [hh]; exact hq, N⟩, ⟨v, rfl⟩, hW, hsame.mono hk hn⟩
theorem s_ret (A : own_A p l e R s m args below meth c Z own name bytes maxL none) (S : own_S p l e R s m args below meth c n0 T h k n) (hd : decode bytes pc = .ok (.return_, 1)) (hk : k ≤ kc) (hn : n ≤ ks) (hq : Q none h) : own_G p e below s n0 kc ks Q T (mkF m pc Ls []) :=
  own_leave A S (fun _ => rfl) hk hn hq fun locs X fs hr => X.returnOut A.1 A.2.2.2.2.2.1 (hb A.2.1 hd) hr
theorem s_retV {w : Value} {t : FieldType} {i : Instr} (A : own_A p l e R s m args below meth c Z own name bytes maxL (some t)) (S : own_S p l e R s m args below meth c n0 T h k n) (hd : decode bytes pc = .ok (i, 1)) (hn' : narrow t w = w) (hi : (i = .ireturn ∧ (t = .int ∨ t = .boolean ∨ t = .byte ∨ t = .char ∨ t = .short) ∧ ∃ z, w = .int z) ∨ (i = .lreturn ∧ t = .long ∧ ∃ z, w = .long z) ∨ (i = .dreturn ∧ t = .double ∧ ∃ z, w = .double z) ∨ (i = .freturn ∧ t = .float ∧ ∃ z, w = .float z) ∨ (i = .areturn ∧ t.isReference = true ∧ w.isRef = true)) (hk : k ≤ kc) (hn : n ≤ ks) (hq : Q (some w) h) : own_G p e below s n0 kc ks Q T (mkF m pc Ls (w :: st)) :=
  own_leave A S (fun q => by rw [A.2.2.2.2.2.1] at q; cases q) hk hn hq fun locs X fs hr => retOut X A.1 A.2.2.2.2.2.1 hn' hi (hb A.2.1 hd) hr
theorem s_retI {z : Int32} (A : own_A p l e R s m args below meth c Z own name bytes maxL (some .int)) (S : own_S p l e R s m args below meth c n0 T h k n) (hd : decode bytes pc = .ok (.ireturn, 1)) (hk : k ≤ kc) (hn : n ≤ ks) (hq : Q (some (.int z)) h) : own_G p e below s n0 kc ks Q T (mkF m pc Ls (.int z :: st)) :=
  s_retV A S hd rfl (Or.inl ⟨rfl, Or.inl rfl, z, rfl⟩) hk hn hq
theorem s_retZ {z : Int32} (A : own_A p l e R s m args below meth c Z own name bytes maxL (some .boolean)) (S : own_S p l e R s m args below meth c n0 T h k n) (hd : decode bytes pc = .ok (.ireturn, 1)) (hz : narrow .boolean (.int z) = .int z) (hk : k ≤ kc) (hn : n ≤ ks) (hq : Q (some (.int z)) h) : own_G p e below s n0 kc ks Q T (mkF m pc Ls (.int z :: st)) :=
  s_retV A S hd hz (Or.inl ⟨rfl, Or.inr (Or.inl rfl), z, rfl⟩) hk hn hq
theorem s_retJ {z : Int64} (A : own_A p l e R s m args below meth c Z own name bytes maxL (some .long)) (S : own_S p l e R s m args below meth c n0 T h k n) (hd : decode bytes pc = .ok (.lreturn, 1)) (hk : k ≤ kc) (hn : n ≤ ks) (hq : Q (some (.long z)) h) : own_G p e below s n0 kc ks Q T (mkF m pc Ls (.long z :: st)) :=
  s_retV A S hd rfl (Or.inr (Or.inl ⟨rfl, rfl, z, rfl⟩)) hk hn hq
theorem s_retA {w : Value} {t : FieldType} (A : own_A p l e R s m args below meth c Z own name bytes maxL (some t)) (S : own_S p l e R s m args below meth c n0 T h k n) (hd : decode bytes pc = .ok (.areturn, 1)) (ht : t.isReference = true) (hn' : narrow t w = w) (hw' : w.isRef = true) (hk : k ≤ kc) (hn : n ≤ ks) (hq : Q (some w) h) : own_G p e below s n0 kc ks Q T (mkF m pc Ls (w :: st)) :=
  s_retV A S hd hn' (Or.inr (Or.inr (Or.inr (Or.inr ⟨rfl, ht, hw'⟩)))) hk hn hq
theorem s_callS (pc' : Nat) {y : MethodName} {index : Nat} {bytes' : ByteArray} {maxL' : Nat} {ret' : Option FieldType} {rm : Room} {argsL rest stk : List Value} {Q' : Option Value → Heap → Prop}
    (A : own_A p l e R s m args below meth c Z own name bytes maxL ret) (S : own_S p l e R s m args below meth c n0 T h k n)
    (w1 : (Jvm.Cond.methodLink own index y).before a0 Z = true) (w2 : (Jvm.Cond.static y).before a0 Z = true) (w3 : (Jvm.Cond.initialized y.cls).before a0 Z = true) (w4 : (Jvm.Cond.code y bytes' maxL' ret').before a0 Z = true)
    (C : own_C l Z y bytes' maxL' ret' rm n0 [] argsL.toArray h Q') (hlen : ∀ sig, parseMethodDescriptor y.desc = some sig → argsL.length = sig.parameters.length)
    (hd : decode bytes pc = .ok (.invokestatic index, 3)) (hst : stk = argsL.reverse ++ rest) (hp : pc + 3 = pc') (hsize : Ls.size = maxL) (hy : y.cls ≠ "java/lang/invoke/MethodHandle" ∧ y.cls ≠ "java/lang/invoke/VarHandle")
    (hf : rm.frames + 1 ≤ R.frames) (hl : (rest.map fun v => v.category).sum + (maxL' + 11) + rm.locals ≤ R.locals) (hc : k + rm.cells ≤ R.cells) (hs : n + rm.slots ≤ R.slots)
    (K : ∀ (T' : State) (h' : Heap) (v : Option Value), Q' v h' → own_S p l e R s m args below meth c n0 T' h' (k + rm.cells) (n + rm.slots) → own_G p e below s n0 kc ks Q T' (mkF m pc' Ls (v.toList ++ rest))) : own_G p e below s n0 kc ks Q T (mkF m pc Ls stk) := by
  obtain ⟨locs, X, eT, N⟩ := S
  obtain ⟨hx, hby, hml, hown, -, -, -, hZ⟩ := A
  subst hp
  obtain ⟨v, _, ⟨T1, L1, k1, n1⟩, -, X1, ⟨Lc, hQ1, l1, y1, z1⟩, st1⟩ := Jvm.LawKit.callS X hx (y := y) hown (mvT hZ w1) (mvT hZ w2) (mvT hZ w3) (mvT hZ w4) hy (backOf (W := (rest.map fun v => v.category).sum) (Q := fun v h L => Q' v h ∧ Fr n0 L) C hZ w4 w3 hf hl) (g := mkF m pc Ls stk) rfl (by rw [hml]; exact hsize) (argsL := argsL) (rest := rest) hlen hst (by show 2 * 0 + _ ≤ _; omega) (hb hby hd) (fun _ _ => ⟨rfl, eT, hc, hs⟩)
  dsimp only [Pt.U, Pt.locs, Pt.cells, Pt.slots] at X1 l1 y1 z1 st1 hQ1
  subst l1 y1 z1
  exact own_st (T' := T1) (g' := mkF m _ Ls (v.toList ++ rest)) st1 (K T1 T1.heap v hQ1.1 ⟨_, X1, rfl, Fr.app N hQ1.2⟩)
theorem s_callV (pc' : Nat) {y : MethodName} {index : Nat} {bytes' : ByteArray} {maxL' : Nat} {ret' : Option FieldType} {rm : Room} {argsL rest stk : List Value} {w : Value}
    (A : own_A p l e R s m args below meth c Z own name bytes maxL ret) (S : own_S p l e R s m args below meth c n0 T h k n)
    (w1 : (Jvm.Cond.methodLink own index y).before a0 Z = true) (w2 : (Jvm.Cond.static y).before a0 Z = true) (w3 : (Jvm.Cond.initialized y.cls).before a0 Z = true) (w4 : (Jvm.Cond.code y bytes' maxL' ret').before a0 Z = true)
    (C : own_C l Z y bytes' maxL' ret' rm n0 [] argsL.toArray h (fun v h' => v = some w ∧ h' = h)) (hlen : ∀ sig, parseMethodDescriptor y.desc = some sig → argsL.length = sig.parameters.length)
    (hd : decode bytes pc = .ok (.invokestatic index, 3)) (hst : stk = argsL.reverse ++ rest) (hp : pc + 3 = pc') (hsize : Ls.size = maxL) (hy : y.cls ≠ "java/lang/invoke/MethodHandle" ∧ y.cls ≠ "java/lang/invoke/VarHandle")
    (hf : rm.frames + 1 ≤ R.frames) (hl : (rest.map fun v => v.category).sum + (maxL' + 11) + rm.locals ≤ R.locals) (hc : k + rm.cells ≤ R.cells) (hs : n + rm.slots ≤ R.slots)
    (K : ∀ (T' : State), own_S p l e R s m args below meth c n0 T' h (k + rm.cells) (n + rm.slots) → own_G p e below s n0 kc ks Q T' (mkF m pc' Ls (w :: rest))) : own_G p e below s n0 kc ks Q T (mkF m pc Ls stk) :=
  s_callS pc' A S w1 w2 w3 w4 C hlen hd hst hp hsize hy hf hl hc hs (fun T' h' v q S' => by obtain ⟨rfl, rfl⟩ := q; exact K T' S')
theorem s_callN (pc' : Nat) {y : MethodName} {index : Nat} {bytes' : ByteArray} {maxL' : Nat} {ret' : Option FieldType} {rm : Room} {argsL rest stk : List Value}
    (A : own_A p l e R s m args below meth c Z own name bytes maxL ret) (S : own_S p l e R s m args below meth c n0 T h k n)
    (w1 : (Jvm.Cond.methodLink own index y).before a0 Z = true) (w2 : (Jvm.Cond.static y).before a0 Z = true) (w3 : (Jvm.Cond.initialized y.cls).before a0 Z = true) (w4 : (Jvm.Cond.code y bytes' maxL' ret').before a0 Z = true)
    (C : own_C l Z y bytes' maxL' ret' rm n0 [] argsL.toArray h (fun v h' => v = none ∧ h' = h)) (hlen : ∀ sig, parseMethodDescriptor y.desc = some sig → argsL.length = sig.parameters.length)
    (hd : decode bytes pc = .ok (.invokestatic index, 3)) (hst : stk = argsL.reverse ++ rest) (hp : pc + 3 = pc') (hsize : Ls.size = maxL) (hy : y.cls ≠ "java/lang/invoke/MethodHandle" ∧ y.cls ≠ "java/lang/invoke/VarHandle")
    (hf : rm.frames + 1 ≤ R.frames) (hl : (rest.map fun v => v.category).sum + (maxL' + 11) + rm.locals ≤ R.locals) (hc : k + rm.cells ≤ R.cells) (hs : n + rm.slots ≤ R.slots)
    (K : ∀ (T' : State), own_S p l e R s m args below meth c n0 T' h (k + rm.cells) (n + rm.slots) → own_G p e below s n0 kc ks Q T' (mkF m pc' Ls rest)) : own_G p e below s n0 kc ks Q T (mkF m pc Ls stk) :=
  s_callS pc' A S w1 w2 w3 w4 C hlen hd hst hp hsize hy hf hl hc hs (fun T' h' v q S' => by obtain ⟨rfl, rfl⟩ := q; exact K T' S')
theorem s_virt (pc' : Nat) {y z : MethodName} {CC : String} {index : Nat} {bytes' : ByteArray} {maxL' : Nat} {ret' : Option FieldType} {rm : Room} {argsL rest stk : List Value} {b : Addr} {Q' : Option Value → Heap → Prop}
    (A : own_A p l e R s m args below meth c Z own name bytes maxL ret) (S : own_S p l e R s m args below meth c n0 T h k n) (E : Exa Z h b CC)
    (w1 : (Jvm.Cond.methodLink own index y).before a0 Z = true) (w2 : (Jvm.Cond.declares y).before a0 Z = true) (nf : NotFace s y) (w5 : (Jvm.Cond.selects CC y z).before a0 Z = true) (w6 : (Jvm.Cond.instanceMethod z).before a0 Z = true) (w3 : (Jvm.Cond.initialized z.cls).before a0 Z = true) (w4 : (Jvm.Cond.code z bytes' maxL' ret').before a0 Z = true)
    (C : own_C l Z z bytes' maxL' ret' rm n0 [] (Value.ref b :: argsL).toArray h Q') (hlen : ∀ sig, parseMethodDescriptor y.desc = some sig → argsL.length = sig.parameters.length)
    (hd : decode bytes pc = .ok (.invokevirtual index, 3)) (hst : stk = argsL.reverse ++ Value.ref b :: rest) (hp : pc + 3 = pc') (hsize : Ls.size = maxL) (hy : y.cls ≠ "java/lang/invoke/MethodHandle" ∧ y.cls ≠ "java/lang/invoke/VarHandle")
    (hf : rm.frames + 1 ≤ R.frames) (hl : (rest.map fun v => v.category).sum + (maxL' + 11) + rm.locals ≤ R.locals) (hc : k + rm.cells ≤ R.cells) (hs : n + rm.slots ≤ R.slots)
    (K : ∀ (T' : State) (h' : Heap) (v : Option Value), Q' v h' → own_S p l e R s m args below meth c n0 T' h' (k + rm.cells) (n + rm.slots) → own_G p e below s n0 kc ks Q T' (mkF m pc' Ls (v.toList ++ rest))) : own_G p e below s n0 kc ks Q T (mkF m pc Ls stk) := by
  obtain ⟨locs, X, eT, N⟩ := S
  obtain ⟨hx, hby, hml, hown, -, -, -, hZ⟩ := A
  subst hp
  obtain ⟨cq, kq, qa, qb, qc⟩ := isOf hZ eT E
  obtain ⟨v, _, ⟨T1, L1, k1, n1⟩, -, X1, ⟨Lc, hQ1, l1, y1, z1⟩, st1⟩ := X.virtualBack hx (y := y) (z := z) hown (mvT hZ w1) (mvT hZ w2) nf (mvT hZ w5) (mvT hZ w6) hy (backOf (W := (rest.map fun v => v.category).sum) (Q := fun v h L => Q' v h ∧ Fr n0 L) C hZ w4 w3 hf hl) qa qc (g := mkF m pc Ls stk) rfl (by rw [hml]; exact hsize) (Steps.refl _) (argsL := argsL) (rest := rest) hlen hst (by show 2 * 0 + _ ≤ _; omega) (hb hby hd) (fun _ _ => ⟨rfl, eT, hc, hs⟩)
  dsimp only [Pt.U, Pt.locs, Pt.cells, Pt.slots] at X1 l1 y1 z1 st1 hQ1
  subst l1 y1 z1
  exact own_st (T' := T1) (g' := mkF m _ Ls (v.toList ++ rest)) (fun t => st1.trans) (K T1 T1.heap v hQ1.1 ⟨_, X1, rfl, Fr.app N hQ1.2⟩)
theorem s_virtV (pc' : Nat) {y z : MethodName} {CC : String} {index : Nat} {bytes' : ByteArray} {maxL' : Nat} {ret' : Option FieldType} {rm : Room} {argsL rest stk : List Value} {b : Addr} {w : Value}
    (A : own_A p l e R s m args below meth c Z own name bytes maxL ret) (S : own_S p l e R s m args below meth c n0 T h k n) (E : Exa Z h b CC)
    (w1 : (Jvm.Cond.methodLink own index y).before a0 Z = true) (w2 : (Jvm.Cond.declares y).before a0 Z = true) (nf : NotFace s y) (w5 : (Jvm.Cond.selects CC y z).before a0 Z = true) (w6 : (Jvm.Cond.instanceMethod z).before a0 Z = true) (w3 : (Jvm.Cond.initialized z.cls).before a0 Z = true) (w4 : (Jvm.Cond.code z bytes' maxL' ret').before a0 Z = true)
    (C : own_C l Z z bytes' maxL' ret' rm n0 [] (Value.ref b :: argsL).toArray h (fun v h' => v = some w ∧ h' = h)) (hlen : ∀ sig, parseMethodDescriptor y.desc = some sig → argsL.length = sig.parameters.length)
    (hd : decode bytes pc = .ok (.invokevirtual index, 3)) (hst : stk = argsL.reverse ++ Value.ref b :: rest) (hp : pc + 3 = pc') (hsize : Ls.size = maxL) (hy : y.cls ≠ "java/lang/invoke/MethodHandle" ∧ y.cls ≠ "java/lang/invoke/VarHandle")
    (hf : rm.frames + 1 ≤ R.frames) (hl : (rest.map fun v => v.category).sum + (maxL' + 11) + rm.locals ≤ R.locals) (hc : k + rm.cells ≤ R.cells) (hs : n + rm.slots ≤ R.slots)
    (K : ∀ (T' : State), own_S p l e R s m args below meth c n0 T' h (k + rm.cells) (n + rm.slots) → own_G p e below s n0 kc ks Q T' (mkF m pc' Ls (w :: rest))) : own_G p e below s n0 kc ks Q T (mkF m pc Ls stk) :=
  s_virt pc' A S E w1 w2 nf w5 w6 w3 w4 C hlen hd hst hp hsize hy hf hl hc hs (fun T' h' v q S' => by obtain ⟨rfl, rfl⟩ := q; exact K T' S')
theorem s_virtN (pc' : Nat) {y z : MethodName} {CC : String} {index : Nat} {bytes' : ByteArray} {maxL' : Nat} {ret' : Option FieldType} {rm : Room} {argsL rest stk : List Value} {b : Addr}
    (A : own_A p l e R s m args below meth c Z own name bytes maxL ret) (S : own_S p l e R s m args below meth c n0 T h k n) (E : Exa Z h b CC)
    (w1 : (Jvm.Cond.methodLink own index y).before a0 Z = true) (w2 : (Jvm.Cond.declares y).before a0 Z = true) (nf : NotFace s y) (w5 : (Jvm.Cond.selects CC y z).before a0 Z = true) (w6 : (Jvm.Cond.instanceMethod z).before a0 Z = true) (w3 : (Jvm.Cond.initialized z.cls).before a0 Z = true) (w4 : (Jvm.Cond.code z bytes' maxL' ret').before a0 Z = true)
    (C : own_C l Z z bytes' maxL' ret' rm n0 [] (Value.ref b :: argsL).toArray h (fun v h' => v = none ∧ h' = h)) (hlen : ∀ sig, parseMethodDescriptor y.desc = some sig → argsL.length = sig.parameters.length)
    (hd : decode bytes pc = .ok (.invokevirtual index, 3)) (hst : stk = argsL.reverse ++ Value.ref b :: rest) (hp : pc + 3 = pc') (hsize : Ls.size = maxL) (hy : y.cls ≠ "java/lang/invoke/MethodHandle" ∧ y.cls ≠ "java/lang/invoke/VarHandle")
    (hf : rm.frames + 1 ≤ R.frames) (hl : (rest.map fun v => v.category).sum + (maxL' + 11) + rm.locals ≤ R.locals) (hc : k + rm.cells ≤ R.cells) (hs : n + rm.slots ≤ R.slots)
    (K : ∀ (T' : State), own_S p l e R s m args below meth c n0 T' h (k + rm.cells) (n + rm.slots) → own_G p e below s n0 kc ks Q T' (mkF m pc' Ls rest)) : own_G p e below s n0 kc ks Q T (mkF m pc Ls stk) :=
  s_virt pc' A S E w1 w2 nf w5 w6 w3 w4 C hlen hd hst hp hsize hy hf hl hc hs (fun T' h' v q S' => by obtain ⟨rfl, rfl⟩ := q; exact K T' S')
theorem s_spec (pc' : Nat) {y : MethodName} {index : Nat} {bytes' : ByteArray} {maxL' : Nat} {rm : Room} {argsL rest stk : List Value} {b : Addr} {Q' : Option Value → Heap → Prop}
    (A : own_A p l e R s m args below meth c Z own name bytes maxL ret) (S : own_S p l e R s m args below meth c n0 T h k n)
    (w1 : (Jvm.Cond.methodLink own index y).before a0 Z = true) (w2 : (Jvm.Cond.instanceMethod y).before a0 Z = true) (w3 : (Jvm.Cond.initialized y.cls).before a0 Z = true) (w4 : (Jvm.Cond.code y bytes' maxL' none).before a0 Z = true)
    (C : own_C l Z y bytes' maxL' none rm n0 [] (Value.ref b :: argsL).toArray h Q') (hlen : ∀ sig, parseMethodDescriptor y.desc = some sig → argsL.length = sig.parameters.length)
    (hd : decode bytes pc = .ok (.invokespecial index, 3)) (hst : stk = argsL.reverse ++ Value.ref b :: rest) (hp : pc + 3 = pc') (hsize : Ls.size = maxL) (hy1 : y.name = "<init>") (hy : y.cls ≠ "java/lang/invoke/MethodHandle" ∧ y.cls ≠ "java/lang/invoke/VarHandle")
    (hf : rm.frames + 1 ≤ R.frames) (hl : (rest.map fun v => v.category).sum + (maxL' + 11) + rm.locals ≤ R.locals) (hc : k + rm.cells ≤ R.cells) (hs : n + rm.slots ≤ R.slots)
    (K : ∀ (T' : State) (h' : Heap) (v : Option Value), Q' v h' → own_S p l e R s m args below meth c n0 T' h' (k + rm.cells) (n + rm.slots) → own_G p e below s n0 kc ks Q T' (mkF m pc' Ls (v.toList ++ rest))) : own_G p e below s n0 kc ks Q T (mkF m pc Ls stk) := by
  obtain ⟨locs, X, eT, N⟩ := S
  obtain ⟨hx, hby, hml, hown, -, -, -, hZ⟩ := A
  subst hp
  obtain ⟨v, _, ⟨T1, L1, k1, n1⟩, -, X1, ⟨Lc, hQ1, l1, y1, z1⟩, st1⟩ := X.specialBack hx (y := y) hy1 hown (mvT hZ w1) (mvT hZ w2) (mvT hZ w4) hy (backOf (W := (rest.map fun v => v.category).sum) (Q := fun v h L => Q' v h ∧ Fr n0 L) C hZ w4 w3 hf hl) (g := mkF m pc Ls stk) rfl (by rw [hml]; exact hsize) (Steps.refl _) (a := b) (argsL := argsL) (rest := rest) hlen hst (by show 2 * 0 + _ ≤ _; omega) (hb hby hd) (fun _ _ => ⟨rfl, eT, hc, hs⟩)
  dsimp only [Pt.U, Pt.locs, Pt.cells, Pt.slots] at X1 l1 y1 z1 st1 hQ1
  subst l1 y1 z1
  exact own_st (T' := T1) (g' := mkF m _ Ls (v.toList ++ rest)) (fun t => st1.trans) (K T1 T1.heap v hQ1.1 ⟨_, X1, rfl, Fr.app N hQ1.2⟩)
theorem s_specN (pc' : Nat) {y : MethodName} {index : Nat} {bytes' : ByteArray} {maxL' : Nat} {rm : Room} {argsL rest stk : List Value} {b : Addr}
    (A : own_A p l e R s m args below meth c Z own name bytes maxL ret) (S : own_S p l e R s m args below meth c n0 T h k n)
    (w1 : (Jvm.Cond.methodLink own index y).before a0 Z = true) (w2 : (Jvm.Cond.instanceMethod y).before a0 Z = true) (w3 : (Jvm.Cond.initialized y.cls).before a0 Z = true) (w4 : (Jvm.Cond.code y bytes' maxL' none).before a0 Z = true)
    (C : own_C l Z y bytes' maxL' none rm n0 [] (Value.ref b :: argsL).toArray h (fun v h' => v = none ∧ h' = h)) (hlen : ∀ sig, parseMethodDescriptor y.desc = some sig → argsL.length = sig.parameters.length)
    (hd : decode bytes pc = .ok (.invokespecial index, 3)) (hst : stk = argsL.reverse ++ Value.ref b :: rest) (hp : pc + 3 = pc') (hsize : Ls.size = maxL) (hy1 : y.name = "<init>") (hy : y.cls ≠ "java/lang/invoke/MethodHandle" ∧ y.cls ≠ "java/lang/invoke/VarHandle")
    (hf : rm.frames + 1 ≤ R.frames) (hl : (rest.map fun v => v.category).sum + (maxL' + 11) + rm.locals ≤ R.locals) (hc : k + rm.cells ≤ R.cells) (hs : n + rm.slots ≤ R.slots)
    (K : ∀ (T' : State), own_S p l e R s m args below meth c n0 T' h (k + rm.cells) (n + rm.slots) → own_G p e below s n0 kc ks Q T' (mkF m pc' Ls rest)) : own_G p e below s n0 kc ks Q T (mkF m pc Ls stk) :=
  s_spec pc' A S w1 w2 w3 w4 C hlen hd hst hp hsize hy1 hy hf hl hc hs (fun T' h' v q S' => by obtain ⟨rfl, rfl⟩ := q; exact K T' S')
theorem s_getS (pc' : Nat) {O nm dd : String} {index : Nat} {v : Value} (A : own_A p l e R s m args below meth c Z own name bytes maxL ret) (S : own_S p l e R s m args below meth c n0 T h k n)
    (w : (Jvm.Cond.fieldLink own index O nm dd).before a0 Z = true) (F : Sta Z h O nm dd v) (hd : decode bytes pc = .ok (.getstatic index, 3)) (hp : pc + 3 = pc')
    (K : ∀ T', own_S p l e R s m args below meth c n0 T' h k n → own_G p e below s n0 kc ks Q T' (mkF m pc' Ls (v :: st))) : own_G p e below s n0 kc ks Q T (mkF m pc Ls st) := by
  obtain ⟨locs, X, eT, N⟩ := S
  obtain ⟨hx, hby, hml, hown, -, -, -, hZ⟩ := A
  subst hp
  obtain ⟨T1, X1, e1, st1⟩ := getS (host := "") X hx hZ hown w Via.refl eT F (g := mkF m pc Ls st) rfl (hb hby hd)
  exact own_st (T' := T1) (g' := mkF m _ Ls (v :: st)) st1 (K T1 ⟨_, X1, e1, N⟩)
theorem s_getF (pc' : Nat) {O nm dd : String} {index : Nat} {v : Value} {a : Addr} (A : own_A p l e R s m args below meth c Z own name bytes maxL ret) (S : own_S p l e R s m args below meth c n0 T h k n)
    (w : (Jvm.Cond.fieldLink own index O nm dd).before a0 Z = true) (F : Fld Z h a O nm dd v) (hd : decode bytes pc = .ok (.getfield index, 3)) (hp : pc + 3 = pc')
    (K : ∀ T', own_S p l e R s m args below meth c n0 T' h k n → own_G p e below s n0 kc ks Q T' (mkF m pc' Ls (v :: st))) : own_G p e below s n0 kc ks Q T (mkF m pc Ls (.ref a :: st)) := by
  obtain ⟨locs, X, eT, N⟩ := S
  obtain ⟨hx, hby, hml, hown, -, -, -, hZ⟩ := A
  subst hp
  obtain ⟨T1, X1, e1, st1⟩ := getF X hx hZ hown (host := "") (Or.inl w) Via.refl eT F (g := mkF m pc Ls (.ref a :: st)) rfl rfl (hb hby hd)
  exact own_st (T' := T1) (g' := mkF m _ Ls (v :: st)) st1 (K T1 ⟨_, X1, e1, N⟩)
theorem s_putF (pc' : Nat) {O nm dd CC : String} {index kk : Nat} {v old : Value} {a : Addr} {ty : FieldType} (A : own_A p l e R s m args below meth c Z own name bytes maxL ret) (S : own_S p l e R s m args below meth c n0 T h k n)
    (w : (Jvm.Cond.fieldLink own index O nm dd).before a0 Z = true) (F : Fld Z h a O nm dd old) (E : Exa Z h a CC) (L : (Jvm.Cond.lays CC O nm dd).before a0 Z = true ∨ ((Jvm.Cond.laysFinal CC O nm dd).before a0 Z = true ∧ own = O ∧ name = "<init>")) (wi : (Jvm.Cond.instantiable CC kk).before a0 Z = true) (hge : n0 ≤ a)
    (hd : decode bytes pc = .ok (.putfield index, 3)) (hty : parseFieldDescriptor dd = some ty) (hn : narrow ty v = v) (hf : fits ty v = true) (hp : pc + 3 = pc')
    (K : ∀ T' h', Wr h h' a (RoadKit.slotOf Z O nm dd) v → own_S p l e R s m args below meth c n0 T' h' k n → own_G p e below s n0 kc ks Q T' (mkF m pc' Ls st)) : own_G p e below s n0 kc ks Q T (mkF m pc Ls (v :: .ref a :: st)) := by
  obtain ⟨locs, X, eT, N⟩ := S
  obtain ⟨hx, hby, hml, hown, hnm, -, -, hZ⟩ := A
  subst hp
  obtain ⟨T1, h1, X1, e1, W1, st1⟩ := putF X hx hZ hown (host := "") (Or.inl w) Via.refl eT F E (L.imp id fun q => ⟨q.1, q.2.1, hnm.trans q.2.2⟩) wi hty hn hf (g := mkF m pc Ls (v :: .ref a :: st)) rfl rfl (hb hby hd)
  exact own_st (T' := T1) (g' := mkF m _ Ls st) st1 (K T1 h1 W1 ⟨_, X1, e1, Fr.snoc X1 N hge⟩)
theorem s_new (pc' : Nat) {CC : String} {index nn : Nat} (A : own_A p l e R s m args below meth c Z own name bytes maxL ret) (S : own_S p l e R s m args below meth c n0 T h k n)
    (w : (Jvm.Cond.classLink own index CC).before a0 Z = true) (wi : (Jvm.Cond.instantiable CC nn).before a0 Z = true) (wz : (Jvm.Cond.initialized CC).before a0 Z = true) (hd : decode bytes pc = .ok (.new index, 3)) (hp : pc + 3 = pc') (hc : k + 1 ≤ R.cells) (hl : n + nn ≤ R.slots)
    (K : ∀ T' h' (a : Addr), a = h.size → Ext h h' → Exa Z h' a CC → (∀ {O nm dd : String} {ty : FieldType}, Laid Z a0 CC O nm dd → parseFieldDescriptor dd = some ty → Fld Z h' a O nm dd (defaultValue ty)) → own_S p l e R s m args below meth c n0 T' h' (k + 1) (n + nn) → own_G p e below s n0 kc ks Q T' (mkF m pc' Ls (.ref a :: st))) : own_G p e below s n0 kc ks Q T (mkF m pc Ls st) := by
  obtain ⟨locs, X, eT, N⟩ := S
  obtain ⟨hx, hby, hml, hown, -, -, -, hZ⟩ := A
  subst hp
  obtain ⟨T1, h1, X1, e1, E1, A1, D1, -, st1⟩ := newO X hx hZ hown w wi wz eT (g := mkF m pc Ls st) rfl (hb hby hd) hc hl
  exact own_st (T' := T1) (g' := mkF m _ Ls (.ref h.size :: st)) st1 (K T1 h1 h.size rfl E1 A1 D1 ⟨_, X1, e1, N⟩)
theorem s_initO (pc' : Nat) {idx : Nat} {a : Addr} (A : own_A p l e R s m args below meth c Z own name bytes maxL ret) (S : own_S p l e R s m args below meth c n0 T h k n)
    (w1 : (Jvm.Cond.methodLink own idx Lib.objectInit).before a0 Z = true) (w2 : (Jvm.Cond.instanceMethod Lib.objectInit).before a0 Z = true) (w3 : (Jvm.Cond.code Lib.objectInit ⟨#[0xb1]⟩ 1 none).before a0 Z = true) (hd : decode bytes pc = .ok (.invokespecial idx, 3)) (hp : pc + 3 = pc') (hsize : Ls.size = maxL) (hf : 1 ≤ R.frames) (hl : (st.map fun v => v.category).sum + 12 ≤ R.locals)
    (K : ∀ T', own_S p l e R s m args below meth c n0 T' h k n → own_G p e below s n0 kc ks Q T' (mkF m pc' Ls st)) : own_G p e below s n0 kc ks Q T (mkF m pc Ls (.ref a :: st)) := by
  obtain ⟨locs, X, eT, N⟩ := S
  obtain ⟨hx, hby, hml, hown, -, -, -, hZ⟩ := A
  subst hp
  obtain ⟨T1, X1, e1, st1⟩ := initO X hx hZ hown w1 w2 w3 eT (g := mkF m pc Ls (.ref a :: st)) rfl (by rw [hml]; exact hsize) rfl (hb hby hd) hf (W := (st.map fun v => v.category).sum) (by show 2 * 0 + _ ≤ _; omega) hl
  exact own_st (T' := T1) (g' := mkF m _ Ls st) st1 (K T1 ⟨_, X1, e1, N⟩)
theorem s_newP (pc' : Nat) {aty : ArrayType} {z : Int32} {cap : Nat} (A : own_A p l e R s m args below meth c Z own name bytes maxL ret) (S : own_S p l e R s m args below meth c n0 T h k n)
    (w : (Jvm.Cond.arrayClass (newarray.typeOf aty)).before a0 Z = true) (hd : decode bytes pc = .ok (.newarray aty, 2)) (hn : ¬ z < 0) (hcap : z.toNatClampNeg ≤ cap) (hbb : cap * 8 ≤ 536870912) (hp : pc + 2 = pc') (hc : k + 1 ≤ R.cells) (hl : n + cap ≤ R.slots)
    (K : ∀ T' h' (cA : ClassId) (a : Addr), a = h.size → Ext h h' → Arv Z h' a cA (newarray.typeOf aty) z [] (defaultValue (newarray.typeOf aty)) → own_S p l e R s m args below meth c n0 T' h' (k + 1) (n + cap) → own_G p e below s n0 kc ks Q T' (mkF m pc' Ls (.ref a :: st))) : own_G p e below s n0 kc ks Q T (mkF m pc Ls (.int z :: st)) := by
  obtain ⟨locs, X, eT, N⟩ := S
  obtain ⟨hx, hby, hml, hown, -, -, -, hZ⟩ := A
  subst hp
  obtain ⟨T1, h1, cA, X1, e1, E1, A1, st1⟩ := newP X hx hZ w eT (g := mkF m pc Ls (.int z :: st)) rfl (hb hby hd) rfl hn (cap := cap) hcap hbb hc hl
  exact own_st (T' := T1) (g' := mkF m _ Ls (.ref h.size :: st)) st1 (K T1 h1 cA h.size rfl E1 (Arv.new A1 hn) ⟨_, X1, e1, N⟩)
theorem s_alen (pc' : Nat) {a : Addr} {cA : ClassId} {ty : FieldType} {z : Int32} {vs : List Value} {dv : Value} (A : own_A p l e R s m args below meth c Z own name bytes maxL ret) (S : own_S p l e R s m args below meth c n0 T h k n)
    (V : Arv Z h a cA ty z vs dv) (hd : decode bytes pc = .ok (.arraylength, 1)) (hp : pc + 1 = pc') (K : own_G p e below s n0 kc ks Q T (mkF m pc' Ls (.int z :: st))) : own_G p e below s n0 kc ks Q T (mkF m pc Ls (.ref a :: st)) := by
  obtain ⟨locs, X, eT, N⟩ := S
  obtain ⟨hx, hby, hml, hown, -, -, -, hZ⟩ := A
  obtain ⟨cl, Ar, -, S1, N1, -, -⟩ := V
  subst hp
  rw [← len_of S1 N1] at K
  exact own_st (T' := T) (g' := mkF m _ Ls (.int cl.slots.size.toInt32 :: st)) (X.arraylength hx (by rw [eT]; exact Ar.1) (State.isArrayOf_alike hZ.alike Ar.2.1) (g := mkF m pc Ls (.ref a :: st)) rfl rfl (hb hby hd)) K
theorem s_instY (pc' : Nat) {KK : String} {index : Nat} {a : Addr} (A : own_A p l e R s m args below meth c Z own name bytes maxL ret) (S : own_S p l e R s m args below meth c n0 T h k n)
    (w : (Jvm.Cond.classLink own index KK).before a0 Z = true) (F : Ins Z h a KK true) (hd : decode bytes pc = .ok (.instanceof index, 3)) (hp : pc + 3 = pc')
    (K : ∀ T', own_S p l e R s m args below meth c n0 T' h k n → own_G p e below s n0 kc ks Q T' (mkF m pc' Ls (.int 1 :: st))) : own_G p e below s n0 kc ks Q T (mkF m pc Ls (.ref a :: st)) := by
  obtain ⟨locs, X, eT, N⟩ := S
  obtain ⟨hx, hby, hml, hown, -, -, -, hZ⟩ := A
  subst hp
  obtain ⟨T1, X1, e1, st1⟩ := instY X hx hZ hown w eT F (g := mkF m pc Ls (.ref a :: st)) rfl rfl (hb hby hd)
  exact own_st (T' := T1) (g' := mkF m _ Ls (.int 1 :: st)) st1 (K T1 ⟨_, X1, e1, N⟩)
theorem s_instNo (pc' : Nat) {KK CC : String} {index : Nat} {a : Addr} (A : own_A p l e R s m args below meth c Z own name bytes maxL ret) (S : own_S p l e R s m args below meth c n0 T h k n)
    (w : (Jvm.Cond.classLink own index KK).before a0 Z = true) (E : Exa Z h a CC) (F : ∃ c t, Z.vm.findClass CC = some c ∧ Z.vm.findClass KK = some t ∧ Z.vm.assignable c t = false) (hd : decode bytes pc = .ok (.instanceof index, 3)) (hp : pc + 3 = pc')
    (K : ∀ T', own_S p l e R s m args below meth c n0 T' h k n → own_G p e below s n0 kc ks Q T' (mkF m pc' Ls (.int 0 :: st))) : own_G p e below s n0 kc ks Q T (mkF m pc Ls (.ref a :: st)) := by
  obtain ⟨locs, X, eT, N⟩ := S
  obtain ⟨hx, hby, hml, hown, -, -, -, hZ⟩ := A
  subst hp
  obtain ⟨T1, X1, e1, st1⟩ := instNo X hx hZ hown w eT E F (g := mkF m pc Ls (.ref a :: st)) rfl rfl (hb hby hd)
  exact own_st (T' := T1) (g' := mkF m _ Ls (.int 0 :: st)) st1 (K T1 ⟨_, X1, e1, N⟩)
theorem s_instNull (pc' : Nat) {index : Nat} (A : own_A p l e R s m args below meth c Z own name bytes maxL ret) (S : own_S p l e R s m args below meth c n0 T h k n)
    (hd : decode bytes pc = .ok (.instanceof index, 3)) (hp : pc + 3 = pc') (K : own_G p e below s n0 kc ks Q T (mkF m pc' Ls (.int 0 :: st))) : own_G p e below s n0 kc ks Q T (mkF m pc Ls (.null :: st)) := by
  obtain ⟨locs, X, eT, N⟩ := S
  obtain ⟨hx, hby, hml, hown, -, -, -, hZ⟩ := A
  subst hp
  exact own_st (T' := T) (g' := mkF m _ Ls (.int 0 :: st)) (X.instanceofNull hx (g := mkF m pc Ls (.null :: st)) rfl rfl (hb hby hd)) K
theorem s_castY (pc' : Nat) {KK : String} {index : Nat} {a : Addr} (A : own_A p l e R s m args below meth c Z own name bytes maxL ret) (S : own_S p l e R s m args below meth c n0 T h k n)
    (w : (Jvm.Cond.classLink own index KK).before a0 Z = true) (F : Ins Z h a KK true) (hd : decode bytes pc = .ok (.checkcast index, 3)) (hp : pc + 3 = pc')
    (K : ∀ T', own_S p l e R s m args below meth c n0 T' h k n → own_G p e below s n0 kc ks Q T' (mkF m pc' Ls (.ref a :: st))) : own_G p e below s n0 kc ks Q T (mkF m pc Ls (.ref a :: st)) := by
  obtain ⟨locs, X, eT, N⟩ := S
  obtain ⟨hx, hby, hml, hown, -, -, -, hZ⟩ := A
  subst hp
  obtain ⟨T1, X1, e1, st1⟩ := castY X hx hZ hown w eT F (g := mkF m pc Ls (.ref a :: st)) rfl rfl (hb hby hd)
  exact own_st (T' := T1) (g' := mkF m _ Ls (.ref a :: st)) st1 (K T1 ⟨_, X1, e1, N⟩)
theorem s_aald (pc' : Nat) {a : Addr} {cl : Cell} {ty : FieldType} {j : Int32} {v : Value} (A : own_A p l e R s m args below meth c Z own name bytes maxL ret) (S : own_S p l e R s m args below meth c n0 T h k n)
    (Ar : Arr Z h a cl ty) (hty : ty.isReference = true) (hin : ¬ (j < 0 ∨ cl.slots.size ≤ j.toNatClampNeg)) (hv : cl.slots[j.toNatClampNeg]? = some v) (hd : decode bytes pc = .ok (.aaload, 1)) (hp : pc + 1 = pc') (K : own_G p e below s n0 kc ks Q T (mkF m pc' Ls (v :: st))) : own_G p e below s n0 kc ks Q T (mkF m pc Ls (.int j :: .ref a :: st)) := by
  obtain ⟨locs, X, eT, N⟩ := S
  obtain ⟨hx, hby, hml, hown, -, -, -, hZ⟩ := A
  subst hp
  exact own_st (T' := T) (g' := mkF m _ Ls (v :: st)) (X.aaload hx (by rw [eT]; exact Ar.1) (State.isArrayOf_alike hZ.alike Ar.2.1) hty Ar.2.2 hin hv (g := mkF m pc Ls (.int j :: .ref a :: st)) rfl rfl (hb hby hd)) K
theorem s_iald (pc' : Nat) {a : Addr} {cA : ClassId} {z j : Int32} {vs : List Value} {v dv : Value} (A : own_A p l e R s m args below meth c Z own name bytes maxL ret) (S : own_S p l e R s m args below meth c n0 T h k n)
    (V : Arv Z h a cA .int z vs dv) (hj : ¬ j < 0 ∧ j < z) (hv : vs.getD j.toNatClampNeg dv = v) (hd : decode bytes pc = .ok (.iaload, 1)) (hp : pc + 1 = pc') (K : own_G p e below s n0 kc ks Q T (mkF m pc' Ls (v :: st))) : own_G p e below s n0 kc ks Q T (mkF m pc Ls (.int j :: .ref a :: st)) := by
  obtain ⟨locs, X, eT, N⟩ := S
  obtain ⟨hx, hby, hml, hown, -, -, -, hZ⟩ := A
  obtain ⟨cl, Ar, -, S1, N1, H1, G1⟩ := V
  subst hp
  exact own_st (T' := T) (g' := mkF m _ Ls (v :: st)) (X.iaload hx (by rw [eT]; exact Ar.1) (State.isArrayOf_alike hZ.alike Ar.2.1) Ar.2.2 (inb_of S1 hj) (H1.at (inb_of S1 hj) hv) (g := mkF m pc Ls (.int j :: .ref a :: st)) rfl rfl (hb hby hd)) K
theorem s_lald (pc' : Nat) {a : Addr} {cA : ClassId} {z j : Int32} {vs : List Value} {v dv : Value} (A : own_A p l e R s m args below meth c Z own name bytes maxL ret) (S : own_S p l e R s m args below meth c n0 T h k n)
    (V : Arv Z h a cA .long z vs dv) (hj : ¬ j < 0 ∧ j < z) (hv : vs.getD j.toNatClampNeg dv = v) (hd : decode bytes pc = .ok (.laload, 1)) (hp : pc + 1 = pc') (K : own_G p e below s n0 kc ks Q T (mkF m pc' Ls (v :: st))) : own_G p e below s n0 kc ks Q T (mkF m pc Ls (.int j :: .ref a :: st)) := by
  obtain ⟨locs, X, eT, N⟩ := S
  obtain ⟨hx, hby, hml, hown, -, -, -, hZ⟩ := A
  obtain ⟨cl, Ar, -, S1, N1, H1, G1⟩ := V
  subst hp
  exact own_st (T' := T) (g' := mkF m _ Ls (v :: st)) (X.laload hx (by rw [eT]; exact Ar.1) (State.isArrayOf_alike hZ.alike Ar.2.1) Ar.2.2 (inb_of S1 hj) (H1.at (inb_of S1 hj) hv) (g := mkF m pc Ls (.int j :: .ref a :: st)) rfl rfl (hb hby hd)) K
theorem s_bald (pc' : Nat) {a : Addr} {cA : ClassId} {z j : Int32} {vs : List Value} {v dv : Value} (A : own_A p l e R s m args below meth c Z own name bytes maxL ret) (S : own_S p l e R s m args below meth c n0 T h k n)
    (V : Arv Z h a cA .byte z vs dv) (hj : ¬ j < 0 ∧ j < z) (hv : vs.getD j.toNatClampNeg dv = v) (hd : decode bytes pc = .ok (.baload, 1)) (hp : pc + 1 = pc') (K : own_G p e below s n0 kc ks Q T (mkF m pc' Ls (v :: st))) : own_G p e below s n0 kc ks Q T (mkF m pc Ls (.int j :: .ref a :: st)) := by
  obtain ⟨locs, X, eT, N⟩ := S
  obtain ⟨hx, hby, hml, hown, -, -, -, hZ⟩ := A
  obtain ⟨cl, Ar, -, S1, N1, H1, G1⟩ := V
  subst hp
  exact own_st (T' := T) (g' := mkF m _ Ls (v :: st)) (X.baloadBytes hx (by rw [eT]; exact Ar.1) (State.isArrayOf_alike hZ.alike Ar.2.1) Ar.2.2 (inb_of S1 hj) (H1.at (inb_of S1 hj) hv) (g := mkF m pc Ls (.int j :: .ref a :: st)) rfl rfl (hb hby hd)) K
theorem s_cald (pc' : Nat) {a : Addr} {cA : ClassId} {z j : Int32} {vs : List Value} {v dv : Value} (A : own_A p l e R s m args below meth c Z own name bytes maxL ret) (S : own_S p l e R s m args below meth c n0 T h k n)
    (V : Arv Z h a cA .char z vs dv) (hj : ¬ j < 0 ∧ j < z) (hv : vs.getD j.toNatClampNeg dv = v) (hd : decode bytes pc = .ok (.caload, 1)) (hp : pc + 1 = pc') (K : own_G p e below s n0 kc ks Q T (mkF m pc' Ls (v :: st))) : own_G p e below s n0 kc ks Q T (mkF m pc Ls (.int j :: .ref a :: st)) := by
  obtain ⟨locs, X, eT, N⟩ := S
  obtain ⟨hx, hby, hml, hown, -, -, -, hZ⟩ := A
  obtain ⟨cl, Ar, -, S1, N1, H1, G1⟩ := V
  subst hp
  exact own_st (T' := T) (g' := mkF m _ Ls (v :: st)) (X.caload hx (by rw [eT]; exact Ar.1) (State.isArrayOf_alike hZ.alike Ar.2.1) Ar.2.2 (inb_of S1 hj) (H1.at (inb_of S1 hj) hv) (g := mkF m pc Ls (.int j :: .ref a :: st)) rfl rfl (hb hby hd)) K
theorem s_iast (pc' : Nat) {a : Addr} {cA : ClassId} {z j : Int32} {x : Int32} {vs : List Value} {dv : Value} (A : own_A p l e R s m args below meth c Z own name bytes maxL ret) (S : own_S p l e R s m args below meth c n0 T h k n)
    (V : Arv Z h a cA .int z vs dv) (hj : ¬ j < 0 ∧ j < z) (i : Nat) (hi : j.toNatClampNeg = i) (hi' : i < vs.length) (hge : n0 ≤ a) (hd : decode bytes pc = .ok (.iastore, 1)) (hp : pc + 1 = pc')
    (K : ∀ T' h', Wr h h' a i (.int x) → Arv Z h' a cA .int z (vs.set i (.int x)) dv → own_S p l e R s m args below meth c n0 T' h' k n → own_G p e below s n0 kc ks Q T' (mkF m pc' Ls st)) : own_G p e below s n0 kc ks Q T (mkF m pc Ls (.int x :: .int j :: .ref a :: st)) := by
  obtain ⟨locs, X, eT, N⟩ := S
  obtain ⟨hx, hby, hml, hown, -, -, -, hZ⟩ := A
  obtain ⟨cl, Ar, q1, S1, N1, H1, G1⟩ := V
  subst hp
  obtain ⟨T1, h1, X1, e1, W1, st1⟩ := stI X hx hZ eT Ar (j := j) (inb_of S1 hj) (g := mkF m pc Ls (.int x :: .int j :: .ref a :: st)) rfl rfl (hb hby hd)
  have V1 := Arv.set Ar q1 S1 N1 H1 G1 rfl W1 i hi hi'
  rw [hi] at W1
  exact own_st (T' := T1) (g' := mkF m _ Ls st) st1 (K T1 h1 W1 V1 ⟨_, X1, e1, Fr.snoc X1 N hge⟩)
theorem s_last (pc' : Nat) {a : Addr} {cA : ClassId} {z j : Int32} {x : Int64} {vs : List Value} {dv : Value} (A : own_A p l e R s m args below meth c Z own name bytes maxL ret) (S : own_S p l e R s m args below meth c n0 T h k n)
    (V : Arv Z h a cA .long z vs dv) (hj : ¬ j < 0 ∧ j < z) (i : Nat) (hi : j.toNatClampNeg = i) (hi' : i < vs.length) (hge : n0 ≤ a) (hd : decode bytes pc = .ok (.lastore, 1)) (hp : pc + 1 = pc')
    (K : ∀ T' h', Wr h h' a i (.long x) → Arv Z h' a cA .long z (vs.set i (.long x)) dv → own_S p l e R s m args below meth c n0 T' h' k n → own_G p e below s n0 kc ks Q T' (mkF m pc' Ls st)) : own_G p e below s n0 kc ks Q T (mkF m pc Ls (.long x :: .int j :: .ref a :: st)) := by
  obtain ⟨locs, X, eT, N⟩ := S
  obtain ⟨hx, hby, hml, hown, -, -, -, hZ⟩ := A
  obtain ⟨cl, Ar, q1, S1, N1, H1, G1⟩ := V
  subst hp
  obtain ⟨T1, h1, X1, e1, W1, st1⟩ := stJ X hx hZ eT Ar (j := j) (inb_of S1 hj) (g := mkF m pc Ls (.long x :: .int j :: .ref a :: st)) rfl rfl (hb hby hd)
  have V1 := Arv.set Ar q1 S1 N1 H1 G1 rfl W1 i hi hi'
  rw [hi] at W1
  exact own_st (T' := T1) (g' := mkF m _ Ls st) st1 (K T1 h1 W1 V1 ⟨_, X1, e1, Fr.snoc X1 N hge⟩)
theorem s_bast (pc' : Nat) {a : Addr} {cA : ClassId} {z j : Int32} {x : Int32} {vs : List Value} {dv : Value} (A : own_A p l e R s m args below meth c Z own name bytes maxL ret) (S : own_S p l e R s m args below meth c n0 T h k n)
    (V : Arv Z h a cA .byte z vs dv) (hj : ¬ j < 0 ∧ j < z) (i : Nat) (hi : j.toNatClampNeg = i) (hi' : i < vs.length) (hge : n0 ≤ a) (hd : decode bytes pc = .ok (.bastore, 1)) (hp : pc + 1 = pc')
    (K : ∀ T' h', Wr h h' a i (.int (nar .byte x)) → Arv Z h' a cA .byte z (vs.set i (.int (nar .byte x))) dv → own_S p l e R s m args below meth c n0 T' h' k n → own_G p e below s n0 kc ks Q T' (mkF m pc' Ls st)) : own_G p e below s n0 kc ks Q T (mkF m pc Ls (.int x :: .int j :: .ref a :: st)) := by
  obtain ⟨locs, X, eT, N⟩ := S
  obtain ⟨hx, hby, hml, hown, -, -, -, hZ⟩ := A
  obtain ⟨cl, Ar, q1, S1, N1, H1, G1⟩ := V
  subst hp
  obtain ⟨T1, h1, X1, e1, W1, st1⟩ := stB X hx hZ eT Ar (j := j) (inb_of S1 hj) (g := mkF m pc Ls (.int x :: .int j :: .ref a :: st)) rfl rfl (hb hby hd)
  have V1 := Arv.set Ar q1 S1 N1 H1 G1 (fits_nar_byte _) W1 i hi hi'
  rw [hi] at W1
  exact own_st (T' := T1) (g' := mkF m _ Ls st) st1 (K T1 h1 W1 V1 ⟨_, X1, e1, Fr.snoc X1 N hge⟩)
theorem s_cast (pc' : Nat) {a : Addr} {cA : ClassId} {z j : Int32} {x : Int32} {vs : List Value} {dv : Value} (A : own_A p l e R s m args below meth c Z own name bytes maxL ret) (S : own_S p l e R s m args below meth c n0 T h k n)
    (V : Arv Z h a cA .char z vs dv) (hj : ¬ j < 0 ∧ j < z) (i : Nat) (hi : j.toNatClampNeg = i) (hi' : i < vs.length) (hge : n0 ≤ a) (hd : decode bytes pc = .ok (.castore, 1)) (hp : pc + 1 = pc')
    (K : ∀ T' h', Wr h h' a i (.int (nar .char x)) → Arv Z h' a cA .char z (vs.set i (.int (nar .char x))) dv → own_S p l e R s m args below meth c n0 T' h' k n → own_G p e below s n0 kc ks Q T' (mkF m pc' Ls st)) : own_G p e below s n0 kc ks Q T (mkF m pc Ls (.int x :: .int j :: .ref a :: st)) := by
  obtain ⟨locs, X, eT, N⟩ := S
  obtain ⟨hx, hby, hml, hown, -, -, -, hZ⟩ := A
  obtain ⟨cl, Ar, q1, S1, N1, H1, G1⟩ := V
  subst hp
  obtain ⟨T1, h1, X1, e1, W1, st1⟩ := stC X hx hZ eT Ar (j := j) (inb_of S1 hj) (g := mkF m pc Ls (.int x :: .int j :: .ref a :: st)) rfl rfl (hb hby hd)
  have V1 := Arv.set Ar q1 S1 N1 H1 G1 (fits_nar_char _) W1 i hi hi'
  rw [hi] at W1
  exact own_st (T' := T1) (g' := mkF m _ Ls st) st1 (K T1 h1 W1 V1 ⟨_, X1, e1, Fr.snoc X1 N hge⟩)
end OwnLayer
def own_min (x y : Int64) : Int64 := if x.toInt ≤ y.toInt then x else y
def own_max (x y : Int64) : Int64 := if y.toInt ≤ x.toInt then x else y
theorem own_mint (x y : Int64) : (x.toInt ≤ y.toInt → (own_min x y).toInt = x.toInt) ∧ (y.toInt ≤ x.toInt → (own_min x y).toInt = y.toInt) := by
  unfold own_min; split <;> constructor <;> intro h <;> omega
theorem own_maxt (x y : Int64) : (x.toInt ≤ y.toInt → (own_max x y).toInt = y.toInt) ∧ (y.toInt ≤ x.toInt → (own_max x y).toInt = x.toInt) := by
  unfold own_max; split <;> constructor <;> intro h <;> omega
def own_con (a b x y : Int64) : Int32 := if a.toInt ≤ x.toInt ∧ y.toInt ≤ b.toInt then 1 else 0
theorem own_con1 {a b x y : Int64} (hh : a.toInt ≤ x.toInt ∧ y.toInt ≤ b.toInt) : own_con a b x y = 1 := if_pos hh
theorem own_con0 {a b x y : Int64} (hh : ¬ (a.toInt ≤ x.toInt ∧ y.toInt ≤ b.toInt)) : own_con a b x y = 0 := if_neg hh
theorem own_con01 (a b x y : Int64) : (own_con a b x y = 1 ∧ a.toInt ≤ x.toInt ∧ y.toInt ≤ b.toInt) ∨ (own_con a b x y = 0 ∧ ¬ (a.toInt ≤ x.toInt ∧ y.toInt ≤ b.toInt)) := by
  unfold own_con; split
  · exact Or.inl ⟨rfl, ‹_›⟩
  · exact Or.inr ⟨rfl, ‹_›⟩
theorem pd__JJ_J : parseMethodDescriptor "(JJ)J" = some ⟨[.long, .long], some .long⟩ := by decide +kernel
theorem pd__JJ_V : parseMethodDescriptor "(JJ)V" = some ⟨[.long, .long], none⟩ := by decide +kernel
theorem pd__Lcom_example_dodge_band_dodgeband_model_FrequencyRange__Z : parseMethodDescriptor "(Lcom/example/dodge_band/dodgeband/model/FrequencyRange;)Z" = some ⟨[(.object "com/example/dodge_band/dodgeband/model/FrequencyRange")], some .boolean⟩ := by decide +kernel
theorem pd___V : parseMethodDescriptor "()V" = some ⟨[], none⟩ := by decide +kernel
theorem d1_0 : decode jdk_29_method_70_code 0 = .ok (.lload_n 0, 1) := by decide +kernel
theorem d1_1 : decode jdk_29_method_70_code 1 = .ok (.lload_n 2, 1) := by decide +kernel
theorem d1_2 : decode jdk_29_method_70_code 2 = .ok (.lcmp, 1) := by decide +kernel
theorem d1_3 : decode jdk_29_method_70_code 3 = .ok (.ifCond .gt 7, 3) := by decide +kernel
theorem d1_6 : decode jdk_29_method_70_code 6 = .ok (.lload_n 0, 1) := by decide +kernel
theorem d1_7 : decode jdk_29_method_70_code 7 = .ok (.goto 4, 3) := by decide +kernel
theorem d1_10 : decode jdk_29_method_70_code 10 = .ok (.lload_n 2, 1) := by decide +kernel
theorem d1_11 : decode jdk_29_method_70_code 11 = .ok (.lreturn, 1) := by decide +kernel
theorem pn_1 : plainFor (⟨"java/lang/Math", "min", "(JJ)J"⟩ : MethodName) = true := by decide +kernel
theorem ef_1 (m : MethodId) (x0 : Int64) (x1 : Int64) : entryFrame m #[(.long x0), (.long x1)] 4 = mkF m 0 #[.val (.long x0), .second, .val (.long x1), .second] [] := by first | (simp [entryFrame, mkF, argsToLocals, Value.category]; done) | rfl
set_option maxRecDepth 65536 in
set_option maxHeartbeats 40000000 in
theorem rm1 (l : Launch) (Z : State) (a0 : Array Value) (hw : ∀ d ∈ tables_1, d.before a0 Z = true) (ws : List Jvm.Cond) (x y : Int64) (h0 : Heap) (n0 : Nat) (Z0 : n0 ≤ h0.size)  :
    own_C l Z (⟨"java/lang/Math", "min", "(JJ)J"⟩ : MethodName) jdk_29_method_70_code 4 (some .long) ({ frames := 0, cells := 0, slots := 0, locals := 0 } : Room) n0 ws #[(.long x), (.long y)] h0 (fun v h' => v = some (.long (own_min x y)) ∧ h' = h0) := by
  refine own_C.of pn_1 Z0 ?_
  intro p e s m below meth c T A S
  rw [ef_1]
  refine s_lloadN 1 A S d1_0 rfl rfl ?_
  refine s_lloadN 2 A S d1_1 rfl rfl ?_
  refine s_lifgt 10 6 3 A S rfl rfl d1_2 rfl d1_3 (by decide) (by decide) rfl (fun c1 => ?_) (fun c1 => ?_)
  · refine s_lloadN 11 A S d1_10 rfl rfl ?_
    exact s_retJ A S d1_11 (by decide) (by decide) ⟨by unfold own_min; rw [if_neg (by omega)], rfl⟩
  · refine s_lloadN 7 A S d1_6 rfl rfl ?_
    refine s_goto 11 A S d1_7 (by decide) (by decide) ?_
    exact s_retJ A S d1_11 (by decide) (by decide) ⟨by unfold own_min; rw [if_pos c1], rfl⟩
theorem d2_0 : decode jdk_29_method_66_code 0 = .ok (.lload_n 0, 1) := by decide +kernel
theorem d2_1 : decode jdk_29_method_66_code 1 = .ok (.lload_n 2, 1) := by decide +kernel
theorem d2_2 : decode jdk_29_method_66_code 2 = .ok (.lcmp, 1) := by decide +kernel
theorem d2_3 : decode jdk_29_method_66_code 3 = .ok (.ifCond .lt 7, 3) := by decide +kernel
theorem d2_6 : decode jdk_29_method_66_code 6 = .ok (.lload_n 0, 1) := by decide +kernel
theorem d2_7 : decode jdk_29_method_66_code 7 = .ok (.goto 4, 3) := by decide +kernel
theorem d2_10 : decode jdk_29_method_66_code 10 = .ok (.lload_n 2, 1) := by decide +kernel
theorem d2_11 : decode jdk_29_method_66_code 11 = .ok (.lreturn, 1) := by decide +kernel
theorem pn_2 : plainFor (⟨"java/lang/Math", "max", "(JJ)J"⟩ : MethodName) = true := by decide +kernel
theorem ef_2 (m : MethodId) (x0 : Int64) (x1 : Int64) : entryFrame m #[(.long x0), (.long x1)] 4 = mkF m 0 #[.val (.long x0), .second, .val (.long x1), .second] [] := by first | (simp [entryFrame, mkF, argsToLocals, Value.category]; done) | rfl
set_option maxRecDepth 65536 in
set_option maxHeartbeats 40000000 in
theorem rm2 (l : Launch) (Z : State) (a0 : Array Value) (hw : ∀ d ∈ tables_1, d.before a0 Z = true) (ws : List Jvm.Cond) (x y : Int64) (h0 : Heap) (n0 : Nat) (Z0 : n0 ≤ h0.size)  :
    own_C l Z (⟨"java/lang/Math", "max", "(JJ)J"⟩ : MethodName) jdk_29_method_66_code 4 (some .long) ({ frames := 0, cells := 0, slots := 0, locals := 0 } : Room) n0 ws #[(.long x), (.long y)] h0 (fun v h' => v = some (.long (own_max x y)) ∧ h' = h0) := by
  refine own_C.of pn_2 Z0 ?_
  intro p e s m below meth c T A S
  rw [ef_2]
  refine s_lloadN 1 A S d2_0 rfl rfl ?_
  refine s_lloadN 2 A S d2_1 rfl rfl ?_
  refine s_liflt 10 6 3 A S rfl rfl d2_2 rfl d2_3 (by decide) (by decide) rfl (fun c1 => ?_) (fun c1 => ?_)
  · refine s_lloadN 11 A S d2_10 rfl rfl ?_
    exact s_retJ A S d2_11 (by decide) (by decide) ⟨by unfold own_max; rw [if_neg (by omega)], rfl⟩
  · refine s_lloadN 7 A S d2_6 rfl rfl ?_
    refine s_goto 11 A S d2_7 (by decide) (by decide) ?_
    exact s_retJ A S d2_11 (by decide) (by decide) ⟨by unfold own_max; rw [if_pos c1], rfl⟩
theorem d4_0 : decode jdk_30_method_1_code 0 = .ok (.aload_n 0, 1) := by decide +kernel
theorem d4_1 : decode jdk_30_method_1_code 1 = .ok (.invokespecial 1, 3) := by decide +kernel
theorem d4_4 : decode jdk_30_method_1_code 4 = .ok (.return_, 1) := by decide +kernel
theorem pn_4 : plainFor (⟨"java/lang/Record", "<init>", "()V"⟩ : MethodName) = true := plainFor_of_name (by first | (simp [plainName, overriddenIn]; done) | decide +kernel)
theorem ef_4 (m : MethodId) (x0 : Addr) : entryFrame m #[(.ref x0)] 1 = mkF m 0 #[.val (.ref x0)] [] := by first | (simp [entryFrame, mkF, argsToLocals, Value.category]; done) | rfl
set_option maxRecDepth 65536 in
set_option maxHeartbeats 40000000 in
theorem rm4 (l : Launch) (Z : State) (a0 : Array Value) (hw : ∀ d ∈ tables_1, d.before a0 Z = true) (ws : List Jvm.Cond) (b : Addr) (h0 : Heap) (n0 : Nat) (Z0 : n0 ≤ h0.size)  :
    own_C l Z (⟨"java/lang/Record", "<init>", "()V"⟩ : MethodName) jdk_30_method_1_code 1 none ({ frames := 1, cells := 0, slots := 0, locals := 12 } : Room) n0 ws #[(.ref b)] h0 (fun v h' => v = none ∧ h' = h0) := by
  refine own_C.of pn_4 Z0 ?_
  intro p e s m below meth c T A S
  rw [ef_4]
  refine s_aloadN 1 A S d4_0 rfl (by first | rfl | assumption) rfl ?_
  refine s_initO 4 A S (hw _ (List.mem_of_getElem? (i := 18) rfl)) (hw _ (List.mem_of_getElem? (i := 19) rfl)) (hw _ (List.mem_of_getElem? (i := 20) rfl)) d4_1 rfl rfl (by decide) (Nat.le_of_ble_eq_true rfl) fun T1 S2 => ?_
  exact s_ret A S2 d4_4 (by decide) (by decide) ⟨rfl, rfl⟩
theorem d3_0 : decode prog_45_method_1_code 0 = .ok (.aload_n 0, 1) := by decide +kernel
theorem d3_1 : decode prog_45_method_1_code 1 = .ok (.invokespecial 1, 3) := by decide +kernel
theorem d3_4 : decode prog_45_method_1_code 4 = .ok (.lload_n 3, 1) := by decide +kernel
theorem d3_5 : decode prog_45_method_1_code 5 = .ok (.lload_n 1, 1) := by decide +kernel
theorem d3_6 : decode prog_45_method_1_code 6 = .ok (.lcmp, 1) := by decide +kernel
theorem d3_7 : decode prog_45_method_1_code 7 = .ok (.ifCond .ge 18, 3) := by decide +kernel
theorem d3_25 : decode prog_45_method_1_code 25 = .ok (.aload_n 0, 1) := by decide +kernel
theorem d3_26 : decode prog_45_method_1_code 26 = .ok (.lload_n 1, 1) := by decide +kernel
theorem d3_27 : decode prog_45_method_1_code 27 = .ok (.putfield 16, 3) := by decide +kernel
theorem d3_30 : decode prog_45_method_1_code 30 = .ok (.aload_n 0, 1) := by decide +kernel
theorem d3_31 : decode prog_45_method_1_code 31 = .ok (.lload_n 3, 1) := by decide +kernel
theorem d3_32 : decode prog_45_method_1_code 32 = .ok (.putfield 22, 3) := by decide +kernel
theorem d3_35 : decode prog_45_method_1_code 35 = .ok (.return_, 1) := by decide +kernel
theorem pn_3 : plainFor (⟨"com/example/dodge_band/dodgeband/model/FrequencyRange", "<init>", "(JJ)V"⟩ : MethodName) = true := plainFor_of_name (by first | (simp [plainName, overriddenIn]; done) | decide +kernel)
theorem ef_3 (m : MethodId) (x0 : Addr) (x1 : Int64) (x2 : Int64) : entryFrame m #[(.ref x0), (.long x1), (.long x2)] 5 = mkF m 0 #[.val (.ref x0), .val (.long x1), .second, .val (.long x2), .second] [] := by first | (simp [entryFrame, mkF, argsToLocals, Value.category]; done) | rfl
set_option maxRecDepth 65536 in
set_option maxHeartbeats 40000000 in
theorem rm3 (l : Launch) (Z : State) (a0 : Array Value) (hw : ∀ d ∈ tables_1, d.before a0 Z = true) (ws : List Jvm.Cond) (b : Addr) (q r : Int64) (h0 : Heap) (n0 : Nat) (Z0 : n0 ≤ h0.size) (E1 : Exa Z h0 b "com/example/dodge_band/dodgeband/model/FrequencyRange") (F1 : Fld Z h0 b "com/example/dodge_band/dodgeband/model/FrequencyRange" "lowKhz" "J" (.long (0 : Int64))) (F2 : Fld Z h0 b "com/example/dodge_band/dodgeband/model/FrequencyRange" "highKhz" "J" (.long (0 : Int64))) (g1 : n0 ≤ b) (b1 : q.toInt ≤ r.toInt) :
    own_C l Z (⟨"com/example/dodge_band/dodgeband/model/FrequencyRange", "<init>", "(JJ)V"⟩ : MethodName) prog_45_method_1_code 5 none ({ frames := 2, cells := 0, slots := 0, locals := 24 } : Room) n0 ws #[(.ref b), (.long q), (.long r)] h0 (fun v h' => v = none ∧ Keep h0 h' [b] ∧ Exa Z h' b "com/example/dodge_band/dodgeband/model/FrequencyRange" ∧ Fld Z h' b "com/example/dodge_band/dodgeband/model/FrequencyRange" "lowKhz" "J" (.long q) ∧ Fld Z h' b "com/example/dodge_band/dodgeband/model/FrequencyRange" "highKhz" "J" (.long r)) := by
  refine own_C.of pn_3 Z0 ?_
  intro p e s m below meth c T A S
  rw [ef_3]
  refine s_aloadN 1 A S d3_0 rfl (by first | rfl | assumption) rfl ?_
  refine s_specN (y := (⟨"java/lang/Record", "<init>", "()V"⟩ : MethodName)) (argsL := []) (rest := []) (b := b) 4 A S (hw _ (List.mem_of_getElem? (i := 13) rfl)) (hw _ (List.mem_of_getElem? (i := 14) rfl)) (hw _ (List.mem_of_getElem? (i := 16) rfl)) (hw _ (List.mem_of_getElem? (i := 17) rfl)) (rm4 l Z a0 hw [] b h0 n0 Z0) (lenOf pd___V rfl) d3_1 rfl rfl rfl rfl (by decide) (by decide) (Nat.le_of_ble_eq_true rfl) (by decide) (by decide) fun T1 S2 => ?_
  refine s_lloadN 5 A S2 d3_4 rfl rfl ?_
  refine s_lloadN 6 A S2 d3_5 rfl rfl ?_
  refine s_lifge 25 10 7 A S2 rfl rfl d3_6 rfl d3_7 (by decide) (by decide) rfl (fun c3 => ?_) (fun c3 => (by omega : False).elim)
  refine s_aloadN 26 A S2 d3_25 rfl (by first | rfl | assumption) rfl ?_
  refine s_lloadN 27 A S2 d3_26 rfl rfl ?_
  refine s_putF (ty := .long) 30 A S2 (hw _ (List.mem_of_getElem? (i := 21) rfl)) F1 E1 (Or.inr ⟨(hw _ (List.mem_of_getElem? (i := 22) rfl)), rfl, rfl⟩) (hw _ (List.mem_of_getElem? (i := 8) rfl)) g1 d3_27 (by decide) rfl rfl rfl fun T4 h5 W7 S6 => ?_
  have F8 := Fld.same W7 F1
  have F10 := Fld.other W7 F2 (Or.inr (slot_ne (Or.inr (hw _ (List.mem_of_getElem? (i := 24) rfl))) (Or.inr (hw _ (List.mem_of_getElem? (i := 22) rfl))) (by decide) (t := .long) (t' := .long) (by decide) (by decide)))
  have E11 := Exa.wr W7 E1
  have Z12 : n0 ≤ h5.size := by rw [W7.size]; exact Z0
  have K13 : Keep h0 h5 [b] := (Keep.refl h0 [b]).wr W7 (Or.inl (List.mem_of_getElem? (i := 0) rfl))
  refine s_aloadN 31 A S6 d3_30 rfl (by first | rfl | assumption) rfl ?_
  refine s_lloadN 32 A S6 d3_31 rfl rfl ?_
  refine s_putF (ty := .long) 35 A S6 (hw _ (List.mem_of_getElem? (i := 23) rfl)) F10 E11 (Or.inr ⟨(hw _ (List.mem_of_getElem? (i := 24) rfl)), rfl, rfl⟩) (hw _ (List.mem_of_getElem? (i := 8) rfl)) g1 d3_32 (by decide) rfl rfl rfl fun T14 h15 W17 S16 => ?_
  have F18 := Fld.same W17 F10
  have F19 := Fld.other W17 F8 (Or.inr (slot_ne (Or.inr (hw _ (List.mem_of_getElem? (i := 22) rfl))) (Or.inr (hw _ (List.mem_of_getElem? (i := 24) rfl))) (by decide) (t := .long) (t' := .long) (by decide) (by decide)))
  have E21 := Exa.wr W17 E11
  have Z22 : n0 ≤ h15.size := by rw [W17.size]; exact Z12
  have K23 : Keep h0 h15 [b] := K13.wr W17 (Or.inl (List.mem_of_getElem? (i := 0) rfl))
  exact s_ret A S16 d3_35 (by decide) (by decide) ⟨rfl, K23, E21, F19, F18⟩
theorem d6_0 : decode prog_45_method_3_code 0 = .ok (.aload_n 0, 1) := by decide +kernel
theorem d6_1 : decode prog_45_method_3_code 1 = .ok (.getfield 16, 3) := by decide +kernel
theorem d6_4 : decode prog_45_method_3_code 4 = .ok (.aload_n 1, 1) := by decide +kernel
theorem d6_5 : decode prog_45_method_3_code 5 = .ok (.getfield 16, 3) := by decide +kernel
theorem d6_8 : decode prog_45_method_3_code 8 = .ok (.lcmp, 1) := by decide +kernel
theorem d6_9 : decode prog_45_method_3_code 9 = .ok (.ifCond .gt 19, 3) := by decide +kernel
theorem d6_12 : decode prog_45_method_3_code 12 = .ok (.aload_n 1, 1) := by decide +kernel
theorem d6_13 : decode prog_45_method_3_code 13 = .ok (.getfield 22, 3) := by decide +kernel
theorem d6_16 : decode prog_45_method_3_code 16 = .ok (.aload_n 0, 1) := by decide +kernel
theorem d6_17 : decode prog_45_method_3_code 17 = .ok (.getfield 22, 3) := by decide +kernel
theorem d6_20 : decode prog_45_method_3_code 20 = .ok (.lcmp, 1) := by decide +kernel
theorem d6_21 : decode prog_45_method_3_code 21 = .ok (.ifCond .gt 7, 3) := by decide +kernel
theorem d6_24 : decode prog_45_method_3_code 24 = .ok (.iconst 1, 1) := by decide +kernel
theorem d6_25 : decode prog_45_method_3_code 25 = .ok (.goto 4, 3) := by decide +kernel
theorem d6_28 : decode prog_45_method_3_code 28 = .ok (.iconst 0, 1) := by decide +kernel
theorem d6_29 : decode prog_45_method_3_code 29 = .ok (.ireturn, 1) := by decide +kernel
theorem pn_6 : plainFor (⟨"com/example/dodge_band/dodgeband/model/FrequencyRange", "contains", "(Lcom/example/dodge_band/dodgeband/model/FrequencyRange;)Z"⟩ : MethodName) = true := plainFor_of_name (by first | (simp [plainName, overriddenIn]; done) | decide +kernel)
theorem ef_6 (m : MethodId) (x0 : Addr) (x1 : Addr) : entryFrame m #[(.ref x0), (.ref x1)] 2 = mkF m 0 #[.val (.ref x0), .val (.ref x1)] [] := by first | (simp [entryFrame, mkF, argsToLocals, Value.category]; done) | rfl
set_option maxRecDepth 65536 in
set_option maxHeartbeats 40000000 in
theorem rm6 (l : Launch) (Z : State) (a0 : Array Value) (hw : ∀ d ∈ tables_1, d.before a0 Z = true) (ws : List Jvm.Cond) (b d : Addr) (q r x y : Int64) (h0 : Heap) (n0 : Nat) (Z0 : n0 ≤ h0.size) (F1 : Fld Z h0 b "com/example/dodge_band/dodgeband/model/FrequencyRange" "lowKhz" "J" (.long q)) (F2 : Fld Z h0 b "com/example/dodge_band/dodgeband/model/FrequencyRange" "highKhz" "J" (.long r)) (F3 : Fld Z h0 d "com/example/dodge_band/dodgeband/model/FrequencyRange" "lowKhz" "J" (.long x)) (F4 : Fld Z h0 d "com/example/dodge_band/dodgeband/model/FrequencyRange" "highKhz" "J" (.long y)) :
    own_C l Z (⟨"com/example/dodge_band/dodgeband/model/FrequencyRange", "contains", "(Lcom/example/dodge_band/dodgeband/model/FrequencyRange;)Z"⟩ : MethodName) prog_45_method_3_code 2 (some .boolean) ({ frames := 0, cells := 0, slots := 0, locals := 0 } : Room) n0 ws #[(.ref b), (.ref d)] h0 (fun v h' => v = some (.int (own_con q r x y)) ∧ h' = h0) := by
  refine own_C.of pn_6 Z0 ?_
  intro p e s m below meth c T A S
  rw [ef_6]
  refine s_aloadN 1 A S d6_0 rfl (by first | rfl | assumption) rfl ?_
  refine s_getF 4 A S (hw _ (List.mem_of_getElem? (i := 21) rfl)) F1 d6_1 rfl fun T1 S2 => ?_
  refine s_aloadN 5 A S2 d6_4 rfl (by first | rfl | assumption) rfl ?_
  refine s_getF 8 A S2 (hw _ (List.mem_of_getElem? (i := 21) rfl)) F3 d6_5 rfl fun T3 S4 => ?_
  refine s_lifgt 28 12 9 A S4 rfl rfl d6_8 rfl d6_9 (by decide) (by decide) rfl (fun c5 => ?_) (fun c5 => ?_)
  · refine s_iconst (z := (0 : Int32)) 29 A S4 d6_28 rfl rfl ?_
    exact s_retZ A S4 d6_29 rfl (by decide) (by decide) ⟨by rw [own_con0 (by omega)], rfl⟩
  · refine s_aloadN 13 A S4 d6_12 rfl (by first | rfl | assumption) rfl ?_
    refine s_getF 16 A S4 (hw _ (List.mem_of_getElem? (i := 23) rfl)) F4 d6_13 rfl fun T6 S7 => ?_
    refine s_aloadN 17 A S7 d6_16 rfl (by first | rfl | assumption) rfl ?_
    refine s_getF 20 A S7 (hw _ (List.mem_of_getElem? (i := 23) rfl)) F2 d6_17 rfl fun T8 S9 => ?_
    refine s_lifgt 28 24 21 A S9 rfl rfl d6_20 rfl d6_21 (by decide) (by decide) rfl (fun c10 => ?_) (fun c10 => ?_)
    · refine s_iconst (z := (0 : Int32)) 29 A S9 d6_28 rfl rfl ?_
      exact s_retZ A S9 d6_29 rfl (by decide) (by decide) ⟨by rw [own_con0 (by omega)], rfl⟩
    · refine s_iconst (z := (1 : Int32)) 25 A S9 d6_24 rfl rfl ?_
      refine s_goto 29 A S9 d6_25 (by decide) (by decide) ?_
      exact s_retZ A S9 d6_29 rfl (by decide) (by decide) ⟨by rw [own_con1 (by omega)], rfl⟩
theorem pn_0 : plainFor (⟨"com/example/dodge_band/dodgeband/model/FrequencyRangeContainsPinLaw", "law", "(JJJJI)Z"⟩ : MethodName) = true := plainFor_of_name (by first | (simp [plainName, overriddenIn]; done) | decide +kernel)
theorem ef_0 (m : MethodId) (x0 : Int64) (x1 : Int64) (x2 : Int64) (x3 : Int64) (x4 : Int32) : entryFrame m #[(.long x0), (.long x1), (.long x2), (.long x3), (.int x4)] maxLocals = mkF m 0 #[.val (.long x0), .second, .val (.long x1), .second, .val (.long x2), .second, .val (.long x3), .second, .val (.int x4), .unset, .unset, .unset, .unset, .unset, .unset, .unset, .unset, .unset, .unset, .unset, .unset, .unset, .unset, .unset, .unset, .unset, .unset, .unset, .unset] [] := by first | (simp [entryFrame, mkF, argsToLocals, Value.category, maxLocals]; done) | rfl
set_option maxRecDepth 65536 in
set_option maxHeartbeats 40000000 in
theorem rm0 (l : Launch) (Z : State) (a0 : Array Value) (hw : ∀ d ∈ tables_1, d.before a0 Z = true) (ws : List Jvm.Cond) (i0 i1 i2 i3 : Int64) (i4 : Int32) (h0 : Heap) (n0 : Nat) (Z0 : n0 ≤ h0.size)  :
    own_C l Z x code maxLocals ret room_1 n0 ws #[(.long i0), (.long i1), (.long i2), (.long i3), (.int i4)] h0 (fun v h' => v = some (.int 1)) := by
  refine own_C.of pn_0 Z0 ?_
  intro p e s m below meth c T A S
  rw [ef_0]
  have J13_1 : ∀ (T2 : State) (_ : own_S p l e room_1 s m #[(.long i0), (.long i1), (.long i2), (.long i3), (.int i4)] below meth c n0 T2 h0 0 0) (c2 : Int64), own_G p e below s n0 room_1.cells room_1.slots (fun v h' => v = some (.int 1)) T2 (mkF m 13 #[.val (.long i0), .second, .val (.long i1), .second, .val (.long i2), .second, .val (.long i3), .second, .val (.int i4), .unset, .unset, .unset, .unset, .unset, .unset, .unset, .unset, .unset, .unset, .unset, .unset, .unset, .unset, .unset, .unset, .unset, .unset, .unset, .unset] [(.long c2)]) := by
    intro T2 S3 c2 
    refine s_lstore (Ls' := #[.val (.long i0), .second, .val (.long i1), .second, .val (.long i2), .second, .val (.long i3), .second, .val (.int i4), .val (.long c2), .second, .unset, .unset, .unset, .unset, .unset, .unset, .unset, .unset, .unset, .unset, .unset, .unset, .unset, .unset, .unset, .unset, .unset, .unset]) 15 A S3 at_13 rfl rfl ?_
    have J28_4 : ∀ (T5 : State) (_ : own_S p l e room_1 s m #[(.long i0), (.long i1), (.long i2), (.long i3), (.int i4)] below meth c n0 T5 h0 0 0) (d2 : Int64), own_G p e below s n0 room_1.cells room_1.slots (fun v h' => v = some (.int 1)) T5 (mkF m 28 #[.val (.long i0), .second, .val (.long i1), .second, .val (.long i2), .second, .val (.long i3), .second, .val (.int i4), .val (.long c2), .second, .unset, .unset, .unset, .unset, .unset, .unset, .unset, .unset, .unset, .unset, .unset, .unset, .unset, .unset, .unset, .unset, .unset, .unset] [(.long d2)]) := by
      intro T5 S6 d2 
      refine s_lstore (Ls' := #[.val (.long i0), .second, .val (.long i1), .second, .val (.long i2), .second, .val (.long i3), .second, .val (.int i4), .val (.long c2), .second, .val (.long d2), .second, .unset, .unset, .unset, .unset, .unset, .unset, .unset, .unset, .unset, .unset, .unset, .unset, .unset, .unset, .unset, .unset]) 30 A S6 at_28 rfl rfl ?_
      refine s_lloadN 31 A S6 at_30 rfl rfl ?_
      refine s_lloadN 32 A S6 at_31 rfl rfl ?_
      refine s_callV (y := (⟨"java/lang/Math", "min", "(JJ)J"⟩ : MethodName)) (argsL := [(.long i0), (.long i1)]) (rest := []) 35 A S6 (hw _ (List.mem_of_getElem? (i := 0) rfl)) (hw _ (List.mem_of_getElem? (i := 1) rfl)) (hw _ (List.mem_of_getElem? (i := 2) rfl)) (hw _ (List.mem_of_getElem? (i := 3) rfl)) (rm1 l Z a0 hw [] i0 i1 h0 n0 Z0) (lenOf pd__JJ_J rfl) at_32 rfl rfl rfl (by decide) (by decide) (Nat.le_of_ble_eq_true rfl) (by decide) (by decide) fun T7 S8 => ?_
      refine s_lstore (Ls' := #[.val (.long i0), .second, .val (.long i1), .second, .val (.long i2), .second, .val (.long i3), .second, .val (.int i4), .val (.long c2), .second, .val (.long d2), .second, .val (.long (own_min i0 i1)), .second, .unset, .unset, .unset, .unset, .unset, .unset, .unset, .unset, .unset, .unset, .unset, .unset, .unset, .unset]) 37 A S8 at_35 rfl rfl ?_
      obtain ⟨lo, h_lo⟩ : ∃ z, (own_min i0 i1) = z := ⟨_, rfl⟩
      have t_lo := own_mint i0 i1
      rw [h_lo] at t_lo
      rw [h_lo]
      refine s_lloadN 38 A S8 at_37 rfl rfl ?_
      refine s_lloadN 39 A S8 at_38 rfl rfl ?_
      refine s_callV (y := (⟨"java/lang/Math", "max", "(JJ)J"⟩ : MethodName)) (argsL := [(.long i0), (.long i1)]) (rest := []) 42 A S8 (hw _ (List.mem_of_getElem? (i := 4) rfl)) (hw _ (List.mem_of_getElem? (i := 5) rfl)) (hw _ (List.mem_of_getElem? (i := 2) rfl)) (hw _ (List.mem_of_getElem? (i := 6) rfl)) (rm2 l Z a0 hw [] i0 i1 h0 n0 Z0) (lenOf pd__JJ_J rfl) at_39 rfl rfl rfl (by decide) (by decide) (Nat.le_of_ble_eq_true rfl) (by decide) (by decide) fun T9 S10 => ?_
      refine s_lstore (Ls' := #[.val (.long i0), .second, .val (.long i1), .second, .val (.long i2), .second, .val (.long i3), .second, .val (.int i4), .val (.long c2), .second, .val (.long d2), .second, .val (.long lo), .second, .val (.long (own_max i0 i1)), .second, .unset, .unset, .unset, .unset, .unset, .unset, .unset, .unset, .unset, .unset, .unset, .unset]) 44 A S10 at_42 rfl rfl ?_
      obtain ⟨hi, h_hi⟩ : ∃ z, (own_max i0 i1) = z := ⟨_, rfl⟩
      have t_hi := own_maxt i0 i1
      rw [h_hi] at t_hi
      rw [h_hi]
      refine s_lload 46 A S10 at_44 rfl rfl ?_
      refine s_lload 48 A S10 at_46 rfl rfl ?_
      refine s_callV (y := (⟨"java/lang/Math", "min", "(JJ)J"⟩ : MethodName)) (argsL := [(.long c2), (.long d2)]) (rest := []) 51 A S10 (hw _ (List.mem_of_getElem? (i := 0) rfl)) (hw _ (List.mem_of_getElem? (i := 1) rfl)) (hw _ (List.mem_of_getElem? (i := 2) rfl)) (hw _ (List.mem_of_getElem? (i := 3) rfl)) (rm1 l Z a0 hw [] c2 d2 h0 n0 Z0) (lenOf pd__JJ_J rfl) at_48 rfl rfl rfl (by decide) (by decide) (Nat.le_of_ble_eq_true rfl) (by decide) (by decide) fun T11 S12 => ?_
      refine s_lstore (Ls' := #[.val (.long i0), .second, .val (.long i1), .second, .val (.long i2), .second, .val (.long i3), .second, .val (.int i4), .val (.long c2), .second, .val (.long d2), .second, .val (.long lo), .second, .val (.long hi), .second, .val (.long (own_min c2 d2)), .second, .unset, .unset, .unset, .unset, .unset, .unset, .unset, .unset, .unset, .unset]) 53 A S12 at_51 rfl rfl ?_
      obtain ⟨ol, h_ol⟩ : ∃ z, (own_min c2 d2) = z := ⟨_, rfl⟩
      have t_ol := own_mint c2 d2
      rw [h_ol] at t_ol
      rw [h_ol]
      refine s_lload 55 A S12 at_53 rfl rfl ?_
      refine s_lload 57 A S12 at_55 rfl rfl ?_
      refine s_callV (y := (⟨"java/lang/Math", "max", "(JJ)J"⟩ : MethodName)) (argsL := [(.long c2), (.long d2)]) (rest := []) 60 A S12 (hw _ (List.mem_of_getElem? (i := 4) rfl)) (hw _ (List.mem_of_getElem? (i := 5) rfl)) (hw _ (List.mem_of_getElem? (i := 2) rfl)) (hw _ (List.mem_of_getElem? (i := 6) rfl)) (rm2 l Z a0 hw [] c2 d2 h0 n0 Z0) (lenOf pd__JJ_J rfl) at_57 rfl rfl rfl (by decide) (by decide) (Nat.le_of_ble_eq_true rfl) (by decide) (by decide) fun T13 S14 => ?_
      refine s_lstore (Ls' := #[.val (.long i0), .second, .val (.long i1), .second, .val (.long i2), .second, .val (.long i3), .second, .val (.int i4), .val (.long c2), .second, .val (.long d2), .second, .val (.long lo), .second, .val (.long hi), .second, .val (.long ol), .second, .val (.long (own_max c2 d2)), .second, .unset, .unset, .unset, .unset, .unset, .unset, .unset, .unset]) 62 A S14 at_60 rfl rfl ?_
      obtain ⟨oh, h_oh⟩ : ∃ z, (own_max c2 d2) = z := ⟨_, rfl⟩
      have t_oh := own_maxt c2 d2
      rw [h_oh] at t_oh
      rw [h_oh]
      refine s_new 65 A S14 (hw _ (List.mem_of_getElem? (i := 7) rfl)) (hw _ (List.mem_of_getElem? (i := 8) rfl)) (hw _ (List.mem_of_getElem? (i := 9) rfl)) at_62 rfl (by decide) (by decide) fun T15 h16 a18 ha_a18 E_a18 X_a18 D_a18 S17 => ?_
      have ge_a18 : n0 ≤ a18 := by rw [ha_a18]; exact Z0
      have Z19 : n0 ≤ h16.size := Nat.le_trans Z0 E_a18.1
      have F_a18_lowKhz : Fld Z h16 a18 "com/example/dodge_band/dodgeband/model/FrequencyRange" "lowKhz" "J" (.long (0 : Int64)) := D_a18 (Or.inr (hw _ (List.mem_of_getElem? (i := 22) rfl))) (ty := .long) (by decide)
      have F_a18_highKhz : Fld Z h16 a18 "com/example/dodge_band/dodgeband/model/FrequencyRange" "highKhz" "J" (.long (0 : Int64)) := D_a18 (Or.inr (hw _ (List.mem_of_getElem? (i := 24) rfl))) (ty := .long) (by decide)
      refine s_dup 66 A S17 at_65 rfl rfl ?_
      refine s_lload 68 A S17 at_66 rfl rfl ?_
      refine s_lload 70 A S17 at_68 rfl rfl ?_
      refine s_spec (y := (⟨"com/example/dodge_band/dodgeband/model/FrequencyRange", "<init>", "(JJ)V"⟩ : MethodName)) (argsL := [(.long lo), (.long hi)]) (rest := [(.ref a18)]) (b := a18) 73 A S17 (hw _ (List.mem_of_getElem? (i := 10) rfl)) (hw _ (List.mem_of_getElem? (i := 11) rfl)) (hw _ (List.mem_of_getElem? (i := 9) rfl)) (hw _ (List.mem_of_getElem? (i := 12) rfl)) (rm3 l Z a0 hw [] a18 lo hi h16 n0 Z19 X_a18 F_a18_lowKhz F_a18_highKhz ge_a18 (by omega)) (lenOf pd__JJ_V rfl) at_70 rfl rfl rfl rfl (by decide) (by decide) (Nat.le_of_ble_eq_true rfl) (by decide) (by decide) fun T20 h22 v23 q24 S21 => ?_
      obtain ⟨rfl, K25, E26, F27, F28⟩ := q24
      show own_G _ _ _ _ _ _ _ _ _ (mkF m 73 #[.val (.long i0), .second, .val (.long i1), .second, .val (.long i2), .second, .val (.long i3), .second, .val (.int i4), .val (.long c2), .second, .val (.long d2), .second, .val (.long lo), .second, .val (.long hi), .second, .val (.long ol), .second, .val (.long oh), .second, .unset, .unset, .unset, .unset, .unset, .unset, .unset, .unset] [(.ref a18)])
      have E31 := Exa.keep X_a18 K25
      have Z32 : n0 ≤ h22.size := Nat.le_trans Z19 K25.1
      refine s_astore (Ls' := #[.val (.long i0), .second, .val (.long i1), .second, .val (.long i2), .second, .val (.long i3), .second, .val (.int i4), .val (.long c2), .second, .val (.long d2), .second, .val (.long lo), .second, .val (.long hi), .second, .val (.long ol), .second, .val (.long oh), .second, .val (.ref a18), .unset, .unset, .unset, .unset, .unset, .unset, .unset]) 75 A S21 at_73 (by first | rfl | assumption) rfl rfl ?_
      refine s_new 78 A S21 (hw _ (List.mem_of_getElem? (i := 7) rfl)) (hw _ (List.mem_of_getElem? (i := 8) rfl)) (hw _ (List.mem_of_getElem? (i := 9) rfl)) at_75 rfl (by decide) (by decide) fun T33 h34 a36 ha_a36 E_a36 X_a36 D_a36 S35 => ?_
      have ne_a18_a36 : a18 ≠ a36 := by rw [ha_a36]; exact Nat.ne_of_lt E31.lt
      have ge_a36 : n0 ≤ a36 := by rw [ha_a36]; exact Z32
      have F37 := Fld.ext E_a36 F27
      have F38 := Fld.ext E_a36 F28
      have E39 := Exa.ext E_a36 E31
      have Z40 : n0 ≤ h34.size := Nat.le_trans Z32 E_a36.1
      have F_a36_lowKhz : Fld Z h34 a36 "com/example/dodge_band/dodgeband/model/FrequencyRange" "lowKhz" "J" (.long (0 : Int64)) := D_a36 (Or.inr (hw _ (List.mem_of_getElem? (i := 22) rfl))) (ty := .long) (by decide)
      have F_a36_highKhz : Fld Z h34 a36 "com/example/dodge_band/dodgeband/model/FrequencyRange" "highKhz" "J" (.long (0 : Int64)) := D_a36 (Or.inr (hw _ (List.mem_of_getElem? (i := 24) rfl))) (ty := .long) (by decide)
      refine s_dup 79 A S35 at_78 rfl rfl ?_
      refine s_lload 81 A S35 at_79 rfl rfl ?_
      refine s_lload 83 A S35 at_81 rfl rfl ?_
      refine s_spec (y := (⟨"com/example/dodge_band/dodgeband/model/FrequencyRange", "<init>", "(JJ)V"⟩ : MethodName)) (argsL := [(.long ol), (.long oh)]) (rest := [(.ref a36)]) (b := a36) 86 A S35 (hw _ (List.mem_of_getElem? (i := 10) rfl)) (hw _ (List.mem_of_getElem? (i := 11) rfl)) (hw _ (List.mem_of_getElem? (i := 9) rfl)) (hw _ (List.mem_of_getElem? (i := 12) rfl)) (rm3 l Z a0 hw [] a36 ol oh h34 n0 Z40 X_a36 F_a36_lowKhz F_a36_highKhz ge_a36 (by omega)) (lenOf pd__JJ_V rfl) at_83 rfl rfl rfl rfl (by decide) (by decide) (Nat.le_of_ble_eq_true rfl) (by decide) (by decide) fun T41 h43 v44 q45 S42 => ?_
      obtain ⟨rfl, K46, E47, F48, F49⟩ := q45
      show own_G _ _ _ _ _ _ _ _ _ (mkF m 86 #[.val (.long i0), .second, .val (.long i1), .second, .val (.long i2), .second, .val (.long i3), .second, .val (.int i4), .val (.long c2), .second, .val (.long d2), .second, .val (.long lo), .second, .val (.long hi), .second, .val (.long ol), .second, .val (.long oh), .second, .val (.ref a18), .unset, .unset, .unset, .unset, .unset, .unset, .unset] [(.ref a36)])
      have F50 := Fld.keep F37 K46 (ninS ne_a18_a36 nin0)
      have F51 := Fld.keep F38 K46 (ninS ne_a18_a36 nin0)
      have E54 := Exa.keep E39 K46
      have E55 := Exa.keep X_a36 K46
      have Z56 : n0 ≤ h43.size := Nat.le_trans Z40 K46.1
      refine s_astore (Ls' := #[.val (.long i0), .second, .val (.long i1), .second, .val (.long i2), .second, .val (.long i3), .second, .val (.int i4), .val (.long c2), .second, .val (.long d2), .second, .val (.long lo), .second, .val (.long hi), .second, .val (.long ol), .second, .val (.long oh), .second, .val (.ref a18), .val (.ref a36), .unset, .unset, .unset, .unset, .unset, .unset]) 88 A S42 at_86 (by first | rfl | assumption) rfl rfl ?_
      have J119_57 : ∀ (T58 : State) (_ : own_S p l e room_1 s m #[(.long i0), (.long i1), (.long i2), (.long i3), (.int i4)] below meth c n0 T58 h43 2 4) (z1 : Int32), (z1 = own_con lo hi ol oh) → own_G p e below s n0 room_1.cells room_1.slots (fun v h' => v = some (.int 1)) T58 (mkF m 119 #[.val (.long i0), .second, .val (.long i1), .second, .val (.long i2), .second, .val (.long i3), .second, .val (.int i4), .val (.long c2), .second, .val (.long d2), .second, .val (.long lo), .second, .val (.long hi), .second, .val (.long ol), .second, .val (.long oh), .second, .val (.ref a18), .val (.ref a36), .unset, .unset, .unset, .unset, .unset, .unset] [(.int z1)]) := by
        intro T58 S59 z1 hz1
        refine s_istore (Ls' := #[.val (.long i0), .second, .val (.long i1), .second, .val (.long i2), .second, .val (.long i3), .second, .val (.int i4), .val (.long c2), .second, .val (.long d2), .second, .val (.long lo), .second, .val (.long hi), .second, .val (.long ol), .second, .val (.long oh), .second, .val (.ref a18), .val (.ref a36), .val (.int z1), .unset, .unset, .unset, .unset, .unset]) 121 A S59 at_119 rfl rfl ?_
        refine s_aload 123 A S59 at_121 rfl (by first | rfl | assumption) rfl ?_
        refine s_aload 125 A S59 at_123 rfl (by first | rfl | assumption) rfl ?_
        refine s_virtV (y := (⟨"com/example/dodge_band/dodgeband/model/FrequencyRange", "contains", "(Lcom/example/dodge_band/dodgeband/model/FrequencyRange;)Z"⟩ : MethodName)) (z := (⟨"com/example/dodge_band/dodgeband/model/FrequencyRange", "contains", "(Lcom/example/dodge_band/dodgeband/model/FrequencyRange;)Z"⟩ : MethodName)) (argsL := [(.ref a36)]) (rest := []) (b := a18) 128 A S59 E54 (hw _ (List.mem_of_getElem? (i := 25) rfl)) (hw _ (List.mem_of_getElem? (i := 26) rfl)) (notFace_of_selects (args := #[]) (mvT A.2.2.2.2.2.2.2 (hw _ (List.mem_of_getElem? (i := 28) rfl)))) (hw _ (List.mem_of_getElem? (i := 28) rfl)) (hw _ (List.mem_of_getElem? (i := 27) rfl)) (hw _ (List.mem_of_getElem? (i := 9) rfl)) (hw _ (List.mem_of_getElem? (i := 29) rfl)) (rm6 l Z a0 hw [] a18 a36 lo hi ol oh h43 n0 Z56 F50 F51 F48 F49) (lenOf pd__Lcom_example_dodge_band_dodgeband_model_FrequencyRange__Z rfl) at_125 rfl rfl rfl (by decide) (by decide) (Nat.le_of_ble_eq_true rfl) (by decide) (by decide) fun T60 S61 => ?_
        refine s_istore (Ls' := #[.val (.long i0), .second, .val (.long i1), .second, .val (.long i2), .second, .val (.long i3), .second, .val (.int i4), .val (.long c2), .second, .val (.long d2), .second, .val (.long lo), .second, .val (.long hi), .second, .val (.long ol), .second, .val (.long oh), .second, .val (.ref a18), .val (.ref a36), .val (.int z1), .val (.int (own_con lo hi ol oh)), .unset, .unset, .unset, .unset]) 130 A S61 at_128 rfl rfl ?_
        refine s_aload 132 A S61 at_130 rfl (by first | rfl | assumption) rfl ?_
        refine s_aload 134 A S61 at_132 rfl (by first | rfl | assumption) rfl ?_
        refine s_virtV (y := (⟨"com/example/dodge_band/dodgeband/model/FrequencyRange", "contains", "(Lcom/example/dodge_band/dodgeband/model/FrequencyRange;)Z"⟩ : MethodName)) (z := (⟨"com/example/dodge_band/dodgeband/model/FrequencyRange", "contains", "(Lcom/example/dodge_band/dodgeband/model/FrequencyRange;)Z"⟩ : MethodName)) (argsL := [(.ref a18)]) (rest := []) (b := a36) 137 A S61 E55 (hw _ (List.mem_of_getElem? (i := 25) rfl)) (hw _ (List.mem_of_getElem? (i := 26) rfl)) (notFace_of_selects (args := #[]) (mvT A.2.2.2.2.2.2.2 (hw _ (List.mem_of_getElem? (i := 28) rfl)))) (hw _ (List.mem_of_getElem? (i := 28) rfl)) (hw _ (List.mem_of_getElem? (i := 27) rfl)) (hw _ (List.mem_of_getElem? (i := 9) rfl)) (hw _ (List.mem_of_getElem? (i := 29) rfl)) (rm6 l Z a0 hw [] a36 a18 ol oh lo hi h43 n0 Z56 F48 F49 F50 F51) (lenOf pd__Lcom_example_dodge_band_dodgeband_model_FrequencyRange__Z rfl) at_134 rfl rfl rfl (by decide) (by decide) (Nat.le_of_ble_eq_true rfl) (by decide) (by decide) fun T62 S63 => ?_
        refine s_istore (Ls' := #[.val (.long i0), .second, .val (.long i1), .second, .val (.long i2), .second, .val (.long i3), .second, .val (.int i4), .val (.long c2), .second, .val (.long d2), .second, .val (.long lo), .second, .val (.long hi), .second, .val (.long ol), .second, .val (.long oh), .second, .val (.ref a18), .val (.ref a36), .val (.int z1), .val (.int (own_con lo hi ol oh)), .val (.int (own_con ol oh lo hi)), .unset, .unset, .unset]) 139 A S63 at_137 rfl rfl ?_
        refine s_aload 141 A S63 at_139 rfl (by first | rfl | assumption) rfl ?_
        refine s_aload 143 A S63 at_141 rfl (by first | rfl | assumption) rfl ?_
        refine s_virtV (y := (⟨"com/example/dodge_band/dodgeband/model/FrequencyRange", "contains", "(Lcom/example/dodge_band/dodgeband/model/FrequencyRange;)Z"⟩ : MethodName)) (z := (⟨"com/example/dodge_band/dodgeband/model/FrequencyRange", "contains", "(Lcom/example/dodge_band/dodgeband/model/FrequencyRange;)Z"⟩ : MethodName)) (argsL := [(.ref a18)]) (rest := []) (b := a18) 146 A S63 E54 (hw _ (List.mem_of_getElem? (i := 25) rfl)) (hw _ (List.mem_of_getElem? (i := 26) rfl)) (notFace_of_selects (args := #[]) (mvT A.2.2.2.2.2.2.2 (hw _ (List.mem_of_getElem? (i := 28) rfl)))) (hw _ (List.mem_of_getElem? (i := 28) rfl)) (hw _ (List.mem_of_getElem? (i := 27) rfl)) (hw _ (List.mem_of_getElem? (i := 9) rfl)) (hw _ (List.mem_of_getElem? (i := 29) rfl)) (rm6 l Z a0 hw [] a18 a18 lo hi lo hi h43 n0 Z56 F50 F51 F50 F51) (lenOf pd__Lcom_example_dodge_band_dodgeband_model_FrequencyRange__Z rfl) at_143 rfl rfl rfl (by decide) (by decide) (Nat.le_of_ble_eq_true rfl) (by decide) (by decide) fun T64 S65 => ?_
        refine s_istore (Ls' := #[.val (.long i0), .second, .val (.long i1), .second, .val (.long i2), .second, .val (.long i3), .second, .val (.int i4), .val (.long c2), .second, .val (.long d2), .second, .val (.long lo), .second, .val (.long hi), .second, .val (.long ol), .second, .val (.long oh), .second, .val (.ref a18), .val (.ref a36), .val (.int z1), .val (.int (own_con lo hi ol oh)), .val (.int (own_con ol oh lo hi)), .val (.int (own_con lo hi lo hi)), .unset, .unset]) 148 A S65 at_146 rfl rfl ?_
        have w1 := own_con01 lo hi ol oh
        have w2 := own_con01 ol oh lo hi
        have w3 := own_con01 lo hi lo hi
        have J163_66 : ∀ (T67 : State) (_ : own_S p l e room_1 s m #[(.long i0), (.long i1), (.long i2), (.long i3), (.int i4)] below meth c n0 T67 h43 2 4) (z2 : Int32), ((z2 = 1 ∧ own_con lo hi ol oh = 1 ∧ own_con ol oh lo hi = 1) ∨ (z2 = 0 ∧ ¬ (own_con lo hi ol oh = 1 ∧ own_con ol oh lo hi = 1))) → own_G p e below s n0 room_1.cells room_1.slots (fun v h' => v = some (.int 1)) T67 (mkF m 163 #[.val (.long i0), .second, .val (.long i1), .second, .val (.long i2), .second, .val (.long i3), .second, .val (.int i4), .val (.long c2), .second, .val (.long d2), .second, .val (.long lo), .second, .val (.long hi), .second, .val (.long ol), .second, .val (.long oh), .second, .val (.ref a18), .val (.ref a36), .val (.int z1), .val (.int (own_con lo hi ol oh)), .val (.int (own_con ol oh lo hi)), .val (.int (own_con lo hi lo hi)), .unset, .unset] [(.int z2)]) := by
          intro T67 S68 z2 hz2
          refine s_istore (Ls' := #[.val (.long i0), .second, .val (.long i1), .second, .val (.long i2), .second, .val (.long i3), .second, .val (.int i4), .val (.long c2), .second, .val (.long d2), .second, .val (.long lo), .second, .val (.long hi), .second, .val (.long ol), .second, .val (.long oh), .second, .val (.ref a18), .val (.ref a36), .val (.int z1), .val (.int (own_con lo hi ol oh)), .val (.int (own_con ol oh lo hi)), .val (.int (own_con lo hi lo hi)), .val (.int z2), .unset]) 165 A S68 at_163 rfl rfl ?_
          have J186_69 : ∀ (T70 : State) (_ : own_S p l e room_1 s m #[(.long i0), (.long i1), (.long i2), (.long i3), (.int i4)] below meth c n0 T70 h43 2 4) (z3 : Int32), ((z3 = 1 ∧ lo.toInt = ol.toInt ∧ hi.toInt = oh.toInt) ∨ (z3 = 0 ∧ ¬ (lo.toInt = ol.toInt ∧ hi.toInt = oh.toInt))) → own_G p e below s n0 room_1.cells room_1.slots (fun v h' => v = some (.int 1)) T70 (mkF m 186 #[.val (.long i0), .second, .val (.long i1), .second, .val (.long i2), .second, .val (.long i3), .second, .val (.int i4), .val (.long c2), .second, .val (.long d2), .second, .val (.long lo), .second, .val (.long hi), .second, .val (.long ol), .second, .val (.long oh), .second, .val (.ref a18), .val (.ref a36), .val (.int z1), .val (.int (own_con lo hi ol oh)), .val (.int (own_con ol oh lo hi)), .val (.int (own_con lo hi lo hi)), .val (.int z2), .unset] [(.int z3)]) := by
            intro T70 S71 z3 hz3
            refine s_istore (Ls' := #[.val (.long i0), .second, .val (.long i1), .second, .val (.long i2), .second, .val (.long i3), .second, .val (.int i4), .val (.long c2), .second, .val (.long d2), .second, .val (.long lo), .second, .val (.long hi), .second, .val (.long ol), .second, .val (.long oh), .second, .val (.ref a18), .val (.ref a36), .val (.int z1), .val (.int (own_con lo hi ol oh)), .val (.int (own_con ol oh lo hi)), .val (.int (own_con lo hi lo hi)), .val (.int z2), .val (.int z3)]) 188 A S71 at_186 rfl rfl ?_
            refine s_iload 190 A S71 at_188 rfl rfl ?_
            refine s_iload 192 A S71 at_190 rfl rfl ?_
            refine s_ine 211 195 A S71 rfl rfl at_192 (by decide) (by decide) rfl (fun c72 tc72 => (by exact c72 hz1.symm : False).elim) (fun c72 tc72 => ?_)
            refine s_iload 197 A S71 at_195 rfl rfl ?_
            refine s_ifeq 211 200 A S71 rfl at_197 (by decide) (by decide) rfl (fun c73 tc73 => (by exact absurd (c73.symm.trans (own_con1 ⟨Int.le_refl _, Int.le_refl _⟩)) (by decide) : False).elim) (fun c73 tc73 => ?_)
            refine s_iload 202 A S71 at_200 rfl rfl ?_
            refine s_iload 204 A S71 at_202 rfl rfl ?_
            refine s_ine 211 207 A S71 rfl rfl at_204 (by decide) (by decide) rfl (fun c74 tc74 => (by rcases hz2 with ⟨q1, q2, q3⟩ | ⟨q1, q2⟩ <;> rcases hz3 with ⟨q4, q5⟩ | ⟨q4, q5⟩ <;> rcases w1 with ⟨q6, q7⟩ | ⟨q6, q7⟩ <;> rcases w2 with ⟨q8, q9⟩ | ⟨q8, q9⟩ <;> first | exact c74 (q1.trans q4.symm) | (exfalso; omega) | exact absurd ⟨q6, q8⟩ q2 | exact absurd (q6.symm.trans q2) (by decide) | exact absurd (q8.symm.trans q3) (by decide) : False).elim) (fun c74 tc74 => ?_)
            refine s_iconst (z := (1 : Int32)) 208 A S71 at_207 rfl rfl ?_
            refine s_goto 212 A S71 at_208 (by decide) (by decide) ?_
            exact s_retZ A S71 at_212 rfl (by decide) (by decide) rfl
          refine s_lload 167 A S68 at_165 rfl rfl ?_
          refine s_lload 169 A S68 at_167 rfl rfl ?_
          refine s_lifne 185 173 170 A S68 rfl rfl at_169 rfl at_170 (by decide) (by decide) rfl (fun c75 tc75 => ?_) (fun c75 tc75 => ?_)
          · refine s_iconst (z := (0 : Int32)) 186 A S68 at_185 rfl rfl ?_
            exact J186_69 T67 S68 (0 : Int32) (Or.inr ⟨rfl, by omega⟩)
          · refine s_lload 175 A S68 at_173 rfl rfl ?_
            refine s_lload 177 A S68 at_175 rfl rfl ?_
            refine s_lifne 185 181 178 A S68 rfl rfl at_177 rfl at_178 (by decide) (by decide) rfl (fun c76 tc76 => ?_) (fun c76 tc76 => ?_)
            · refine s_iconst (z := (0 : Int32)) 186 A S68 at_185 rfl rfl ?_
              exact J186_69 T67 S68 (0 : Int32) (Or.inr ⟨rfl, by omega⟩)
            · refine s_iconst (z := (1 : Int32)) 182 A S68 at_181 rfl rfl ?_
              refine s_goto 186 A S68 at_182 (by decide) (by decide) ?_
              exact J186_69 T67 S68 (1 : Int32) (Or.inl ⟨rfl, by omega⟩)
        refine s_iload 150 A S65 at_148 rfl rfl ?_
        refine s_ifeq 162 153 A S65 rfl at_150 (by decide) (by decide) rfl (fun c77 tc77 => ?_) (fun c77 tc77 => ?_)
        · refine s_iconst (z := (0 : Int32)) 163 A S65 at_162 rfl rfl ?_
          exact J163_66 T64 S65 (0 : Int32) (Or.inr ⟨rfl, fun q => absurd (c77.symm.trans q.1) (by decide)⟩)
        · refine s_iload 155 A S65 at_153 rfl rfl ?_
          refine s_ifeq 162 158 A S65 rfl at_155 (by decide) (by decide) rfl (fun c78 tc78 => ?_) (fun c78 tc78 => ?_)
          · refine s_iconst (z := (0 : Int32)) 163 A S65 at_162 rfl rfl ?_
            exact J163_66 T64 S65 (0 : Int32) (Or.inr ⟨rfl, fun q => absurd (c78.symm.trans q.2) (by decide)⟩)
          · refine s_iconst (z := (1 : Int32)) 159 A S65 at_158 rfl rfl ?_
            refine s_goto 163 A S65 at_159 (by decide) (by decide) ?_
            exact J163_66 T64 S65 (1 : Int32) (Or.inl ⟨rfl, w1.elim (fun q => q.1) (fun q => absurd q.1 c77), w2.elim (fun q => q.1) (fun q => absurd q.1 c78)⟩)
      refine s_lload 90 A S42 at_88 rfl rfl ?_
      refine s_lload 92 A S42 at_90 rfl rfl ?_
      refine s_callV (y := (⟨"java/lang/Math", "min", "(JJ)J"⟩ : MethodName)) (argsL := [(.long lo), (.long ol)]) (rest := []) 95 A S42 (hw _ (List.mem_of_getElem? (i := 0) rfl)) (hw _ (List.mem_of_getElem? (i := 1) rfl)) (hw _ (List.mem_of_getElem? (i := 2) rfl)) (hw _ (List.mem_of_getElem? (i := 3) rfl)) (rm1 l Z a0 hw [] lo ol h43 n0 Z56) (lenOf pd__JJ_J rfl) at_92 rfl rfl rfl (by decide) (by decide) (Nat.le_of_ble_eq_true rfl) (by decide) (by decide) fun T79 S80 => ?_
      refine s_lload 97 A S80 at_95 rfl rfl ?_
      refine s_lifne 118 101 98 A S80 rfl rfl at_97 rfl at_98 (by decide) (by decide) rfl (fun c81 tc81 => ?_) (fun c81 tc81 => ?_)
      · refine s_iconst (z := (0 : Int32)) 119 A S80 at_118 rfl rfl ?_
        exact J119_57 T79 S80 (0 : Int32) (by rw [own_con0 (by have q1 := own_mint lo ol; have q2 := own_maxt hi oh; have q3 := fun (w : own_min lo ol = lo) => congrArg Int64.toInt w; have q4 := fun (w : own_max hi oh = hi) => congrArg Int64.toInt w; omega)])
      · refine s_lload 103 A S80 at_101 rfl rfl ?_
        refine s_lload 105 A S80 at_103 rfl rfl ?_
        refine s_callV (y := (⟨"java/lang/Math", "max", "(JJ)J"⟩ : MethodName)) (argsL := [(.long hi), (.long oh)]) (rest := []) 108 A S80 (hw _ (List.mem_of_getElem? (i := 4) rfl)) (hw _ (List.mem_of_getElem? (i := 5) rfl)) (hw _ (List.mem_of_getElem? (i := 2) rfl)) (hw _ (List.mem_of_getElem? (i := 6) rfl)) (rm2 l Z a0 hw [] hi oh h43 n0 Z56) (lenOf pd__JJ_J rfl) at_105 rfl rfl rfl (by decide) (by decide) (Nat.le_of_ble_eq_true rfl) (by decide) (by decide) fun T82 S83 => ?_
        refine s_lload 110 A S83 at_108 rfl rfl ?_
        refine s_lifne 118 114 111 A S83 rfl rfl at_110 rfl at_111 (by decide) (by decide) rfl (fun c84 tc84 => ?_) (fun c84 tc84 => ?_)
        · refine s_iconst (z := (0 : Int32)) 119 A S83 at_118 rfl rfl ?_
          exact J119_57 T82 S83 (0 : Int32) (by rw [own_con0 (by have q1 := own_mint lo ol; have q2 := own_maxt hi oh; have q3 := fun (w : own_min lo ol = lo) => congrArg Int64.toInt w; have q4 := fun (w : own_max hi oh = hi) => congrArg Int64.toInt w; omega)])
        · refine s_iconst (z := (1 : Int32)) 115 A S83 at_114 rfl rfl ?_
          refine s_goto 119 A S83 at_115 (by decide) (by decide) ?_
          exact J119_57 T82 S83 (1 : Int32) (by rw [own_con1 (by have q1 := own_mint lo ol; have q2 := own_maxt hi oh; have q3 := fun (w : own_min lo ol = lo) => congrArg Int64.toInt w; have q4 := fun (w : own_max hi oh = hi) => congrArg Int64.toInt w; omega)])
    refine s_iload 17 A S3 at_15 rfl rfl ?_
    refine s_iconst (z := (2 : Int32)) 18 A S3 at_17 rfl rfl ?_
    refine s_iand (z := (i4 &&& (2 : Int32))) 19 A S3 at_18 rfl rfl ?_
    refine s_ifeq 26 22 A S3 rfl at_19 (by decide) (by decide) rfl (fun c85 tc85 => ?_) (fun c85 tc85 => ?_)
    · refine s_lload 28 A S3 at_26 rfl rfl ?_
      exact J28_4 T2 S3 i3
    · refine s_lloadN 23 A S3 at_22 rfl rfl ?_
      refine s_goto 28 A S3 at_23 (by decide) (by decide) ?_
      exact J28_4 T2 S3 i1
  refine s_iload 2 A S at_0 rfl rfl ?_
  refine s_iconst (z := (1 : Int32)) 3 A S at_2 rfl rfl ?_
  refine s_iand (z := (i4 &&& (1 : Int32))) 4 A S at_3 rfl rfl ?_
  refine s_ifeq 11 7 A S rfl at_4 (by decide) (by decide) rfl (fun c86 tc86 => ?_) (fun c86 tc86 => ?_)
  · refine s_lload 13 A S at_11 rfl rfl ?_
    exact J13_1 T S i2
  · refine s_lloadN 8 A S at_7 rfl rfl ?_
    refine s_goto 13 A S at_8 (by decide) (by decide) ?_
    exact J13_1 T S i0
set_option maxRecDepth 65536 in
set_option maxHeartbeats 40000000 in
theorem comes_1 {Post : Tables → Env → Array Value → State → Outcome → State → Prop} (hpost : ∀ tb e args s v u, (limb_1_1.after args s (.returned v) u = true ∧ limb_1_2.after args s (.returned v) u = true ∧ True) → FrameEnd s (.returned v) u (Jvm.fieldLocs frame_1_writes args s ++ Jvm.arrayLocs frame_1_arrays args s ++ Jvm.staticLocs frame_1_statics s) 16 128 → Post tb e args s (.returned v) u) :
    ArmFor flags0 classFile x code maxLocals ret World_1 tables_1 room_1 Calls_1 rest_1 Pre_1 Post := by
  intro l hfl _ _ p e ha hc hk s m args below hf hA hF happ hP
  obtain ⟨hcalls, hrest, hpre⟩ := hP
  obtain ⟨-, -, -, hnamed, -, -, -, hat⟩ := (Spec.applies_iff hf).mp happ
  obtain ⟨hg, hn⟩ := and_e (Cond.before_iff.mp (show (Jvm.Cond.and given_1 narrow_1).before args s = true from hpre))
  obtain ⟨g0, k0⟩ := and_e hg
  obtain ⟨j0, k1⟩ := and_e k0
  obtain ⟨j1, k2⟩ := and_e k1
  obtain ⟨j2, k3⟩ := and_e k2
  obtain ⟨j3, k4⟩ := and_e k3
  obtain ⟨w0, w1, w2, w3, w4, rfl⟩ : ∃ w0 w1 w2 w3 w4 : Value, args = #[w0, w1, w2, w3, w4] := by
    have hs : args.size = 5 := by simpa [Cond.value, given_1] using g0
    obtain ⟨L⟩ := args
    match L, hs with
    | [w0, w1, w2, w3, w4], _ => exact ⟨w0, w1, w2, w3, w4, rfl⟩
  have hw := fun d (hd : d ∈ tables_1) => atoms_spec (ws := Jvm.Cond.code x code maxLocals ret :: tables_1) hat d (List.mem_cons_of_mem _ hd)
  have hfit : Fit s := fun {y c} hc i hi => by
    obtain ⟨ha, rfl⟩ := Array.getElem?_eq_some_iff.mp hc
    have q := List.all_eq_true.mp ((Array.all_eq_true_iff_forall_mem.mp hF) _ (Array.getElem_mem ha)) i (List.mem_range.mpr hi)
    simpa [Array.getElem?_eq_getElem hi] using q
  obtain ⟨i0, ei0⟩ := isL_v j0
  obtain rfl : w0 = (.long i0) := Option.some.inj ei0
  obtain ⟨i1, ei1⟩ := isL_v j1
  obtain rfl : w1 = (.long i1) := Option.some.inj ei1
  obtain ⟨i2, ei2⟩ := isL_v j2
  obtain rfl : w2 = (.long i2) := Option.some.inj ei2
  obtain ⟨i3, ei3⟩ := isL_v j3
  obtain rfl : w3 = (.long i3) := Option.some.inj ei3
  obtain ⟨i4, ei4⟩ := is_v k4
  obtain rfl : w4 = (.int i4) := Option.some.inj ei4
  obtain ⟨n, o, h1, h2, h3, _, L, rfl, ⟨rfl, N⟩, hq⟩ := rm0 l s _ hw tables_1 i0 i1 i2 i3 i4 s.heap s.heap.size (Nat.le_refl _)  p e ha hc hk s m _ below hf ((Spec.applies_iff_loose hf).mp happ).1 ⟨rfl, State.Warmed39.refl s, rfl⟩ trivial
  refine ⟨n, _, h1, h2, h3, hpost _ _ _ _ _ _ ⟨Cond.after_iff.mpr rfl, Cond.after_iff.mpr (eq_i res_at (Term.int_eval (1)) rfl), trivial⟩ ⟨hq.1, hq.2.1, (hq.2.2.sift fun y hy => Or.inr (N y hy)).mono (by decide) (by decide)⟩⟩
theorem main_1_1 : Claimed_1_1 := comes_1 fun _ _ _ _ _ _ h hF => ⟨h.1, hF⟩
theorem main_1_2 : Claimed_1_2 := comes_1 fun _ _ _ _ _ _ h hF => ⟨h.2.1, hF⟩
end Jvm.Pilot.@@N@@
namespace Jvm.Pilot.@@N@@
open Jvm Jvm.ClassFile Sem Op Lib Jvm.Free Jvm.Stand Jvm.Pilot.@@N@@.Jvm.D
/-! MADE BY PROGRAM (witnessworld.py) out of the Statement's table words and the real class files: 11 classes; the members and pool entries that the words name. The judged class is class 1, her method 1. -/
namespace start1
open Jvm.ClassFile
def u (s : String) : CpInfo := .utf8 (stringToUtf16 s)
/-- a pool by its gaps: so many unusable entries, then the entry; so many at the end -/
def gap : Nat → List CpInfo → List CpInfo
  | 0, r => r
  | n + 1, r => .unusable :: gap n r
def poolList (es : List (Nat × CpInfo)) (last : Nat) : List CpInfo := es.foldr (fun e r => gap e.1 (e.2 :: r)) (gap last [])
def pool (es : List (Nat × CpInfo)) (last : Nat) : Array CpInfo := ⟨poolList es last⟩
def fileOf (pool : Array CpInfo) (this : Nat) (attrs : Array Attribute := #[]) (ms : Array MethodInfo := #[]) (fl : Nat := 33) (sup : Nat := 0) (ifs : Array Nat := #[]) (fds : Array FieldInfo := #[]) : ClassFile where
  minorVersion := 0
  majorVersion := 65
  constantPool := pool
  accessFlags := fl
  thisClass := this
  superClass := sup
  interfaces := ifs
  fields := fds
  methods := ms
  attributes := attrs
def plain (name : String) (sup : Option ClassId) : Class where
  name := name
  kind := .ordinary
  loader := none
  accessFlags := 33
  super := sup
  interfaces := #[]
  cf := none
  fields := #[]
  methods := #[]
  instanceTypes := #[]
  staticTypes := #[]
  resolved := #[]
  callSites := []
  init := .initialized
  statics := none
  mirror := none

def pool0 : Array CpInfo := pool [(5, u "<init>"), (0, u "()V"), (1, .class_ 10), (1, u "java/lang/Object")] 113

def k0c0 : Code := { maxStack := 0, maxLocals := 1, code := object_method_1_code, exceptionTable := #[], attributes := #[] }
def k0m0 : Method := { name := "<init>", desc := "()V", sig := { parameters := [], returnType := none }, accessFlags := 1, code := some k0c0 }
/-- java/lang/Object -/
def k0 : Class := { plain "java/lang/Object" none with
  accessFlags := 33
  interfaces := #[]
  cf := some (fileOf pool0 8 #[] #[{ accessFlags := 1, nameIndex := 5, descriptorIndex := 6, attributes := #[] }] 33 0 #[] #[])
  fields := #[]
  methods := #[k0m0]
  instanceTypes := #[]
  staticTypes := #[]
  resolved := Array.replicate 124 none
  statics := none }

def pool1 : Array CpInfo := pool [(2, .class_ 4), (1, u "java/lang/Object"), (0, u "<init>"), (0, u "()V"), (0, .methodref 8 9), (0, .class_ 10), (0, .nameAndType 11 12), (0, u "java/lang/Math"), (0, u "min"), (0, u "(JJ)J"), (0, .methodref 8 14), (0, .nameAndType 15 12), (0, u "max"), (0, .class_ 17), (0, u "com/example/dodge_band/dodgeband/model/FrequencyRange"), (0, .methodref 16 19), (0, .nameAndType 5 20), (0, u "(JJ)V"), (0, .methodref 16 22), (0, .nameAndType 23 24), (0, u "contains"), (0, u "(Lcom/example/dodge_band/dodgeband/model/FrequencyRange;)Z"), (0, .class_ 26), (0, u "com/example/dodge_band/dodgeband/model/FrequencyRangeContainsPinLaw"), (2, u "law"), (0, u "(JJJJI)Z")] 3

def k1m0 : Method := { name := "<init>", desc := "()V", sig := { parameters := [], returnType := none }, accessFlags := 1, code := none }
def k1c1 : Code := { maxStack := 6, maxLocals := 29, code := code, exceptionTable := #[], attributes := #[] }
def k1m1 : Method := { name := "law", desc := "(JJJJI)Z", sig := { parameters := [.long, .long, .long, .long, .int], returnType := some .boolean }, accessFlags := 9, code := some k1c1 }
/-- com/example/dodge_band/dodgeband/model/FrequencyRangeContainsPinLaw -/
def k1 : Class := { plain "com/example/dodge_band/dodgeband/model/FrequencyRangeContainsPinLaw" (some 0) with
  accessFlags := 49
  interfaces := #[]
  cf := some (fileOf pool1 25 #[] #[{ accessFlags := 1, nameIndex := 5, descriptorIndex := 6, attributes := #[] }, { accessFlags := 9, nameIndex := 29, descriptorIndex := 30, attributes := #[] }] 49 2 #[] #[])
  fields := #[]
  methods := #[k1m0, k1m1]
  instanceTypes := #[]
  staticTypes := #[]
  resolved := Array.replicate 34 none
  statics := none }

def pool2 : Array CpInfo := pool [(1, .class_ 2), (0, u "java/lang/Math"), (1, .class_ 6), (1, u "java/lang/Object"), (0, u "<init>"), (0, u "()V"), (89, .class_ 100), (1, u "java/lang/Math$RandomNumberGeneratorHolder"), (20, u "(JJ)J"), (50, u "negativeZeroFloatBits"), (0, u "J"), (2, u "negativeZeroDoubleBits"), (21, u "max"), (2, u "min"), (43, u "$assertionsDisabled"), (0, u "Z"), (91, u "twoToTheDoubleScaleDown"), (0, u "D"), (4, u "twoToTheDoubleScaleUp"), (9, u "E"), (3, u "PI"), (2, u "TAU"), (2, u "DEGREES_TO_RADIANS"), (0, u "RADIANS_TO_DEGREES")] 94

def k2m0 : Method := { name := "<init>", desc := "()V", sig := { parameters := [], returnType := none }, accessFlags := 2, code := none }
def k2c1 : Code := { maxStack := 4, maxLocals := 4, code := jdk_29_method_66_code, exceptionTable := #[], attributes := #[] }
def k2m1 : Method := { name := "max", desc := "(JJ)J", sig := { parameters := [.long, .long], returnType := some .long }, accessFlags := 9, code := some k2c1 }
def k2c2 : Code := { maxStack := 4, maxLocals := 4, code := jdk_29_method_70_code, exceptionTable := #[], attributes := #[] }
def k2m2 : Method := { name := "min", desc := "(JJ)J", sig := { parameters := [.long, .long], returnType := some .long }, accessFlags := 9, code := some k2c2 }
/-- java/lang/Math -/
def k2 : Class := { plain "java/lang/Math" (some 0) with
  accessFlags := 49
  interfaces := #[]
  cf := some (fileOf pool2 1 #[.nestMembers #[98]] #[{ accessFlags := 2, nameIndex := 7, descriptorIndex := 8, attributes := #[] }, { accessFlags := 9, nameIndex := 198, descriptorIndex := 121, attributes := #[] }, { accessFlags := 9, nameIndex := 201, descriptorIndex := 121, attributes := #[] }] 49 4 #[] #[{ accessFlags := 25, nameIndex := 354, descriptorIndex := 339, attributes := #[] }, { accessFlags := 25, nameIndex := 358, descriptorIndex := 339, attributes := #[] }, { accessFlags := 25, nameIndex := 361, descriptorIndex := 339, attributes := #[] }, { accessFlags := 26, nameIndex := 364, descriptorIndex := 339, attributes := #[] }, { accessFlags := 26, nameIndex := 365, descriptorIndex := 339, attributes := #[] }, { accessFlags := 26, nameIndex := 172, descriptorIndex := 173, attributes := #[] }, { accessFlags := 26, nameIndex := 176, descriptorIndex := 173, attributes := #[] }, { accessFlags := 8, nameIndex := 344, descriptorIndex := 339, attributes := #[] }, { accessFlags := 8, nameIndex := 338, descriptorIndex := 339, attributes := #[] }, { accessFlags := 4120, nameIndex := 245, descriptorIndex := 246, attributes := #[] }])
  fields := #[{ name := "E", type := .double, accessFlags := 25, slot := 0, constantValue := 0 }, { name := "PI", type := .double, accessFlags := 25, slot := 1, constantValue := 0 }, { name := "TAU", type := .double, accessFlags := 25, slot := 2, constantValue := 0 }, { name := "DEGREES_TO_RADIANS", type := .double, accessFlags := 26, slot := 3, constantValue := 0 }, { name := "RADIANS_TO_DEGREES", type := .double, accessFlags := 26, slot := 4, constantValue := 0 }, { name := "negativeZeroFloatBits", type := .long, accessFlags := 26, slot := 5, constantValue := 0 }, { name := "negativeZeroDoubleBits", type := .long, accessFlags := 26, slot := 6, constantValue := 0 }, { name := "twoToTheDoubleScaleUp", type := .double, accessFlags := 8, slot := 7, constantValue := 0 }, { name := "twoToTheDoubleScaleDown", type := .double, accessFlags := 8, slot := 8, constantValue := 0 }, { name := "$assertionsDisabled", type := .boolean, accessFlags := 4120, slot := 9, constantValue := 0 }]
  methods := #[k2m0, k2m1, k2m2]
  instanceTypes := #[]
  staticTypes := #[.double, .double, .double, .double, .double, .long, .long, .double, .double, .boolean]
  resolved := Array.replicate 460 none
  statics := none }

def pool3 : Array CpInfo := pool [(1, .methodref 2 3), (0, .class_ 4), (0, .nameAndType 5 6), (0, u "java/lang/Object"), (0, u "<init>"), (0, u "()V"), (0, .class_ 8), (0, u "java/lang/Record")] 13

def k3c0 : Code := { maxStack := 1, maxLocals := 1, code := jdk_30_method_1_code, exceptionTable := #[], attributes := #[] }
def k3m0 : Method := { name := "<init>", desc := "()V", sig := { parameters := [], returnType := none }, accessFlags := 4, code := some k3c0 }
/-- java/lang/Record -/
def k3 : Class := { plain "java/lang/Record" (some 0) with
  accessFlags := 1057
  interfaces := #[]
  cf := some (fileOf pool3 7 #[] #[{ accessFlags := 4, nameIndex := 5, descriptorIndex := 6, attributes := #[] }] 1057 2 #[] #[])
  fields := #[]
  methods := #[k3m0]
  instanceTypes := #[]
  staticTypes := #[]
  resolved := Array.replicate 22 none
  statics := none }

def pool4 : Array CpInfo := pool [(1, .methodref 2 3), (0, .class_ 4), (0, .nameAndType 5 6), (0, u "java/lang/Record"), (0, u "<init>"), (0, u "()V"), (9, .fieldref 17 18), (0, .class_ 19), (0, .nameAndType 20 21), (0, u "com/example/dodge_band/dodgeband/model/FrequencyRange"), (0, u "lowKhz"), (0, u "J"), (0, .fieldref 17 23), (0, .nameAndType 24 21), (0, u "highKhz"), (12, u "(JJ)V"), (6, u "contains"), (0, u "(Lcom/example/dodge_band/dodgeband/model/FrequencyRange;)Z")] 32

def k4c0 : Code := { maxStack := 6, maxLocals := 5, code := prog_45_method_1_code, exceptionTable := #[], attributes := #[] }
def k4m0 : Method := { name := "<init>", desc := "(JJ)V", sig := { parameters := [.long, .long], returnType := none }, accessFlags := 1, code := some k4c0 }
def k4c1 : Code := { maxStack := 4, maxLocals := 2, code := prog_45_method_3_code, exceptionTable := #[], attributes := #[] }
def k4m1 : Method := { name := "contains", desc := "(Lcom/example/dodge_band/dodgeband/model/FrequencyRange;)Z", sig := { parameters := [(.object "com/example/dodge_band/dodgeband/model/FrequencyRange")], returnType := some .boolean }, accessFlags := 1, code := some k4c1 }
/-- com/example/dodge_band/dodgeband/model/FrequencyRange -/
def k4 : Class := { plain "com/example/dodge_band/dodgeband/model/FrequencyRange" (some 3) with
  accessFlags := 49
  interfaces := #[]
  cf := some (fileOf pool4 17 #[] #[{ accessFlags := 1, nameIndex := 5, descriptorIndex := 37, attributes := #[] }, { accessFlags := 1, nameIndex := 44, descriptorIndex := 45, attributes := #[] }] 49 2 #[] #[{ accessFlags := 18, nameIndex := 20, descriptorIndex := 21, attributes := #[] }, { accessFlags := 18, nameIndex := 24, descriptorIndex := 21, attributes := #[] }])
  fields := #[{ name := "lowKhz", type := .long, accessFlags := 18, slot := 0, constantValue := 0 }, { name := "highKhz", type := .long, accessFlags := 18, slot := 1, constantValue := 0 }]
  methods := #[k4m0, k4m1]
  instanceTypes := #[.long, .long]
  staticTypes := #[]
  resolved := Array.replicate 78 none
  statics := none }

def pool5 : Array CpInfo := pool [(1, u "java/lang/Cloneable"), (0, .class_ 1), (0, u "java/lang/Object"), (0, .class_ 3)] 3

/-- java/lang/Cloneable -/
def k5 : Class := { plain "java/lang/Cloneable" (some 0) with
  accessFlags := 1537
  interfaces := #[]
  cf := some (fileOf pool5 2 #[] #[] 1537 4 #[] #[])
  fields := #[]
  methods := #[]
  instanceTypes := #[]
  staticTypes := #[]
  resolved := Array.replicate 8 none
  statics := none }

def pool6 : Array CpInfo := pool [(1, u "java/io/Serializable"), (0, .class_ 1), (0, u "java/lang/Object"), (0, .class_ 3)] 3

/-- java/io/Serializable -/
def k6 : Class := { plain "java/io/Serializable" (some 0) with
  accessFlags := 1537
  interfaces := #[]
  cf := some (fileOf pool6 2 #[] #[] 1537 4 #[] #[])
  fields := #[]
  methods := #[]
  instanceTypes := #[]
  staticTypes := #[]
  resolved := Array.replicate 8 none
  statics := none }

/-- the primitive byte -/
def k7 : Class := { plain "byte" none with kind := .primitive 'B', accessFlags := 0x411 }
/-- [B -/
def k8 : Class := { plain "[B" (some 0) with kind := .array 7 .byte, interfaces := #[5, 6], accessFlags := 1041 }

/-- the primitive int -/
def k9 : Class := { plain "int" none with kind := .primitive 'I', accessFlags := 0x411 }
/-- [I -/
def k10 : Class := { plain "[I" (some 0) with kind := .array 9 .int, interfaces := #[5, 6], accessFlags := 1041 }

def heap : Heap := #[]
def classes : Array Class := #[k0, k1, k2, k3, k4, k5, k6, k7, k8, k9, k10]
def interned : List (Array UInt16 × Addr) := []
def slotsUsed : Nat := 0
def theMethod : MethodId := ⟨1, 1⟩
def args0 : Array Value := #[.long 5, .long 7, .long 6, .long 9, .int 1]
def aboutOver (below : List Frame) : State where
  vm := { classes := classes, interned := interned.toArray }
  heap := heap
  slotsUsed := slotsUsed
  threads := #[{ frames := .invoking theMethod args0 :: below }]
def below0 : List Frame := [.native { method := ⟨0, 0⟩, args := #[] }]
def about1 : State := aboutOver below0
def p0 : Program := .bare "" "" ""
def e0 : Env := launch0.env 0 0 0
theorem w_frames : about1.frames = Frame.invoking theMethod args0 :: below0 := rfl
set_option maxRecDepth 65536 in
theorem w_args : argsFit about1.vm theMethod args0 = true := by decide +kernel
set_option maxRecDepth 65536 in
theorem w_heap : heapFits about1 = true := by decide +kernel
set_option maxRecDepth 65536 in
theorem w_runnable : about1.curStatus? = some .runnable := by decide +kernel
set_option maxRecDepth 65536 in
theorem w_alone : about1.alone = true := by decide +kernel
set_option maxRecDepth 65536 in
theorem w_named : about1.methodNamed? x = some theMethod := by decide +kernel
set_option maxRecDepth 65536 in
theorem w_hears : about1.hears theMethod below0 = true := by decide +kernel
set_option maxRecDepth 65536 in
theorem w_ripe : about1.ripe theMethod args0 below0 = true := by decide +kernel
theorem w_running : about1.status = .running := rfl
set_option maxRecDepth 65536 in
theorem w_room : about1.hasRoom e0.platform room_1 = true :=
  launch0.hasRoom_least _ room_1 (by decide +kernel) (by decide +kernel) (by decide +kernel) (by decide +kernel) (by decide +kernel) (by decide +kernel)
theorem allAtoms_all (ts : List Jvm.Cond) (a : Array Jvm.Value) (st : Jvm.State) : (allAtoms ts).before a st = ts.all (fun c => c.before a st) := by
  induction ts with
  | nil => rfl
  | cons c t ih =>
    show (Jvm.Cond.and c (allAtoms t)).before a st = _
    rw [Jvm.Cond.before_and, ih, List.all_cons]
def words1 : List Jvm.Cond := Jvm.Cond.code x code maxLocals ret :: tables_1
/-- a 'code' word, met by the world's own term for the bytes: nothing is compared byte by byte -/
theorem code_word {y : MethodName} {bytes : ByteArray} {mx : Nat} {rt : Option FieldType} {a : Array Value} {s : State} {m : MethodId} {meth : Method} {c : Code} (h1 : s.methodNamed? y = some m) (h2 : s.vm.method? m = some meth) (h3 : meth.code = some c) (h4 : c.code = bytes)
    (h5 : (c.maxLocals == mx && c.exceptionTable.isEmpty && decide (c.maxStack ≤ mostOperands) && decide (meth.sig.returnType = rt) && !meth.locks && decide (parseMethodDescriptor y.desc = some meth.sig)) = true) : (Jvm.Cond.code y bytes mx rt).before a s = true := by
  simp only [Bool.and_eq_true, beq_iff_eq, Bool.not_eq_true', decide_eq_true_eq] at h5
  obtain ⟨⟨⟨⟨⟨g1, g2⟩, g3⟩, g4⟩, g5⟩, g6⟩ := h5
  simp [Cond.before, Cond.holds, Cond.value, h1, h2, h3, h4, g1, g2, g3, g4, g5, g6]
def isCode : Jvm.Cond → Bool
  | .code _ _ _ _ => true
  | _ => false
theorem all_split {L : List Jvm.Cond} {P : Jvm.Cond → Bool} (h1 : L.all (fun c => isCode c || P c) = true) (h2 : ∀ c ∈ L.filter isCode, P c = true) : L.all P = true := by
  refine List.all_eq_true.mpr fun c hc => ?_
  have h := List.all_eq_true.mp h1 c hc
  rcases Bool.eq_false_or_eq_true (isCode c) with hi | hi
  · exact h2 c (List.mem_filter.mpr ⟨hc, hi⟩)
  · simpa [hi] using h
set_option maxRecDepth 65536 in
theorem w_c0 : (Jvm.Cond.code x code maxLocals ret).before args0 about1 = true := code_word (m := ⟨1, 1⟩) (meth := k1m1) (c := k1c1) (by decide +kernel) rfl rfl rfl (by decide +kernel)
set_option maxRecDepth 65536 in
theorem w_c1 : (Jvm.Cond.code ({ cls := "java/lang/Math", name := "min", desc := "(JJ)J" } : Jvm.MethodName) jdk_29_method_70_code (4 : Nat) (Option.some Jvm.ClassFile.FieldType.long)).before args0 about1 = true := code_word (m := ⟨2, 2⟩) (meth := k2m2) (c := k2c2) (by decide +kernel) rfl rfl rfl (by decide +kernel)
set_option maxRecDepth 65536 in
theorem w_c2 : (Jvm.Cond.code ({ cls := "java/lang/Math", name := "max", desc := "(JJ)J" } : Jvm.MethodName) jdk_29_method_66_code (4 : Nat) (Option.some Jvm.ClassFile.FieldType.long)).before args0 about1 = true := code_word (m := ⟨2, 1⟩) (meth := k2m1) (c := k2c1) (by decide +kernel) rfl rfl rfl (by decide +kernel)
set_option maxRecDepth 65536 in
theorem w_c3 : (Jvm.Cond.code ({ cls := "com/example/dodge_band/dodgeband/model/FrequencyRange", name := "<init>", desc := "(JJ)V" } : Jvm.MethodName) prog_45_method_1_code (5 : Nat) (Option.none : Option Jvm.ClassFile.FieldType)).before args0 about1 = true := code_word (m := ⟨4, 0⟩) (meth := k4m0) (c := k4c0) (by decide +kernel) rfl rfl rfl (by decide +kernel)
set_option maxRecDepth 65536 in
theorem w_c4 : (Jvm.Cond.code ({ cls := "java/lang/Record", name := "<init>", desc := "()V" } : Jvm.MethodName) jdk_30_method_1_code (1 : Nat) (Option.none : Option Jvm.ClassFile.FieldType)).before args0 about1 = true := code_word (m := ⟨3, 0⟩) (meth := k3m0) (c := k3c0) (by decide +kernel) rfl rfl rfl (by decide +kernel)
set_option maxRecDepth 65536 in
theorem w_c5 : (Jvm.Cond.code ({ cls := "java/lang/Object", name := "<init>", desc := "()V" } : Jvm.MethodName) object_method_1_code (1 : Nat) (Option.none : Option Jvm.ClassFile.FieldType)).before args0 about1 = true := code_word (m := ⟨0, 0⟩) (meth := k0m0) (c := k0c0) (by decide +kernel) rfl rfl rfl (by decide +kernel)
set_option maxRecDepth 65536 in
theorem w_c6 : (Jvm.Cond.code ({ cls := "com/example/dodge_band/dodgeband/model/FrequencyRange", name := "contains", desc := "(Lcom/example/dodge_band/dodgeband/model/FrequencyRange;)Z" } : Jvm.MethodName) prog_45_method_3_code (2 : Nat) (Option.some Jvm.ClassFile.FieldType.boolean)).before args0 about1 = true := code_word (m := ⟨4, 1⟩) (meth := k4m1) (c := k4c1) (by decide +kernel) rfl rfl rfl (by decide +kernel)
def codes1 : List Jvm.Cond := [Jvm.Cond.code x code maxLocals ret, Jvm.Cond.code ({ cls := "java/lang/Math", name := "min", desc := "(JJ)J" } : Jvm.MethodName) jdk_29_method_70_code (4 : Nat) (Option.some Jvm.ClassFile.FieldType.long), Jvm.Cond.code ({ cls := "java/lang/Math", name := "max", desc := "(JJ)J" } : Jvm.MethodName) jdk_29_method_66_code (4 : Nat) (Option.some Jvm.ClassFile.FieldType.long), Jvm.Cond.code ({ cls := "com/example/dodge_band/dodgeband/model/FrequencyRange", name := "<init>", desc := "(JJ)V" } : Jvm.MethodName) prog_45_method_1_code (5 : Nat) (Option.none : Option Jvm.ClassFile.FieldType), Jvm.Cond.code ({ cls := "java/lang/Record", name := "<init>", desc := "()V" } : Jvm.MethodName) jdk_30_method_1_code (1 : Nat) (Option.none : Option Jvm.ClassFile.FieldType), Jvm.Cond.code ({ cls := "java/lang/Object", name := "<init>", desc := "()V" } : Jvm.MethodName) object_method_1_code (1 : Nat) (Option.none : Option Jvm.ClassFile.FieldType), Jvm.Cond.code ({ cls := "com/example/dodge_band/dodgeband/model/FrequencyRange", name := "contains", desc := "(Lcom/example/dodge_band/dodgeband/model/FrequencyRange;)Z" } : Jvm.MethodName) prog_45_method_3_code (2 : Nat) (Option.some Jvm.ClassFile.FieldType.boolean)]
set_option maxRecDepth 65536 in
theorem codes_eq : words1.filter isCode = codes1 := rfl
theorem w_codes : ∀ c ∈ words1.filter isCode, c.before args0 about1 = true := by
  rw [codes_eq]
  intro c hc
  simp only [codes1, List.mem_cons, List.not_mem_nil, or_false] at hc
  rcases hc with rfl | rfl | rfl | rfl | rfl | rfl | rfl
  · exact w_c0
  · exact w_c1
  · exact w_c2
  · exact w_c3
  · exact w_c4
  · exact w_c5
  · exact w_c6
set_option maxRecDepth 65536 in
theorem w_t1 : (words1.take 24).all (fun c => isCode c || c.before args0 about1) = true := by decide +kernel
set_option maxRecDepth 65536 in
theorem w_t2 : (words1.drop 24).all (fun c => isCode c || c.before args0 about1) = true := by decide +kernel
theorem w_tables : (allAtoms (Jvm.Cond.code x code maxLocals ret :: tables_1)).before args0 about1 = true := by
  rw [allAtoms_all]
  show words1.all (fun c => c.before args0 about1) = true
  refine all_split ?_ w_codes
  rw [← List.take_append_drop 24 words1, List.all_append, w_t1, w_t2]
  rfl
set_option maxRecDepth 65536 in
theorem w_case : (Jvm.Cond.and given_1 narrow_1).before args0 about1 = true := by decide +kernel
theorem w_applies : (headSpec (Jvm.Cond.code x code maxLocals ret :: tables_1) room_1).applies x e0.platform about1 = true :=
  (Spec.applies_iff w_frames).mpr ⟨w_running, w_runnable, w_alone, w_named, w_hears, w_ripe, w_room, w_tables⟩
theorem atStart : AtStart classFile x code maxLocals ret World_1 tables_1 room_1 Calls_1 rest_1 Pre_1 launch0 p0 e0 about1 theMethod args0 below0 :=
  ⟨lists_1, trivial, launch0.admits_env _ _ _, launch0.least_env, fairChoices_fair.cas, fairChoices_fair.clock, w_frames, w_args, w_heap, w_applies, trivial, trivial, w_case⟩
end start1
theorem witness_1 : WitnessClaimed_1 := ⟨start1.p0, start1.e0, start1.about1, start1.theMethod, start1.args0, start1.below0, start1.atStart⟩
end Jvm.Pilot.@@N@@
