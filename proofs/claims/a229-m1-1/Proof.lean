import JvmDerived
import JvmDerived.Pilot.@@N@@Statement
import JvmDerived.Pilot.@@N@@Code
set_option linter.unusedVariables false
set_option linter.unusedSimpArgs false
namespace Jvm.OwnKit
open Sem ClassFile Op Lib Jvm.Stand Jvm.Free Jvm.LawKit Jvm.RoadKit
/-- every written place is one of ws or new -/
def FrW (h0 : Heap) (ws : List Addr) (L : List Loc) : Prop := ∀ y ∈ L, y.base ∈ ws ∨ h0.size ≤ y.base
/-- what stays fixed while a body runs -/
def Fix (p : Program) (Z s : State) (m : MethodId) (meth : Method) (c : Code) (bytes : ByteArray) (maxL : Nat) (own nm : String) (ret : Option FieldType) : Prop :=
  p.tables.exec = Jvm.exec ∧ Z.Warmed39 s.vm ∧ c.code = bytes ∧ c.maxLocals = maxL ∧ s.vm.findClass own = some m.cls ∧ meth.name = nm ∧ meth.sig.returnType = ret ∧ meth.locks = false
/-- where the run stands: its heap h, what was kept since h0 -/
def St (p : Program) (l : Launch) (e : Env) (R : Room) (s : State) (m : MethodId) (args : Array Value) (below : List Frame) (meth : Method) (c : Code) (h0 : Heap) (ws : List Addr) (T : State) (h : Heap) (cells slots : Nat) : Prop :=
  ∃ locs, Stand p l e R s m args below meth c T locs cells slots ∧ T.heap = h ∧ Keep h0 h ws ∧ FrW h0 ws locs
/-- from T with the top frame f the body comes to its end, and Q holds there -/
def Go (p : Program) (e : Env) (below : List Frame) (F : State → Outcome → List Loc → Prop) (h0 : Heap) (ws : List Addr) (Q : Option Value → Heap → Prop) (T : State) (f : JFrame) : Prop :=
  ∃ t o, Steps p.tables e below (T.setTop f) t ∧ t.status = .running ∧ Ended t below o ∧ ∃ v L, o = .returned v ∧ (Q v t.heap ∧ Keep h0 t.heap ws ∧ FrW h0 ws L) ∧ F t o L
/-- the narrow end and the wide one (strings may have been interned) -/
abbrev EndN (s : State) (K N : Nat) : State → Outcome → List Loc → Prop := fun t o L => FrameEnd s o t L K N
abbrev EndW (s : State) (K N : Nat) : State → Outcome → List Loc → Prop := fun t o L => ReturnedEndW s o t L K N
/-- the wide contract -/
def MethW (l : Launch) (Z : State) (y : MethodName) (bytes : ByteArray) (maxL : Nat) (ret : Option FieldType) (rm : Room) (as' : Array Value) (h0 : Heap) (ws : List Addr) (Q : Option Value → Heap → Prop) : Prop :=
  ∀ wl, MetFree l y (head1 (Cond.code y bytes maxL ret :: wl) rm) (fun a U => a = as' ∧ Z.Warmed39 U.vm ∧ U.heap = h0) (fun _ _ _ _ _ => True) (fun _ U o U' => ∃ v L, o = .returned v ∧ (Q v U'.heap ∧ Keep h0 U'.heap ws ∧ FrW h0 ws L) ∧ ReturnedEndW U o U' L rm.cells rm.slots)
/-- the heap hasn't shrunk below n -/
def Sz (n : Nat) (h : Heap) : Prop := n ≤ h.size
theorem Sz.ext {n : Nat} {h h' : Heap} (F : Sz n h) (E : Ext h h') : Sz n h' := Nat.le_trans F E.1
theorem Sz.other {n : Nat} {h h' : Heap} {a : Addr} {sl : Nat} {v : Value} (F : Sz n h) (W : Wr h h' a sl v) (_ : True) : Sz n h' := by unfold Sz at *; rw [W.size]; exact F
theorem Sz.keep {n : Nat} {h h' : Heap} {ws : List Addr} (F : Sz n h) (K : Keep h h' ws) (_ : True) : Sz n h' := Nat.le_trans F K.1
/-- a method's contract: called with as' at the heap h0 it returns, writes ws and new cells alone, and Q holds -/
def Meth (l : Launch) (Z : State) (y : MethodName) (bytes : ByteArray) (maxL : Nat) (ret : Option FieldType) (rm : Room) (as' : Array Value) (h0 : Heap) (ws : List Addr) (Q : Option Value → Heap → Prop) : Prop :=
  ∀ wl, MetFree l y (head1 (Cond.code y bytes maxL ret :: wl) rm) (fun a U => a = as' ∧ Z.Warmed39 U.vm ∧ U.heap = h0) (fun _ _ _ _ _ => True) (fun _ U o U' => ∃ v L, o = .returned v ∧ (Q v U'.heap ∧ Keep h0 U'.heap ws ∧ FrW h0 ws L) ∧ FrameEnd U o U' L rm.cells rm.slots)
/-- an array of the kind ty that holds vs -/
def VA (Z : State) (h : Heap) (a : Addr) (ty : FieldType) (vs : List Value) : Prop := ∃ c : Cell, Arr Z h a c ty ∧ c.slots = vs.toArray ∧ vs.length < 2 ^ 31
section Arrays
variable {Z : State} {h h' : Heap} {a b : Addr} {ty : FieldType} {vs : List Value} {sl : Nat} {v : Value} {ws : List Addr}
theorem VA.lt (F : VA Z h a ty vs) : a < h.size := by obtain ⟨c, A, -⟩ := F; exact A.lt
theorem VA.ext (F : VA Z h a ty vs) (E : Ext h h') : VA Z h' a ty vs := by obtain ⟨c, A, r⟩ := F; exact ⟨c, A.ext E, r⟩
theorem VA.other (F : VA Z h b ty vs) (W : Wr h h' a sl v) (q : b ≠ a) : VA Z h' b ty vs := by obtain ⟨c, A, r⟩ := F; exact ⟨c, A.other W q, r⟩
theorem VA.keep (F : VA Z h a ty vs) (K : Keep h h' ws) (q : a ∉ ws) : VA Z h' a ty vs := by obtain ⟨c, A, r⟩ := F; exact ⟨c, ⟨K.2.1 a c A.1 q, A.2⟩, r⟩
theorem VA.set (F : VA Z h a ty vs) (W : Wr h h' a sl v) : VA Z h' a ty (vs.set sl v) := by
  obtain ⟨c, A, r, n⟩ := F
  refine ⟨_, A.same W, ?_, by simpa using n⟩
  show c.slots.setIfInBounds sl v = _
  rw [r]; simp
theorem VA.new {k : ClassId} {n : Int32} (A : Arr Z h a (newA k ty n) ty) (q : ¬ n < 0) : VA Z h a ty (List.replicate n.toNatClampNeg (defaultValue ty)) :=
  ⟨_, A, by simp [newA], by rw [List.length_replicate]; exact (back32 q).2⟩
theorem VA.len31 (F : VA Z h a ty vs) : vs.length < 2 ^ 31 := by obtain ⟨c, A, r, n⟩ := F; exact n
theorem inb {n : Nat} {j : Int32} (hj : 0 ≤ j.toInt ∧ j.toInt < n) : ¬ (j < 0 ∨ n ≤ j.toNatClampNeg) := by
  simp only [Int32.lt_iff_toInt_lt, Int32.toNatClampNeg, Int32.reduceToInt]; omega
theorem own_at {xs : List Int32} {j : Nat} (hj : j < xs.length) : (xs.map Value.int)[j]? = some (.int (xs.getD j 0)) := by
  simp [List.getElem?_eq_getElem hj]
theorem own_atL {xs : List Int64} {j : Nat} (hj : j < xs.length) : (xs.map Value.long)[j]? = some (.long (xs.getD j 0)) := by
  simp [List.getElem?_eq_getElem hj]
theorem own_set (xs : List Int32) (i : Nat) (v : Int32) : (xs.map Value.int).set i (.int v) = (xs.set i v).map Value.int := by simp [List.map_set]
theorem own_setL (xs : List Int64) (i : Nat) (v : Int64) : (xs.map Value.long).set i (.long v) = (xs.set i v).map Value.long := by simp [List.map_set]
theorem own_nat {j : Int32} {n : Nat} (h : 0 ≤ j.toInt ∧ j.toInt < n) : j.toNatClampNeg < n := by simp only [Int32.toNatClampNeg]; omega
end Arrays
section Go
variable {p : Program} {l : Launch} {e : Env} {R : Room} {s : State} {m : MethodId} {args : Array Value} {below : List Frame} {meth : Method} {c : Code} {Z : State} {bytes : ByteArray} {maxL : Nat} {own nm : String} {ret : Option FieldType} {h0 : Heap} {ws : List Addr} {T T' : State} {locs : List Loc} {h : Heap} {cells slots K N : Nat} {FE : State → Outcome → List Loc → Prop} {Q : Option Value → Heap → Prop} {pc pc' : Nat} {vm1 : Vm} {Ls Ls' : Array Slot} {st : List Value} {a0 : Array Value}
theorem Go.to {f f' : JFrame} (k : ∀ t, Steps p.tables e below (T'.setTop f') t → Steps p.tables e below (T.setTop f) t) (g : Go p e below FE h0 ws Q T' f') : Go p e below FE h0 ws Q T f := by
  obtain ⟨t, o, a, r⟩ := g; exact ⟨t, o, k t a, r⟩
theorem Go.mono {Q' : Option Value → Heap → Prop} {f : JFrame} (g : Go p e below FE h0 ws Q T f) (hq : ∀ v h, Q v h → Q' v h) : Go p e below FE h0 ws Q' T f := by
  obtain ⟨t, o, a, b, d, v, L, e1, ⟨q, r⟩, z⟩ := g; exact ⟨t, o, a, b, d, v, L, e1, ⟨hq _ _ q, r⟩, z⟩
theorem Go.entry {f f' : JFrame} (q : f = f') (g : Go p e below FE h0 ws Q T f') : Go p e below FE h0 ws Q T f := q ▸ g
theorem St.more (X : St p l e R s m args below meth c h0 ws T h cells slots) {cells' slots' : Nat} (h1 : cells ≤ cells') (h2 : slots ≤ slots') : St p l e R s m args below meth c h0 ws T h cells' slots' := by
  obtain ⟨L, X, r⟩ := X; exact ⟨L, X.more h1 h2, r⟩
theorem St.kept (X : St p l e R s m args below meth c h0 ws T h cells slots) : Keep h0 h ws := by obtain ⟨L, X, e1, k, f⟩ := X; exact k
theorem St.here (X : St p l e R s m args below meth c h0 ws T h cells slots) : At T m c below := by obtain ⟨L, X, r⟩ := X; exact X.here
theorem Meth.mono {y : MethodName} {rm : Room} {as' : Array Value} {Q' : Option Value → Heap → Prop} (M : Meth l Z y bytes maxL ret rm as' h0 ws Q) (hq : ∀ v h, Q v h → Q' v h) : Meth l Z y bytes maxL ret rm as' h0 ws Q' := by
  intro wl p e ha hc hk s m args below hf happ hP hK
  obtain ⟨n, o, a, b, d, v, L, e1, ⟨q, r⟩, z⟩ := M wl p e ha hc hk s m args below hf happ hP hK
  exact ⟨n, o, a, b, d, v, L, e1, ⟨hq _ _ q, r⟩, z⟩
theorem Meth.of {y : MethodName} {rm : Room} {as' : Array Value} (hpl : plainFor y = true)
    (body : ∀ (p : Program) (e : Env) (s : State) (m : MethodId) (below : List Frame) (meth : Method) (c : Code) (T : State), Fix p Z s m meth c bytes maxL y.cls y.name ret → St p l e rm s m as' below meth c h0 ws T h0 0 0 → Go p e below (EndN s rm.cells rm.slots) h0 ws Q T (entryFrame m as' maxL)) :
    Meth l Z y bytes maxL ret rm as' h0 ws Q := by
  intro wl
  refine MetFree.of_bodySF hpl hisR ?_
  intro p e s m args below meth c s₁ Bd hml0 hP hK
  obtain ⟨rfl, hZ, hh⟩ := hP
  have X0 : Stand p l e rm s m _ below meth c s₁ [] 0 0 := Stand.of_body Bd
  have e0 : s₁.heap = h0 := by rw [← hh, Bd.state]; rfl
  exact body p e s m below meth c s₁ ⟨Bd.exec, hZ, Bd.bytes, hml0, findClass_of_methodNamed Bd.named, (name_of_methodNamed Bd.named Bd.method).1, Bd.returns, Bd.notSynchronized⟩ ⟨[], X0, e0, Keep.refl _ _, fun y hy => nomatch hy⟩

theorem giload (B : Fix p Z s m meth c bytes maxL own nm ret) (X : St p l e R s m args below meth c h0 ws T h cells slots) {k : Nat} {v : Int32} (hd : decode bytes pc = .ok (.iload k, 2)) (hl : Ls[k]? = some (.val (.int v))) (hp : pc' = pc + 2) (g : Go p e below FE h0 ws Q T (mkF m pc' Ls (.int v :: st))) : Go p e below FE h0 ws Q T (mkF m pc Ls st) := by
  subst hp; obtain ⟨L, X, -⟩ := X; exact Go.to (fun t k => XS.iload X.here B.1 rfl (hb B.2.2.1 hd) hl k) g
theorem giloadN (B : Fix p Z s m meth c bytes maxL own nm ret) (X : St p l e R s m args below meth c h0 ws T h cells slots) {k : Fin 4} {v : Int32} (hd : decode bytes pc = .ok (.iload_n k, 1)) (hl : Ls[k.val]? = some (.val (.int v))) (hp : pc' = pc + 1) (g : Go p e below FE h0 ws Q T (mkF m pc' Ls (.int v :: st))) : Go p e below FE h0 ws Q T (mkF m pc Ls st) := by
  subst hp; obtain ⟨L, X, -⟩ := X; exact Go.to (fun t k => XS.iloadN X.here B.1 rfl (hb B.2.2.1 hd) hl k) g
theorem gistore (B : Fix p Z s m meth c bytes maxL own nm ret) (X : St p l e R s m args below meth c h0 ws T h cells slots) {k : Nat} {v : Int32} (hd : decode bytes pc = .ok (.istore k, 2)) (hl : storeLocals Ls k (.int v) = some Ls') (hp : pc' = pc + 2) (g : Go p e below FE h0 ws Q T (mkF m pc' Ls' st)) : Go p e below FE h0 ws Q T (mkF m pc Ls (.int v :: st)) := by
  subst hp; obtain ⟨L, X, -⟩ := X; exact Go.to (fun t k => XS.istore X.here B.1 rfl (hb B.2.2.1 hd) rfl hl k) g
theorem gistoreN (B : Fix p Z s m meth c bytes maxL own nm ret) (X : St p l e R s m args below meth c h0 ws T h cells slots) {k : Fin 4} {v : Int32} (hd : decode bytes pc = .ok (.istore_n k, 1)) (hl : storeLocals Ls k.val (.int v) = some Ls') (hp : pc' = pc + 1) (g : Go p e below FE h0 ws Q T (mkF m pc' Ls' st)) : Go p e below FE h0 ws Q T (mkF m pc Ls (.int v :: st)) := by
  subst hp; obtain ⟨L, X, -⟩ := X; exact Go.to (fun t k => XS.istoreN X.here B.1 rfl (hb B.2.2.1 hd) rfl hl k) g
theorem glload (B : Fix p Z s m meth c bytes maxL own nm ret) (X : St p l e R s m args below meth c h0 ws T h cells slots) {k : Nat} {v : Int64} (hd : decode bytes pc = .ok (.lload k, 2)) (hl : Ls[k]? = some (.val (.long v))) (hp : pc' = pc + 2) (g : Go p e below FE h0 ws Q T (mkF m pc' Ls (.long v :: st))) : Go p e below FE h0 ws Q T (mkF m pc Ls st) := by
  subst hp; obtain ⟨L, X, -⟩ := X; exact Go.to (fun t k => XS.lload X.here B.1 rfl (hb B.2.2.1 hd) hl k) g
theorem glloadN (B : Fix p Z s m meth c bytes maxL own nm ret) (X : St p l e R s m args below meth c h0 ws T h cells slots) {k : Fin 4} {v : Int64} (hd : decode bytes pc = .ok (.lload_n k, 1)) (hl : Ls[k.val]? = some (.val (.long v))) (hp : pc' = pc + 1) (g : Go p e below FE h0 ws Q T (mkF m pc' Ls (.long v :: st))) : Go p e below FE h0 ws Q T (mkF m pc Ls st) := by
  subst hp; obtain ⟨L, X, -⟩ := X; exact Go.to (fun t k => XS.lloadN X.here B.1 rfl (hb B.2.2.1 hd) hl k) g
theorem glstore (B : Fix p Z s m meth c bytes maxL own nm ret) (X : St p l e R s m args below meth c h0 ws T h cells slots) {k : Nat} {v : Int64} (hd : decode bytes pc = .ok (.lstore k, 2)) (hl : storeLocals Ls k (.long v) = some Ls') (hp : pc' = pc + 2) (g : Go p e below FE h0 ws Q T (mkF m pc' Ls' st)) : Go p e below FE h0 ws Q T (mkF m pc Ls (.long v :: st)) := by
  subst hp; obtain ⟨L, X, -⟩ := X; exact Go.to (fun t k => XS.lstore X.here B.1 rfl (hb B.2.2.1 hd) rfl hl k) g
theorem glstoreN (B : Fix p Z s m meth c bytes maxL own nm ret) (X : St p l e R s m args below meth c h0 ws T h cells slots) {k : Fin 4} {v : Int64} (hd : decode bytes pc = .ok (.lstore_n k, 1)) (hl : storeLocals Ls k.val (.long v) = some Ls') (hp : pc' = pc + 1) (g : Go p e below FE h0 ws Q T (mkF m pc' Ls' st)) : Go p e below FE h0 ws Q T (mkF m pc Ls (.long v :: st)) := by
  subst hp; obtain ⟨L, X, -⟩ := X; exact Go.to (fun t k => XS.lstoreN X.here B.1 rfl (hb B.2.2.1 hd) rfl hl k) g
theorem gaload (B : Fix p Z s m meth c bytes maxL own nm ret) (X : St p l e R s m args below meth c h0 ws T h cells slots) {k : Nat} {v : Value} (hd : decode bytes pc = .ok (.aload k, 2)) (hl : Ls[k]? = some (.val v)) (hv : v.isRef = true) (hp : pc' = pc + 2) (g : Go p e below FE h0 ws Q T (mkF m pc' Ls (v :: st))) : Go p e below FE h0 ws Q T (mkF m pc Ls st) := by
  subst hp; obtain ⟨L, X, -⟩ := X; exact Go.to (fun t k => XS.aload X.here B.1 rfl (hb B.2.2.1 hd) hl hv k) g
theorem galoadN (B : Fix p Z s m meth c bytes maxL own nm ret) (X : St p l e R s m args below meth c h0 ws T h cells slots) {k : Fin 4} {v : Value} (hd : decode bytes pc = .ok (.aload_n k, 1)) (hl : Ls[k.val]? = some (.val v)) (hv : v.isRef = true) (hp : pc' = pc + 1) (g : Go p e below FE h0 ws Q T (mkF m pc' Ls (v :: st))) : Go p e below FE h0 ws Q T (mkF m pc Ls st) := by
  subst hp; obtain ⟨L, X, -⟩ := X; exact Go.to (fun t k => XS.aloadN X.here B.1 rfl (hb B.2.2.1 hd) hl hv k) g
theorem gastore (B : Fix p Z s m meth c bytes maxL own nm ret) (X : St p l e R s m args below meth c h0 ws T h cells slots) {k : Nat} {v : Value} (hd : decode bytes pc = .ok (.astore k, 2)) (hv : v.isRef = true) (hl : storeLocals Ls k v = some Ls') (hp : pc' = pc + 2) (g : Go p e below FE h0 ws Q T (mkF m pc' Ls' st)) : Go p e below FE h0 ws Q T (mkF m pc Ls (v :: st)) := by
  subst hp; obtain ⟨L, X, -⟩ := X; exact Go.to (fun t k => XS.astore X.here B.1 rfl (hb B.2.2.1 hd) rfl hv hl k) g
theorem gastoreN (B : Fix p Z s m meth c bytes maxL own nm ret) (X : St p l e R s m args below meth c h0 ws T h cells slots) {k : Fin 4} {v : Value} (hd : decode bytes pc = .ok (.astore_n k, 1)) (hv : v.isRef = true) (hl : storeLocals Ls k.val v = some Ls') (hp : pc' = pc + 1) (g : Go p e below FE h0 ws Q T (mkF m pc' Ls' st)) : Go p e below FE h0 ws Q T (mkF m pc Ls (v :: st)) := by
  subst hp; obtain ⟨L, X, -⟩ := X; exact Go.to (fun t k => XS.astoreN X.here B.1 rfl (hb B.2.2.1 hd) rfl hv hl k) g
theorem giconst (B : Fix p Z s m meth c bytes maxL own nm ret) (X : St p l e R s m args below meth c h0 ws T h cells slots) {i : Int} {v : Int32} (hd : decode bytes pc = .ok (.iconst i, 1)) (hv : Int32.ofInt i = v) (hp : pc' = pc + 1) (g : Go p e below FE h0 ws Q T (mkF m pc' Ls (.int v :: st))) : Go p e below FE h0 ws Q T (mkF m pc Ls st) := by
  subst hp; subst hv; obtain ⟨L, X, -⟩ := X; exact Go.to (fun t k => XS.iconst X.here B.1 rfl (hb B.2.2.1 hd) k) g
theorem gbipush (B : Fix p Z s m meth c bytes maxL own nm ret) (X : St p l e R s m args below meth c h0 ws T h cells slots) {i : Int} {v : Int32} (hd : decode bytes pc = .ok (.bipush i, 2)) (hv : (Int8.ofInt i).toInt32 = v) (hp : pc' = pc + 2) (g : Go p e below FE h0 ws Q T (mkF m pc' Ls (.int v :: st))) : Go p e below FE h0 ws Q T (mkF m pc Ls st) := by
  subst hp; subst hv; obtain ⟨L, X, -⟩ := X; exact Go.to (fun t k => XS.bipush X.here B.1 rfl (hb B.2.2.1 hd) k) g
theorem gsipush (B : Fix p Z s m meth c bytes maxL own nm ret) (X : St p l e R s m args below meth c h0 ws T h cells slots) {i : Int} {v : Int32} (hd : decode bytes pc = .ok (.sipush i, 3)) (hv : (Int16.ofInt i).toInt32 = v) (hp : pc' = pc + 3) (g : Go p e below FE h0 ws Q T (mkF m pc' Ls (.int v :: st))) : Go p e below FE h0 ws Q T (mkF m pc Ls st) := by
  subst hp; subst hv; obtain ⟨L, X, -⟩ := X; exact Go.to (fun t k => XS.sipush X.here B.1 rfl (hb B.2.2.1 hd) k) g
theorem glconst (B : Fix p Z s m meth c bytes maxL own nm ret) (X : St p l e R s m args below meth c h0 ws T h cells slots) {k : Fin 2} {v : Int64} (hd : decode bytes pc = .ok (.lconst k, 1)) (hv : Int64.ofNat k = v) (hp : pc' = pc + 1) (g : Go p e below FE h0 ws Q T (mkF m pc' Ls (.long v :: st))) : Go p e below FE h0 ws Q T (mkF m pc Ls st) := by
  subst hp; subst hv; obtain ⟨L, X, -⟩ := X; exact Go.to (fun t k => XS.lconst X.here B.1 rfl (hb B.2.2.1 hd) k) g
theorem gnull (B : Fix p Z s m meth c bytes maxL own nm ret) (X : St p l e R s m args below meth c h0 ws T h cells slots)  (hd : decode bytes pc = .ok (.aconst_null, 1))  (hp : pc' = pc + 1) (g : Go p e below FE h0 ws Q T (mkF m pc' Ls (.null :: st))) : Go p e below FE h0 ws Q T (mkF m pc Ls st) := by
  subst hp; obtain ⟨L, X, -⟩ := X; exact Go.to (fun t k => XS.aconstNull X.here B.1 rfl (hb B.2.2.1 hd)  k) g
theorem giadd (B : Fix p Z s m meth c bytes maxL own nm ret) (X : St p l e R s m args below meth c h0 ws T h cells slots) {x y : Int32} {v : Int32} (hd : decode bytes pc = .ok (.iadd, 1))  (hv : x + y = v) (hp : pc' = pc + 1) (g : Go p e below FE h0 ws Q T (mkF m pc' Ls (.int v :: st))) : Go p e below FE h0 ws Q T (mkF m pc Ls (.int y :: .int x :: st)) := by
  subst hp; subst hv; obtain ⟨L, X, -⟩ := X; exact Go.to (fun t k => XS.iadd X.here B.1 rfl (hb B.2.2.1 hd) rfl k) g
theorem gladd (B : Fix p Z s m meth c bytes maxL own nm ret) (X : St p l e R s m args below meth c h0 ws T h cells slots) {x y : Int64} {v : Int64} (hd : decode bytes pc = .ok (.ladd, 1))  (hv : x + y = v) (hp : pc' = pc + 1) (g : Go p e below FE h0 ws Q T (mkF m pc' Ls (.long v :: st))) : Go p e below FE h0 ws Q T (mkF m pc Ls (.long y :: .long x :: st)) := by
  subst hp; subst hv; obtain ⟨L, X, -⟩ := X; exact Go.to (fun t k => XS.ladd X.here B.1 rfl (hb B.2.2.1 hd) rfl k) g
theorem gisub (B : Fix p Z s m meth c bytes maxL own nm ret) (X : St p l e R s m args below meth c h0 ws T h cells slots) {x y : Int32} {v : Int32} (hd : decode bytes pc = .ok (.isub, 1))  (hv : x - y = v) (hp : pc' = pc + 1) (g : Go p e below FE h0 ws Q T (mkF m pc' Ls (.int v :: st))) : Go p e below FE h0 ws Q T (mkF m pc Ls (.int y :: .int x :: st)) := by
  subst hp; subst hv; obtain ⟨L, X, -⟩ := X; exact Go.to (fun t k => XS.isub X.here B.1 rfl (hb B.2.2.1 hd) rfl k) g
theorem glsub (B : Fix p Z s m meth c bytes maxL own nm ret) (X : St p l e R s m args below meth c h0 ws T h cells slots) {x y : Int64} {v : Int64} (hd : decode bytes pc = .ok (.lsub, 1))  (hv : x - y = v) (hp : pc' = pc + 1) (g : Go p e below FE h0 ws Q T (mkF m pc' Ls (.long v :: st))) : Go p e below FE h0 ws Q T (mkF m pc Ls (.long y :: .long x :: st)) := by
  subst hp; subst hv; obtain ⟨L, X, -⟩ := X; exact Go.to (fun t k => XS.lsub X.here B.1 rfl (hb B.2.2.1 hd) rfl k) g
theorem gimul (B : Fix p Z s m meth c bytes maxL own nm ret) (X : St p l e R s m args below meth c h0 ws T h cells slots) {x y : Int32} {v : Int32} (hd : decode bytes pc = .ok (.imul, 1))  (hv : x * y = v) (hp : pc' = pc + 1) (g : Go p e below FE h0 ws Q T (mkF m pc' Ls (.int v :: st))) : Go p e below FE h0 ws Q T (mkF m pc Ls (.int y :: .int x :: st)) := by
  subst hp; subst hv; obtain ⟨L, X, -⟩ := X; exact Go.to (fun t k => XS.imul X.here B.1 rfl (hb B.2.2.1 hd) rfl k) g
theorem glmul (B : Fix p Z s m meth c bytes maxL own nm ret) (X : St p l e R s m args below meth c h0 ws T h cells slots) {x y : Int64} {v : Int64} (hd : decode bytes pc = .ok (.lmul, 1))  (hv : x * y = v) (hp : pc' = pc + 1) (g : Go p e below FE h0 ws Q T (mkF m pc' Ls (.long v :: st))) : Go p e below FE h0 ws Q T (mkF m pc Ls (.long y :: .long x :: st)) := by
  subst hp; subst hv; obtain ⟨L, X, -⟩ := X; exact Go.to (fun t k => XS.lmul X.here B.1 rfl (hb B.2.2.1 hd) rfl k) g
theorem giand (B : Fix p Z s m meth c bytes maxL own nm ret) (X : St p l e R s m args below meth c h0 ws T h cells slots) {x y : Int32} {v : Int32} (hd : decode bytes pc = .ok (.iand, 1))  (hv : x &&& y = v) (hp : pc' = pc + 1) (g : Go p e below FE h0 ws Q T (mkF m pc' Ls (.int v :: st))) : Go p e below FE h0 ws Q T (mkF m pc Ls (.int y :: .int x :: st)) := by
  subst hp; subst hv; obtain ⟨L, X, -⟩ := X; exact Go.to (fun t k => XS.iand X.here B.1 rfl (hb B.2.2.1 hd) rfl k) g
theorem gland (B : Fix p Z s m meth c bytes maxL own nm ret) (X : St p l e R s m args below meth c h0 ws T h cells slots) {x y : Int64} {v : Int64} (hd : decode bytes pc = .ok (.land, 1))  (hv : x &&& y = v) (hp : pc' = pc + 1) (g : Go p e below FE h0 ws Q T (mkF m pc' Ls (.long v :: st))) : Go p e below FE h0 ws Q T (mkF m pc Ls (.long y :: .long x :: st)) := by
  subst hp; subst hv; obtain ⟨L, X, -⟩ := X; exact Go.to (fun t k => XS.land X.here B.1 rfl (hb B.2.2.1 hd) rfl k) g
theorem gior (B : Fix p Z s m meth c bytes maxL own nm ret) (X : St p l e R s m args below meth c h0 ws T h cells slots) {x y : Int32} {v : Int32} (hd : decode bytes pc = .ok (.ior, 1))  (hv : x ||| y = v) (hp : pc' = pc + 1) (g : Go p e below FE h0 ws Q T (mkF m pc' Ls (.int v :: st))) : Go p e below FE h0 ws Q T (mkF m pc Ls (.int y :: .int x :: st)) := by
  subst hp; subst hv; obtain ⟨L, X, -⟩ := X; exact Go.to (fun t k => XS.ior X.here B.1 rfl (hb B.2.2.1 hd) rfl k) g
theorem glor (B : Fix p Z s m meth c bytes maxL own nm ret) (X : St p l e R s m args below meth c h0 ws T h cells slots) {x y : Int64} {v : Int64} (hd : decode bytes pc = .ok (.lor, 1))  (hv : x ||| y = v) (hp : pc' = pc + 1) (g : Go p e below FE h0 ws Q T (mkF m pc' Ls (.long v :: st))) : Go p e below FE h0 ws Q T (mkF m pc Ls (.long y :: .long x :: st)) := by
  subst hp; subst hv; obtain ⟨L, X, -⟩ := X; exact Go.to (fun t k => XS.lor X.here B.1 rfl (hb B.2.2.1 hd) rfl k) g
theorem gixor (B : Fix p Z s m meth c bytes maxL own nm ret) (X : St p l e R s m args below meth c h0 ws T h cells slots) {x y : Int32} {v : Int32} (hd : decode bytes pc = .ok (.ixor, 1))  (hv : x ^^^ y = v) (hp : pc' = pc + 1) (g : Go p e below FE h0 ws Q T (mkF m pc' Ls (.int v :: st))) : Go p e below FE h0 ws Q T (mkF m pc Ls (.int y :: .int x :: st)) := by
  subst hp; subst hv; obtain ⟨L, X, -⟩ := X; exact Go.to (fun t k => XS.ixor X.here B.1 rfl (hb B.2.2.1 hd) rfl k) g
theorem glxor (B : Fix p Z s m meth c bytes maxL own nm ret) (X : St p l e R s m args below meth c h0 ws T h cells slots) {x y : Int64} {v : Int64} (hd : decode bytes pc = .ok (.lxor, 1))  (hv : x ^^^ y = v) (hp : pc' = pc + 1) (g : Go p e below FE h0 ws Q T (mkF m pc' Ls (.long v :: st))) : Go p e below FE h0 ws Q T (mkF m pc Ls (.long y :: .long x :: st)) := by
  subst hp; subst hv; obtain ⟨L, X, -⟩ := X; exact Go.to (fun t k => XS.lxor X.here B.1 rfl (hb B.2.2.1 hd) rfl k) g
theorem gidiv (B : Fix p Z s m meth c bytes maxL own nm ret) (X : St p l e R s m args below meth c h0 ws T h cells slots) {x y : Int32} {v : Int32} (hd : decode bytes pc = .ok (.idiv, 1)) (hy : y ≠ 0) (hv : x / y = v) (hp : pc' = pc + 1) (g : Go p e below FE h0 ws Q T (mkF m pc' Ls (.int v :: st))) : Go p e below FE h0 ws Q T (mkF m pc Ls (.int y :: .int x :: st)) := by
  subst hp; subst hv; obtain ⟨L, X, -⟩ := X; exact Go.to (fun t k => XS.idiv X.here B.1 rfl (hb B.2.2.1 hd) rfl hy k) g
theorem gldiv (B : Fix p Z s m meth c bytes maxL own nm ret) (X : St p l e R s m args below meth c h0 ws T h cells slots) {x y : Int64} {v : Int64} (hd : decode bytes pc = .ok (.ldiv, 1)) (hy : y ≠ 0) (hv : x / y = v) (hp : pc' = pc + 1) (g : Go p e below FE h0 ws Q T (mkF m pc' Ls (.long v :: st))) : Go p e below FE h0 ws Q T (mkF m pc Ls (.long y :: .long x :: st)) := by
  subst hp; subst hv; obtain ⟨L, X, -⟩ := X; exact Go.to (fun t k => XS.ldiv X.here B.1 rfl (hb B.2.2.1 hd) rfl hy k) g
theorem girem (B : Fix p Z s m meth c bytes maxL own nm ret) (X : St p l e R s m args below meth c h0 ws T h cells slots) {x y v : Int32} (hd : decode bytes pc = .ok (.irem, 1)) (hy : y ≠ 0) (hv : x % y = v) (hp : pc' = pc + 1) (g : Go p e below FE h0 ws Q T (mkF m pc' Ls (.int v :: st))) : Go p e below FE h0 ws Q T (mkF m pc Ls (.int y :: .int x :: st)) := by
  subst hp; subst hv; obtain ⟨L, X, -⟩ := X; exact Go.to (fun t k => iremM X B.1 rfl (hb B.2.2.1 hd) rfl hy k) g
theorem glrem (B : Fix p Z s m meth c bytes maxL own nm ret) (X : St p l e R s m args below meth c h0 ws T h cells slots) {x y v : Int64} (hd : decode bytes pc = .ok (.lrem, 1)) (hy : y ≠ 0) (hv : x % y = v) (hp : pc' = pc + 1) (g : Go p e below FE h0 ws Q T (mkF m pc' Ls (.long v :: st))) : Go p e below FE h0 ws Q T (mkF m pc Ls (.long y :: .long x :: st)) := by
  subst hp; subst hv; obtain ⟨L, X, -⟩ := X; exact Go.to (fun t k => XS.lrem X.here B.1 rfl (hb B.2.2.1 hd) rfl hy (by rw [lrem_mod]; exact k)) g
theorem gishl (B : Fix p Z s m meth c bytes maxL own nm ret) (X : St p l e R s m args below meth c h0 ws T h cells slots) {x y : Int32} {v : Int32} (hd : decode bytes pc = .ok (.ishl, 1))  (hv : x <<< (y &&& 31) = v) (hp : pc' = pc + 1) (g : Go p e below FE h0 ws Q T (mkF m pc' Ls (.int v :: st))) : Go p e below FE h0 ws Q T (mkF m pc Ls (.int y :: .int x :: st)) := by
  subst hp; subst hv; obtain ⟨L, X, -⟩ := X; exact Go.to (fun t k => XS.ishl X.here B.1 rfl (hb B.2.2.1 hd) rfl k) g
theorem gishr (B : Fix p Z s m meth c bytes maxL own nm ret) (X : St p l e R s m args below meth c h0 ws T h cells slots) {x y : Int32} {v : Int32} (hd : decode bytes pc = .ok (.ishr, 1))  (hv : x >>> (y &&& 31) = v) (hp : pc' = pc + 1) (g : Go p e below FE h0 ws Q T (mkF m pc' Ls (.int v :: st))) : Go p e below FE h0 ws Q T (mkF m pc Ls (.int y :: .int x :: st)) := by
  subst hp; subst hv; obtain ⟨L, X, -⟩ := X; exact Go.to (fun t k => XS.ishr X.here B.1 rfl (hb B.2.2.1 hd) rfl k) g
theorem giushr (B : Fix p Z s m meth c bytes maxL own nm ret) (X : St p l e R s m args below meth c h0 ws T h cells slots) {x y : Int32} {v : Int32} (hd : decode bytes pc = .ok (.iushr, 1))  (hv : (x.toUInt32 >>> (y &&& 31).toUInt32).toInt32 = v) (hp : pc' = pc + 1) (g : Go p e below FE h0 ws Q T (mkF m pc' Ls (.int v :: st))) : Go p e below FE h0 ws Q T (mkF m pc Ls (.int y :: .int x :: st)) := by
  subst hp; subst hv; obtain ⟨L, X, -⟩ := X; exact Go.to (fun t k => XS.iushr X.here B.1 rfl (hb B.2.2.1 hd) rfl k) g
theorem glshl (B : Fix p Z s m meth c bytes maxL own nm ret) (X : St p l e R s m args below meth c h0 ws T h cells slots) {x : Int64} {y : Int32} {v : Int64} (hd : decode bytes pc = .ok (.lshl, 1))  (hv : x <<< (y &&& 0x3f).toInt64 = v) (hp : pc' = pc + 1) (g : Go p e below FE h0 ws Q T (mkF m pc' Ls (.long v :: st))) : Go p e below FE h0 ws Q T (mkF m pc Ls (.int y :: .long x :: st)) := by
  subst hp; subst hv; obtain ⟨L, X, -⟩ := X; exact Go.to (fun t k => XS.lshl X.here B.1 rfl (hb B.2.2.1 hd) rfl k) g
theorem glshr (B : Fix p Z s m meth c bytes maxL own nm ret) (X : St p l e R s m args below meth c h0 ws T h cells slots) {x : Int64} {y : Int32} {v : Int64} (hd : decode bytes pc = .ok (.lshr, 1))  (hv : x >>> (y &&& 0x3f).toInt64 = v) (hp : pc' = pc + 1) (g : Go p e below FE h0 ws Q T (mkF m pc' Ls (.long v :: st))) : Go p e below FE h0 ws Q T (mkF m pc Ls (.int y :: .long x :: st)) := by
  subst hp; subst hv; obtain ⟨L, X, -⟩ := X; exact Go.to (fun t k => XS.lshr X.here B.1 rfl (hb B.2.2.1 hd) rfl k) g
theorem glushr (B : Fix p Z s m meth c bytes maxL own nm ret) (X : St p l e R s m args below meth c h0 ws T h cells slots) {x : Int64} {y : Int32} {v : Int64} (hd : decode bytes pc = .ok (.lushr, 1))  (hv : (x.toUInt64 >>> (y &&& 0x3f).toInt64.toUInt64).toInt64 = v) (hp : pc' = pc + 1) (g : Go p e below FE h0 ws Q T (mkF m pc' Ls (.long v :: st))) : Go p e below FE h0 ws Q T (mkF m pc Ls (.int y :: .long x :: st)) := by
  subst hp; subst hv; obtain ⟨L, X, -⟩ := X; exact Go.to (fun t k => XS.lushr X.here B.1 rfl (hb B.2.2.1 hd) rfl k) g
theorem gineg (B : Fix p Z s m meth c bytes maxL own nm ret) (X : St p l e R s m args below meth c h0 ws T h cells slots) {x : Int32} {v : Int32} (hd : decode bytes pc = .ok (.ineg, 1))  (hv : -x = v) (hp : pc' = pc + 1) (g : Go p e below FE h0 ws Q T (mkF m pc' Ls (.int v :: st))) : Go p e below FE h0 ws Q T (mkF m pc Ls (.int x :: st)) := by
  subst hp; subst hv; obtain ⟨L, X, -⟩ := X; exact Go.to (fun t k => XS.ineg X.here B.1 rfl (hb B.2.2.1 hd) rfl k) g
theorem glneg (B : Fix p Z s m meth c bytes maxL own nm ret) (X : St p l e R s m args below meth c h0 ws T h cells slots) {x : Int64} {v : Int64} (hd : decode bytes pc = .ok (.lneg, 1))  (hv : -x = v) (hp : pc' = pc + 1) (g : Go p e below FE h0 ws Q T (mkF m pc' Ls (.long v :: st))) : Go p e below FE h0 ws Q T (mkF m pc Ls (.long x :: st)) := by
  subst hp; subst hv; obtain ⟨L, X, -⟩ := X; exact Go.to (fun t k => XS.lneg X.here B.1 rfl (hb B.2.2.1 hd) rfl k) g
theorem gi2l (B : Fix p Z s m meth c bytes maxL own nm ret) (X : St p l e R s m args below meth c h0 ws T h cells slots) {x : Int32} {v : Int64} (hd : decode bytes pc = .ok (.i2l, 1))  (hv : x.toInt64 = v) (hp : pc' = pc + 1) (g : Go p e below FE h0 ws Q T (mkF m pc' Ls (.long v :: st))) : Go p e below FE h0 ws Q T (mkF m pc Ls (.int x :: st)) := by
  subst hp; subst hv; obtain ⟨L, X, -⟩ := X; exact Go.to (fun t k => XS.i2l X.here B.1 rfl (hb B.2.2.1 hd) rfl k) g
theorem gl2i (B : Fix p Z s m meth c bytes maxL own nm ret) (X : St p l e R s m args below meth c h0 ws T h cells slots) {x : Int64} {v : Int32} (hd : decode bytes pc = .ok (.l2i, 1))  (hv : x.toInt32 = v) (hp : pc' = pc + 1) (g : Go p e below FE h0 ws Q T (mkF m pc' Ls (.int v :: st))) : Go p e below FE h0 ws Q T (mkF m pc Ls (.long x :: st)) := by
  subst hp; subst hv; obtain ⟨L, X, -⟩ := X; exact Go.to (fun t k => XS.l2i X.here B.1 rfl (hb B.2.2.1 hd) rfl k) g
theorem gi2b (B : Fix p Z s m meth c bytes maxL own nm ret) (X : St p l e R s m args below meth c h0 ws T h cells slots) {x : Int32} {v : Int32} (hd : decode bytes pc = .ok (.i2b, 1))  (hv : x.toInt8.toInt32 = v) (hp : pc' = pc + 1) (g : Go p e below FE h0 ws Q T (mkF m pc' Ls (.int v :: st))) : Go p e below FE h0 ws Q T (mkF m pc Ls (.int x :: st)) := by
  subst hp; subst hv; obtain ⟨L, X, -⟩ := X; exact Go.to (fun t k => XS.i2b X.here B.1 rfl (hb B.2.2.1 hd) rfl k) g
theorem gi2s (B : Fix p Z s m meth c bytes maxL own nm ret) (X : St p l e R s m args below meth c h0 ws T h cells slots) {x : Int32} {v : Int32} (hd : decode bytes pc = .ok (.i2s, 1))  (hv : x.toInt16.toInt32 = v) (hp : pc' = pc + 1) (g : Go p e below FE h0 ws Q T (mkF m pc' Ls (.int v :: st))) : Go p e below FE h0 ws Q T (mkF m pc Ls (.int x :: st)) := by
  subst hp; subst hv; obtain ⟨L, X, -⟩ := X; exact Go.to (fun t k => XS.i2s X.here B.1 rfl (hb B.2.2.1 hd) rfl k) g
theorem gi2c (B : Fix p Z s m meth c bytes maxL own nm ret) (X : St p l e R s m args below meth c h0 ws T h cells slots) {x : Int32} {v : Int32} (hd : decode bytes pc = .ok (.i2c, 1))  (hv : x.toUInt32.toUInt16.toUInt32.toInt32 = v) (hp : pc' = pc + 1) (g : Go p e below FE h0 ws Q T (mkF m pc' Ls (.int v :: st))) : Go p e below FE h0 ws Q T (mkF m pc Ls (.int x :: st)) := by
  subst hp; subst hv; obtain ⟨L, X, -⟩ := X; exact Go.to (fun t k => XS.i2c X.here B.1 rfl (hb B.2.2.1 hd) rfl k) g
theorem glcmp (B : Fix p Z s m meth c bytes maxL own nm ret) (X : St p l e R s m args below meth c h0 ws T h cells slots) {x y : Int64} (hd : decode bytes pc = .ok (.lcmp, 1))  (hp : pc' = pc + 1) (g : Go p e below FE h0 ws Q T (mkF m pc' Ls (.int (lcmpW x y) :: st))) : Go p e below FE h0 ws Q T (mkF m pc Ls (.long y :: .long x :: st)) := by
  subst hp; obtain ⟨L, X, -⟩ := X; exact Go.to (fun t k => XS.lcmp X.here B.1 rfl (hb B.2.2.1 hd) rfl k) g
theorem gdup (B : Fix p Z s m meth c bytes maxL own nm ret) (X : St p l e R s m args below meth c h0 ws T h cells slots) {x : Value} (hd : decode bytes pc = .ok (.dup, 1)) (hc : x.category = 1) (hp : pc' = pc + 1) (g : Go p e below FE h0 ws Q T (mkF m pc' Ls (x :: x :: st))) : Go p e below FE h0 ws Q T (mkF m pc Ls (x :: st)) := by
  subst hp; obtain ⟨L, X, -⟩ := X; exact Go.to (fun t k => XS.dup X.here B.1 rfl (hb B.2.2.1 hd) rfl hc k) g
theorem gpop (B : Fix p Z s m meth c bytes maxL own nm ret) (X : St p l e R s m args below meth c h0 ws T h cells slots) {x : Value} (hd : decode bytes pc = .ok (.pop, 1)) (hc : x.category = 1) (hp : pc' = pc + 1) (g : Go p e below FE h0 ws Q T (mkF m pc' Ls st)) : Go p e below FE h0 ws Q T (mkF m pc Ls (x :: st)) := by
  subst hp; obtain ⟨L, X, -⟩ := X; exact Go.to (fun t k => XS.pop X.here B.1 rfl (hb B.2.2.1 hd) rfl hc k) g
theorem gdup_x1 (B : Fix p Z s m meth c bytes maxL own nm ret) (X : St p l e R s m args below meth c h0 ws T h cells slots) {x y : Value} (hd : decode bytes pc = .ok (.dup_x1, 1)) (hc : x.category = 1) (hc2 : y.category = 1) (hp : pc' = pc + 1) (g : Go p e below FE h0 ws Q T (mkF m pc' Ls (x :: y :: x :: st))) : Go p e below FE h0 ws Q T (mkF m pc Ls (x :: y :: st)) := by
  subst hp; obtain ⟨L, X, -⟩ := X; exact Go.to (fun t k => XS.dupX1 X.here B.1 rfl (hb B.2.2.1 hd) rfl hc hc2 k) g
theorem gdup2 (B : Fix p Z s m meth c bytes maxL own nm ret) (X : St p l e R s m args below meth c h0 ws T h cells slots) {x y : Value} (hd : decode bytes pc = .ok (.dup2, 1)) (hc : x.category = 1) (hc2 : y.category = 1) (hp : pc' = pc + 1) (g : Go p e below FE h0 ws Q T (mkF m pc' Ls (x :: y :: x :: y :: st))) : Go p e below FE h0 ws Q T (mkF m pc Ls (x :: y :: st)) := by
  subst hp; obtain ⟨L, X, -⟩ := X; exact Go.to (fun t k => Jvm.Free.XT.dup2 X.here B.1 rfl (hb B.2.2.1 hd) rfl hc hc2 k) g
theorem xdup_x2 {tb : Tables} [Ours tb] {target : State} {g : JFrame} (h : At T m c below) (hx : tb.exec = Jvm.exec) (hg : g.method = m) {x y z : Value} {rest : List Value} (hd : decode c.code g.pc = .ok (.dup_x2, 1)) (hs : g.stack = x :: y :: z :: rest) (hc : x.category = 1) (hc' : y.category = 1) (hc2 : z.category = 1)
    (hr : Steps tb e below (T.setTop { g with pc := g.pc + 1, stack := x :: y :: z :: x :: rest }) target) : Steps tb e below (T.setTop g) target := by
  subst hg
  jvm_step h [h.top, hx, hd, hs, hc, hc', hc2]
  exact hr
theorem gdup_x2 (B : Fix p Z s m meth c bytes maxL own nm ret) (X : St p l e R s m args below meth c h0 ws T h cells slots) {x y z : Value} (hd : decode bytes pc = .ok (.dup_x2, 1)) (hc : x.category = 1) (hc2 : y.category = 1) (hc3 : z.category = 1) (hp : pc' = pc + 1) (g : Go p e below FE h0 ws Q T (mkF m pc' Ls (x :: y :: z :: x :: st))) : Go p e below FE h0 ws Q T (mkF m pc Ls (x :: y :: z :: st)) := by
  subst hp; obtain ⟨L, X, -⟩ := X; exact Go.to (fun t k => xdup_x2 X.here B.1 rfl (hb B.2.2.1 hd) rfl hc hc2 hc3 k) g
theorem giinc (B : Fix p Z s m meth c bytes maxL own nm ret) (X : St p l e R s m args below meth c h0 ws T h cells slots) {k : Nat} {cst : Int} {x v : Int32} (hd : decode bytes pc = .ok (.iinc k cst, 3)) (hl : Ls[k]? = some (.val (.int x))) (hv : x + Int32.ofInt cst = v) (hl' : storeLocals Ls k (.int v) = some Ls') (hp : pc' = pc + 3) (g : Go p e below FE h0 ws Q T (mkF m pc' Ls' st)) : Go p e below FE h0 ws Q T (mkF m pc Ls st) := by
  subst hp; subst hv; obtain ⟨L, X, -⟩ := X; exact Go.to (fun t k => XS.iinc X.here B.1 rfl (hb B.2.2.1 hd) hl hl' k) g
theorem ggoto (B : Fix p Z s m meth c bytes maxL own nm ret) (X : St p l e R s m args below meth c h0 ws T h cells slots) {o : Int} (hd : decode bytes pc = .ok (.goto o, 3)) (ho : 0 ≤ (pc : Int) + o ∧ ((pc : Int) + o).toNat = pc') (g : Go p e below FE h0 ws Q T (mkF m pc' Ls st)) : Go p e below FE h0 ws Q T (mkF m pc Ls st) := by
  obtain ⟨L, X, -⟩ := X; exact Go.to (fun t k => XS.goto X.here B.1 rfl (pc0 := pc) rfl (hb B.2.2.1 hd) ho.1 ho.2 k) g
theorem gifY (B : Fix p Z s m meth c bytes maxL own nm ret) (X : St p l e R s m args below meth c h0 ws T h cells slots) {cd : ClassFile.Cond} {o : Int} {x : Int32} (hd : decode bytes pc = .ok (.ifCond cd o, 3)) (hc : ifCond.holds cd x = true) (ho : 0 ≤ (pc : Int) + o ∧ ((pc : Int) + o).toNat = pc') (g : Go p e below FE h0 ws Q T (mkF m pc' Ls st)) : Go p e below FE h0 ws Q T (mkF m pc Ls (.int x :: st)) := by
  obtain ⟨L, X, -⟩ := X; exact Go.to (fun t k => XS.ifYes X.here B.1 rfl (pc0 := pc) rfl (hb B.2.2.1 hd) rfl hc ho.1 ho.2 k) g
theorem gifN (B : Fix p Z s m meth c bytes maxL own nm ret) (X : St p l e R s m args below meth c h0 ws T h cells slots) {cd : ClassFile.Cond} {o : Int} {x : Int32} (hd : decode bytes pc = .ok (.ifCond cd o, 3)) (hc : ifCond.holds cd x = false) (hp : pc' = pc + 3) (g : Go p e below FE h0 ws Q T (mkF m pc' Ls st)) : Go p e below FE h0 ws Q T (mkF m pc Ls (.int x :: st)) := by
  subst hp; obtain ⟨L, X, -⟩ := X; exact Go.to (fun t k => XS.ifNo X.here B.1 rfl (hb B.2.2.1 hd) rfl hc k) g
theorem gicY (B : Fix p Z s m meth c bytes maxL own nm ret) (X : St p l e R s m args below meth c h0 ws T h cells slots) {cd : ClassFile.Cond} {o : Int} {x y : Int32} (hd : decode bytes pc = .ok (.if_icmp cd o, 3)) (hc : if_icmp.holds cd x y = true) (ho : 0 ≤ (pc : Int) + o ∧ ((pc : Int) + o).toNat = pc') (g : Go p e below FE h0 ws Q T (mkF m pc' Ls st)) : Go p e below FE h0 ws Q T (mkF m pc Ls (.int y :: .int x :: st)) := by
  obtain ⟨L, X, -⟩ := X; exact Go.to (fun t k => XS.icmpYes X.here B.1 rfl (pc0 := pc) rfl (hb B.2.2.1 hd) rfl hc ho.1 ho.2 k) g
theorem gicN (B : Fix p Z s m meth c bytes maxL own nm ret) (X : St p l e R s m args below meth c h0 ws T h cells slots) {cd : ClassFile.Cond} {o : Int} {x y : Int32} (hd : decode bytes pc = .ok (.if_icmp cd o, 3)) (hc : if_icmp.holds cd x y = false) (hp : pc' = pc + 3) (g : Go p e below FE h0 ws Q T (mkF m pc' Ls st)) : Go p e below FE h0 ws Q T (mkF m pc Ls (.int y :: .int x :: st)) := by
  subst hp; obtain ⟨L, X, -⟩ := X; exact Go.to (fun t k => XS.icmpNo X.here B.1 rfl (hb B.2.2.1 hd) rfl hc k) g
theorem gnullN (B : Fix p Z s m meth c bytes maxL own nm ret) (X : St p l e R s m args below meth c h0 ws T h cells slots) {a : Addr} {o : Int} (hd : decode bytes pc = .ok (.ifnull o, 3)) (hp : pc' = pc + 3) (g : Go p e below FE h0 ws Q T (mkF m pc' Ls st)) : Go p e below FE h0 ws Q T (mkF m pc Ls (.ref a :: st)) := by
  subst hp; obtain ⟨L, X, -⟩ := X; exact Go.to (fun t k => XS.ifnullNo X.here B.1 rfl (hb B.2.2.1 hd) rfl k) g
theorem gldc (B : Fix p Z s m meth c bytes maxL own nm ret) (X : St p l e R s m args below meth c h0 ws T h cells slots) {i : Nat} {v : Int32} (w : (Cond.constant own i v).before a0 Z = true) (hd : decode bytes pc = .ok (.ldc i, 2)) (hp : pc' = pc + 2) (g : Go p e below FE h0 ws Q T (mkF m pc' Ls (.int v :: st))) : Go p e below FE h0 ws Q T (mkF m pc Ls st) := by
  subst hp; obtain ⟨L, X, -⟩ := X; exact Go.to (fun t k => X.ldcInt B.1 B.2.2.2.2.1 (mvT B.2.1 w) (g := mkF m pc Ls st) rfl (hb B.2.2.1 hd) t k) g
theorem gldcw (B : Fix p Z s m meth c bytes maxL own nm ret) (X : St p l e R s m args below meth c h0 ws T h cells slots) {i : Nat} {v : Int32} (w : (Cond.constant own i v).before a0 Z = true) (hd : decode bytes pc = .ok (.ldc_w i, 3)) (hp : pc' = pc + 3) (g : Go p e below FE h0 ws Q T (mkF m pc' Ls (.int v :: st))) : Go p e below FE h0 ws Q T (mkF m pc Ls st) := by
  subst hp; obtain ⟨L, X, -⟩ := X; exact Go.to (fun t k => X.ldcwInt B.1 B.2.2.2.2.1 (mvT B.2.1 w) (g := mkF m pc Ls st) rfl (hb B.2.2.1 hd) t k) g
theorem gldc2 (B : Fix p Z s m meth c bytes maxL own nm ret) (X : St p l e R s m args below meth c h0 ws T h cells slots) {i : Nat} {v : Int64} (w : (Cond.constantLong own i v).before a0 Z = true) (hd : decode bytes pc = .ok (.ldc2_w i, 3)) (hp : pc' = pc + 3) (g : Go p e below FE h0 ws Q T (mkF m pc' Ls (.long v :: st))) : Go p e below FE h0 ws Q T (mkF m pc Ls st) := by
  subst hp; obtain ⟨L, X, -⟩ := X; exact Go.to (fun t k => X.ldc2Long B.1 B.2.2.2.2.1 (mvT B.2.1 w) (g := mkF m pc Ls st) rfl (hb B.2.2.1 hd) t k) g
theorem giaload (B : Fix p Z s m meth c bytes maxL own nm ret) (X : St p l e R s m args below meth c h0 ws T h cells slots) {a : Addr} {vs : List Value} {j : Int32} {v : Value} {n : Nat} (A : VA Z h a .int vs) (hn : vs.length = n) (hj : 0 ≤ j.toInt ∧ j.toInt < n) (hv : vs[j.toNatClampNeg]? = some v) (hd : decode bytes pc = .ok (.iaload, 1)) (hp : pc' = pc + 1) (g : Go p e below FE h0 ws Q T (mkF m pc' Ls (v :: st))) : Go p e below FE h0 ws Q T (mkF m pc Ls (.int j :: .ref a :: st)) := by
  subst hp; subst hn; obtain ⟨L, X, eT, -⟩ := X; obtain ⟨cl, A, r, n⟩ := A
  exact Go.to (fun t k => X.iaload B.1 (by rw [eT]; exact A.1) (State.isArrayOf_alike B.2.1.alike A.2.1) A.2.2 (by rw [r]; exact inb (by simpa using hj)) (by rw [r]; simpa using hv) (g := mkF m pc Ls (.int j :: .ref a :: st)) rfl rfl (hb B.2.2.1 hd) t k) g
theorem glaload (B : Fix p Z s m meth c bytes maxL own nm ret) (X : St p l e R s m args below meth c h0 ws T h cells slots) {a : Addr} {vs : List Value} {j : Int32} {v : Value} {n : Nat} (A : VA Z h a .long vs) (hn : vs.length = n) (hj : 0 ≤ j.toInt ∧ j.toInt < n) (hv : vs[j.toNatClampNeg]? = some v) (hd : decode bytes pc = .ok (.laload, 1)) (hp : pc' = pc + 1) (g : Go p e below FE h0 ws Q T (mkF m pc' Ls (v :: st))) : Go p e below FE h0 ws Q T (mkF m pc Ls (.int j :: .ref a :: st)) := by
  subst hp; subst hn; obtain ⟨L, X, eT, -⟩ := X; obtain ⟨cl, A, r, n⟩ := A
  exact Go.to (fun t k => X.laload B.1 (by rw [eT]; exact A.1) (State.isArrayOf_alike B.2.1.alike A.2.1) A.2.2 (by rw [r]; exact inb (by simpa using hj)) (by rw [r]; simpa using hv) (g := mkF m pc Ls (.int j :: .ref a :: st)) rfl rfl (hb B.2.2.1 hd) t k) g
theorem gbaload (B : Fix p Z s m meth c bytes maxL own nm ret) (X : St p l e R s m args below meth c h0 ws T h cells slots) {a : Addr} {vs : List Value} {j : Int32} {v : Value} {n : Nat} (A : VA Z h a .byte vs) (hn : vs.length = n) (hj : 0 ≤ j.toInt ∧ j.toInt < n) (hv : vs[j.toNatClampNeg]? = some v) (hd : decode bytes pc = .ok (.baload, 1)) (hp : pc' = pc + 1) (g : Go p e below FE h0 ws Q T (mkF m pc' Ls (v :: st))) : Go p e below FE h0 ws Q T (mkF m pc Ls (.int j :: .ref a :: st)) := by
  subst hp; subst hn; obtain ⟨L, X, eT, -⟩ := X; obtain ⟨cl, A, r, n⟩ := A
  exact Go.to (fun t k => X.baloadBytes B.1 (by rw [eT]; exact A.1) (State.isArrayOf_alike B.2.1.alike A.2.1) A.2.2 (by rw [r]; exact inb (by simpa using hj)) (by rw [r]; simpa using hv) (g := mkF m pc Ls (.int j :: .ref a :: st)) rfl rfl (hb B.2.2.1 hd) t k) g
theorem gzaload (B : Fix p Z s m meth c bytes maxL own nm ret) (X : St p l e R s m args below meth c h0 ws T h cells slots) {a : Addr} {vs : List Value} {j : Int32} {v : Value} {n : Nat} (A : VA Z h a .boolean vs) (hn : vs.length = n) (hj : 0 ≤ j.toInt ∧ j.toInt < n) (hv : vs[j.toNatClampNeg]? = some v) (hd : decode bytes pc = .ok (.baload, 1)) (hp : pc' = pc + 1) (g : Go p e below FE h0 ws Q T (mkF m pc' Ls (v :: st))) : Go p e below FE h0 ws Q T (mkF m pc Ls (.int j :: .ref a :: st)) := by
  subst hp; subst hn; obtain ⟨L, X, eT, -⟩ := X; obtain ⟨cl, A, r, n⟩ := A
  exact Go.to (fun t k => X.baloadBooleans B.1 (by rw [eT]; exact A.1) (State.isArrayOf_alike B.2.1.alike A.2.1) A.2.2 (by rw [r]; exact inb (by simpa using hj)) (by rw [r]; simpa using hv) (g := mkF m pc Ls (.int j :: .ref a :: st)) rfl rfl (hb B.2.2.1 hd) t k) g
theorem glength (B : Fix p Z s m meth c bytes maxL own nm ret) (X : St p l e R s m args below meth c h0 ws T h cells slots) {a : Addr} {ty : FieldType} {vs : List Value} {n : Int32} {k : Nat} (A : VA Z h a ty vs) (hk : vs.length = k) (hn : n.toInt = k) (hd : decode bytes pc = .ok (.arraylength, 1)) (hp : pc' = pc + 1) (g : Go p e below FE h0 ws Q T (mkF m pc' Ls (.int n :: st))) : Go p e below FE h0 ws Q T (mkF m pc Ls (.ref a :: st)) := by
  subst hp; subst hk; obtain ⟨L, X, eT, -⟩ := X; obtain ⟨cl, A, r, q⟩ := A
  have e1 : cl.slots.size.toInt32 = n := by rw [r]; apply Int32.toInt_inj.mp; rw [len_toInt (by simpa using q), hn]; simp
  exact Go.to (fun t k => X.arraylength B.1 (by rw [eT]; exact A.1) (State.isArrayOf_alike B.2.1.alike A.2.1) (g := mkF m pc Ls (.ref a :: st)) rfl rfl (hb B.2.2.1 hd) t (by rw [e1]; exact k)) g
theorem giastore (B : Fix p Z s m meth c bytes maxL own nm ret) (X : St p l e R s m args below meth c h0 ws T h cells slots) {a : Addr} {vs vs' : List Value} {j : Int32} {x : Int32} {i n : Nat} (A : VA Z h a .int vs) (hn : vs.length = n) (hj : 0 ≤ j.toInt ∧ j.toInt < n) (hi : j.toNatClampNeg = i) (hvs : vs.set i (.int x) = vs') (ha : a ∈ ws ∨ h0.size ≤ a) (hd : decode bytes pc = .ok (.iastore, 1)) (hp : pc' = pc + 1) (g : ∀ T' h', St p l e R s m args below meth c h0 ws T' h' cells slots → Wr h h' a i (.int x) → VA Z h' a .int vs' → Go p e below FE h0 ws Q T' (mkF m pc' Ls st)) : Go p e below FE h0 ws Q T (mkF m pc Ls (.int x :: .int j :: .ref a :: st)) := by
  subst hp; subst hi; subst hvs; subst hn; obtain ⟨L, X, eT, KK, FF⟩ := X; have A0 := A; obtain ⟨cl, A, r, n⟩ := A
  obtain ⟨T', h', X', e', W, k⟩ := stI X B.1 B.2.1 eT A (by rw [r]; exact inb (by simpa using hj)) (g := mkF m pc Ls (.int x :: .int j :: .ref a :: st)) rfl rfl (hb B.2.2.1 hd)
  exact Go.to k (g T' h' ⟨_, X', e', KK.wr W ha, fun y hy => (List.mem_append.mp hy).elim (FF y) fun q => by cases List.mem_singleton.mp q; exact ha⟩ W (A0.set W))
theorem glastore (B : Fix p Z s m meth c bytes maxL own nm ret) (X : St p l e R s m args below meth c h0 ws T h cells slots) {a : Addr} {vs vs' : List Value} {j : Int32} {x : Int64} {i n : Nat} (A : VA Z h a .long vs) (hn : vs.length = n) (hj : 0 ≤ j.toInt ∧ j.toInt < n) (hi : j.toNatClampNeg = i) (hvs : vs.set i (.long x) = vs') (ha : a ∈ ws ∨ h0.size ≤ a) (hd : decode bytes pc = .ok (.lastore, 1)) (hp : pc' = pc + 1) (g : ∀ T' h', St p l e R s m args below meth c h0 ws T' h' cells slots → Wr h h' a i (.long x) → VA Z h' a .long vs' → Go p e below FE h0 ws Q T' (mkF m pc' Ls st)) : Go p e below FE h0 ws Q T (mkF m pc Ls (.long x :: .int j :: .ref a :: st)) := by
  subst hp; subst hi; subst hvs; subst hn; obtain ⟨L, X, eT, KK, FF⟩ := X; have A0 := A; obtain ⟨cl, A, r, n⟩ := A
  obtain ⟨T', h', X', e', W, k⟩ := stJ X B.1 B.2.1 eT A (by rw [r]; exact inb (by simpa using hj)) (g := mkF m pc Ls (.long x :: .int j :: .ref a :: st)) rfl rfl (hb B.2.2.1 hd)
  exact Go.to k (g T' h' ⟨_, X', e', KK.wr W ha, fun y hy => (List.mem_append.mp hy).elim (FF y) fun q => by cases List.mem_singleton.mp q; exact ha⟩ W (A0.set W))
theorem gbastore (B : Fix p Z s m meth c bytes maxL own nm ret) (X : St p l e R s m args below meth c h0 ws T h cells slots) {a : Addr} {vs vs' : List Value} {j : Int32} {x : Int32} {i n : Nat} (A : VA Z h a .byte vs) (hn : vs.length = n) (hj : 0 ≤ j.toInt ∧ j.toInt < n) (hi : j.toNatClampNeg = i) (hvs : vs.set i (.int x.toInt8.toInt32) = vs') (ha : a ∈ ws ∨ h0.size ≤ a) (hd : decode bytes pc = .ok (.bastore, 1)) (hp : pc' = pc + 1) (g : ∀ T' h', St p l e R s m args below meth c h0 ws T' h' cells slots → Wr h h' a i (.int x.toInt8.toInt32) → VA Z h' a .byte vs' → Go p e below FE h0 ws Q T' (mkF m pc' Ls st)) : Go p e below FE h0 ws Q T (mkF m pc Ls (.int x :: .int j :: .ref a :: st)) := by
  subst hp; subst hi; subst hvs; subst hn; obtain ⟨L, X, eT, KK, FF⟩ := X; have A0 := A; obtain ⟨cl, A, r, n⟩ := A
  obtain ⟨T', h', X', e', W, k⟩ := stB X B.1 B.2.1 eT A (by rw [r]; exact inb (by simpa using hj)) (g := mkF m pc Ls (.int x :: .int j :: .ref a :: st)) rfl rfl (hb B.2.2.1 hd)
  exact Go.to k (g T' h' ⟨_, X', e', KK.wr W ha, fun y hy => (List.mem_append.mp hy).elim (FF y) fun q => by cases List.mem_singleton.mp q; exact ha⟩ W (A0.set W))
theorem gzastore (B : Fix p Z s m meth c bytes maxL own nm ret) (X : St p l e R s m args below meth c h0 ws T h cells slots) {a : Addr} {vs vs' : List Value} {j : Int32} {x : Int32} {i n : Nat} (A : VA Z h a .boolean vs) (hn : vs.length = n) (hj : 0 ≤ j.toInt ∧ j.toInt < n) (hi : j.toNatClampNeg = i) (hvs : vs.set i (.int (x &&& 1)) = vs') (ha : a ∈ ws ∨ h0.size ≤ a) (hd : decode bytes pc = .ok (.bastore, 1)) (hp : pc' = pc + 1) (g : ∀ T' h', St p l e R s m args below meth c h0 ws T' h' cells slots → Wr h h' a i (.int (x &&& 1)) → VA Z h' a .boolean vs' → Go p e below FE h0 ws Q T' (mkF m pc' Ls st)) : Go p e below FE h0 ws Q T (mkF m pc Ls (.int x :: .int j :: .ref a :: st)) := by
  subst hp; subst hi; subst hvs; subst hn; obtain ⟨L, X, eT, KK, FF⟩ := X; have A0 := A; obtain ⟨cl, A, r, n⟩ := A
  obtain ⟨T', h', X', e', W, k⟩ := stZ X B.1 B.2.1 eT A (by rw [r]; exact inb (by simpa using hj)) (g := mkF m pc Ls (.int x :: .int j :: .ref a :: st)) rfl rfl (hb B.2.2.1 hd)
  exact Go.to k (g T' h' ⟨_, X', e', KK.wr W ha, fun y hy => (List.mem_append.mp hy).elim (FF y) fun q => by cases List.mem_singleton.mp q; exact ha⟩ W (A0.set W))
theorem gnewarray (B : Fix p Z s m meth c bytes maxL own nm ret) (X : St p l e R s m args below meth c h0 ws T h cells slots) {aty : ArrayType} {n : Int32} {cap : Nat} {vs : List Value} {ty : FieldType} (hty : newarray.typeOf aty = ty) (hvs : List.replicate n.toNatClampNeg (defaultValue ty) = vs) (w : (Cond.arrayClass ty).before a0 Z = true) (hn : 0 ≤ n.toInt) (hcap : n.toInt ≤ cap) (hb8 : cap * 8 ≤ 536870912) (hc : cells + 1 ≤ R.cells) (hl : slots + cap ≤ R.slots) (hd : decode bytes pc = .ok (.newarray aty, 2)) (hp : pc' = pc + 2) (g : ∀ T' h' a, St p l e R s m args below meth c h0 ws T' h' (cells + 1) (slots + cap) → a = h.size → Ext h h' → h0.size ≤ a → VA Z h' a ty vs → Go p e below FE h0 ws Q T' (mkF m pc' Ls (.ref a :: st))) : Go p e below FE h0 ws Q T (mkF m pc Ls (.int n :: st)) := by
  subst hp; subst hty; subst hvs; obtain ⟨L, X, eT, KK, FF⟩ := X
  have hn' : ¬ n < 0 := by rw [Int32.lt_iff_toInt_lt, show (0 : Int32).toInt = 0 from rfl]; omega
  obtain ⟨T', h', cA, X', e', E, A, k⟩ := newP X B.1 B.2.1 w eT (g := mkF m pc Ls (.int n :: st)) rfl (hb B.2.2.1 hd) rfl hn' (cap := cap) (by simp only [Int32.toNatClampNeg]; omega) hb8 hc hl
  exact Go.to k (g T' h' _ ⟨_, X', e', KK.ext E, FF⟩ rfl E KK.1 (VA.new A hn'))
theorem gnewarrayE (B : Fix p Z s m meth c bytes maxL own nm ret) (X : St p l e R s m args below meth c h0 ws T h cells slots) {aty : ArrayType} {n : Int32} {cap : Nat} {vs : List Value} {ty : FieldType} {ad : String} (had : "[" ++ ty.toString = ad) (hty : newarray.typeOf aty = ty) (hvs : List.replicate n.toNatClampNeg (defaultValue ty) = vs) (w : (Cond.arrayClass ty).before a0 Z = true) (hn : 0 ≤ n.toInt) (hcap : n.toInt ≤ cap) (hb8 : cap * 8 ≤ 536870912) (hc : cells + 1 ≤ R.cells) (hl : slots + cap ≤ R.slots) (hd : decode bytes pc = .ok (.newarray aty, 2)) (hp : pc' = pc + 2) (g : ∀ T' h' a, St p l e R s m args below meth c h0 ws T' h' (cells + 1) (slots + cap) → a = h.size → Ext h h' → h0.size ≤ a → VA Z h' a ty vs → Exa Z h' a ad → Go p e below FE h0 ws Q T' (mkF m pc' Ls (.ref a :: st))) : Go p e below FE h0 ws Q T (mkF m pc Ls (.int n :: st)) := by
  subst hp; subst hty; subst hvs; obtain ⟨L, X, eT, KK, FF⟩ := X
  have hn' : ¬ n < 0 := by rw [Int32.lt_iff_toInt_lt, show (0 : Int32).toInt = 0 from rfl]; omega
  obtain ⟨T', h', cA, X', e', E, A, EA, k⟩ := newPE X B.1 B.2.1 w eT (g := mkF m pc Ls (.int n :: st)) rfl (hb B.2.2.1 hd) rfl hn' (cap := cap) (by simp only [Int32.toNatClampNeg]; omega) hb8 hc hl had
  exact Go.to k (g T' h' _ ⟨_, X', e', KK.ext E, FF⟩ rfl E KK.1 (VA.new A hn') EA)
theorem gclone (B : Fix p Z s m meth c bytes maxL own nm ret) (X : St p l e R s m args below meth c h0 ws T h cells slots) {a : Addr} {i W cap n : Nat} {vs : List Value} {ty : FieldType} {ad : String} (w1 : (Cond.methodLink own i ⟨ad, "clone", "()Ljava/lang/Object;"⟩).before a0 Z = true) (w2 : (Cond.sameMethod ad "java/lang/Object" "clone" "()Ljava/lang/Object;").before a0 Z = true) (w3 : (Cond.native ⟨"java/lang/Object", "clone", "()Ljava/lang/Object;"⟩).before a0 Z = true) (w4 : (Cond.instanceMethod ⟨"java/lang/Object", "clone", "()Ljava/lang/Object;"⟩).before a0 Z = true) (w5 : (Cond.selects ad ⟨ad, "clone", "()Ljava/lang/Object;"⟩ ⟨"java/lang/Object", "clone", "()Ljava/lang/Object;"⟩).before a0 Z = true) (w6 : (Cond.castable ad "java/lang/Cloneable").before a0 Z = true) (A : VA Z h a ty vs) (E : Exa Z h a ad) (hf : ∀ v ∈ vs, fits ty v = true) (hn : vs.length = n) (hcap : n ≤ cap) (hsz : Ls.size = maxL) (hfr : 1 ≤ R.frames) (hW : (st.map fun v => v.category).sum ≤ W) (hl : W + 14 ≤ R.locals) (hc : cells + 1 ≤ R.cells) (hs : slots + cap ≤ R.slots) (hd : decode bytes pc = .ok (.invokevirtual i, 3)) (hp : pc' = pc + 3) (g : ∀ T' h' a', St p l e R s m args below meth c h0 ws T' h' (cells + 1) (slots + cap) → a' = h.size → Ext h h' → h0.size ≤ a' → VA Z h' a' ty vs → Exa Z h' a' ad → Go p e below FE h0 ws Q T' (mkF m pc' Ls (.ref a' :: st))) : Go p e below FE h0 ws Q T (mkF m pc Ls (.ref a :: st)) := by
  subst hp; subst hn; obtain ⟨L0, X, eT, KK, FF⟩ := X; obtain ⟨cl, A, r, q⟩ := A
  have FC : FitC Z cl := fitC_of A fun i hi v hv => hf v (by rw [r] at hv; simp at hv; exact List.mem_of_getElem? hv)
  obtain ⟨T', h', X', e', E1, A', EA, k⟩ := cloneA X B.1 B.2.1 B.2.2.2.2.1 w1 w2 w3 w4 w5 w6 eT A E FC (g := mkF m pc Ls (.ref a :: st)) rfl (hsz.trans B.2.2.2.1.symm) rfl (hb B.2.2.1 hd) hfr (W := W) (cap := cap) (by show 2 * 0 + _ ≤ _; rw [Nat.mul_zero, Nat.zero_add]; exact hW) hl (by rw [r]; simpa using hcap) hc hs
  exact Go.to k (g T' h' _ ⟨_, X', e', KK.ext E1, FF⟩ rfl E1 KK.1 ⟨_, A', r, q⟩ EA)
theorem gcast (B : Fix p Z s m meth c bytes maxL own nm ret) (X : St p l e R s m args below meth c h0 ws T h cells slots) {a : Addr} {i : Nat} {K0 : String} (w : (Cond.classLink own i K0).before a0 Z = true) (F : Ins Z h a K0 true) (hd : decode bytes pc = .ok (.checkcast i, 3)) (hp : pc' = pc + 3) (g : ∀ T', St p l e R s m args below meth c h0 ws T' h cells slots → Go p e below FE h0 ws Q T' (mkF m pc' Ls (.ref a :: st))) : Go p e below FE h0 ws Q T (mkF m pc Ls (.ref a :: st)) := by
  subst hp; obtain ⟨L0, X, eT, r⟩ := X
  obtain ⟨T', X', e', k⟩ := castY X B.1 B.2.1 B.2.2.2.2.1 w eT F (g := mkF m pc Ls (.ref a :: st)) rfl rfl (hb B.2.2.1 hd)
  exact Go.to k (g T' ⟨L0, X', e', r⟩)
theorem gget (B : Fix p Z s m meth c bytes maxL own nm ret) (X : St p l e R s m args below meth c h0 ws T h cells slots) {a : Addr} {i : Nat} {C n d : String} {v : Value} (w : (Cond.fieldLink own i C n d).before a0 Z = true) (F : Fld Z h a C n d v) (hd : decode bytes pc = .ok (.getfield i, 3)) (hp : pc' = pc + 3) (g : ∀ T', St p l e R s m args below meth c h0 ws T' h cells slots → Go p e below FE h0 ws Q T' (mkF m pc' Ls (v :: st))) : Go p e below FE h0 ws Q T (mkF m pc Ls (.ref a :: st)) := by
  subst hp; obtain ⟨L, X, eT, r⟩ := X
  obtain ⟨T', X', e', k⟩ := getF X B.1 B.2.1 B.2.2.2.2.1 (host := "") (Or.inl w) Via.refl eT F (g := mkF m pc Ls (.ref a :: st)) rfl rfl (hb B.2.2.1 hd)
  exact Go.to k (g T' ⟨L, X', e', r⟩)
theorem gput (B : Fix p Z s m meth c bytes maxL own nm ret) (X : St p l e R s m args below meth c h0 ws T h cells slots) {a : Addr} {i kk : Nat} {C O n d : String} {ty : FieldType} {v old : Value} (w : (Cond.fieldLink own i O n d).before a0 Z = true) (F : Fld Z h a O n d old) (E : Exa Z h a C) (L : (Cond.lays C O n d).before a0 Z = true ∨ ((Cond.laysFinal C O n d).before a0 Z = true ∧ own = O ∧ nm = "<init>")) (wi : (Cond.instantiable C kk).before a0 Z = true) (hty : parseFieldDescriptor d = some ty) (hn : narrow ty v = v) (hf : fits ty v = true) (ha : a ∈ ws ∨ h0.size ≤ a) (hd : decode bytes pc = .ok (.putfield i, 3)) (hp : pc' = pc + 3) (g : ∀ T' h', St p l e R s m args below meth c h0 ws T' h' cells slots → Wr h h' a (Jvm.RoadKit.slotOf Z O n d) v → Go p e below FE h0 ws Q T' (mkF m pc' Ls st)) : Go p e below FE h0 ws Q T (mkF m pc Ls (v :: .ref a :: st)) := by
  subst hp; obtain ⟨L0, X, eT, KK, FF⟩ := X
  obtain ⟨T', h', X', e', W, k⟩ := putF X B.1 B.2.1 B.2.2.2.2.1 (host := "") (Or.inl w) Via.refl eT F E (L.imp id fun q => ⟨q.1, q.2.1, B.2.2.2.2.2.1.trans q.2.2⟩) wi hty hn hf (g := mkF m pc Ls (v :: .ref a :: st)) rfl rfl (hb B.2.2.1 hd)
  exact Go.to k (g T' h' ⟨_, X', e', KK.wr W ha, fun y hy => (List.mem_append.mp hy).elim (FF y) fun q => by cases List.mem_singleton.mp q; exact ha⟩ W)
theorem gnew (B : Fix p Z s m meth c bytes maxL own nm ret) (X : St p l e R s m args below meth c h0 ws T h cells slots) {i n : Nat} {C : String} (w : (Cond.classLink own i C).before a0 Z = true) (wi : (Cond.instantiable C n).before a0 Z = true) (wz : (Cond.initialized C).before a0 Z = true) (hc : cells + 1 ≤ R.cells) (hl : slots + n ≤ R.slots) (hd : decode bytes pc = .ok (.new i, 3)) (hp : pc' = pc + 3) (g : ∀ T' h' a, St p l e R s m args below meth c h0 ws T' h' (cells + 1) (slots + n) → a = h.size → Ext h h' → h0.size ≤ a → Exa Z h' a C → (∀ {O nm d : String} {ty : FieldType}, Laid Z a0 C O nm d → parseFieldDescriptor d = some ty → Fld Z h' a O nm d (defaultValue ty)) → Go p e below FE h0 ws Q T' (mkF m pc' Ls (.ref a :: st))) : Go p e below FE h0 ws Q T (mkF m pc Ls st) := by
  subst hp; obtain ⟨L0, X, eT, KK, FF⟩ := X
  obtain ⟨T', h', X', e', E, A, D, -, k⟩ := newO X B.1 B.2.1 B.2.2.2.2.1 w wi wz eT (g := mkF m pc Ls st) rfl (hb B.2.2.1 hd) hc hl
  exact Go.to k (g T' h' _ ⟨_, X', e', KK.ext E, FF⟩ rfl E KK.1 A D)
theorem ginitO (B : Fix p Z s m meth c bytes maxL own nm ret) (X : St p l e R s m args below meth c h0 ws T h cells slots) {a : Addr} {i W : Nat} (w1 : (Cond.methodLink own i Lib.objectInit).before a0 Z = true) (w2 : (Cond.instanceMethod Lib.objectInit).before a0 Z = true) (w3 : (Cond.code Lib.objectInit ⟨#[0xb1]⟩ 1 none).before a0 Z = true) (hsz : Ls.size = maxL) (hf : 1 ≤ R.frames) (hW : (st.map fun v => v.category).sum ≤ W) (hl : W + 12 ≤ R.locals) (hd : decode bytes pc = .ok (.invokespecial i, 3)) (hp : pc' = pc + 3) (g : ∀ T', St p l e R s m args below meth c h0 ws T' h cells slots → Go p e below FE h0 ws Q T' (mkF m pc' Ls st)) : Go p e below FE h0 ws Q T (mkF m pc Ls (.ref a :: st)) := by
  subst hp; obtain ⟨L0, X, eT, r⟩ := X
  obtain ⟨T', X', e', k⟩ := initO X B.1 B.2.1 B.2.2.2.2.1 w1 w2 w3 eT (g := mkF m pc Ls (.ref a :: st)) rfl (hsz.trans B.2.2.2.1.symm) rfl (hb B.2.2.1 hd) hf (W := W) (by show 2 * 0 + _ ≤ _; rw [Nat.mul_zero, Nat.zero_add]; exact hW) hl
  exact Go.to k (g T' ⟨L0, X', e', r⟩)
theorem gcallS (B : Fix p Z s m meth c bytes maxL own nm ret) (X : St p l e R s m args below meth c h0 ws T h cells slots) {y : MethodName} {bytes' : ByteArray} {maxL' : Nat} {ret' : Option FieldType} {rm : Room} {ws' : List Addr} {Q' : Option Value → Heap → Prop} {stk argsL : List Value} {i W : Nat} {ps : List FieldType} {rr : Option FieldType}  (w1 : (Cond.methodLink own i y).before a0 Z = true) (w2 : (Cond.static y).before a0 Z = true) (w3 : (Cond.initialized y.cls).before a0 Z = true) (w4 : (Cond.code y bytes' maxL' ret').before a0 Z = true) (hy : y.cls ≠ "java/lang/invoke/MethodHandle" ∧ y.cls ≠ "java/lang/invoke/VarHandle") (M : Meth l Z y bytes' maxL' ret' rm argsL.toArray h ws' Q') (hpd : parseMethodDescriptor y.desc = some ⟨ps, rr⟩) (hlen : argsL.length = ps.length) (hstk : stk = argsL.reverse ++ st) (hsz : Ls.size = maxL) (hW : (st.map fun v => v.category).sum ≤ W) (hfr : rm.frames + 1 ≤ R.frames) (hlo : W + (maxL' + 11) + rm.locals ≤ R.locals) (hcs : cells + rm.cells ≤ R.cells) (hss : slots + rm.slots ≤ R.slots) (hws : ∀ x ∈ ws', x ∈ ws ∨ h0.size ≤ x) (hd : decode bytes pc = .ok (.invokestatic i, 3)) (hp : pc' = pc + 3)
    (g : ∀ T' h' v, St p l e R s m args below meth c h0 ws T' h' (cells + rm.cells) (slots + rm.slots) → Keep h h' ws' → Q' v h' → Go p e below FE h0 ws Q T' (mkF m pc' Ls (v.toList ++ st))) : Go p e below FE h0 ws Q T (mkF m pc Ls stk) := by
  subst hp; subst hstk; obtain ⟨L0, X, eT, KK, FF⟩ := X
  obtain ⟨v2, _, ⟨T2, L2, c2, n2⟩, -, X2, ⟨Lc2, hq, l2, y2, z2⟩, k2⟩ := Jvm.LawKit.callS X B.1 (y := y) B.2.2.2.2.1 (mvT B.2.1 w1) (mvT B.2.1 w2) (mvT B.2.1 w3) (mvT B.2.1 w4) hy (backOf (W := W) (Q := fun v h' L => Q' v h' ∧ Keep h h' ws' ∧ FrW h ws' L) (M []) B.2.1 w4 w3 hfr hlo) (g := mkF m pc Ls (argsL.reverse ++ st)) rfl (hsz.trans B.2.2.2.1.symm) (argsL := argsL) (rest := st) (lenOf hpd hlen) rfl (by show 2 * 0 + _ ≤ _; rw [Nat.mul_zero, Nat.zero_add]; exact hW) (hb B.2.2.1 hd) (fun _ _ => ⟨rfl, eT, hcs, hss⟩)
  dsimp only [Pt.U, Pt.locs, Pt.cells, Pt.slots] at X2 l2 y2 z2 k2 hq
  subst l2 y2 z2
  refine Go.to k2 (g T2 T2.heap v2 ⟨_, X2, rfl, KK.trans hq.2.1 hws, fun y hy => (List.mem_append.mp hy).elim (FF y) fun q => ?_⟩ hq.2.1 hq.1)
  exact (hq.2.2 y q).elim (fun z => hws _ z) fun z => Or.inr (Nat.le_trans KK.1 z)
theorem gcallI (B : Fix p Z s m meth c bytes maxL own nm ret) (X : St p l e R s m args below meth c h0 ws T h cells slots) {y : MethodName} {bytes' : ByteArray} {maxL' : Nat} {ret' : Option FieldType} {rm : Room} {ws' : List Addr} {Q' : Option Value → Heap → Prop} {stk argsL : List Value} {i W : Nat} {ps : List FieldType} {rr : Option FieldType} {a : Addr} (hni : y.name = "<init>") (hret : ret' = none) (w1 : (Cond.methodLink own i y).before a0 Z = true) (w2 : (Cond.instanceMethod y).before a0 Z = true) (w3 : (Cond.initialized y.cls).before a0 Z = true) (w4 : (Cond.code y bytes' maxL' ret').before a0 Z = true) (hy : y.cls ≠ "java/lang/invoke/MethodHandle" ∧ y.cls ≠ "java/lang/invoke/VarHandle") (M : Meth l Z y bytes' maxL' ret' rm (.ref a :: argsL).toArray h ws' Q') (hpd : parseMethodDescriptor y.desc = some ⟨ps, rr⟩) (hlen : argsL.length = ps.length) (hstk : stk = argsL.reverse ++ .ref a :: st) (hsz : Ls.size = maxL) (hW : (st.map fun v => v.category).sum ≤ W) (hfr : rm.frames + 1 ≤ R.frames) (hlo : W + (maxL' + 11) + rm.locals ≤ R.locals) (hcs : cells + rm.cells ≤ R.cells) (hss : slots + rm.slots ≤ R.slots) (hws : ∀ x ∈ ws', x ∈ ws ∨ h0.size ≤ x) (hd : decode bytes pc = .ok (.invokespecial i, 3)) (hp : pc' = pc + 3)
    (g : ∀ T' h' v, St p l e R s m args below meth c h0 ws T' h' (cells + rm.cells) (slots + rm.slots) → Keep h h' ws' → Q' v h' → Go p e below FE h0 ws Q T' (mkF m pc' Ls (v.toList ++ st))) : Go p e below FE h0 ws Q T (mkF m pc Ls stk) := by
  subst hp; subst hstk; obtain ⟨L0, X, eT, KK, FF⟩ := X
  subst hret
  obtain ⟨v2, _, ⟨T2, L2, c2, n2⟩, -, X2, ⟨Lc2, hq, l2, y2, z2⟩, k2⟩ := X.specialBack B.1 (y := y) hni B.2.2.2.2.1 (mvT B.2.1 w1) (mvT B.2.1 w2) (mvT B.2.1 w4) hy (backOf (W := W) (Q := fun v h' L => Q' v h' ∧ Keep h h' ws' ∧ FrW h ws' L) (M []) B.2.1 w4 w3 hfr hlo) (g := mkF m pc Ls (argsL.reverse ++ .ref a :: st)) rfl (hsz.trans B.2.2.2.1.symm) (Steps.refl _) (a := a) (argsL := argsL) (rest := st) (lenOf hpd hlen) rfl (by show 2 * 0 + _ ≤ _; rw [Nat.mul_zero, Nat.zero_add]; exact hW) (hb B.2.2.1 hd) (fun _ _ => ⟨rfl, eT, hcs, hss⟩)
  dsimp only [Pt.U, Pt.locs, Pt.cells, Pt.slots] at X2 l2 y2 z2 k2 hq
  subst l2 y2 z2
  refine Go.to (fun t kt => k2.trans kt) (g T2 T2.heap v2 ⟨_, X2, rfl, KK.trans hq.2.1 hws, fun y hy => (List.mem_append.mp hy).elim (FF y) fun q => ?_⟩ hq.2.1 hq.1)
  exact (hq.2.2 y q).elim (fun z => hws _ z) fun z => Or.inr (Nat.le_trans KK.1 z)
theorem gcallV (B : Fix p Z s m meth c bytes maxL own nm ret) (X : St p l e R s m args below meth c h0 ws T h cells slots) {y : MethodName} {bytes' : ByteArray} {maxL' : Nat} {ret' : Option FieldType} {rm : Room} {ws' : List Addr} {Q' : Option Value → Heap → Prop} {stk argsL : List Value} {i W : Nat} {ps : List FieldType} {rr : Option FieldType} {a : Addr} {z : MethodName} {C : String} (E : Exa Z h a C) (w1 : (Cond.methodLink own i y).before a0 Z = true) (w2 : (Cond.declares y).before a0 Z = true) (w5 : (Cond.selects C y z).before a0 Z = true) (w6 : (Cond.instanceMethod z).before a0 Z = true) (w3 : (Cond.initialized z.cls).before a0 Z = true) (w4 : (Cond.code z bytes' maxL' ret').before a0 Z = true) (hyz : y = z) (hy : y.cls ≠ "java/lang/invoke/MethodHandle" ∧ y.cls ≠ "java/lang/invoke/VarHandle") (M : Meth l Z z bytes' maxL' ret' rm (.ref a :: argsL).toArray h ws' Q') (hpd : parseMethodDescriptor y.desc = some ⟨ps, rr⟩) (hlen : argsL.length = ps.length) (hstk : stk = argsL.reverse ++ .ref a :: st) (hsz : Ls.size = maxL) (hW : (st.map fun v => v.category).sum ≤ W) (hfr : rm.frames + 1 ≤ R.frames) (hlo : W + (maxL' + 11) + rm.locals ≤ R.locals) (hcs : cells + rm.cells ≤ R.cells) (hss : slots + rm.slots ≤ R.slots) (hws : ∀ x ∈ ws', x ∈ ws ∨ h0.size ≤ x) (hd : decode bytes pc = .ok (.invokevirtual i, 3)) (hp : pc' = pc + 3)
    (g : ∀ T' h' v, St p l e R s m args below meth c h0 ws T' h' (cells + rm.cells) (slots + rm.slots) → Keep h h' ws' → Q' v h' → Go p e below FE h0 ws Q T' (mkF m pc' Ls (v.toList ++ st))) : Go p e below FE h0 ws Q T (mkF m pc Ls stk) := by
  subst hp; subst hstk; obtain ⟨L0, X, eT, KK, FF⟩ := X
  subst hyz
  obtain ⟨cq, kq, qa, qb, qc⟩ := isOf B.2.1 eT E
  obtain ⟨v2, _, ⟨T2, L2, c2, n2⟩, -, X2, ⟨Lc2, hq, l2, y2, z2⟩, k2⟩ := X.virtualBack B.1 (y := y) (z := y) B.2.2.2.2.1 (mvT B.2.1 w1) (mvT B.2.1 w2) (notFace_of_selects (args := #[]) (mvT B.2.1 w5)) (mvT B.2.1 w5) (mvT B.2.1 w6) hy (backOf (W := W) (Q := fun v h' L => Q' v h' ∧ Keep h h' ws' ∧ FrW h ws' L) (M []) B.2.1 w4 w3 hfr hlo) qa qc (g := mkF m pc Ls (argsL.reverse ++ .ref a :: st)) rfl (hsz.trans B.2.2.2.1.symm) (Steps.refl _) (argsL := argsL) (rest := st) (lenOf hpd hlen) rfl (by show 2 * 0 + _ ≤ _; rw [Nat.mul_zero, Nat.zero_add]; exact hW) (hb B.2.2.1 hd) (fun _ _ => ⟨rfl, eT, hcs, hss⟩)
  dsimp only [Pt.U, Pt.locs, Pt.cells, Pt.slots] at X2 l2 y2 z2 k2 hq
  subst l2 y2 z2
  refine Go.to (fun t kt => k2.trans kt) (g T2 T2.heap v2 ⟨_, X2, rfl, KK.trans hq.2.1 hws, fun y hy => (List.mem_append.mp hy).elim (FF y) fun q => ?_⟩ hq.2.1 hq.1)
  exact (hq.2.2 y q).elim (fun z => hws _ z) fun z => Or.inr (Nat.le_trans KK.1 z)
theorem gcallP (B : Fix p Z s m meth c bytes maxL own nm ret) (X : St p l e R s m args below meth c h0 ws T h cells slots) {y : MethodName} {bytes' : ByteArray} {maxL' : Nat} {ret' : Option FieldType} {rm : Room} {ws' : List Addr} {Q' : Option Value → Heap → Prop} {stk argsL : List Value} {i W : Nat} {ps : List FieldType} {rr : Option FieldType} {a : Addr} {C : String} (E : Exa Z h a C) (w1 : (Cond.methodLink own i y).before a0 Z = true) (w2 : (Cond.instanceMethod y).before a0 Z = true) {nn : Nat} (w5 : (Cond.instantiable y.cls nn).before a0 Z = true) (w6 : (Cond.privateMethod y).before a0 Z = true) (w3 : (Cond.initialized y.cls).before a0 Z = true) (w4 : (Cond.code y bytes' maxL' ret').before a0 Z = true) (hy : y.cls ≠ "java/lang/invoke/MethodHandle" ∧ y.cls ≠ "java/lang/invoke/VarHandle") (M : Meth l Z y bytes' maxL' ret' rm (.ref a :: argsL).toArray h ws' Q') (hpd : parseMethodDescriptor y.desc = some ⟨ps, rr⟩) (hlen : argsL.length = ps.length) (hstk : stk = argsL.reverse ++ .ref a :: st) (hsz : Ls.size = maxL) (hW : (st.map fun v => v.category).sum ≤ W) (hfr : rm.frames + 1 ≤ R.frames) (hlo : W + (maxL' + 11) + rm.locals ≤ R.locals) (hcs : cells + rm.cells ≤ R.cells) (hss : slots + rm.slots ≤ R.slots) (hws : ∀ x ∈ ws', x ∈ ws ∨ h0.size ≤ x) (hd : decode bytes pc = .ok (.invokevirtual i, 3)) (hp : pc' = pc + 3)
    (g : ∀ T' h' v, St p l e R s m args below meth c h0 ws T' h' (cells + rm.cells) (slots + rm.slots) → Keep h h' ws' → Q' v h' → Go p e below FE h0 ws Q T' (mkF m pc' Ls (v.toList ++ st))) : Go p e below FE h0 ws Q T (mkF m pc Ls stk) := by
  subst hp; subst hstk; obtain ⟨L0, X, eT, KK, FF⟩ := X
  obtain ⟨cq, q, q'⟩ := E.cell
  obtain ⟨ci, ki, i1, i2, -, i4, -⟩ := Cond.instantiable_spec (mvT (args := args) B.2.1 w5)
  have w5' : (Cond.selects y.cls y y).before args s = true := selects_self_of_private i1 i2 (by simp only [Bool.or_eq_false_iff] at i4; exact i4.1) (Cond.privateMethod_at (mvP B.2.1 w6 (args := #[]))) (mvT B.2.1 w2) hy
  obtain ⟨v2, _, ⟨T2, L2, c2, n2⟩, -, X2, ⟨Lc2, hq, l2, y2, z2⟩, k2⟩ := X.privateBack B.1 (y := y) B.2.2.2.2.1 (mvT B.2.1 w1) (mvT B.2.1 w2) w5' (Cond.privateMethod_at (mvP B.2.1 w6 (args := #[]))) (mvT B.2.1 w4) hy (backOf (W := W) (Q := fun v h' L => Q' v h' ∧ Keep h h' ws' ∧ FrW h ws' L) (M []) B.2.1 w4 w3 hfr hlo) (g := mkF m pc Ls (argsL.reverse ++ .ref a :: st)) rfl (hsz.trans B.2.2.2.1.symm) (Steps.refl _) (a := a) (by rw [eT]; exact q) q' (argsL := argsL) (rest := st) (lenOf hpd hlen) rfl (by show 2 * 0 + _ ≤ _; rw [Nat.mul_zero, Nat.zero_add]; exact hW) (hb B.2.2.1 hd) (fun _ _ => ⟨rfl, eT, hcs, hss⟩)
  dsimp only [Pt.U, Pt.locs, Pt.cells, Pt.slots] at X2 l2 y2 z2 k2 hq
  subst l2 y2 z2
  refine Go.to (fun t kt => k2.trans kt) (g T2 T2.heap v2 ⟨_, X2, rfl, KK.trans hq.2.1 hws, fun y hy => (List.mem_append.mp hy).elim (FF y) fun q => ?_⟩ hq.2.1 hq.1)
  exact (hq.2.2 y q).elim (fun z => hws _ z) fun z => Or.inr (Nat.le_trans KK.1 z)
theorem pureG {rm : Room} {r : Value} {ws' : List Addr} (hc : rm.cells = 0) (hs : rm.slots = 0) (g : ∀ T', St p l e R s m args below meth c h0 ws T' h cells slots → Go p e below FE h0 ws Q T' (mkF m pc' Ls (r :: st))) : ∀ T' h' v, St p l e R s m args below meth c h0 ws T' h' (cells + rm.cells) (slots + rm.slots) → Keep h h' ws' → (v = some r ∧ h' = h) → Go p e below FE h0 ws Q T' (mkF m pc' Ls (v.toList ++ st)) := by
  rintro T' h' v X k ⟨rfl, rfl⟩
  rw [hc, hs] at X; exact g T' X
theorem pureV {rm : Room} {ws' : List Addr} (hc : rm.cells = 0) (hs : rm.slots = 0) (g : ∀ T', St p l e R s m args below meth c h0 ws T' h cells slots → Go p e below FE h0 ws Q T' (mkF m pc' Ls st)) : ∀ T' h' v, St p l e R s m args below meth c h0 ws T' h' (cells + rm.cells) (slots + rm.slots) → Keep h h' ws' → (v = none ∧ h' = h) → Go p e below FE h0 ws Q T' (mkF m pc' Ls (v.toList ++ st)) := by
  rintro T' h' v X k ⟨rfl, rfl⟩
  rw [hc, hs] at X; exact g T' X
theorem joinH (X : St p l e R s m args below meth c h0 ws T h cells slots) {J : JFrame} {P : Heap → Prop} {cells' slots' : Nat} (b : (∀ T' h', St p l e R s m args below meth c h0 ws T' h' cells' slots' → P h' → Go p e below FE h0 ws Q T' J) → Go p e below FE h0 ws Q T (mkF m pc Ls st)) (k : ∀ T' h', St p l e R s m args below meth c h0 ws T' h' cells' slots' → P h' → Go p e below FE h0 ws Q T' J) : Go p e below FE h0 ws Q T (mkF m pc Ls st) := b k
theorem joinG {α : Type} (B : Fix p Z s m meth c bytes maxL own nm ret) (X : St p l e R s m args below meth c h0 ws T h cells slots) {J : α → JFrame} {r : α} {f : JFrame} (b : (∀ T', St p l e R s m args below meth c h0 ws T' h cells slots → Go p e below FE h0 ws Q T' (J r)) → Go p e below FE h0 ws Q T f) (k : ∀ T', St p l e R s m args below meth c h0 ws T' h cells slots → Go p e below FE h0 ws Q T' (J r)) : Go p e below FE h0 ws Q T f := b k
theorem nbb (x : Int32) : x.toInt8.toInt32.toInt8.toInt32 = x.toInt8.toInt32 := by simp
theorem nb (x : Int32) : nar .byte x.toInt8.toInt32 = x.toInt8.toInt32 := by simp [nar]
theorem retI (X : Stand p l e R s m args below meth c T locs cells slots) (hx : p.tables.exec = Jvm.exec) {z : Int32} {rest : List Value} (hret : meth.sig.returnType = some .int) (hd : decode c.code pc = .ok (.ireturn, 1)) {fs : List Frame}
    (hl : ∀ (f : JFrame) (acts : List Action), f.method = m → f.locked = none → f.entered = [] → (doReturn e (T.setTop f) acts (some (.int z))).1 = T.setFrames fs) : Steps p.tables e below (T.setTop (mkF m pc Ls (.int z :: rest))) (T.setFrames fs) := by
  have hm' : T.vm.method? m = some meth := X.method'
  have hn : narrow .int (.int z) = .int z := rfl
  show Steps p.tables e below (T.setTop { method := m, pc := pc, locals := Ls, stack := _ :: rest, locked := none }) _
  jvm_step X.here [X.here.top, hx, hd, hm', hret, hn]
  first | (intro acts; rw [hl _ acts rfl rfl rfl]) | rw [hl _ _ rfl rfl rfl]
  exact Steps.refl _
theorem gretI (B : Fix p Z s m meth c bytes maxL own nm (some .int)) (X : St p l e R s m args below meth c h0 ws T h cells slots)  {z : Int32} (hd : decode bytes pc = .ok (.ireturn, 1)) (hk : cells ≤ K) (hn : slots ≤ N) (hQ : Q (some (.int z)) h) : Go p e below (EndN s K N) h0 ws Q T (mkF m pc Ls (.int z :: st)) := by
  obtain ⟨L0, X, eT, KK, FF⟩ := X; have hlk := B.2.2.2.2.2.2.2; have hrt := B.2.2.2.2.2.2.1
  obtain ⟨fs, hr, hrun, hended, hW, hsame⟩ := X.leave (v := some (.int z)) (fun h => by rw [hrt] at h; cases h) hlk
  exact ⟨_, _, retI X B.1 hrt (hb B.2.2.1 hd) hr, hrun, hended, _, _, rfl, ⟨by show Q _ T.heap; rw [eT]; exact hQ, by show Keep h0 T.heap ws; rw [eT]; exact KK, FF⟩, ⟨_, rfl⟩, hW, hsame.mono hk hn⟩
theorem gretIW (B : Fix p Z (s.setVm vm1) m meth c bytes maxL own nm (some .int)) (X : St p l e R (s.setVm vm1) m args below meth c h0 ws T h cells slots) {n1 : Nat} (hS : s.Since vm1 n1) (hz : Sz n1 h) {z : Int32} (hd : decode bytes pc = .ok (.ireturn, 1)) (hk : cells ≤ K) (hn : slots ≤ N) (hQ : Q (some (.int z)) h) : Go p e below (EndW s K N) h0 ws Q T (mkF m pc Ls (.int z :: st)) := by
  obtain ⟨L0, X, eT, KK, FF⟩ := X; have hlk := B.2.2.2.2.2.2.2; have hrt := B.2.2.2.2.2.2.1
  obtain ⟨fs, hr, hrun, hended, hend⟩ := X.leaveW hS (by rw [eT]; exact hz) (v := some (.int z)) (fun h => by rw [hrt] at h; cases h) hlk
  exact ⟨_, _, retI X B.1 hrt (hb B.2.2.1 hd) hr, hrun, hended, _, _, rfl, ⟨by show Q _ T.heap; rw [eT]; exact hQ, by show Keep h0 T.heap ws; rw [eT]; exact KK, FF⟩, hend.1, hend.2.1, hend.2.2.1, hend.2.2.2.mono hk hn⟩
theorem gretN {t : FieldType} (B : Fix p Z s m meth c bytes maxL own nm (some t)) (X : St p l e R s m args below meth c h0 ws T h cells slots)  {z z' : Int32} (ht : t = .boolean ∨ t = .byte ∨ t = .char ∨ t = .short) (hz' : nar t z = z') (hd : decode bytes pc = .ok (.ireturn, 1)) (hk : cells ≤ K) (hn : slots ≤ N) (hQ : Q (some (.int z')) h) : Go p e below (EndN s K N) h0 ws Q T (mkF m pc Ls (.int z :: st)) := by
  subst hz'; obtain ⟨L0, X, eT, KK, FF⟩ := X; have hlk := B.2.2.2.2.2.2.2; have hrt := B.2.2.2.2.2.2.1
  obtain ⟨fs, hr, hrun, hended, hW, hsame⟩ := X.leave (v := some (.int (nar t z))) (fun h => by rw [hrt] at h; cases h) hlk
  exact ⟨_, _, retN X B.1 hrt ht (hb B.2.2.1 hd) hr, hrun, hended, _, _, rfl, ⟨by show Q _ T.heap; rw [eT]; exact hQ, by show Keep h0 T.heap ws; rw [eT]; exact KK, FF⟩, ⟨_, rfl⟩, hW, hsame.mono hk hn⟩
theorem gretNW {t : FieldType} (B : Fix p Z (s.setVm vm1) m meth c bytes maxL own nm (some t)) (X : St p l e R (s.setVm vm1) m args below meth c h0 ws T h cells slots) {n1 : Nat} (hS : s.Since vm1 n1) (hz : Sz n1 h) {z z' : Int32} (ht : t = .boolean ∨ t = .byte ∨ t = .char ∨ t = .short) (hz' : nar t z = z') (hd : decode bytes pc = .ok (.ireturn, 1)) (hk : cells ≤ K) (hn : slots ≤ N) (hQ : Q (some (.int z')) h) : Go p e below (EndW s K N) h0 ws Q T (mkF m pc Ls (.int z :: st)) := by
  subst hz'; obtain ⟨L0, X, eT, KK, FF⟩ := X; have hlk := B.2.2.2.2.2.2.2; have hrt := B.2.2.2.2.2.2.1
  obtain ⟨fs, hr, hrun, hended, hend⟩ := X.leaveW hS (by rw [eT]; exact hz) (v := some (.int (nar t z))) (fun h => by rw [hrt] at h; cases h) hlk
  exact ⟨_, _, retN X B.1 hrt ht (hb B.2.2.1 hd) hr, hrun, hended, _, _, rfl, ⟨by show Q _ T.heap; rw [eT]; exact hQ, by show Keep h0 T.heap ws; rw [eT]; exact KK, FF⟩, hend.1, hend.2.1, hend.2.2.1, hend.2.2.2.mono hk hn⟩
theorem gretL (B : Fix p Z s m meth c bytes maxL own nm (some .long)) (X : St p l e R s m args below meth c h0 ws T h cells slots)  {z : Int64} (hd : decode bytes pc = .ok (.lreturn, 1)) (hk : cells ≤ K) (hn : slots ≤ N) (hQ : Q (some (.long z)) h) : Go p e below (EndN s K N) h0 ws Q T (mkF m pc Ls (.long z :: st)) := by
  obtain ⟨L0, X, eT, KK, FF⟩ := X; have hlk := B.2.2.2.2.2.2.2; have hrt := B.2.2.2.2.2.2.1
  obtain ⟨fs, hr, hrun, hended, hW, hsame⟩ := X.leave (v := some (.long z)) (fun h => by rw [hrt] at h; cases h) hlk
  exact ⟨_, _, retOut X B.1 hrt rfl (Or.inr (Or.inl ⟨rfl, rfl, _, rfl⟩)) (hb B.2.2.1 hd) hr, hrun, hended, _, _, rfl, ⟨by show Q _ T.heap; rw [eT]; exact hQ, by show Keep h0 T.heap ws; rw [eT]; exact KK, FF⟩, ⟨_, rfl⟩, hW, hsame.mono hk hn⟩
theorem gretLW (B : Fix p Z (s.setVm vm1) m meth c bytes maxL own nm (some .long)) (X : St p l e R (s.setVm vm1) m args below meth c h0 ws T h cells slots) {n1 : Nat} (hS : s.Since vm1 n1) (hz : Sz n1 h) {z : Int64} (hd : decode bytes pc = .ok (.lreturn, 1)) (hk : cells ≤ K) (hn : slots ≤ N) (hQ : Q (some (.long z)) h) : Go p e below (EndW s K N) h0 ws Q T (mkF m pc Ls (.long z :: st)) := by
  obtain ⟨L0, X, eT, KK, FF⟩ := X; have hlk := B.2.2.2.2.2.2.2; have hrt := B.2.2.2.2.2.2.1
  obtain ⟨fs, hr, hrun, hended, hend⟩ := X.leaveW hS (by rw [eT]; exact hz) (v := some (.long z)) (fun h => by rw [hrt] at h; cases h) hlk
  exact ⟨_, _, retOut X B.1 hrt rfl (Or.inr (Or.inl ⟨rfl, rfl, _, rfl⟩)) (hb B.2.2.1 hd) hr, hrun, hended, _, _, rfl, ⟨by show Q _ T.heap; rw [eT]; exact hQ, by show Keep h0 T.heap ws; rw [eT]; exact KK, FF⟩, hend.1, hend.2.1, hend.2.2.1, hend.2.2.2.mono hk hn⟩
theorem gretA {t : FieldType} (B : Fix p Z s m meth c bytes maxL own nm (some t)) (X : St p l e R s m args below meth c h0 ws T h cells slots)  {a : Addr} (ht : t.isReference = true) (hnn : narrow t (.ref a) = .ref a) (hd : decode bytes pc = .ok (.areturn, 1)) (hk : cells ≤ K) (hn : slots ≤ N) (hQ : Q (some (.ref a)) h) : Go p e below (EndN s K N) h0 ws Q T (mkF m pc Ls (.ref a :: st)) := by
  obtain ⟨L0, X, eT, KK, FF⟩ := X; have hlk := B.2.2.2.2.2.2.2; have hrt := B.2.2.2.2.2.2.1
  obtain ⟨fs, hr, hrun, hended, hW, hsame⟩ := X.leave (v := some (.ref a)) (fun h => by rw [hrt] at h; cases h) hlk
  exact ⟨_, _, retOut X B.1 hrt hnn (Or.inr (Or.inr (Or.inr (Or.inr ⟨rfl, ht, rfl⟩)))) (hb B.2.2.1 hd) hr, hrun, hended, _, _, rfl, ⟨by show Q _ T.heap; rw [eT]; exact hQ, by show Keep h0 T.heap ws; rw [eT]; exact KK, FF⟩, ⟨_, rfl⟩, hW, hsame.mono hk hn⟩
theorem gretAW {t : FieldType} (B : Fix p Z (s.setVm vm1) m meth c bytes maxL own nm (some t)) (X : St p l e R (s.setVm vm1) m args below meth c h0 ws T h cells slots) {n1 : Nat} (hS : s.Since vm1 n1) (hz : Sz n1 h) {a : Addr} (ht : t.isReference = true) (hnn : narrow t (.ref a) = .ref a) (hd : decode bytes pc = .ok (.areturn, 1)) (hk : cells ≤ K) (hn : slots ≤ N) (hQ : Q (some (.ref a)) h) : Go p e below (EndW s K N) h0 ws Q T (mkF m pc Ls (.ref a :: st)) := by
  obtain ⟨L0, X, eT, KK, FF⟩ := X; have hlk := B.2.2.2.2.2.2.2; have hrt := B.2.2.2.2.2.2.1
  obtain ⟨fs, hr, hrun, hended, hend⟩ := X.leaveW hS (by rw [eT]; exact hz) (v := some (.ref a)) (fun h => by rw [hrt] at h; cases h) hlk
  exact ⟨_, _, retOut X B.1 hrt hnn (Or.inr (Or.inr (Or.inr (Or.inr ⟨rfl, ht, rfl⟩)))) (hb B.2.2.1 hd) hr, hrun, hended, _, _, rfl, ⟨by show Q _ T.heap; rw [eT]; exact hQ, by show Keep h0 T.heap ws; rw [eT]; exact KK, FF⟩, hend.1, hend.2.1, hend.2.2.1, hend.2.2.2.mono hk hn⟩
theorem gretV (B : Fix p Z s m meth c bytes maxL own nm none) (X : St p l e R s m args below meth c h0 ws T h cells slots)   (hd : decode bytes pc = .ok (.return_, 1)) (hk : cells ≤ K) (hn : slots ≤ N) (hQ : Q (none) h) : Go p e below (EndN s K N) h0 ws Q T (mkF m pc Ls []) := by
  obtain ⟨L0, X, eT, KK, FF⟩ := X; have hlk := B.2.2.2.2.2.2.2; have hrt := B.2.2.2.2.2.2.1
  obtain ⟨fs, hr, hrun, hended, hW, hsame⟩ := X.leave (v := none) (fun h => rfl) hlk
  exact ⟨_, _, X.returnOut B.1 hrt (hb B.2.2.1 hd) hr, hrun, hended, _, _, rfl, ⟨by show Q _ T.heap; rw [eT]; exact hQ, by show Keep h0 T.heap ws; rw [eT]; exact KK, FF⟩, ⟨_, rfl⟩, hW, hsame.mono hk hn⟩
theorem gretVW (B : Fix p Z (s.setVm vm1) m meth c bytes maxL own nm none) (X : St p l e R (s.setVm vm1) m args below meth c h0 ws T h cells slots) {n1 : Nat} (hS : s.Since vm1 n1) (hz : Sz n1 h)  (hd : decode bytes pc = .ok (.return_, 1)) (hk : cells ≤ K) (hn : slots ≤ N) (hQ : Q (none) h) : Go p e below (EndW s K N) h0 ws Q T (mkF m pc Ls []) := by
  obtain ⟨L0, X, eT, KK, FF⟩ := X; have hlk := B.2.2.2.2.2.2.2; have hrt := B.2.2.2.2.2.2.1
  obtain ⟨fs, hr, hrun, hended, hend⟩ := X.leaveW hS (by rw [eT]; exact hz) (v := none) (fun h => rfl) hlk
  exact ⟨_, _, X.returnOut B.1 hrt (hb B.2.2.1 hd) hr, hrun, hended, _, _, rfl, ⟨by show Q _ T.heap; rw [eT]; exact hQ, by show Keep h0 T.heap ws; rw [eT]; exact KK, FF⟩, hend.1, hend.2.1, hend.2.2.1, hend.2.2.2.mono hk hn⟩
theorem MethW.of {y : MethodName} {rm : Room} {as' : Array Value} (hpl : plainFor y = true)
    (body : ∀ (p : Program) (e : Env) (s : State) (m : MethodId) (below : List Frame) (meth : Method) (c : Code) (T : State), Fix p Z (s.setVm s.vm) m meth c bytes maxL y.cls y.name ret → St p l e rm (s.setVm s.vm) m as' below meth c h0 ws T h0 0 0 → s.Since s.vm 0 → Go p e below (EndW s rm.cells rm.slots) h0 ws Q T (entryFrame m as' maxL)) :
    MethW l Z y bytes maxL ret rm as' h0 ws Q := by
  intro wl
  refine MetFree.of_bodySF hpl hisR ?_
  intro p e s m args below meth c s₁ Bd hml0 hP hK
  obtain ⟨rfl, hZ, hh⟩ := hP
  have X0 : Stand p l e rm s m _ below meth c s₁ [] 0 0 := Stand.of_body Bd
  have e0 : s₁.heap = h0 := by rw [← hh, Bd.state]; rfl
  exact body p e s m below meth c s₁ ⟨Bd.exec, hZ, Bd.bytes, hml0, findClass_of_methodNamed Bd.named, (name_of_methodNamed Bd.named Bd.method).1, Bd.returns, Bd.notSynchronized⟩ ⟨[], X0, e0, Keep.refl _ _, fun y hy => nomatch hy⟩ ((State.WarmedH.refl s).since 0)
theorem gldcS (B : Fix p Z (s.setVm vm1) m meth c bytes maxL own nm ret) (X : St p l e R (s.setVm vm1) m args below meth c h0 ws T h cells slots) {n1 : Nat} (hS : s.Since vm1 n1) (hz : Sz n1 h) {i n : Nat} {text : String} (w : (Cond.stringLink own i text).before a0 Z = true) (wS : ∀ a ∈ Bundle.stringAtoms, a.before a0 Z = true) (hn : 4 * text.toList.length ≤ n) (hbig : n ≤ 536870912) (hc : cells + 2 ≤ R.cells) (hl : slots + (n + 4) ≤ R.slots) (hd : decode bytes pc = .ok (.ldc i, 2)) (hp : pc' = pc + 2) (g : ∀ (a : Addr) T' h' vm2, Fix p Z (s.setVm vm2) m meth c bytes maxL own nm ret → St p l e R (s.setVm vm2) m args below meth c h0 ws T' h' (cells + 2) (slots + (n + 4)) → s.Since vm2 h'.size → Ext h h' → Go p e below FE h0 ws Q T' (mkF m pc' Ls (.ref a :: st))) : Go p e below FE h0 ws Q T (mkF m pc Ls st) := by
  subst hp; obtain ⟨L0, X, eT, KK, FF⟩ := X
  obtain ⟨a, T', h', k1, X', e', E, S', hk1, hZ', ho', k⟩ := ldcS X B.1 B.2.1 B.2.2.2.2.1 w wS eT hS hz (g := mkF m pc Ls st) rfl (hb B.2.2.1 hd) hn hbig hc hl
  exact Go.to k (g a T' h' T'.vm ⟨B.1, hZ', B.2.2.1, B.2.2.2.1, ho', B.2.2.2.2.2.1, B.2.2.2.2.2.2.1, B.2.2.2.2.2.2.2⟩ ⟨L0, X', e', KK.ext E, FF⟩ ⟨S'.1, fun j q hj hq => ⟨(S'.2 j q hj hq).1, Nat.lt_of_lt_of_le (S'.2 j q hj hq).2 hk1⟩⟩ E)
theorem gcallIW (B : Fix p Z (s.setVm vm1) m meth c bytes maxL own nm ret) (X : St p l e R (s.setVm vm1) m args below meth c h0 ws T h cells slots) {n1 : Nat} (hS : s.Since vm1 n1) (hz : Sz n1 h) {y : MethodName} {bytes' : ByteArray} {maxL' : Nat} {ret' : Option FieldType} {rm : Room} {ws' : List Addr} {Q' : Option Value → Heap → Prop} {stk argsL : List Value} {i W : Nat} {ps : List FieldType} {rr : Option FieldType} {a : Addr} (hni : y.name = "<init>") (hret : ret' = none) (w1 : (Cond.methodLink own i y).before a0 Z = true) (w2 : (Cond.instanceMethod y).before a0 Z = true) (w3 : (Cond.initialized y.cls).before a0 Z = true) (w4 : (Cond.code y bytes' maxL' ret').before a0 Z = true) (hy : y.cls ≠ "java/lang/invoke/MethodHandle" ∧ y.cls ≠ "java/lang/invoke/VarHandle") (M : MethW l Z y bytes' maxL' ret' rm (.ref a :: argsL).toArray h ws' Q') (hpd : parseMethodDescriptor y.desc = some ⟨ps, rr⟩) (hlen : argsL.length = ps.length) (hstk : stk = argsL.reverse ++ .ref a :: st) (hsz : Ls.size = maxL) (hW : (st.map fun v => v.category).sum ≤ W) (hfr : rm.frames + 1 ≤ R.frames) (hlo : W + (maxL' + 11) + rm.locals ≤ R.locals) (hcs : cells + rm.cells ≤ R.cells) (hss : slots + rm.slots ≤ R.slots) (hws : ∀ x ∈ ws', x ∈ ws ∨ h0.size ≤ x) (hd : decode bytes pc = .ok (.invokespecial i, 3)) (hp : pc' = pc + 3)
    (g : ∀ T' h' v vm2, Fix p Z (s.setVm vm2) m meth c bytes maxL own nm ret → St p l e R (s.setVm vm2) m args below meth c h0 ws T' h' (cells + rm.cells) (slots + rm.slots) → s.Since vm2 h'.size → Keep h h' ws' → Q' v h' → Go p e below FE h0 ws Q T' (mkF m pc' Ls (v.toList ++ st))) : Go p e below FE h0 ws Q T (mkF m pc Ls stk) := by
  subst hp; subst hstk; obtain ⟨L0, X, eT, KK, FF⟩ := X
  subst hret
  obtain ⟨v2, _, ⟨T2, L2, c2, n2⟩, -, X2, S2, G2, ⟨Lc2, hq, l2, y2, z2⟩, k2⟩ := X.specialBackS B.1 (y := y) hni B.2.2.2.2.1 (mvT B.2.1 w1) (mvT B.2.1 w2) (mvT B.2.1 w4) hy (backOfS (W := W) (Q := fun v h' L => Q' v h' ∧ Keep h h' ws' ∧ FrW h ws' L) (M []) B.2.1 w4 w3 hfr hlo) (g := mkF m pc Ls (argsL.reverse ++ .ref a :: st)) rfl (hsz.trans B.2.2.2.1.symm) (Steps.refl _) (a := a) (argsL := argsL) (rest := st) (lenOf hpd hlen) rfl (by show 2 * 0 + _ ≤ _; rw [Nat.mul_zero, Nat.zero_add]; exact hW) (hb B.2.2.1 hd) (fun _ _ => ⟨rfl, eT, hcs, hss⟩)
  dsimp only [Pt.U, Pt.locs, Pt.cells, Pt.slots] at X2 S2 G2 l2 y2 z2 k2 hq
  subst l2 y2 z2
  obtain ⟨X3, S3, hZ3, ho3⟩ := rebS hS (Nat.le_trans hz (Nat.le_of_eq (congrArg Array.size eT.symm))) X2 S2 G2 B.2.1 B.2.2.2.2.1
  refine Go.to (fun t kt => k2.trans kt) (g T2 T2.heap v2 T2.vm ⟨B.1, hZ3, B.2.2.1, B.2.2.2.1, ho3, B.2.2.2.2.2.1, B.2.2.2.2.2.2.1, B.2.2.2.2.2.2.2⟩ ⟨_, X3, rfl, KK.trans hq.2.1 hws, fun y hy => (List.mem_append.mp hy).elim (FF y) fun q => ?_⟩ S3 hq.2.1 hq.1)
  exact (hq.2.2 y q).elim (fun z => hws _ z) fun z => Or.inr (Nat.le_trans KK.1 z)
end Go
end Jvm.OwnKit
namespace Jvm.Pilot.@@N@@
open Jvm Jvm.ClassFile Sem Op Lib Jvm.Free Jvm.Stand Jvm.LawKit Jvm.RoadKit Jvm.OwnKit Bundle Jvm.Pilot.@@N@@.Jvm.D
def Pt (Z : State) (h : Heap) (a : Addr) (v0 v1 v2 v3 v4 v5 v6 v7 : Value) : Prop := Exa Z h a "com/example/bisim_for_markov/bisimformarkov/analysis/Partition" ∧ Fld Z h a "com/example/bisim_for_markov/bisimformarkov/analysis/Partition" "elements" "[I" v0 ∧ Fld Z h a "com/example/bisim_for_markov/bisimformarkov/analysis/Partition" "location" "[I" v1 ∧ Fld Z h a "com/example/bisim_for_markov/bisimformarkov/analysis/Partition" "classes" "[I" v2 ∧ Fld Z h a "com/example/bisim_for_markov/bisimformarkov/analysis/Partition" "start" "[I" v3 ∧ Fld Z h a "com/example/bisim_for_markov/bisimformarkov/analysis/Partition" "end" "[I" v4 ∧ Fld Z h a "com/example/bisim_for_markov/bisimformarkov/analysis/Partition" "parents" "[I" v5 ∧ Fld Z h a "com/example/bisim_for_markov/bisimformarkov/analysis/Partition" "rounds" "[I" v6 ∧ Fld Z h a "com/example/bisim_for_markov/bisimformarkov/analysis/Partition" "count" "I" v7
theorem Pt.lt {Z : State} {h : Heap} {a : Addr} {v0 v1 v2 v3 v4 v5 v6 v7 : Value} (F : Pt Z h a v0 v1 v2 v3 v4 v5 v6 v7) : a < h.size := F.1.lt
theorem Pt.ext {Z : State} {h h' : Heap} {a : Addr} {v0 v1 v2 v3 v4 v5 v6 v7 : Value} (F : Pt Z h a v0 v1 v2 v3 v4 v5 v6 v7) (E0 : Ext h h') : Pt Z h' a v0 v1 v2 v3 v4 v5 v6 v7 := by obtain ⟨E, f0, f1, f2, f3, f4, f5, f6, f7⟩ := F; exact ⟨E.ext E0, f0.ext E0, f1.ext E0, f2.ext E0, f3.ext E0, f4.ext E0, f5.ext E0, f6.ext E0, f7.ext E0⟩
theorem Pt.keep {Z : State} {h h' : Heap} {a : Addr} {v0 v1 v2 v3 v4 v5 v6 v7 : Value} {ws : List Addr} (F : Pt Z h a v0 v1 v2 v3 v4 v5 v6 v7) (K : Keep h h' ws) (q : a ∉ ws) : Pt Z h' a v0 v1 v2 v3 v4 v5 v6 v7 := by obtain ⟨E, f0, f1, f2, f3, f4, f5, f6, f7⟩ := F; exact ⟨E.keep K, f0.keep K q, f1.keep K q, f2.keep K q, f3.keep K q, f4.keep K q, f5.keep K q, f6.keep K q, f7.keep K q⟩
theorem Pt.other {Z : State} {h h' : Heap} {a : Addr} {v0 v1 v2 v3 v4 v5 v6 v7 : Value} {b : Addr} {v : Value} {sl : Nat} (F : Pt Z h b v0 v1 v2 v3 v4 v5 v6 v7) (W : Wr h h' a sl v) (q : b ≠ a) : Pt Z h' b v0 v1 v2 v3 v4 v5 v6 v7 := by obtain ⟨E, f0, f1, f2, f3, f4, f5, f6, f7⟩ := F; exact ⟨E.wr W, f0.other W (Or.inl q), f1.other W (Or.inl q), f2.other W (Or.inl q), f3.other W (Or.inl q), f4.other W (Or.inl q), f5.other W (Or.inl q), f6.other W (Or.inl q), f7.other W (Or.inl q)⟩
theorem Pt.set0 {Z : State} {h h' : Heap} {a : Addr} {v0 v1 v2 v3 v4 v5 v6 v7 : Value} {v : Value} {a0 : Array Value} (hw : ∀ d ∈ tables_1, d.before a0 Z = true) (F : Pt Z h a v0 v1 v2 v3 v4 v5 v6 v7) (W : Wr h h' a (Jvm.RoadKit.slotOf Z "com/example/bisim_for_markov/bisimformarkov/analysis/Partition" "elements" "[I") v) : Pt Z h' a v v1 v2 v3 v4 v5 v6 v7 := by obtain ⟨E, f0, f1, f2, f3, f4, f5, f6, f7⟩ := F; exact ⟨E.wr W, f0.same W, f1.other W (Or.inr (slot_ne (Or.inr (hw _ (List.mem_of_getElem? (i := 23) rfl))) (Or.inr (hw _ (List.mem_of_getElem? (i := 21) rfl))) (by decide) (t := (.array .int)) (t' := (.array .int)) (by decide) (by decide))), f2.other W (Or.inr (slot_ne (Or.inr (hw _ (List.mem_of_getElem? (i := 25) rfl))) (Or.inr (hw _ (List.mem_of_getElem? (i := 21) rfl))) (by decide) (t := (.array .int)) (t' := (.array .int)) (by decide) (by decide))), f3.other W (Or.inr (slot_ne (Or.inr (hw _ (List.mem_of_getElem? (i := 31) rfl))) (Or.inr (hw _ (List.mem_of_getElem? (i := 21) rfl))) (by decide) (t := (.array .int)) (t' := (.array .int)) (by decide) (by decide))), f4.other W (Or.inr (slot_ne (Or.inr (hw _ (List.mem_of_getElem? (i := 33) rfl))) (Or.inr (hw _ (List.mem_of_getElem? (i := 21) rfl))) (by decide) (t := (.array .int)) (t' := (.array .int)) (by decide) (by decide))), f5.other W (Or.inr (slot_ne (Or.inr (hw _ (List.mem_of_getElem? (i := 35) rfl))) (Or.inr (hw _ (List.mem_of_getElem? (i := 21) rfl))) (by decide) (t := (.array .int)) (t' := (.array .int)) (by decide) (by decide))), f6.other W (Or.inr (slot_ne (Or.inr (hw _ (List.mem_of_getElem? (i := 37) rfl))) (Or.inr (hw _ (List.mem_of_getElem? (i := 21) rfl))) (by decide) (t := (.array .int)) (t' := (.array .int)) (by decide) (by decide))), f7.other W (Or.inr (slot_ne (Or.inl (hw _ (List.mem_of_getElem? (i := 39) rfl))) (Or.inr (hw _ (List.mem_of_getElem? (i := 21) rfl))) (by decide) (t := .int) (t' := (.array .int)) (by decide) (by decide)))⟩
theorem Pt.set1 {Z : State} {h h' : Heap} {a : Addr} {v0 v1 v2 v3 v4 v5 v6 v7 : Value} {v : Value} {a0 : Array Value} (hw : ∀ d ∈ tables_1, d.before a0 Z = true) (F : Pt Z h a v0 v1 v2 v3 v4 v5 v6 v7) (W : Wr h h' a (Jvm.RoadKit.slotOf Z "com/example/bisim_for_markov/bisimformarkov/analysis/Partition" "location" "[I") v) : Pt Z h' a v0 v v2 v3 v4 v5 v6 v7 := by obtain ⟨E, f0, f1, f2, f3, f4, f5, f6, f7⟩ := F; exact ⟨E.wr W, f0.other W (Or.inr (slot_ne (Or.inr (hw _ (List.mem_of_getElem? (i := 21) rfl))) (Or.inr (hw _ (List.mem_of_getElem? (i := 23) rfl))) (by decide) (t := (.array .int)) (t' := (.array .int)) (by decide) (by decide))), f1.same W, f2.other W (Or.inr (slot_ne (Or.inr (hw _ (List.mem_of_getElem? (i := 25) rfl))) (Or.inr (hw _ (List.mem_of_getElem? (i := 23) rfl))) (by decide) (t := (.array .int)) (t' := (.array .int)) (by decide) (by decide))), f3.other W (Or.inr (slot_ne (Or.inr (hw _ (List.mem_of_getElem? (i := 31) rfl))) (Or.inr (hw _ (List.mem_of_getElem? (i := 23) rfl))) (by decide) (t := (.array .int)) (t' := (.array .int)) (by decide) (by decide))), f4.other W (Or.inr (slot_ne (Or.inr (hw _ (List.mem_of_getElem? (i := 33) rfl))) (Or.inr (hw _ (List.mem_of_getElem? (i := 23) rfl))) (by decide) (t := (.array .int)) (t' := (.array .int)) (by decide) (by decide))), f5.other W (Or.inr (slot_ne (Or.inr (hw _ (List.mem_of_getElem? (i := 35) rfl))) (Or.inr (hw _ (List.mem_of_getElem? (i := 23) rfl))) (by decide) (t := (.array .int)) (t' := (.array .int)) (by decide) (by decide))), f6.other W (Or.inr (slot_ne (Or.inr (hw _ (List.mem_of_getElem? (i := 37) rfl))) (Or.inr (hw _ (List.mem_of_getElem? (i := 23) rfl))) (by decide) (t := (.array .int)) (t' := (.array .int)) (by decide) (by decide))), f7.other W (Or.inr (slot_ne (Or.inl (hw _ (List.mem_of_getElem? (i := 39) rfl))) (Or.inr (hw _ (List.mem_of_getElem? (i := 23) rfl))) (by decide) (t := .int) (t' := (.array .int)) (by decide) (by decide)))⟩
theorem Pt.set2 {Z : State} {h h' : Heap} {a : Addr} {v0 v1 v2 v3 v4 v5 v6 v7 : Value} {v : Value} {a0 : Array Value} (hw : ∀ d ∈ tables_1, d.before a0 Z = true) (F : Pt Z h a v0 v1 v2 v3 v4 v5 v6 v7) (W : Wr h h' a (Jvm.RoadKit.slotOf Z "com/example/bisim_for_markov/bisimformarkov/analysis/Partition" "classes" "[I") v) : Pt Z h' a v0 v1 v v3 v4 v5 v6 v7 := by obtain ⟨E, f0, f1, f2, f3, f4, f5, f6, f7⟩ := F; exact ⟨E.wr W, f0.other W (Or.inr (slot_ne (Or.inr (hw _ (List.mem_of_getElem? (i := 21) rfl))) (Or.inr (hw _ (List.mem_of_getElem? (i := 25) rfl))) (by decide) (t := (.array .int)) (t' := (.array .int)) (by decide) (by decide))), f1.other W (Or.inr (slot_ne (Or.inr (hw _ (List.mem_of_getElem? (i := 23) rfl))) (Or.inr (hw _ (List.mem_of_getElem? (i := 25) rfl))) (by decide) (t := (.array .int)) (t' := (.array .int)) (by decide) (by decide))), f2.same W, f3.other W (Or.inr (slot_ne (Or.inr (hw _ (List.mem_of_getElem? (i := 31) rfl))) (Or.inr (hw _ (List.mem_of_getElem? (i := 25) rfl))) (by decide) (t := (.array .int)) (t' := (.array .int)) (by decide) (by decide))), f4.other W (Or.inr (slot_ne (Or.inr (hw _ (List.mem_of_getElem? (i := 33) rfl))) (Or.inr (hw _ (List.mem_of_getElem? (i := 25) rfl))) (by decide) (t := (.array .int)) (t' := (.array .int)) (by decide) (by decide))), f5.other W (Or.inr (slot_ne (Or.inr (hw _ (List.mem_of_getElem? (i := 35) rfl))) (Or.inr (hw _ (List.mem_of_getElem? (i := 25) rfl))) (by decide) (t := (.array .int)) (t' := (.array .int)) (by decide) (by decide))), f6.other W (Or.inr (slot_ne (Or.inr (hw _ (List.mem_of_getElem? (i := 37) rfl))) (Or.inr (hw _ (List.mem_of_getElem? (i := 25) rfl))) (by decide) (t := (.array .int)) (t' := (.array .int)) (by decide) (by decide))), f7.other W (Or.inr (slot_ne (Or.inl (hw _ (List.mem_of_getElem? (i := 39) rfl))) (Or.inr (hw _ (List.mem_of_getElem? (i := 25) rfl))) (by decide) (t := .int) (t' := (.array .int)) (by decide) (by decide)))⟩
theorem Pt.set3 {Z : State} {h h' : Heap} {a : Addr} {v0 v1 v2 v3 v4 v5 v6 v7 : Value} {v : Value} {a0 : Array Value} (hw : ∀ d ∈ tables_1, d.before a0 Z = true) (F : Pt Z h a v0 v1 v2 v3 v4 v5 v6 v7) (W : Wr h h' a (Jvm.RoadKit.slotOf Z "com/example/bisim_for_markov/bisimformarkov/analysis/Partition" "start" "[I") v) : Pt Z h' a v0 v1 v2 v v4 v5 v6 v7 := by obtain ⟨E, f0, f1, f2, f3, f4, f5, f6, f7⟩ := F; exact ⟨E.wr W, f0.other W (Or.inr (slot_ne (Or.inr (hw _ (List.mem_of_getElem? (i := 21) rfl))) (Or.inr (hw _ (List.mem_of_getElem? (i := 31) rfl))) (by decide) (t := (.array .int)) (t' := (.array .int)) (by decide) (by decide))), f1.other W (Or.inr (slot_ne (Or.inr (hw _ (List.mem_of_getElem? (i := 23) rfl))) (Or.inr (hw _ (List.mem_of_getElem? (i := 31) rfl))) (by decide) (t := (.array .int)) (t' := (.array .int)) (by decide) (by decide))), f2.other W (Or.inr (slot_ne (Or.inr (hw _ (List.mem_of_getElem? (i := 25) rfl))) (Or.inr (hw _ (List.mem_of_getElem? (i := 31) rfl))) (by decide) (t := (.array .int)) (t' := (.array .int)) (by decide) (by decide))), f3.same W, f4.other W (Or.inr (slot_ne (Or.inr (hw _ (List.mem_of_getElem? (i := 33) rfl))) (Or.inr (hw _ (List.mem_of_getElem? (i := 31) rfl))) (by decide) (t := (.array .int)) (t' := (.array .int)) (by decide) (by decide))), f5.other W (Or.inr (slot_ne (Or.inr (hw _ (List.mem_of_getElem? (i := 35) rfl))) (Or.inr (hw _ (List.mem_of_getElem? (i := 31) rfl))) (by decide) (t := (.array .int)) (t' := (.array .int)) (by decide) (by decide))), f6.other W (Or.inr (slot_ne (Or.inr (hw _ (List.mem_of_getElem? (i := 37) rfl))) (Or.inr (hw _ (List.mem_of_getElem? (i := 31) rfl))) (by decide) (t := (.array .int)) (t' := (.array .int)) (by decide) (by decide))), f7.other W (Or.inr (slot_ne (Or.inl (hw _ (List.mem_of_getElem? (i := 39) rfl))) (Or.inr (hw _ (List.mem_of_getElem? (i := 31) rfl))) (by decide) (t := .int) (t' := (.array .int)) (by decide) (by decide)))⟩
theorem Pt.set4 {Z : State} {h h' : Heap} {a : Addr} {v0 v1 v2 v3 v4 v5 v6 v7 : Value} {v : Value} {a0 : Array Value} (hw : ∀ d ∈ tables_1, d.before a0 Z = true) (F : Pt Z h a v0 v1 v2 v3 v4 v5 v6 v7) (W : Wr h h' a (Jvm.RoadKit.slotOf Z "com/example/bisim_for_markov/bisimformarkov/analysis/Partition" "end" "[I") v) : Pt Z h' a v0 v1 v2 v3 v v5 v6 v7 := by obtain ⟨E, f0, f1, f2, f3, f4, f5, f6, f7⟩ := F; exact ⟨E.wr W, f0.other W (Or.inr (slot_ne (Or.inr (hw _ (List.mem_of_getElem? (i := 21) rfl))) (Or.inr (hw _ (List.mem_of_getElem? (i := 33) rfl))) (by decide) (t := (.array .int)) (t' := (.array .int)) (by decide) (by decide))), f1.other W (Or.inr (slot_ne (Or.inr (hw _ (List.mem_of_getElem? (i := 23) rfl))) (Or.inr (hw _ (List.mem_of_getElem? (i := 33) rfl))) (by decide) (t := (.array .int)) (t' := (.array .int)) (by decide) (by decide))), f2.other W (Or.inr (slot_ne (Or.inr (hw _ (List.mem_of_getElem? (i := 25) rfl))) (Or.inr (hw _ (List.mem_of_getElem? (i := 33) rfl))) (by decide) (t := (.array .int)) (t' := (.array .int)) (by decide) (by decide))), f3.other W (Or.inr (slot_ne (Or.inr (hw _ (List.mem_of_getElem? (i := 31) rfl))) (Or.inr (hw _ (List.mem_of_getElem? (i := 33) rfl))) (by decide) (t := (.array .int)) (t' := (.array .int)) (by decide) (by decide))), f4.same W, f5.other W (Or.inr (slot_ne (Or.inr (hw _ (List.mem_of_getElem? (i := 35) rfl))) (Or.inr (hw _ (List.mem_of_getElem? (i := 33) rfl))) (by decide) (t := (.array .int)) (t' := (.array .int)) (by decide) (by decide))), f6.other W (Or.inr (slot_ne (Or.inr (hw _ (List.mem_of_getElem? (i := 37) rfl))) (Or.inr (hw _ (List.mem_of_getElem? (i := 33) rfl))) (by decide) (t := (.array .int)) (t' := (.array .int)) (by decide) (by decide))), f7.other W (Or.inr (slot_ne (Or.inl (hw _ (List.mem_of_getElem? (i := 39) rfl))) (Or.inr (hw _ (List.mem_of_getElem? (i := 33) rfl))) (by decide) (t := .int) (t' := (.array .int)) (by decide) (by decide)))⟩
theorem Pt.set5 {Z : State} {h h' : Heap} {a : Addr} {v0 v1 v2 v3 v4 v5 v6 v7 : Value} {v : Value} {a0 : Array Value} (hw : ∀ d ∈ tables_1, d.before a0 Z = true) (F : Pt Z h a v0 v1 v2 v3 v4 v5 v6 v7) (W : Wr h h' a (Jvm.RoadKit.slotOf Z "com/example/bisim_for_markov/bisimformarkov/analysis/Partition" "parents" "[I") v) : Pt Z h' a v0 v1 v2 v3 v4 v v6 v7 := by obtain ⟨E, f0, f1, f2, f3, f4, f5, f6, f7⟩ := F; exact ⟨E.wr W, f0.other W (Or.inr (slot_ne (Or.inr (hw _ (List.mem_of_getElem? (i := 21) rfl))) (Or.inr (hw _ (List.mem_of_getElem? (i := 35) rfl))) (by decide) (t := (.array .int)) (t' := (.array .int)) (by decide) (by decide))), f1.other W (Or.inr (slot_ne (Or.inr (hw _ (List.mem_of_getElem? (i := 23) rfl))) (Or.inr (hw _ (List.mem_of_getElem? (i := 35) rfl))) (by decide) (t := (.array .int)) (t' := (.array .int)) (by decide) (by decide))), f2.other W (Or.inr (slot_ne (Or.inr (hw _ (List.mem_of_getElem? (i := 25) rfl))) (Or.inr (hw _ (List.mem_of_getElem? (i := 35) rfl))) (by decide) (t := (.array .int)) (t' := (.array .int)) (by decide) (by decide))), f3.other W (Or.inr (slot_ne (Or.inr (hw _ (List.mem_of_getElem? (i := 31) rfl))) (Or.inr (hw _ (List.mem_of_getElem? (i := 35) rfl))) (by decide) (t := (.array .int)) (t' := (.array .int)) (by decide) (by decide))), f4.other W (Or.inr (slot_ne (Or.inr (hw _ (List.mem_of_getElem? (i := 33) rfl))) (Or.inr (hw _ (List.mem_of_getElem? (i := 35) rfl))) (by decide) (t := (.array .int)) (t' := (.array .int)) (by decide) (by decide))), f5.same W, f6.other W (Or.inr (slot_ne (Or.inr (hw _ (List.mem_of_getElem? (i := 37) rfl))) (Or.inr (hw _ (List.mem_of_getElem? (i := 35) rfl))) (by decide) (t := (.array .int)) (t' := (.array .int)) (by decide) (by decide))), f7.other W (Or.inr (slot_ne (Or.inl (hw _ (List.mem_of_getElem? (i := 39) rfl))) (Or.inr (hw _ (List.mem_of_getElem? (i := 35) rfl))) (by decide) (t := .int) (t' := (.array .int)) (by decide) (by decide)))⟩
theorem Pt.set6 {Z : State} {h h' : Heap} {a : Addr} {v0 v1 v2 v3 v4 v5 v6 v7 : Value} {v : Value} {a0 : Array Value} (hw : ∀ d ∈ tables_1, d.before a0 Z = true) (F : Pt Z h a v0 v1 v2 v3 v4 v5 v6 v7) (W : Wr h h' a (Jvm.RoadKit.slotOf Z "com/example/bisim_for_markov/bisimformarkov/analysis/Partition" "rounds" "[I") v) : Pt Z h' a v0 v1 v2 v3 v4 v5 v v7 := by obtain ⟨E, f0, f1, f2, f3, f4, f5, f6, f7⟩ := F; exact ⟨E.wr W, f0.other W (Or.inr (slot_ne (Or.inr (hw _ (List.mem_of_getElem? (i := 21) rfl))) (Or.inr (hw _ (List.mem_of_getElem? (i := 37) rfl))) (by decide) (t := (.array .int)) (t' := (.array .int)) (by decide) (by decide))), f1.other W (Or.inr (slot_ne (Or.inr (hw _ (List.mem_of_getElem? (i := 23) rfl))) (Or.inr (hw _ (List.mem_of_getElem? (i := 37) rfl))) (by decide) (t := (.array .int)) (t' := (.array .int)) (by decide) (by decide))), f2.other W (Or.inr (slot_ne (Or.inr (hw _ (List.mem_of_getElem? (i := 25) rfl))) (Or.inr (hw _ (List.mem_of_getElem? (i := 37) rfl))) (by decide) (t := (.array .int)) (t' := (.array .int)) (by decide) (by decide))), f3.other W (Or.inr (slot_ne (Or.inr (hw _ (List.mem_of_getElem? (i := 31) rfl))) (Or.inr (hw _ (List.mem_of_getElem? (i := 37) rfl))) (by decide) (t := (.array .int)) (t' := (.array .int)) (by decide) (by decide))), f4.other W (Or.inr (slot_ne (Or.inr (hw _ (List.mem_of_getElem? (i := 33) rfl))) (Or.inr (hw _ (List.mem_of_getElem? (i := 37) rfl))) (by decide) (t := (.array .int)) (t' := (.array .int)) (by decide) (by decide))), f5.other W (Or.inr (slot_ne (Or.inr (hw _ (List.mem_of_getElem? (i := 35) rfl))) (Or.inr (hw _ (List.mem_of_getElem? (i := 37) rfl))) (by decide) (t := (.array .int)) (t' := (.array .int)) (by decide) (by decide))), f6.same W, f7.other W (Or.inr (slot_ne (Or.inl (hw _ (List.mem_of_getElem? (i := 39) rfl))) (Or.inr (hw _ (List.mem_of_getElem? (i := 37) rfl))) (by decide) (t := .int) (t' := (.array .int)) (by decide) (by decide)))⟩
theorem Pt.set7 {Z : State} {h h' : Heap} {a : Addr} {v0 v1 v2 v3 v4 v5 v6 v7 : Value} {v : Value} {a0 : Array Value} (hw : ∀ d ∈ tables_1, d.before a0 Z = true) (F : Pt Z h a v0 v1 v2 v3 v4 v5 v6 v7) (W : Wr h h' a (Jvm.RoadKit.slotOf Z "com/example/bisim_for_markov/bisimformarkov/analysis/Partition" "count" "I") v) : Pt Z h' a v0 v1 v2 v3 v4 v5 v6 v := by obtain ⟨E, f0, f1, f2, f3, f4, f5, f6, f7⟩ := F; exact ⟨E.wr W, f0.other W (Or.inr (slot_ne (Or.inr (hw _ (List.mem_of_getElem? (i := 21) rfl))) (Or.inl (hw _ (List.mem_of_getElem? (i := 39) rfl))) (by decide) (t := (.array .int)) (t' := .int) (by decide) (by decide))), f1.other W (Or.inr (slot_ne (Or.inr (hw _ (List.mem_of_getElem? (i := 23) rfl))) (Or.inl (hw _ (List.mem_of_getElem? (i := 39) rfl))) (by decide) (t := (.array .int)) (t' := .int) (by decide) (by decide))), f2.other W (Or.inr (slot_ne (Or.inr (hw _ (List.mem_of_getElem? (i := 25) rfl))) (Or.inl (hw _ (List.mem_of_getElem? (i := 39) rfl))) (by decide) (t := (.array .int)) (t' := .int) (by decide) (by decide))), f3.other W (Or.inr (slot_ne (Or.inr (hw _ (List.mem_of_getElem? (i := 31) rfl))) (Or.inl (hw _ (List.mem_of_getElem? (i := 39) rfl))) (by decide) (t := (.array .int)) (t' := .int) (by decide) (by decide))), f4.other W (Or.inr (slot_ne (Or.inr (hw _ (List.mem_of_getElem? (i := 33) rfl))) (Or.inl (hw _ (List.mem_of_getElem? (i := 39) rfl))) (by decide) (t := (.array .int)) (t' := .int) (by decide) (by decide))), f5.other W (Or.inr (slot_ne (Or.inr (hw _ (List.mem_of_getElem? (i := 35) rfl))) (Or.inl (hw _ (List.mem_of_getElem? (i := 39) rfl))) (by decide) (t := (.array .int)) (t' := .int) (by decide) (by decide))), f6.other W (Or.inr (slot_ne (Or.inr (hw _ (List.mem_of_getElem? (i := 37) rfl))) (Or.inl (hw _ (List.mem_of_getElem? (i := 39) rfl))) (by decide) (t := (.array .int)) (t' := .int) (by decide) (by decide))), f7.same W⟩
abbrev PS := List Int32 × List Int32 × List Int32 × List Int32 × List Int32 × List Int32 × List Int32 × Int32
def PS.es (u : PS) : List Int32 := u.1
def PS.ls (u : PS) : List Int32 := u.2.1
def PS.cs (u : PS) : List Int32 := u.2.2.1
def PS.ss (u : PS) : List Int32 := u.2.2.2.1
def PS.ns (u : PS) : List Int32 := u.2.2.2.2.1
def PS.ps (u : PS) : List Int32 := u.2.2.2.2.2.1
def PS.rs (u : PS) : List Int32 := u.2.2.2.2.2.2.1
def PS.cnt (u : PS) : Int32 := u.2.2.2.2.2.2.2
def PS.wcs (u : PS) (x : List Int32) : PS := (u.es, u.ls, x, u.ss, u.ns, u.ps, u.rs, u.cnt)
def PS.wel (u : PS) (x y : List Int32) : PS := (x, y, u.cs, u.ss, u.ns, u.ps, u.rs, u.cnt)
def ob (cl : Int32) (u : PS) : Int32 := u.ns.getD cl.toNatClampNeg 0 - (1 : Int32)
def oy (cl : Int32) (u : PS) : Int32 := u.es.getD (ob cl u).toNatClampNeg 0
def ol (x : Int32) (u : PS) : Int32 := u.ls.getD x.toNatClampNeg 0
def oMove (cl x : Int32) (u : PS) : PS := ((u.es.set (ol x u).toNatClampNeg (oy cl u)).set (ob cl u).toNatClampNeg x, (u.ls.set (oy cl u).toNatClampNeg (ol x u)).set x.toNatClampNeg (ob cl u), u.cs, u.ss, u.ns.set cl.toNatClampNeg (ob cl u), u.ps, u.rs, u.cnt)
def oRun (cl : Int32) (fs : List Int32) : Nat → Nat → PS → PS
  | _, 0, u => u
  | i, f + 1, u => oRun cl fs (i + 1) f (oMove cl (fs.getD i 0) u)
def oCls (k : Int32) (fs : List Int32) : Nat → Nat → List Int32 → List Int32
  | _, 0, xs => xs
  | i, f + 1, xs => oCls k fs (i + 1) f (xs.set (fs.getD i 0).toNatClampNeg k)
def oFill : Nat → Nat → List Int32 → List Int32
  | _, 0, xs => xs
  | i, f + 1, xs => oFill (i + 1) f (xs.set i (Int32.ofNat i))
def oNew (cl fr to rd : Int32) (u : PS) : PS := (u.es, u.ls, u.cs, u.ss.set u.cnt.toNatClampNeg (u.ns.getD cl.toNatClampNeg 0), u.ns.set u.cnt.toNatClampNeg (u.ns.getD cl.toNatClampNeg 0 + to - fr), u.ps.set u.cnt.toNatClampNeg cl, u.rs.set u.cnt.toNatClampNeg rd, u.cnt + (1 : Int32))
def oSplit (cl : Int32) (fs : List Int32) (fr to rd : Int32) (fN tN : Nat) (u : PS) : PS := (oNew cl fr to rd (oRun cl fs fN (tN - fN) u)).wcs (oCls u.cnt fs fN (tN - fN) u.cs)
def inR (n : Nat) (x : Int32) : Prop := 0 ≤ x.toInt ∧ x.toInt < n
def Ok (n NN : Nat) (u : PS) : Prop := u.es.length = n ∧ u.ls.length = n ∧ u.cs.length = n ∧ u.ss.length = NN ∧ u.ns.length = NN ∧ u.ps.length = NN ∧ u.rs.length = NN ∧ (∀ j, j < n → inR n (u.es.getD j 0)) ∧ (∀ j, j < n → inR n (u.ls.getD j 0))
theorem own_clamp {x : Int32} {n : Nat} (h : x.toInt = n) : x.toNatClampNeg = n := by simp only [Int32.toNatClampNeg]; omega
theorem own_getset (bs : List Int32) (i j : Nat) (x : Int32) (hi : i < bs.length) : (bs.set i x).getD j 0 = if i = j then x else bs.getD j 0 := by
  rw [List.getD_eq_getElem?_getD, List.getElem?_set, List.getD_eq_getElem?_getD]
  by_cases h : i = j
  · subst h; rw [if_pos rfl, if_pos hi, if_pos rfl]; rfl
  · rw [if_neg h, if_neg h]
theorem own_setR {n : Nat} {xs : List Int32} {i : Nat} {x : Int32} (h : ∀ j, j < n → inR n (xs.getD j 0)) (hi : i < xs.length) (hx : inR n x) : ∀ j, j < n → inR n ((xs.set i x).getD j 0) := by
  intro j hj
  rw [own_getset _ _ _ _ hi]
  split
  · exact hx
  · exact h j hj
section move
variable {n NN : Nat} {u : PS} {cl x : Int32}
theorem Ok.y (k : Ok n NN u) (hb : inR n (ob cl u)) : inR n (oy cl u) := k.2.2.2.2.2.2.2.1 _ (own_nat hb)
theorem Ok.l (k : Ok n NN u) (hx : inR n x) : inR n (ol x u) := k.2.2.2.2.2.2.2.2 _ (own_nat hx)
theorem Ok.move (k : Ok n NN u) (hb : inR n (ob cl u)) (hx : inR n x) : Ok n NN (oMove cl x u) := by
  have hy := k.y hb; have hl := k.l hx
  obtain ⟨k1, k2, k3, k4, k5, k6, k7, k8, k9⟩ := k
  refine ⟨by show ((u.es.set _ _).set _ _).length = n; rw [List.length_set, List.length_set]; exact k1, by show ((u.ls.set _ _).set _ _).length = n; rw [List.length_set, List.length_set]; exact k2, k3, k4, by show (u.ns.set _ _).length = NN; rw [List.length_set]; exact k5, k6, k7, ?_, ?_⟩
  · exact own_setR (own_setR k8 (by rw [k1]; exact own_nat hl) hy) (by rw [List.length_set, k1]; exact own_nat hb) hx
  · exact own_setR (own_setR k9 (by rw [k2]; exact own_nat hy) hl) (by rw [List.length_set, k2]; exact own_nat hx) hb
/-- the end of class cl leaves room for r moves -/
def Can (n : Nat) (cl : Int32) (r : Nat) (u : PS) : Prop := (r : Int) ≤ (u.ns.getD cl.toNatClampNeg 0).toInt ∧ (u.ns.getD cl.toNatClampNeg 0).toInt ≤ n
theorem Can.b {r : Nat} (h : Can n cl (r + 1) u) : inR n (ob cl u) ∧ (ob cl u).toInt = (u.ns.getD cl.toNatClampNeg 0).toInt - 1 := by
  obtain ⟨h1, h2⟩ := h
  have a := c_isub (u.ns.getD cl.toNatClampNeg 0) 1; have b := rng32 (u.ns.getD cl.toNatClampNeg 0 - 1); have d := rng32 (u.ns.getD cl.toNatClampNeg 0)
  have z : (1 : Int32).toInt = 1 := rfl
  have e : (ob cl u).toInt = (u.ns.getD cl.toNatClampNeg 0).toInt - 1 := by unfold ob; omega
  exact ⟨⟨by omega, by omega⟩, e⟩
theorem Can.move {r : Nat} (h : Can n cl (r + 1) u) (k : Ok n NN u) (hc : inR NN cl) : Can n cl r (oMove cl x u) := by
  have b := h.b
  have e : (oMove cl x u).ns.getD cl.toNatClampNeg 0 = ob cl u := by
    show (u.ns.set _ _).getD _ 0 = _
    rw [own_getset _ _ _ _ (by rw [k.2.2.2.2.1]; exact own_nat hc), if_pos rfl]
  unfold Can
  obtain ⟨h1, h2⟩ := h
  rw [e, b.2]
  omega
theorem own_ir {n : Nat} {xs : List Value} (h : xs.length = n) : xs.length = n := h
end move
theorem own_nd {xs : List Addr} {a b : Addr} (h : xs.Nodup) (i j : Nat) (hi : xs[i]? = some a) (hj : xs[j]? = some b) (hij : i ≠ j) : a ≠ b := by
  rintro rfl
  obtain ⟨hi', e1⟩ := List.getElem?_eq_some_iff.mp hi
  obtain ⟨hj', e2⟩ := List.getElem?_eq_some_iff.mp hj
  have P := List.pairwise_iff_getElem.mp h
  rcases Nat.lt_or_gt_of_ne hij with q | q
  · exact P i j hi' hj' q (e1.trans e2.symm)
  · exact P j i hj' hi' q (e2.trans e1.symm)
theorem own_nf {xs : List Addr} {a f : Addr} (h : ∀ x ∈ xs, x ≠ f) (i : Nat) (hi : xs[i]? = some a) : a ≠ f := h _ (List.mem_of_getElem? hi)
theorem own_inc {i to : Int32} {iN tN : Nat} (hi : i.toInt = iN) (hto : to.toInt = tN) (h : iN < tN) : (i + (1 : Int32)).toInt = ((iN + 1 : Nat) : Int) := by
  have a := c_iadd i 1; have b := rng32 (i + 1); have d := rng32 to
  have z : (1 : Int32).toInt = 1 := rfl
  omega
theorem own_ofNat {i : Int32} {iN : Nat} (hi : i.toInt = iN) : i = Int32.ofNat iN := by
  have r := rng32 i
  apply Int32.toInt_inj.mp
  rw [Int32.toInt_ofNat_of_lt (by omega), hi]
theorem own_rep {x : Int32} {nN : Nat} (h : x.toInt = nN) : List.replicate x.toNatClampNeg (defaultValue .int) = (List.replicate nN (0 : Int32)).map Value.int := by
  rw [own_clamp h, List.map_replicate]; rfl
theorem own_eqsub {a b x : Int32} (h : a.toInt - b.toInt = x.toInt) : a - b = x := by
  have h1 := c_isub a b; have h2 := rng32 (a - b); have h3 := rng32 x
  apply Int32.toInt_inj.mp; omega
theorem own_addN {x y : Int32} {a b : Nat} (hx : x.toInt = a) (hy : y.toInt = b) (h : a + b < 1000) : (x + y).toInt = ((a + b : Nat) : Int) := by
  have h1 := c_iadd x y; have h2 := rng32 (x + y); omega
theorem own_subN {x y : Int32} {a b : Nat} (hx : x.toInt = a) (hy : y.toInt = b) (ha : a < 1000) (h : b ≤ a) : (x - y).toInt = ((a - b : Nat) : Int) := by
  have h1 := c_isub x y; have h2 := rng32 (x - y); omega
section run
variable {n NN : Nat} {cl : Int32} {fs : List Int32}
theorem own_run (f : Nat) : ∀ (i : Nat) (u : PS), Ok n NN u → inR NN cl → Can n cl f u → (∀ j, i ≤ j → j < i + f → inR n (fs.getD j 0)) → Ok n NN (oRun cl fs i f u) ∧ (oRun cl fs i f u).cnt = u.cnt ∧ (oRun cl fs i f u).cs = u.cs ∧ (oRun cl fs i f u).ss = u.ss ∧ (oRun cl fs i f u).ps = u.ps ∧ (oRun cl fs i f u).rs = u.rs ∧ ((oRun cl fs i f u).ns.getD cl.toNatClampNeg 0).toInt = (u.ns.getD cl.toNatClampNeg 0).toInt - f ∧ ∀ j, j ≠ cl.toNatClampNeg → (oRun cl fs i f u).ns.getD j 0 = u.ns.getD j 0 := by
  induction f with
  | zero => intro i u k _ _ _; exact ⟨k, rfl, rfl, rfl, rfl, rfl, by show _ = _ - ((0 : Nat) : Int); rw [Int.natCast_zero, Int.sub_zero]; rfl, fun _ _ => rfl⟩
  | succ f ih =>
    intro i u k hc can hx
    have b := can.b
    have hl : cl.toNatClampNeg < u.ns.length := by rw [k.2.2.2.2.1]; exact own_nat hc
    obtain ⟨r1, r2, r3, r4, r5, r6, r7, r8⟩ := ih (i + 1) (oMove cl (fs.getD i 0) u) (k.move b.1 (hx i (Nat.le_refl _) (by omega))) hc (can.move k hc) (fun j a d => hx j (by omega) (by omega))
    have e : (oMove cl (fs.getD i 0) u).ns.getD cl.toNatClampNeg 0 = ob cl u := by
      show (u.ns.set _ _).getD _ 0 = _
      rw [own_getset _ _ _ _ hl, if_pos rfl]
    refine ⟨r1, r2, r3, r4, r5, r6, ?_, fun j hj => ?_⟩
    · show ((oRun cl fs (i + 1) f (oMove cl (fs.getD i 0) u)).ns.getD cl.toNatClampNeg 0).toInt = _
      rw [r7, e, b.2]; omega
    · show (oRun cl fs (i + 1) f (oMove cl (fs.getD i 0) u)).ns.getD j 0 = _
      rw [r8 j hj]
      show (u.ns.set _ _).getD _ 0 = _
      rw [own_getset _ _ _ _ hl, if_neg (Ne.symm hj)]
theorem own_clsLen (kk : Int32) (f : Nat) : ∀ (i : Nat) (xs : List Int32), (oCls kk fs i f xs).length = xs.length := by
  induction f with
  | zero => intro i xs; rfl
  | succ f ih => intro i xs; show (oCls kk fs (i + 1) f _).length = _; rw [ih, List.length_set]
end run
theorem own_fillLen (f : Nat) : ∀ (i : Nat) (xs : List Int32), (oFill i f xs).length = xs.length := by
  induction f with
  | zero => intro i xs; rfl
  | succ f ih => intro i xs; show (oFill (i + 1) f _).length = _; rw [ih, List.length_set]
def oU0 (nN : Nat) : PS := (List.replicate nN 0, List.replicate nN 0, List.replicate nN 0, List.replicate (max nN 1) 0, List.replicate (max nN 1) 0, List.replicate (max nN 1) 0, List.replicate (max nN 1) 0, 0)
def oU1 (nN : Nat) : PS := (oU0 nN).wel (oFill 0 nN (oU0 nN).es) (oFill 0 nN (oU0 nN).ls)
def oS0 (k : Int32) (nN : Nat) : PS := ((oU1 nN).es, (oU1 nN).ls, (oU1 nN).cs, (oU1 nN).ss, (oU1 nN).ns.set 0 k, (oU1 nN).ps.set 0 (-1), (oU1 nN).rs, 1)
def Sl (a b c d : Slot) : Prop := (a = .unset ∧ b = .unset ∧ c = .unset ∧ d = .unset) ∨ ∃ x y z w, a = .val (.int x) ∧ b = .val (.int y) ∧ c = .val (.int z) ∧ d = .val (.int w)
theorem own_hw {xs : List Addr} {P : Addr → Prop} {a : Addr} (h : ∀ x ∈ xs, P x) (i : Nat) (hi : xs[i]? = some a) : P a := h _ (List.mem_of_getElem? hi)

def PA (Z : State) (h : Heap) (q aE aL aK aS aN aP aR : Addr) (u : PS) : Prop := Pt Z h q (.ref aE) (.ref aL) (.ref aK) (.ref aS) (.ref aN) (.ref aP) (.ref aR) (.int u.cnt) ∧ VA Z h aE .int (u.es.map Value.int) ∧ VA Z h aL .int (u.ls.map Value.int) ∧ VA Z h aK .int (u.cs.map Value.int) ∧ VA Z h aS .int (u.ss.map Value.int) ∧ VA Z h aN .int (u.ns.map Value.int) ∧ VA Z h aP .int (u.ps.map Value.int) ∧ VA Z h aR .int (u.rs.map Value.int) ∧ Exa Z h aE "[I"
theorem d6_0 : decode jdk_29_method_65_code 0 = .ok (.iload_n 0, 1) := by decide +kernel
theorem d6_1 : decode jdk_29_method_65_code 1 = .ok (.iload_n 1, 1) := by decide +kernel
theorem d6_2 : decode jdk_29_method_65_code 2 = .ok (.if_icmp .lt 7, 3) := by decide +kernel
theorem d6_5 : decode jdk_29_method_65_code 5 = .ok (.iload_n 0, 1) := by decide +kernel
theorem d6_6 : decode jdk_29_method_65_code 6 = .ok (.goto 4, 3) := by decide +kernel
theorem d6_9 : decode jdk_29_method_65_code 9 = .ok (.iload_n 1, 1) := by decide +kernel
theorem d6_10 : decode jdk_29_method_65_code 10 = .ok (.ireturn, 1) := by decide +kernel
theorem ef6_II (m : MethodId) (x0 : Int32) (x1 : Int32) : entryFrame m #[(.int x0), (.int x1)] 2 = mkF m 0 #[.val (.int x0), .val (.int x1)] [] := by first | (simp [entryFrame, mkF, argsToLocals, Value.category]; done) | rfl
def omax (x : Int32) (y : Int32) : Int32 := if x < y then y else (x)
def rmr6 : Room := { frames := 0, cells := 0, slots := 0, locals := 0 }
set_option maxRecDepth 65536 in
set_option maxHeartbeats 4000000 in
theorem mtmax (l : Launch) (Z : State) (a0 : Array Value) (hw : ∀ d ∈ tables_1, d.before a0 Z = true) (x : Int32) (y : Int32)  (h0 : Heap) : Meth l Z (⟨"java/lang/Math", "max", "(II)I"⟩ : MethodName) jdk_29_method_65_code 2 (some .int) rmr6 #[(.int x), (.int y)] h0 [] (fun vr h' => vr = some (.int (omax x y)) ∧ h' = h0) := by
  refine Meth.of (Jvm.Free.JP.mathPlain rfl (by decide +kernel)) ?_
  intro p e s m below meth c T B X
  refine Go.entry (ef6_II m x y) ?_
  refine giloadN B X d6_0 rfl (pc' := 1) rfl ?_
  refine giloadN B X d6_1 rfl (pc' := 2) rfl ?_
  by_cases c2_1 : x < y
  · refine gicY B X (pc' := 9) d6_2 (tlt c2_1).1 (by decide) ?_
    refine giloadN B X d6_9 rfl (pc' := 10) rfl ?_
    exact gretI B X d6_10 (by decide) (by decide) (⟨by rw [omax, if_pos c2_1], rfl⟩)
  · refine gicN B X d6_2 (flt c2_1).1 (pc' := 5) rfl ?_
    refine giloadN B X d6_5 rfl (pc' := 6) rfl ?_
    refine ggoto B X (pc' := 10) d6_6 (by decide) ?_
    exact gretI B X d6_10 (by decide) (by decide) (⟨by rw [omax, if_neg c2_1], rfl⟩)
theorem own_max {k : Int32} {nN : Nat} (h : k.toInt = nN) : (omax k (1 : Int32)).toInt = ((max nN 1 : Nat) : Int) := by
  unfold omax
  have z : (1 : Int32).toInt = 1 := rfl
  split
  · rename_i q; rw [Int32.lt_iff_toInt_lt] at q; omega
  · rename_i q; rw [Int32.lt_iff_toInt_lt] at q; omega
theorem d4_0 : decode prog_61_method_1_code 0 = .ok (.aload_n 0, 1) := by decide +kernel
theorem d4_1 : decode prog_61_method_1_code 1 = .ok (.invokespecial 1, 3) := by decide +kernel
theorem d4_4 : decode prog_61_method_1_code 4 = .ok (.aload_n 0, 1) := by decide +kernel
theorem d4_5 : decode prog_61_method_1_code 5 = .ok (.iload_n 1, 1) := by decide +kernel
theorem d4_6 : decode prog_61_method_1_code 6 = .ok (.newarray .int, 2) := by decide +kernel
theorem d4_8 : decode prog_61_method_1_code 8 = .ok (.putfield 7, 3) := by decide +kernel
theorem d4_11 : decode prog_61_method_1_code 11 = .ok (.aload_n 0, 1) := by decide +kernel
theorem d4_12 : decode prog_61_method_1_code 12 = .ok (.iload_n 1, 1) := by decide +kernel
theorem d4_13 : decode prog_61_method_1_code 13 = .ok (.newarray .int, 2) := by decide +kernel
theorem d4_15 : decode prog_61_method_1_code 15 = .ok (.putfield 13, 3) := by decide +kernel
theorem d4_18 : decode prog_61_method_1_code 18 = .ok (.aload_n 0, 1) := by decide +kernel
theorem d4_19 : decode prog_61_method_1_code 19 = .ok (.iload_n 1, 1) := by decide +kernel
theorem d4_20 : decode prog_61_method_1_code 20 = .ok (.newarray .int, 2) := by decide +kernel
theorem d4_22 : decode prog_61_method_1_code 22 = .ok (.putfield 16, 3) := by decide +kernel
theorem d4_25 : decode prog_61_method_1_code 25 = .ok (.aload_n 0, 1) := by decide +kernel
theorem d4_26 : decode prog_61_method_1_code 26 = .ok (.iload_n 1, 1) := by decide +kernel
theorem d4_27 : decode prog_61_method_1_code 27 = .ok (.iconst 1, 1) := by decide +kernel
theorem d4_28 : decode prog_61_method_1_code 28 = .ok (.invokestatic 19, 3) := by decide +kernel
theorem d4_31 : decode prog_61_method_1_code 31 = .ok (.newarray .int, 2) := by decide +kernel
theorem d4_33 : decode prog_61_method_1_code 33 = .ok (.putfield 25, 3) := by decide +kernel
theorem d4_36 : decode prog_61_method_1_code 36 = .ok (.aload_n 0, 1) := by decide +kernel
theorem d4_37 : decode prog_61_method_1_code 37 = .ok (.iload_n 1, 1) := by decide +kernel
theorem d4_38 : decode prog_61_method_1_code 38 = .ok (.iconst 1, 1) := by decide +kernel
theorem d4_39 : decode prog_61_method_1_code 39 = .ok (.invokestatic 19, 3) := by decide +kernel
theorem d4_42 : decode prog_61_method_1_code 42 = .ok (.newarray .int, 2) := by decide +kernel
theorem d4_44 : decode prog_61_method_1_code 44 = .ok (.putfield 28, 3) := by decide +kernel
theorem d4_47 : decode prog_61_method_1_code 47 = .ok (.aload_n 0, 1) := by decide +kernel
theorem d4_48 : decode prog_61_method_1_code 48 = .ok (.iload_n 1, 1) := by decide +kernel
theorem d4_49 : decode prog_61_method_1_code 49 = .ok (.iconst 1, 1) := by decide +kernel
theorem d4_50 : decode prog_61_method_1_code 50 = .ok (.invokestatic 19, 3) := by decide +kernel
theorem d4_53 : decode prog_61_method_1_code 53 = .ok (.newarray .int, 2) := by decide +kernel
theorem d4_55 : decode prog_61_method_1_code 55 = .ok (.putfield 31, 3) := by decide +kernel
theorem d4_58 : decode prog_61_method_1_code 58 = .ok (.aload_n 0, 1) := by decide +kernel
theorem d4_59 : decode prog_61_method_1_code 59 = .ok (.iload_n 1, 1) := by decide +kernel
theorem d4_60 : decode prog_61_method_1_code 60 = .ok (.iconst 1, 1) := by decide +kernel
theorem d4_61 : decode prog_61_method_1_code 61 = .ok (.invokestatic 19, 3) := by decide +kernel
theorem d4_64 : decode prog_61_method_1_code 64 = .ok (.newarray .int, 2) := by decide +kernel
theorem d4_66 : decode prog_61_method_1_code 66 = .ok (.putfield 34, 3) := by decide +kernel
theorem d4_69 : decode prog_61_method_1_code 69 = .ok (.iconst 0, 1) := by decide +kernel
theorem d4_70 : decode prog_61_method_1_code 70 = .ok (.istore_n 2, 1) := by decide +kernel
theorem d4_71 : decode prog_61_method_1_code 71 = .ok (.iload_n 2, 1) := by decide +kernel
theorem d4_72 : decode prog_61_method_1_code 72 = .ok (.iload_n 1, 1) := by decide +kernel
theorem d4_73 : decode prog_61_method_1_code 73 = .ok (.if_icmp .ge 23, 3) := by decide +kernel
theorem d4_76 : decode prog_61_method_1_code 76 = .ok (.aload_n 0, 1) := by decide +kernel
theorem d4_77 : decode prog_61_method_1_code 77 = .ok (.getfield 7, 3) := by decide +kernel
theorem d4_80 : decode prog_61_method_1_code 80 = .ok (.iload_n 2, 1) := by decide +kernel
theorem d4_81 : decode prog_61_method_1_code 81 = .ok (.iload_n 2, 1) := by decide +kernel
theorem d4_82 : decode prog_61_method_1_code 82 = .ok (.iastore, 1) := by decide +kernel
theorem d4_83 : decode prog_61_method_1_code 83 = .ok (.aload_n 0, 1) := by decide +kernel
theorem d4_84 : decode prog_61_method_1_code 84 = .ok (.getfield 13, 3) := by decide +kernel
theorem d4_87 : decode prog_61_method_1_code 87 = .ok (.iload_n 2, 1) := by decide +kernel
theorem d4_88 : decode prog_61_method_1_code 88 = .ok (.iload_n 2, 1) := by decide +kernel
theorem d4_89 : decode prog_61_method_1_code 89 = .ok (.iastore, 1) := by decide +kernel
theorem d4_90 : decode prog_61_method_1_code 90 = .ok (.iinc 2 1, 3) := by decide +kernel
theorem d4_93 : decode prog_61_method_1_code 93 = .ok (.goto (-22), 3) := by decide +kernel
theorem d4_96 : decode prog_61_method_1_code 96 = .ok (.aload_n 0, 1) := by decide +kernel
theorem d4_97 : decode prog_61_method_1_code 97 = .ok (.getfield 28, 3) := by decide +kernel
theorem d4_100 : decode prog_61_method_1_code 100 = .ok (.iconst 0, 1) := by decide +kernel
theorem d4_101 : decode prog_61_method_1_code 101 = .ok (.iload_n 1, 1) := by decide +kernel
theorem d4_102 : decode prog_61_method_1_code 102 = .ok (.iastore, 1) := by decide +kernel
theorem d4_103 : decode prog_61_method_1_code 103 = .ok (.aload_n 0, 1) := by decide +kernel
theorem d4_104 : decode prog_61_method_1_code 104 = .ok (.getfield 31, 3) := by decide +kernel
theorem d4_107 : decode prog_61_method_1_code 107 = .ok (.iconst 0, 1) := by decide +kernel
theorem d4_108 : decode prog_61_method_1_code 108 = .ok (.iconst (-1), 1) := by decide +kernel
theorem d4_109 : decode prog_61_method_1_code 109 = .ok (.iastore, 1) := by decide +kernel
theorem d4_110 : decode prog_61_method_1_code 110 = .ok (.aload_n 0, 1) := by decide +kernel
theorem d4_111 : decode prog_61_method_1_code 111 = .ok (.iconst 1, 1) := by decide +kernel
theorem d4_112 : decode prog_61_method_1_code 112 = .ok (.putfield 37, 3) := by decide +kernel
theorem d4_115 : decode prog_61_method_1_code 115 = .ok (.return_, 1) := by decide +kernel
theorem pn4 : plainFor (⟨"com/example/bisim_for_markov/bisimformarkov/analysis/Partition", "<init>", "(I)V"⟩ : MethodName) = true := plainFor_of_name (by first | (simp [plainName, overriddenIn]; done) | decide +kernel)
set_option maxRecDepth 65536 in
set_option maxHeartbeats 4000000 in
theorem lpC (l : Launch) (Z : State) (a0 : Array Value) (hw : ∀ d ∈ tables_1, d.before a0 Z = true) (q aE aL aK aS aN aP aR : Addr) (kz : Int32) (nN : Nat) (ND : [q, aE, aL, aK, aS, aN, aP, aR].Nodup) (hkz : kz.toInt = nN) {p : Program} {e : Env} {s : State} {m : MethodId} {below : List Frame} {meth : Method} {c : Code} {as' : Array Value} {R : Room} {h0 : Heap} {FE : State → Outcome → List Loc → Prop} {Q : Option Value → Heap → Prop} {cells slots : Nat} {ws : List Addr} (hws : ∀ x ∈ [q, aE, aL, aK, aS, aN, aP, aR], x ∈ ws ∨ h0.size ≤ x) (B : Fix p Z s m meth c prog_61_method_1_code 3 "com/example/bisim_for_markov/bisimformarkov/analysis/Partition" "<init>" none) (fuel : Nat) : ∀ (iN : Nat) (u : PS) (T : State) (h : Heap) (i : Int32), iN + fuel = nN → i.toInt = iN → u.es.length = nN → u.ls.length = nN → PA Z h q aE aL aK aS aN aP aR u → St p l e R s m as' below meth c h0 ws T h cells slots → (∀ T' h' i', St p l e R s m as' below meth c h0 ws T' h' cells slots → PA Z h' q aE aL aK aS aN aP aR (u.wel (oFill iN fuel u.es) (oFill iN fuel u.ls)) → Go p e below FE h0 ws Q T' (mkF m 96 #[.val (.ref q), .val (.int kz), .val (.int i')] [])) → Go p e below FE h0 ws Q T (mkF m 71 #[.val (.ref q), .val (.int kz), .val (.int i)] []) := by
  induction fuel with
  | zero =>
    intro iN u T h i hf hi k1 k2 A X K
    refine giloadN B X d4_71 rfl (pc' := 72) rfl ?_
    refine giloadN B X d4_72 rfl (pc' := 73) rfl ?_
    have c73_2 : ¬ (i < kz) := by rw [Int32.lt_iff_toInt_lt]; omega
    refine gicY B X (pc' := 96) d4_73 (flt c73_2).2.1 (by decide) ?_
    exact K _ _ i X A
  | succ fuel ih =>
    intro iN u T h i hf hi k1 k2 A X K
    refine giloadN B X d4_71 rfl (pc' := 72) rfl ?_
    refine giloadN B X d4_72 rfl (pc' := 73) rfl ?_
    have c73_3 : i < kz := by rw [Int32.lt_iff_toInt_lt]; omega
    refine gicN B X d4_73 (tlt c73_3).2.1 (pc' := 76) rfl ?_
    refine galoadN B X d4_76 rfl rfl (pc' := 77) rfl ?_
    refine gget B X (hw _ (List.mem_of_getElem? (i := 20) rfl)) A.1.2.1 d4_77 (pc' := 80) rfl fun T4 X5 => ?_
    refine giloadN B X5 d4_80 rfl (pc' := 81) rfl ?_
    refine giloadN B X5 d4_81 rfl (pc' := 82) rfl ?_
    refine giastore B X5 (i := iN) A.2.1 (n := nN) (by rw [List.length_map]; exact k1) (by omega) (own_clamp hi) (vs' := ((u.es.set iN (Int32.ofNat iN)).map Value.int)) (by rw [← own_ofNat hi]; exact own_set _ _ _) (own_hw hws 1 rfl) d4_82 (pc' := 83) rfl fun T6 h7 X8 W9 A10 => ?_
    have F11 := A.1.other W9 (own_nd ND 0 1 rfl rfl (by decide))
    have E12 := A.2.2.2.2.2.2.2.2.wr W9
    have F13 := A.2.2.1.other W9 (Ne.symm (own_nd ND 1 2 rfl rfl (by decide)))
    have F14 := A.2.2.2.1.other W9 (Ne.symm (own_nd ND 1 3 rfl rfl (by decide)))
    have F15 := A.2.2.2.2.1.other W9 (Ne.symm (own_nd ND 1 4 rfl rfl (by decide)))
    have F16 := A.2.2.2.2.2.1.other W9 (Ne.symm (own_nd ND 1 5 rfl rfl (by decide)))
    have F17 := A.2.2.2.2.2.2.1.other W9 (Ne.symm (own_nd ND 1 6 rfl rfl (by decide)))
    have F18 := A.2.2.2.2.2.2.2.1.other W9 (Ne.symm (own_nd ND 1 7 rfl rfl (by decide)))
    refine galoadN B X8 d4_83 rfl rfl (pc' := 84) rfl ?_
    refine gget B X8 (hw _ (List.mem_of_getElem? (i := 22) rfl)) F11.2.2.1 d4_84 (pc' := 87) rfl fun T19 X20 => ?_
    refine giloadN B X20 d4_87 rfl (pc' := 88) rfl ?_
    refine giloadN B X20 d4_88 rfl (pc' := 89) rfl ?_
    refine giastore B X20 (i := iN) F13 (n := nN) (by rw [List.length_map]; exact k2) (by omega) (own_clamp hi) (vs' := ((u.ls.set iN (Int32.ofNat iN)).map Value.int)) (by rw [← own_ofNat hi]; exact own_set _ _ _) (own_hw hws 2 rfl) d4_89 (pc' := 90) rfl fun T21 h22 X23 W24 A25 => ?_
    have F26 := F11.other W24 (own_nd ND 0 2 rfl rfl (by decide))
    have E27 := E12.wr W24
    have F28 := A10.other W24 (own_nd ND 1 2 rfl rfl (by decide))
    have F29 := F14.other W24 (Ne.symm (own_nd ND 2 3 rfl rfl (by decide)))
    have F30 := F15.other W24 (Ne.symm (own_nd ND 2 4 rfl rfl (by decide)))
    have F31 := F16.other W24 (Ne.symm (own_nd ND 2 5 rfl rfl (by decide)))
    have F32 := F17.other W24 (Ne.symm (own_nd ND 2 6 rfl rfl (by decide)))
    have F33 := F18.other W24 (Ne.symm (own_nd ND 2 7 rfl rfl (by decide)))
    refine giinc B X23 d4_90 rfl (v := (i + (1 : Int32))) rfl (Ls' := #[.val (.ref q), .val (.int kz), .val (.int (i + (1 : Int32)))]) rfl (pc' := 93) rfl ?_
    refine ggoto B X23 (pc' := 71) d4_93 (by decide) ?_
    exact ih (iN + 1) (u.wel (u.es.set iN (Int32.ofNat iN)) (u.ls.set iN (Int32.ofNat iN))) _ _ (i + (1 : Int32)) (by omega) (own_inc hi hkz (by omega)) ((List.length_set ..).trans k1) ((List.length_set ..).trans k2) ⟨F26, F28, A25, F29, F30, F31, F32, F33, E27⟩ X23 K
theorem ef4_RI (m : MethodId) (x0 : Addr) (x1 : Int32) : entryFrame m #[(.ref x0), (.int x1)] 3 = mkF m 0 #[.val (.ref x0), .val (.int x1), .unset] [] := by first | (simp [entryFrame, mkF, argsToLocals, Value.category]; done) | rfl
theorem pd__II_I : parseMethodDescriptor "(II)I" = some ⟨[.int, .int], some .int⟩ := by decide +kernel
def rmr4 : Room := { frames := 1, cells := 7, slots := 105, locals := 14 }
set_option maxRecDepth 65536 in
set_option maxHeartbeats 4000000 in
theorem mt4 (l : Launch) (Z : State) (a0 : Array Value) (hw : ∀ d ∈ tables_1, d.before a0 Z = true) (q : Addr) (kz : Int32) (nN : Nat) (h0 : Heap) (O : Pt Z h0 q .null .null .null .null .null .null .null (.int 0)) (hkz : kz.toInt = nN) (hk15 : nN ≤ 15) : Meth l Z (⟨"com/example/bisim_for_markov/bisimformarkov/analysis/Partition", "<init>", "(I)V"⟩ : MethodName) prog_61_method_1_code 3 none rmr4 #[(.ref q), (.int kz)] h0 [q] (fun v h' => v = none ∧ ∃ aE aL aK aS aN aP aR, [q, aE, aL, aK, aS, aN, aP, aR].Nodup ∧ (∀ x ∈ [aE, aL, aK, aS, aN, aP, aR], h0.size ≤ x) ∧ PA Z h' q aE aL aK aS aN aP aR (oS0 kz nN)) := by
  refine Meth.of pn4 ?_
  intro p e s m below meth c T B X
  refine Go.entry (ef4_RI m q kz) ?_
  refine galoadN B X d4_0 rfl rfl (pc' := 1) rfl ?_
  refine ginitO B X (W := 0) (hw _ (List.mem_of_getElem? (i := 17) rfl)) (hw _ (List.mem_of_getElem? (i := 18) rfl)) (hw _ (List.mem_of_getElem? (i := 19) rfl)) rfl (by decide) (Nat.le_of_eq rfl) (by decide) d4_1 (pc' := 4) rfl fun T34 X35 => ?_
  refine galoadN B X35 d4_4 rfl rfl (pc' := 5) rfl ?_
  refine giloadN B X35 d4_5 rfl (pc' := 6) rfl ?_
  refine gnewarrayE B X35 (cap := 15) (vs := ((List.replicate nN (0 : Int32)).map Value.int)) (ty := .int) (ad := "[I") (by decide) rfl (own_rep hkz) (hw _ (List.mem_of_getElem? (i := 0) rfl)) (by have a := hkz; omega) (by have a := hkz; omega) (by decide) (by decide) (by decide) d4_6 (pc' := 8) rfl fun T36 h37 a38 X39 q40 E41 z_a38 A42 E43 => ?_
  have n44 : q ≠ a38 := by rw [q40]; exact Nat.ne_of_lt O.lt
  have F45 := O.ext E41
  refine gput B X39 (ty := (.array .int)) (hw _ (List.mem_of_getElem? (i := 20) rfl)) F45.2.1 F45.1 (Or.inr ⟨(hw _ (List.mem_of_getElem? (i := 21) rfl)), rfl, rfl⟩) (hw _ (List.mem_of_getElem? (i := 12) rfl)) (by decide) rfl rfl (Or.inl (List.mem_of_getElem? (i := 0) rfl)) d4_8 (pc' := 11) rfl fun T46 h47 X48 W49 => ?_
  have O50 := Pt.set0 hw F45 W49
  have E51 := E43.wr W49
  have F52 := A42.other W49 (Ne.symm n44)
  refine galoadN B X48 d4_11 rfl rfl (pc' := 12) rfl ?_
  refine giloadN B X48 d4_12 rfl (pc' := 13) rfl ?_
  refine gnewarray B X48 (cap := 15) (vs := ((List.replicate nN (0 : Int32)).map Value.int)) (ty := .int) rfl (own_rep hkz) (hw _ (List.mem_of_getElem? (i := 0) rfl)) (by have a := hkz; omega) (by have a := hkz; omega) (by decide) (by decide) (by decide) d4_13 (pc' := 15) rfl fun T53 h54 a55 X56 q57 E58 z_a55 A59 => ?_
  have n60 : q ≠ a55 := by rw [q57]; exact Nat.ne_of_lt O50.lt
  have n61 : a38 ≠ a55 := by rw [q57]; exact Nat.ne_of_lt F52.lt
  have F62 := O50.ext E58
  have E63 := E51.ext E58
  have F64 := F52.ext E58
  refine gput B X56 (ty := (.array .int)) (hw _ (List.mem_of_getElem? (i := 22) rfl)) F62.2.2.1 F62.1 (Or.inr ⟨(hw _ (List.mem_of_getElem? (i := 23) rfl)), rfl, rfl⟩) (hw _ (List.mem_of_getElem? (i := 12) rfl)) (by decide) rfl rfl (Or.inl (List.mem_of_getElem? (i := 0) rfl)) d4_15 (pc' := 18) rfl fun T65 h66 X67 W68 => ?_
  have O69 := Pt.set1 hw F62 W68
  have E70 := E63.wr W68
  have F71 := F64.other W68 (Ne.symm n44)
  have F72 := A59.other W68 (Ne.symm n60)
  refine galoadN B X67 d4_18 rfl rfl (pc' := 19) rfl ?_
  refine giloadN B X67 d4_19 rfl (pc' := 20) rfl ?_
  refine gnewarray B X67 (cap := 15) (vs := ((List.replicate nN (0 : Int32)).map Value.int)) (ty := .int) rfl (own_rep hkz) (hw _ (List.mem_of_getElem? (i := 0) rfl)) (by have a := hkz; omega) (by have a := hkz; omega) (by decide) (by decide) (by decide) d4_20 (pc' := 22) rfl fun T73 h74 a75 X76 q77 E78 z_a75 A79 => ?_
  have n80 : q ≠ a75 := by rw [q77]; exact Nat.ne_of_lt O69.lt
  have n81 : a38 ≠ a75 := by rw [q77]; exact Nat.ne_of_lt F71.lt
  have n82 : a55 ≠ a75 := by rw [q77]; exact Nat.ne_of_lt F72.lt
  have F83 := O69.ext E78
  have E84 := E70.ext E78
  have F85 := F71.ext E78
  have F86 := F72.ext E78
  refine gput B X76 (ty := (.array .int)) (hw _ (List.mem_of_getElem? (i := 24) rfl)) F83.2.2.2.1 F83.1 (Or.inr ⟨(hw _ (List.mem_of_getElem? (i := 25) rfl)), rfl, rfl⟩) (hw _ (List.mem_of_getElem? (i := 12) rfl)) (by decide) rfl rfl (Or.inl (List.mem_of_getElem? (i := 0) rfl)) d4_22 (pc' := 25) rfl fun T87 h88 X89 W90 => ?_
  have O91 := Pt.set2 hw F83 W90
  have E92 := E84.wr W90
  have F93 := F85.other W90 (Ne.symm n44)
  have F94 := F86.other W90 (Ne.symm n60)
  have F95 := A79.other W90 (Ne.symm n80)
  refine galoadN B X89 d4_25 rfl rfl (pc' := 26) rfl ?_
  refine giloadN B X89 d4_26 rfl (pc' := 27) rfl ?_
  refine giconst B X89 d4_27 (v := (1 : Int32)) rfl (pc' := 28) rfl ?_
  refine gcallS B X89 (hw _ (List.mem_of_getElem? (i := 26) rfl)) (hw _ (List.mem_of_getElem? (i := 27) rfl)) (hw _ (List.mem_of_getElem? (i := 28) rfl)) (hw _ (List.mem_of_getElem? (i := 29) rfl)) (by decide) (mtmax l Z a0 hw kz (1 : Int32)  h88 ) pd__II_I rfl (argsL := [(.int kz), (.int (1 : Int32))]) (st := [(.ref q)]) rfl rfl (W := 1) (Nat.le_of_eq rfl) (by decide) (by decide) (by decide) (by decide) (fun x q => nomatch q) d4_28 (pc' := 31) rfl (pureG rfl rfl fun T96 X97 => ?_)
  refine gnewarray B X97 (cap := 15) (vs := ((List.replicate (max nN 1) (0 : Int32)).map Value.int)) (ty := .int) rfl (own_rep (own_max hkz)) (hw _ (List.mem_of_getElem? (i := 0) rfl)) (by have a := (own_max hkz); omega) (by have a := (own_max hkz); omega) (by decide) (by decide) (by decide) d4_31 (pc' := 33) rfl fun T98 h99 a100 X101 q102 E103 z_a100 A104 => ?_
  have n105 : q ≠ a100 := by rw [q102]; exact Nat.ne_of_lt O91.lt
  have n106 : a38 ≠ a100 := by rw [q102]; exact Nat.ne_of_lt F93.lt
  have n107 : a55 ≠ a100 := by rw [q102]; exact Nat.ne_of_lt F94.lt
  have n108 : a75 ≠ a100 := by rw [q102]; exact Nat.ne_of_lt F95.lt
  have F109 := O91.ext E103
  have E110 := E92.ext E103
  have F111 := F93.ext E103
  have F112 := F94.ext E103
  have F113 := F95.ext E103
  refine gput B X101 (ty := (.array .int)) (hw _ (List.mem_of_getElem? (i := 30) rfl)) F109.2.2.2.2.1 F109.1 (Or.inr ⟨(hw _ (List.mem_of_getElem? (i := 31) rfl)), rfl, rfl⟩) (hw _ (List.mem_of_getElem? (i := 12) rfl)) (by decide) rfl rfl (Or.inl (List.mem_of_getElem? (i := 0) rfl)) d4_33 (pc' := 36) rfl fun T114 h115 X116 W117 => ?_
  have O118 := Pt.set3 hw F109 W117
  have E119 := E110.wr W117
  have F120 := F111.other W117 (Ne.symm n44)
  have F121 := F112.other W117 (Ne.symm n60)
  have F122 := F113.other W117 (Ne.symm n80)
  have F123 := A104.other W117 (Ne.symm n105)
  refine galoadN B X116 d4_36 rfl rfl (pc' := 37) rfl ?_
  refine giloadN B X116 d4_37 rfl (pc' := 38) rfl ?_
  refine giconst B X116 d4_38 (v := (1 : Int32)) rfl (pc' := 39) rfl ?_
  refine gcallS B X116 (hw _ (List.mem_of_getElem? (i := 26) rfl)) (hw _ (List.mem_of_getElem? (i := 27) rfl)) (hw _ (List.mem_of_getElem? (i := 28) rfl)) (hw _ (List.mem_of_getElem? (i := 29) rfl)) (by decide) (mtmax l Z a0 hw kz (1 : Int32)  h115 ) pd__II_I rfl (argsL := [(.int kz), (.int (1 : Int32))]) (st := [(.ref q)]) rfl rfl (W := 1) (Nat.le_of_eq rfl) (by decide) (by decide) (by decide) (by decide) (fun x q => nomatch q) d4_39 (pc' := 42) rfl (pureG rfl rfl fun T124 X125 => ?_)
  refine gnewarray B X125 (cap := 15) (vs := ((List.replicate (max nN 1) (0 : Int32)).map Value.int)) (ty := .int) rfl (own_rep (own_max hkz)) (hw _ (List.mem_of_getElem? (i := 0) rfl)) (by have a := (own_max hkz); omega) (by have a := (own_max hkz); omega) (by decide) (by decide) (by decide) d4_42 (pc' := 44) rfl fun T126 h127 a128 X129 q130 E131 z_a128 A132 => ?_
  have n133 : q ≠ a128 := by rw [q130]; exact Nat.ne_of_lt O118.lt
  have n134 : a38 ≠ a128 := by rw [q130]; exact Nat.ne_of_lt F120.lt
  have n135 : a55 ≠ a128 := by rw [q130]; exact Nat.ne_of_lt F121.lt
  have n136 : a75 ≠ a128 := by rw [q130]; exact Nat.ne_of_lt F122.lt
  have n137 : a100 ≠ a128 := by rw [q130]; exact Nat.ne_of_lt F123.lt
  have F138 := O118.ext E131
  have E139 := E119.ext E131
  have F140 := F120.ext E131
  have F141 := F121.ext E131
  have F142 := F122.ext E131
  have F143 := F123.ext E131
  refine gput B X129 (ty := (.array .int)) (hw _ (List.mem_of_getElem? (i := 32) rfl)) F138.2.2.2.2.2.1 F138.1 (Or.inr ⟨(hw _ (List.mem_of_getElem? (i := 33) rfl)), rfl, rfl⟩) (hw _ (List.mem_of_getElem? (i := 12) rfl)) (by decide) rfl rfl (Or.inl (List.mem_of_getElem? (i := 0) rfl)) d4_44 (pc' := 47) rfl fun T144 h145 X146 W147 => ?_
  have O148 := Pt.set4 hw F138 W147
  have E149 := E139.wr W147
  have F150 := F140.other W147 (Ne.symm n44)
  have F151 := F141.other W147 (Ne.symm n60)
  have F152 := F142.other W147 (Ne.symm n80)
  have F153 := F143.other W147 (Ne.symm n105)
  have F154 := A132.other W147 (Ne.symm n133)
  refine galoadN B X146 d4_47 rfl rfl (pc' := 48) rfl ?_
  refine giloadN B X146 d4_48 rfl (pc' := 49) rfl ?_
  refine giconst B X146 d4_49 (v := (1 : Int32)) rfl (pc' := 50) rfl ?_
  refine gcallS B X146 (hw _ (List.mem_of_getElem? (i := 26) rfl)) (hw _ (List.mem_of_getElem? (i := 27) rfl)) (hw _ (List.mem_of_getElem? (i := 28) rfl)) (hw _ (List.mem_of_getElem? (i := 29) rfl)) (by decide) (mtmax l Z a0 hw kz (1 : Int32)  h145 ) pd__II_I rfl (argsL := [(.int kz), (.int (1 : Int32))]) (st := [(.ref q)]) rfl rfl (W := 1) (Nat.le_of_eq rfl) (by decide) (by decide) (by decide) (by decide) (fun x q => nomatch q) d4_50 (pc' := 53) rfl (pureG rfl rfl fun T155 X156 => ?_)
  refine gnewarray B X156 (cap := 15) (vs := ((List.replicate (max nN 1) (0 : Int32)).map Value.int)) (ty := .int) rfl (own_rep (own_max hkz)) (hw _ (List.mem_of_getElem? (i := 0) rfl)) (by have a := (own_max hkz); omega) (by have a := (own_max hkz); omega) (by decide) (by decide) (by decide) d4_53 (pc' := 55) rfl fun T157 h158 a159 X160 q161 E162 z_a159 A163 => ?_
  have n164 : q ≠ a159 := by rw [q161]; exact Nat.ne_of_lt O148.lt
  have n165 : a38 ≠ a159 := by rw [q161]; exact Nat.ne_of_lt F150.lt
  have n166 : a55 ≠ a159 := by rw [q161]; exact Nat.ne_of_lt F151.lt
  have n167 : a75 ≠ a159 := by rw [q161]; exact Nat.ne_of_lt F152.lt
  have n168 : a100 ≠ a159 := by rw [q161]; exact Nat.ne_of_lt F153.lt
  have n169 : a128 ≠ a159 := by rw [q161]; exact Nat.ne_of_lt F154.lt
  have F170 := O148.ext E162
  have E171 := E149.ext E162
  have F172 := F150.ext E162
  have F173 := F151.ext E162
  have F174 := F152.ext E162
  have F175 := F153.ext E162
  have F176 := F154.ext E162
  refine gput B X160 (ty := (.array .int)) (hw _ (List.mem_of_getElem? (i := 34) rfl)) F170.2.2.2.2.2.2.1 F170.1 (Or.inr ⟨(hw _ (List.mem_of_getElem? (i := 35) rfl)), rfl, rfl⟩) (hw _ (List.mem_of_getElem? (i := 12) rfl)) (by decide) rfl rfl (Or.inl (List.mem_of_getElem? (i := 0) rfl)) d4_55 (pc' := 58) rfl fun T177 h178 X179 W180 => ?_
  have O181 := Pt.set5 hw F170 W180
  have E182 := E171.wr W180
  have F183 := F172.other W180 (Ne.symm n44)
  have F184 := F173.other W180 (Ne.symm n60)
  have F185 := F174.other W180 (Ne.symm n80)
  have F186 := F175.other W180 (Ne.symm n105)
  have F187 := F176.other W180 (Ne.symm n133)
  have F188 := A163.other W180 (Ne.symm n164)
  refine galoadN B X179 d4_58 rfl rfl (pc' := 59) rfl ?_
  refine giloadN B X179 d4_59 rfl (pc' := 60) rfl ?_
  refine giconst B X179 d4_60 (v := (1 : Int32)) rfl (pc' := 61) rfl ?_
  refine gcallS B X179 (hw _ (List.mem_of_getElem? (i := 26) rfl)) (hw _ (List.mem_of_getElem? (i := 27) rfl)) (hw _ (List.mem_of_getElem? (i := 28) rfl)) (hw _ (List.mem_of_getElem? (i := 29) rfl)) (by decide) (mtmax l Z a0 hw kz (1 : Int32)  h178 ) pd__II_I rfl (argsL := [(.int kz), (.int (1 : Int32))]) (st := [(.ref q)]) rfl rfl (W := 1) (Nat.le_of_eq rfl) (by decide) (by decide) (by decide) (by decide) (fun x q => nomatch q) d4_61 (pc' := 64) rfl (pureG rfl rfl fun T189 X190 => ?_)
  refine gnewarray B X190 (cap := 15) (vs := ((List.replicate (max nN 1) (0 : Int32)).map Value.int)) (ty := .int) rfl (own_rep (own_max hkz)) (hw _ (List.mem_of_getElem? (i := 0) rfl)) (by have a := (own_max hkz); omega) (by have a := (own_max hkz); omega) (by decide) (by decide) (by decide) d4_64 (pc' := 66) rfl fun T191 h192 a193 X194 q195 E196 z_a193 A197 => ?_
  have n198 : q ≠ a193 := by rw [q195]; exact Nat.ne_of_lt O181.lt
  have n199 : a38 ≠ a193 := by rw [q195]; exact Nat.ne_of_lt F183.lt
  have n200 : a55 ≠ a193 := by rw [q195]; exact Nat.ne_of_lt F184.lt
  have n201 : a75 ≠ a193 := by rw [q195]; exact Nat.ne_of_lt F185.lt
  have n202 : a100 ≠ a193 := by rw [q195]; exact Nat.ne_of_lt F186.lt
  have n203 : a128 ≠ a193 := by rw [q195]; exact Nat.ne_of_lt F187.lt
  have n204 : a159 ≠ a193 := by rw [q195]; exact Nat.ne_of_lt F188.lt
  have F205 := O181.ext E196
  have E206 := E182.ext E196
  have F207 := F183.ext E196
  have F208 := F184.ext E196
  have F209 := F185.ext E196
  have F210 := F186.ext E196
  have F211 := F187.ext E196
  have F212 := F188.ext E196
  refine gput B X194 (ty := (.array .int)) (hw _ (List.mem_of_getElem? (i := 36) rfl)) F205.2.2.2.2.2.2.2.1 F205.1 (Or.inr ⟨(hw _ (List.mem_of_getElem? (i := 37) rfl)), rfl, rfl⟩) (hw _ (List.mem_of_getElem? (i := 12) rfl)) (by decide) rfl rfl (Or.inl (List.mem_of_getElem? (i := 0) rfl)) d4_66 (pc' := 69) rfl fun T213 h214 X215 W216 => ?_
  have O217 := Pt.set6 hw F205 W216
  have E218 := E206.wr W216
  have F219 := F207.other W216 (Ne.symm n44)
  have F220 := F208.other W216 (Ne.symm n60)
  have F221 := F209.other W216 (Ne.symm n80)
  have F222 := F210.other W216 (Ne.symm n105)
  have F223 := F211.other W216 (Ne.symm n133)
  have F224 := F212.other W216 (Ne.symm n164)
  have F225 := A197.other W216 (Ne.symm n198)
  refine giconst B X215 d4_69 (v := (0 : Int32)) rfl (pc' := 70) rfl ?_
  refine gistoreN B X215 d4_70 (Ls' := #[.val (.ref q), .val (.int kz), .val (.int (0 : Int32))]) rfl (pc' := 71) rfl ?_
  have ND : [q, a38, a55, a75, a100, a128, a159, a193].Nodup := (List.nodup_cons.mpr ⟨(ninS n44 (ninS n60 (ninS n80 (ninS n105 (ninS n133 (ninS n164 (ninS n198 nin0))))))), (List.nodup_cons.mpr ⟨(ninS n61 (ninS n81 (ninS n106 (ninS n134 (ninS n165 (ninS n199 nin0)))))), (List.nodup_cons.mpr ⟨(ninS n82 (ninS n107 (ninS n135 (ninS n166 (ninS n200 nin0))))), (List.nodup_cons.mpr ⟨(ninS n108 (ninS n136 (ninS n167 (ninS n201 nin0)))), (List.nodup_cons.mpr ⟨(ninS n137 (ninS n168 (ninS n202 nin0))), (List.nodup_cons.mpr ⟨(ninS n169 (ninS n203 nin0)), (List.nodup_cons.mpr ⟨(ninS n204 nin0), (List.nodup_cons.mpr ⟨nin0, List.nodup_nil⟩)⟩)⟩)⟩)⟩)⟩)⟩)⟩)
  have A1 : PA Z h214 q a38 a55 a75 a100 a128 a159 a193 (oU0 nN) := ⟨O217, F219, F220, F221, F222, F223, F224, F225, E218⟩
  have hws : ∀ x ∈ [q, a38, a55, a75, a100, a128, a159, a193], x ∈ [q] ∨ h0.size ≤ x := (allS (Or.inl (List.mem_of_getElem? (i := 0) rfl)) (allS (Or.inr z_a38) (allS (Or.inr z_a55) (allS (Or.inr z_a75) (allS (Or.inr z_a100) (allS (Or.inr z_a128) (allS (Or.inr z_a159) (allS (Or.inr z_a193) all0))))))))
  refine lpC l Z a0 hw q a38 a55 a75 a100 a128 a159 a193 kz nN ND hkz hws B nN 0 (oU0 nN) _ _ (0 : Int32) (Nat.zero_add _) rfl (List.length_replicate ..) (List.length_replicate ..) A1 X215 fun T226 h227 i228 X229 A230 => ?_
  have A230' : PA Z h227 q a38 a55 a75 a100 a128 a159 a193 (oU1 nN) := A230
  show Go p e below _ _ _ _ T226 (mkF m 96 #[.val (.ref q), .val (.int kz), .val (.int i228)] [])
  refine galoadN B X229 d4_96 rfl rfl (pc' := 97) rfl ?_
  refine gget B X229 (hw _ (List.mem_of_getElem? (i := 32) rfl)) A230'.1.2.2.2.2.2.1 d4_97 (pc' := 100) rfl fun T231 X232 => ?_
  refine giconst B X232 d4_100 (v := (0 : Int32)) rfl (pc' := 101) rfl ?_
  refine giloadN B X232 d4_101 rfl (pc' := 102) rfl ?_
  refine giastore B X232 (i := 0) A230'.2.2.2.2.2.1 (n := max nN 1) (by rw [List.length_map]; exact List.length_replicate ..) ⟨by decide, by have z : (0 : Int32).toInt = 0 := rfl; omega⟩ rfl (vs' := (((oU1 nN).ns.set 0 kz).map Value.int)) (own_set _ _ _) (Or.inr z_a128) d4_102 (pc' := 103) rfl fun T233 h234 X235 W236 A237 => ?_
  have F238 := A230'.1.other W236 n133
  have E239 := A230'.2.2.2.2.2.2.2.2.wr W236
  have F240 := A230'.2.1.other W236 n134
  have F241 := A230'.2.2.1.other W236 n135
  have F242 := A230'.2.2.2.1.other W236 n136
  have F243 := A230'.2.2.2.2.1.other W236 n137
  have F244 := A230'.2.2.2.2.2.2.1.other W236 (Ne.symm n169)
  have F245 := A230'.2.2.2.2.2.2.2.1.other W236 (Ne.symm n203)
  refine galoadN B X235 d4_103 rfl rfl (pc' := 104) rfl ?_
  refine gget B X235 (hw _ (List.mem_of_getElem? (i := 34) rfl)) F238.2.2.2.2.2.2.1 d4_104 (pc' := 107) rfl fun T246 X247 => ?_
  refine giconst B X247 d4_107 (v := (0 : Int32)) rfl (pc' := 108) rfl ?_
  refine giconst B X247 d4_108 (v := (-1 : Int32)) rfl (pc' := 109) rfl ?_
  refine giastore B X247 (i := 0) F244 (n := max nN 1) (by rw [List.length_map]; exact List.length_replicate ..) ⟨by decide, by have z : (0 : Int32).toInt = 0 := rfl; omega⟩ rfl (vs' := (((oU1 nN).ps.set 0 (-1 : Int32)).map Value.int)) (own_set _ _ _) (Or.inr z_a159) d4_109 (pc' := 110) rfl fun T248 h249 X250 W251 A252 => ?_
  have F253 := F238.other W251 n164
  have E254 := E239.wr W251
  have F255 := F240.other W251 n165
  have F256 := F241.other W251 n166
  have F257 := F242.other W251 n167
  have F258 := F243.other W251 n168
  have F259 := A237.other W251 n169
  have F260 := F245.other W251 (Ne.symm n204)
  refine galoadN B X250 d4_110 rfl rfl (pc' := 111) rfl ?_
  refine giconst B X250 d4_111 (v := (1 : Int32)) rfl (pc' := 112) rfl ?_
  refine gput B X250 (ty := .int) (hw _ (List.mem_of_getElem? (i := 38) rfl)) F253.2.2.2.2.2.2.2.2 F253.1 (Or.inl (hw _ (List.mem_of_getElem? (i := 39) rfl))) (hw _ (List.mem_of_getElem? (i := 12) rfl)) (by decide) rfl rfl (Or.inl (List.mem_of_getElem? (i := 0) rfl)) d4_112 (pc' := 115) rfl fun T261 h262 X263 W264 => ?_
  have O265 := Pt.set7 hw F253 W264
  have E266 := E254.wr W264
  have F267 := F255.other W264 (Ne.symm n44)
  have F268 := F256.other W264 (Ne.symm n60)
  have F269 := F257.other W264 (Ne.symm n80)
  have F270 := F258.other W264 (Ne.symm n105)
  have F271 := F259.other W264 (Ne.symm n133)
  have F272 := A252.other W264 (Ne.symm n164)
  have F273 := F260.other W264 (Ne.symm n198)
  exact gretV B X263 d4_115 (by decide) (by decide) (⟨rfl, a38, a55, a75, a100, a128, a159, a193, ND, (allS z_a38 (allS z_a55 (allS z_a75 (allS z_a100 (allS z_a128 (allS z_a159 (allS z_a193 all0))))))), ⟨O265, F267, F268, F269, F270, F271, F272, F273, E266⟩⟩)
theorem d7_0 : decode prog_61_method_7_code 0 = .ok (.iload_n 3, 1) := by decide +kernel
theorem d7_1 : decode prog_61_method_7_code 1 = .ok (.istore 6, 2) := by decide +kernel
theorem d7_3 : decode prog_61_method_7_code 3 = .ok (.iload 6, 2) := by decide +kernel
theorem d7_5 : decode prog_61_method_7_code 5 = .ok (.iload 4, 2) := by decide +kernel
theorem d7_7 : decode prog_61_method_7_code 7 = .ok (.if_icmp .ge 82, 3) := by decide +kernel
theorem d7_10 : decode prog_61_method_7_code 10 = .ok (.aload_n 2, 1) := by decide +kernel
theorem d7_11 : decode prog_61_method_7_code 11 = .ok (.iload 6, 2) := by decide +kernel
theorem d7_13 : decode prog_61_method_7_code 13 = .ok (.iaload, 1) := by decide +kernel
theorem d7_14 : decode prog_61_method_7_code 14 = .ok (.istore 7, 2) := by decide +kernel
theorem d7_16 : decode prog_61_method_7_code 16 = .ok (.aload_n 0, 1) := by decide +kernel
theorem d7_17 : decode prog_61_method_7_code 17 = .ok (.getfield 28, 3) := by decide +kernel
theorem d7_20 : decode prog_61_method_7_code 20 = .ok (.iload_n 1, 1) := by decide +kernel
theorem d7_21 : decode prog_61_method_7_code 21 = .ok (.dup2, 1) := by decide +kernel
theorem d7_22 : decode prog_61_method_7_code 22 = .ok (.iaload, 1) := by decide +kernel
theorem d7_23 : decode prog_61_method_7_code 23 = .ok (.iconst 1, 1) := by decide +kernel
theorem d7_24 : decode prog_61_method_7_code 24 = .ok (.isub, 1) := by decide +kernel
theorem d7_25 : decode prog_61_method_7_code 25 = .ok (.dup_x2, 1) := by decide +kernel
theorem d7_26 : decode prog_61_method_7_code 26 = .ok (.iastore, 1) := by decide +kernel
theorem d7_27 : decode prog_61_method_7_code 27 = .ok (.istore 8, 2) := by decide +kernel
theorem d7_29 : decode prog_61_method_7_code 29 = .ok (.aload_n 0, 1) := by decide +kernel
theorem d7_30 : decode prog_61_method_7_code 30 = .ok (.getfield 7, 3) := by decide +kernel
theorem d7_33 : decode prog_61_method_7_code 33 = .ok (.iload 8, 2) := by decide +kernel
theorem d7_35 : decode prog_61_method_7_code 35 = .ok (.iaload, 1) := by decide +kernel
theorem d7_36 : decode prog_61_method_7_code 36 = .ok (.istore 9, 2) := by decide +kernel
theorem d7_38 : decode prog_61_method_7_code 38 = .ok (.aload_n 0, 1) := by decide +kernel
theorem d7_39 : decode prog_61_method_7_code 39 = .ok (.getfield 13, 3) := by decide +kernel
theorem d7_42 : decode prog_61_method_7_code 42 = .ok (.iload 7, 2) := by decide +kernel
theorem d7_44 : decode prog_61_method_7_code 44 = .ok (.iaload, 1) := by decide +kernel
theorem d7_45 : decode prog_61_method_7_code 45 = .ok (.istore 10, 2) := by decide +kernel
theorem d7_47 : decode prog_61_method_7_code 47 = .ok (.aload_n 0, 1) := by decide +kernel
theorem d7_48 : decode prog_61_method_7_code 48 = .ok (.getfield 7, 3) := by decide +kernel
theorem d7_51 : decode prog_61_method_7_code 51 = .ok (.iload 10, 2) := by decide +kernel
theorem d7_53 : decode prog_61_method_7_code 53 = .ok (.iload 9, 2) := by decide +kernel
theorem d7_55 : decode prog_61_method_7_code 55 = .ok (.iastore, 1) := by decide +kernel
theorem d7_56 : decode prog_61_method_7_code 56 = .ok (.aload_n 0, 1) := by decide +kernel
theorem d7_57 : decode prog_61_method_7_code 57 = .ok (.getfield 13, 3) := by decide +kernel
theorem d7_60 : decode prog_61_method_7_code 60 = .ok (.iload 9, 2) := by decide +kernel
theorem d7_62 : decode prog_61_method_7_code 62 = .ok (.iload 10, 2) := by decide +kernel
theorem d7_64 : decode prog_61_method_7_code 64 = .ok (.iastore, 1) := by decide +kernel
theorem d7_65 : decode prog_61_method_7_code 65 = .ok (.aload_n 0, 1) := by decide +kernel
theorem d7_66 : decode prog_61_method_7_code 66 = .ok (.getfield 7, 3) := by decide +kernel
theorem d7_69 : decode prog_61_method_7_code 69 = .ok (.iload 8, 2) := by decide +kernel
theorem d7_71 : decode prog_61_method_7_code 71 = .ok (.iload 7, 2) := by decide +kernel
theorem d7_73 : decode prog_61_method_7_code 73 = .ok (.iastore, 1) := by decide +kernel
theorem d7_74 : decode prog_61_method_7_code 74 = .ok (.aload_n 0, 1) := by decide +kernel
theorem d7_75 : decode prog_61_method_7_code 75 = .ok (.getfield 13, 3) := by decide +kernel
theorem d7_78 : decode prog_61_method_7_code 78 = .ok (.iload 7, 2) := by decide +kernel
theorem d7_80 : decode prog_61_method_7_code 80 = .ok (.iload 8, 2) := by decide +kernel
theorem d7_82 : decode prog_61_method_7_code 82 = .ok (.iastore, 1) := by decide +kernel
theorem d7_83 : decode prog_61_method_7_code 83 = .ok (.iinc 6 1, 3) := by decide +kernel
theorem d7_86 : decode prog_61_method_7_code 86 = .ok (.goto (-83), 3) := by decide +kernel
theorem d7_89 : decode prog_61_method_7_code 89 = .ok (.aload_n 0, 1) := by decide +kernel
theorem d7_90 : decode prog_61_method_7_code 90 = .ok (.dup, 1) := by decide +kernel
theorem d7_91 : decode prog_61_method_7_code 91 = .ok (.getfield 37, 3) := by decide +kernel
theorem d7_94 : decode prog_61_method_7_code 94 = .ok (.dup_x1, 1) := by decide +kernel
theorem d7_95 : decode prog_61_method_7_code 95 = .ok (.iconst 1, 1) := by decide +kernel
theorem d7_96 : decode prog_61_method_7_code 96 = .ok (.iadd, 1) := by decide +kernel
theorem d7_97 : decode prog_61_method_7_code 97 = .ok (.putfield 37, 3) := by decide +kernel
theorem d7_100 : decode prog_61_method_7_code 100 = .ok (.istore 6, 2) := by decide +kernel
theorem d7_102 : decode prog_61_method_7_code 102 = .ok (.aload_n 0, 1) := by decide +kernel
theorem d7_103 : decode prog_61_method_7_code 103 = .ok (.getfield 25, 3) := by decide +kernel
theorem d7_106 : decode prog_61_method_7_code 106 = .ok (.iload 6, 2) := by decide +kernel
theorem d7_108 : decode prog_61_method_7_code 108 = .ok (.aload_n 0, 1) := by decide +kernel
theorem d7_109 : decode prog_61_method_7_code 109 = .ok (.getfield 28, 3) := by decide +kernel
theorem d7_112 : decode prog_61_method_7_code 112 = .ok (.iload_n 1, 1) := by decide +kernel
theorem d7_113 : decode prog_61_method_7_code 113 = .ok (.iaload, 1) := by decide +kernel
theorem d7_114 : decode prog_61_method_7_code 114 = .ok (.iastore, 1) := by decide +kernel
theorem d7_115 : decode prog_61_method_7_code 115 = .ok (.aload_n 0, 1) := by decide +kernel
theorem d7_116 : decode prog_61_method_7_code 116 = .ok (.getfield 28, 3) := by decide +kernel
theorem d7_119 : decode prog_61_method_7_code 119 = .ok (.iload 6, 2) := by decide +kernel
theorem d7_121 : decode prog_61_method_7_code 121 = .ok (.aload_n 0, 1) := by decide +kernel
theorem d7_122 : decode prog_61_method_7_code 122 = .ok (.getfield 28, 3) := by decide +kernel
theorem d7_125 : decode prog_61_method_7_code 125 = .ok (.iload_n 1, 1) := by decide +kernel
theorem d7_126 : decode prog_61_method_7_code 126 = .ok (.iaload, 1) := by decide +kernel
theorem d7_127 : decode prog_61_method_7_code 127 = .ok (.iload 4, 2) := by decide +kernel
theorem d7_129 : decode prog_61_method_7_code 129 = .ok (.iadd, 1) := by decide +kernel
theorem d7_130 : decode prog_61_method_7_code 130 = .ok (.iload_n 3, 1) := by decide +kernel
theorem d7_131 : decode prog_61_method_7_code 131 = .ok (.isub, 1) := by decide +kernel
theorem d7_132 : decode prog_61_method_7_code 132 = .ok (.iastore, 1) := by decide +kernel
theorem d7_133 : decode prog_61_method_7_code 133 = .ok (.aload_n 0, 1) := by decide +kernel
theorem d7_134 : decode prog_61_method_7_code 134 = .ok (.getfield 31, 3) := by decide +kernel
theorem d7_137 : decode prog_61_method_7_code 137 = .ok (.iload 6, 2) := by decide +kernel
theorem d7_139 : decode prog_61_method_7_code 139 = .ok (.iload_n 1, 1) := by decide +kernel
theorem d7_140 : decode prog_61_method_7_code 140 = .ok (.iastore, 1) := by decide +kernel
theorem d7_141 : decode prog_61_method_7_code 141 = .ok (.aload_n 0, 1) := by decide +kernel
theorem d7_142 : decode prog_61_method_7_code 142 = .ok (.getfield 34, 3) := by decide +kernel
theorem d7_145 : decode prog_61_method_7_code 145 = .ok (.iload 6, 2) := by decide +kernel
theorem d7_147 : decode prog_61_method_7_code 147 = .ok (.iload 5, 2) := by decide +kernel
theorem d7_149 : decode prog_61_method_7_code 149 = .ok (.iastore, 1) := by decide +kernel
theorem d7_150 : decode prog_61_method_7_code 150 = .ok (.iload_n 3, 1) := by decide +kernel
theorem d7_151 : decode prog_61_method_7_code 151 = .ok (.istore 7, 2) := by decide +kernel
theorem d7_153 : decode prog_61_method_7_code 153 = .ok (.iload 7, 2) := by decide +kernel
theorem d7_155 : decode prog_61_method_7_code 155 = .ok (.iload 4, 2) := by decide +kernel
theorem d7_157 : decode prog_61_method_7_code 157 = .ok (.if_icmp .ge 20, 3) := by decide +kernel
theorem d7_160 : decode prog_61_method_7_code 160 = .ok (.aload_n 0, 1) := by decide +kernel
theorem d7_161 : decode prog_61_method_7_code 161 = .ok (.getfield 16, 3) := by decide +kernel
theorem d7_164 : decode prog_61_method_7_code 164 = .ok (.aload_n 2, 1) := by decide +kernel
theorem d7_165 : decode prog_61_method_7_code 165 = .ok (.iload 7, 2) := by decide +kernel
theorem d7_167 : decode prog_61_method_7_code 167 = .ok (.iaload, 1) := by decide +kernel
theorem d7_168 : decode prog_61_method_7_code 168 = .ok (.iload 6, 2) := by decide +kernel
theorem d7_170 : decode prog_61_method_7_code 170 = .ok (.iastore, 1) := by decide +kernel
theorem d7_171 : decode prog_61_method_7_code 171 = .ok (.iinc 7 1, 3) := by decide +kernel
theorem d7_174 : decode prog_61_method_7_code 174 = .ok (.goto (-21), 3) := by decide +kernel
theorem d7_177 : decode prog_61_method_7_code 177 = .ok (.iload 6, 2) := by decide +kernel
theorem d7_179 : decode prog_61_method_7_code 179 = .ok (.ireturn, 1) := by decide +kernel
theorem pn7 : plainFor (⟨"com/example/bisim_for_markov/bisimformarkov/analysis/Partition", "split", "(I[IIII)I"⟩ : MethodName) = true := plainFor_of_name (by first | (simp [plainName, overriddenIn]; done) | decide +kernel)
set_option maxRecDepth 65536 in
set_option maxHeartbeats 4000000 in
theorem lp1 (l : Launch) (Z : State) (a0 : Array Value) (hw : ∀ d ∈ tables_1, d.before a0 Z = true) (q aE aL aK aS aN aP aR f : Addr) (cl fr to rd : Int32) (fs : List Int32) (n NN tN : Nat) (ND : [q, aE, aL, aK, aS, aN, aP, aR].Nodup) (hf : ∀ x ∈ [q, aE, aL, aK, aS, aN, aP, aR], x ≠ f) (hto : to.toInt = tN) (hfs : tN ≤ fs.length) (hcl : inR NN cl) {p : Program} {e : Env} {s : State} {m : MethodId} {below : List Frame} {meth : Method} {c : Code} {as' : Array Value} {R : Room} {h0 : Heap} {FE : State → Outcome → List Loc → Prop} {Q : Option Value → Heap → Prop} {cells slots : Nat} {ws : List Addr} (hws : ∀ x ∈ [q, aE, aL, aK, aS, aN, aP, aR], x ∈ ws ∨ h0.size ≤ x) (B : Fix p Z s m meth c prog_61_method_7_code 11 "com/example/bisim_for_markov/bisimformarkov/analysis/Partition" "split" (some .int)) (fuel : Nat) : ∀ (iN : Nat) (u : PS) (T : State) (h : Heap) (i : Int32) (sa sb sc sd : Slot), iN + fuel = tN → i.toInt = iN → Ok n NN u → Can n cl fuel u → (∀ j, iN ≤ j → j < tN → inR n (fs.getD j 0)) → Sl sa sb sc sd → PA Z h q aE aL aK aS aN aP aR u → VA Z h f .int (fs.map Value.int) → St p l e R s m as' below meth c h0 ws T h cells slots → (∀ T' h' i' sa sb sc sd, Sl sa sb sc sd → St p l e R s m as' below meth c h0 ws T' h' cells slots → PA Z h' q aE aL aK aS aN aP aR (oRun cl fs iN fuel u) → VA Z h' f .int (fs.map Value.int) → Go p e below FE h0 ws Q T' (mkF m 89 #[.val (.ref q), .val (.int cl), .val (.ref f), .val (.int fr), .val (.int to), .val (.int rd), .val (.int i'), sa, sb, sc, sd] [])) → Go p e below FE h0 ws Q T (mkF m 3 #[.val (.ref q), .val (.int cl), .val (.ref f), .val (.int fr), .val (.int to), .val (.int rd), .val (.int i), sa, sb, sc, sd] []) := by
  induction fuel with
  | zero =>
    intro iN u T h i sa sb sc sd hfu hi k can hx hsl A FF X K
    refine giload B X d7_3 rfl (pc' := 5) rfl ?_
    refine giload B X d7_5 rfl (pc' := 7) rfl ?_
    have c7_274 : ¬ (i < to) := by rw [Int32.lt_iff_toInt_lt]; omega
    refine gicY B X (pc' := 89) d7_7 (flt c7_274).2.1 (by decide) ?_
    exact K _ _ i _ _ _ _ hsl X A FF
  | succ fuel ih =>
    intro iN u T h i sa sb sc sd hfu hi k can hx hsl A FF X K
    have hb := can.b.1
    have hx0 := hx iN (Nat.le_refl _) (by omega)
    rcases hsl with ⟨rfl, rfl, rfl, rfl⟩ | ⟨x7, x8, x9, x10, rfl, rfl, rfl, rfl⟩
    · refine giload B X d7_3 rfl (pc' := 5) rfl ?_
      refine giload B X d7_5 rfl (pc' := 7) rfl ?_
      have c7_275 : i < to := by rw [Int32.lt_iff_toInt_lt]; omega
      refine gicN B X d7_7 (tlt c7_275).2.1 (pc' := 10) rfl ?_
      refine galoadN B X d7_10 rfl rfl (pc' := 11) rfl ?_
      refine giload B X d7_11 rfl (pc' := 13) rfl ?_
      refine giaload B X FF (List.length_map ..) (by omega) (v := (.int (fs.getD iN 0))) (by rw [own_clamp hi]; exact own_at (by omega)) d7_13 (pc' := 14) rfl ?_
      refine gistore B X d7_14 (Ls' := #[.val (.ref q), .val (.int cl), .val (.ref f), .val (.int fr), .val (.int to), .val (.int rd), .val (.int i), .val (.int (fs.getD iN 0)), .unset, .unset, .unset]) rfl (pc' := 16) rfl ?_
      refine galoadN B X d7_16 rfl rfl (pc' := 17) rfl ?_
      refine gget B X (hw _ (List.mem_of_getElem? (i := 32) rfl)) A.1.2.2.2.2.2.1 d7_17 (pc' := 20) rfl fun T276 X277 => ?_
      refine giloadN B X277 d7_20 rfl (pc' := 21) rfl ?_
      refine gdup2 B X277 d7_21 rfl rfl (pc' := 22) rfl ?_
      refine giaload B X277 A.2.2.2.2.2.1 (n := NN) (by rw [List.length_map]; exact k.2.2.2.2.1) hcl (v := (.int (u.ns.getD cl.toNatClampNeg 0))) (own_at (by rw [k.2.2.2.2.1]; exact own_nat hcl)) d7_22 (pc' := 23) rfl ?_
      refine giconst B X277 d7_23 (v := (1 : Int32)) rfl (pc' := 24) rfl ?_
      refine gisub B X277 d7_24 (v := (ob cl u)) (rfl) (pc' := 25) rfl ?_
      refine gdup_x2 B X277 d7_25 rfl rfl rfl (pc' := 26) rfl ?_
      refine giastore B X277 (i := cl.toNatClampNeg) A.2.2.2.2.2.1 (n := NN) (by rw [List.length_map]; exact k.2.2.2.2.1) hcl rfl (vs' := ((u.ns.set cl.toNatClampNeg (ob cl u)).map Value.int)) (own_set _ _ _) (own_hw hws 5 rfl) d7_26 (pc' := 27) rfl fun T278 h279 X280 W281 A282 => ?_
      have F283 := A.1.other W281 (own_nd ND 0 5 rfl rfl (by decide))
      have E284 := A.2.2.2.2.2.2.2.2.wr W281
      have F285 := A.2.1.other W281 (own_nd ND 1 5 rfl rfl (by decide))
      have F286 := A.2.2.1.other W281 (own_nd ND 2 5 rfl rfl (by decide))
      have F287 := A.2.2.2.1.other W281 (own_nd ND 3 5 rfl rfl (by decide))
      have F288 := A.2.2.2.2.1.other W281 (own_nd ND 4 5 rfl rfl (by decide))
      have F289 := A.2.2.2.2.2.2.1.other W281 (Ne.symm (own_nd ND 5 6 rfl rfl (by decide)))
      have F290 := A.2.2.2.2.2.2.2.1.other W281 (Ne.symm (own_nd ND 5 7 rfl rfl (by decide)))
      have F291 := FF.other W281 (Ne.symm (own_nf hf 5 rfl))
      refine gistore B X280 d7_27 (Ls' := #[.val (.ref q), .val (.int cl), .val (.ref f), .val (.int fr), .val (.int to), .val (.int rd), .val (.int i), .val (.int (fs.getD iN 0)), .val (.int (ob cl u)), .unset, .unset]) rfl (pc' := 29) rfl ?_
      refine galoadN B X280 d7_29 rfl rfl (pc' := 30) rfl ?_
      refine gget B X280 (hw _ (List.mem_of_getElem? (i := 20) rfl)) F283.2.1 d7_30 (pc' := 33) rfl fun T292 X293 => ?_
      refine giload B X293 d7_33 rfl (pc' := 35) rfl ?_
      refine giaload B X293 F285 (n := n) (by rw [List.length_map]; exact k.1) hb (v := (.int (oy cl u))) (own_at (by rw [k.1]; exact own_nat hb)) d7_35 (pc' := 36) rfl ?_
      refine gistore B X293 d7_36 (Ls' := #[.val (.ref q), .val (.int cl), .val (.ref f), .val (.int fr), .val (.int to), .val (.int rd), .val (.int i), .val (.int (fs.getD iN 0)), .val (.int (ob cl u)), .val (.int (oy cl u)), .unset]) rfl (pc' := 38) rfl ?_
      refine galoadN B X293 d7_38 rfl rfl (pc' := 39) rfl ?_
      refine gget B X293 (hw _ (List.mem_of_getElem? (i := 22) rfl)) F283.2.2.1 d7_39 (pc' := 42) rfl fun T294 X295 => ?_
      refine giload B X295 d7_42 rfl (pc' := 44) rfl ?_
      refine giaload B X295 F286 (n := n) (by rw [List.length_map]; exact k.2.1) hx0 (v := (.int (ol (fs.getD iN 0) u))) (own_at (by rw [k.2.1]; exact own_nat hx0)) d7_44 (pc' := 45) rfl ?_
      refine gistore B X295 d7_45 (Ls' := #[.val (.ref q), .val (.int cl), .val (.ref f), .val (.int fr), .val (.int to), .val (.int rd), .val (.int i), .val (.int (fs.getD iN 0)), .val (.int (ob cl u)), .val (.int (oy cl u)), .val (.int (ol (fs.getD iN 0) u))]) rfl (pc' := 47) rfl ?_
      refine galoadN B X295 d7_47 rfl rfl (pc' := 48) rfl ?_
      refine gget B X295 (hw _ (List.mem_of_getElem? (i := 20) rfl)) F283.2.1 d7_48 (pc' := 51) rfl fun T296 X297 => ?_
      refine giload B X297 d7_51 rfl (pc' := 53) rfl ?_
      refine giload B X297 d7_53 rfl (pc' := 55) rfl ?_
      refine giastore B X297 (i := (ol (fs.getD iN 0) u).toNatClampNeg) F285 (n := n) (by rw [List.length_map]; exact k.1) (k.l hx0) rfl (vs' := ((u.es.set (ol (fs.getD iN 0) u).toNatClampNeg (oy cl u)).map Value.int)) (own_set _ _ _) (own_hw hws 1 rfl) d7_55 (pc' := 56) rfl fun T298 h299 X300 W301 A302 => ?_
      have F303 := F283.other W301 (own_nd ND 0 1 rfl rfl (by decide))
      have E304 := E284.wr W301
      have F305 := F286.other W301 (Ne.symm (own_nd ND 1 2 rfl rfl (by decide)))
      have F306 := F287.other W301 (Ne.symm (own_nd ND 1 3 rfl rfl (by decide)))
      have F307 := F288.other W301 (Ne.symm (own_nd ND 1 4 rfl rfl (by decide)))
      have F308 := A282.other W301 (Ne.symm (own_nd ND 1 5 rfl rfl (by decide)))
      have F309 := F289.other W301 (Ne.symm (own_nd ND 1 6 rfl rfl (by decide)))
      have F310 := F290.other W301 (Ne.symm (own_nd ND 1 7 rfl rfl (by decide)))
      have F311 := F291.other W301 (Ne.symm (own_nf hf 1 rfl))
      refine galoadN B X300 d7_56 rfl rfl (pc' := 57) rfl ?_
      refine gget B X300 (hw _ (List.mem_of_getElem? (i := 22) rfl)) F303.2.2.1 d7_57 (pc' := 60) rfl fun T312 X313 => ?_
      refine giload B X313 d7_60 rfl (pc' := 62) rfl ?_
      refine giload B X313 d7_62 rfl (pc' := 64) rfl ?_
      refine giastore B X313 (i := (oy cl u).toNatClampNeg) F305 (n := n) (by rw [List.length_map]; exact k.2.1) (k.y hb) rfl (vs' := ((u.ls.set (oy cl u).toNatClampNeg (ol (fs.getD iN 0) u)).map Value.int)) (own_set _ _ _) (own_hw hws 2 rfl) d7_64 (pc' := 65) rfl fun T314 h315 X316 W317 A318 => ?_
      have F319 := F303.other W317 (own_nd ND 0 2 rfl rfl (by decide))
      have E320 := E304.wr W317
      have F321 := A302.other W317 (own_nd ND 1 2 rfl rfl (by decide))
      have F322 := F306.other W317 (Ne.symm (own_nd ND 2 3 rfl rfl (by decide)))
      have F323 := F307.other W317 (Ne.symm (own_nd ND 2 4 rfl rfl (by decide)))
      have F324 := F308.other W317 (Ne.symm (own_nd ND 2 5 rfl rfl (by decide)))
      have F325 := F309.other W317 (Ne.symm (own_nd ND 2 6 rfl rfl (by decide)))
      have F326 := F310.other W317 (Ne.symm (own_nd ND 2 7 rfl rfl (by decide)))
      have F327 := F311.other W317 (Ne.symm (own_nf hf 2 rfl))
      refine galoadN B X316 d7_65 rfl rfl (pc' := 66) rfl ?_
      refine gget B X316 (hw _ (List.mem_of_getElem? (i := 20) rfl)) F319.2.1 d7_66 (pc' := 69) rfl fun T328 X329 => ?_
      refine giload B X329 d7_69 rfl (pc' := 71) rfl ?_
      refine giload B X329 d7_71 rfl (pc' := 73) rfl ?_
      refine giastore B X329 (i := (ob cl u).toNatClampNeg) F321 (n := n) (by rw [List.length_map, List.length_set]; exact k.1) hb rfl (vs' := (((u.es.set (ol (fs.getD iN 0) u).toNatClampNeg (oy cl u)).set (ob cl u).toNatClampNeg (fs.getD iN 0)).map Value.int)) (own_set _ _ _) (own_hw hws 1 rfl) d7_73 (pc' := 74) rfl fun T330 h331 X332 W333 A334 => ?_
      have F335 := F319.other W333 (own_nd ND 0 1 rfl rfl (by decide))
      have E336 := E320.wr W333
      have F337 := A318.other W333 (Ne.symm (own_nd ND 1 2 rfl rfl (by decide)))
      have F338 := F322.other W333 (Ne.symm (own_nd ND 1 3 rfl rfl (by decide)))
      have F339 := F323.other W333 (Ne.symm (own_nd ND 1 4 rfl rfl (by decide)))
      have F340 := F324.other W333 (Ne.symm (own_nd ND 1 5 rfl rfl (by decide)))
      have F341 := F325.other W333 (Ne.symm (own_nd ND 1 6 rfl rfl (by decide)))
      have F342 := F326.other W333 (Ne.symm (own_nd ND 1 7 rfl rfl (by decide)))
      have F343 := F327.other W333 (Ne.symm (own_nf hf 1 rfl))
      refine galoadN B X332 d7_74 rfl rfl (pc' := 75) rfl ?_
      refine gget B X332 (hw _ (List.mem_of_getElem? (i := 22) rfl)) F335.2.2.1 d7_75 (pc' := 78) rfl fun T344 X345 => ?_
      refine giload B X345 d7_78 rfl (pc' := 80) rfl ?_
      refine giload B X345 d7_80 rfl (pc' := 82) rfl ?_
      refine giastore B X345 (i := (fs.getD iN 0).toNatClampNeg) F337 (n := n) (by rw [List.length_map, List.length_set]; exact k.2.1) hx0 rfl (vs' := (((u.ls.set (oy cl u).toNatClampNeg (ol (fs.getD iN 0) u)).set (fs.getD iN 0).toNatClampNeg (ob cl u)).map Value.int)) (own_set _ _ _) (own_hw hws 2 rfl) d7_82 (pc' := 83) rfl fun T346 h347 X348 W349 A350 => ?_
      have F351 := F335.other W349 (own_nd ND 0 2 rfl rfl (by decide))
      have E352 := E336.wr W349
      have F353 := A334.other W349 (own_nd ND 1 2 rfl rfl (by decide))
      have F354 := F338.other W349 (Ne.symm (own_nd ND 2 3 rfl rfl (by decide)))
      have F355 := F339.other W349 (Ne.symm (own_nd ND 2 4 rfl rfl (by decide)))
      have F356 := F340.other W349 (Ne.symm (own_nd ND 2 5 rfl rfl (by decide)))
      have F357 := F341.other W349 (Ne.symm (own_nd ND 2 6 rfl rfl (by decide)))
      have F358 := F342.other W349 (Ne.symm (own_nd ND 2 7 rfl rfl (by decide)))
      have F359 := F343.other W349 (Ne.symm (own_nf hf 2 rfl))
      refine giinc B X348 d7_83 rfl (v := (i + (1 : Int32))) rfl (Ls' := #[.val (.ref q), .val (.int cl), .val (.ref f), .val (.int fr), .val (.int to), .val (.int rd), .val (.int (i + (1 : Int32))), .val (.int (fs.getD iN 0)), .val (.int (ob cl u)), .val (.int (oy cl u)), .val (.int (ol (fs.getD iN 0) u))]) rfl (pc' := 86) rfl ?_
      refine ggoto B X348 (pc' := 3) d7_86 (by decide) ?_
      exact ih (iN + 1) (oMove cl (fs.getD iN 0) u) _ _ (i + (1 : Int32)) _ _ _ _ (by omega) (own_inc hi hto (by omega)) (k.move hb hx0) (can.move k hcl) (fun j a b => hx j (by omega) b) (Or.inr ⟨_, _, _, _, rfl, rfl, rfl, rfl⟩) ⟨F351, F353, A350, F354, F355, F356, F357, F358, E352⟩ F359 X348 K
    · refine giload B X d7_3 rfl (pc' := 5) rfl ?_
      refine giload B X d7_5 rfl (pc' := 7) rfl ?_
      have c7_360 : i < to := by rw [Int32.lt_iff_toInt_lt]; omega
      refine gicN B X d7_7 (tlt c7_360).2.1 (pc' := 10) rfl ?_
      refine galoadN B X d7_10 rfl rfl (pc' := 11) rfl ?_
      refine giload B X d7_11 rfl (pc' := 13) rfl ?_
      refine giaload B X FF (List.length_map ..) (by omega) (v := (.int (fs.getD iN 0))) (by rw [own_clamp hi]; exact own_at (by omega)) d7_13 (pc' := 14) rfl ?_
      refine gistore B X d7_14 (Ls' := #[.val (.ref q), .val (.int cl), .val (.ref f), .val (.int fr), .val (.int to), .val (.int rd), .val (.int i), .val (.int (fs.getD iN 0)), .val (.int x8), .val (.int x9), .val (.int x10)]) rfl (pc' := 16) rfl ?_
      refine galoadN B X d7_16 rfl rfl (pc' := 17) rfl ?_
      refine gget B X (hw _ (List.mem_of_getElem? (i := 32) rfl)) A.1.2.2.2.2.2.1 d7_17 (pc' := 20) rfl fun T361 X362 => ?_
      refine giloadN B X362 d7_20 rfl (pc' := 21) rfl ?_
      refine gdup2 B X362 d7_21 rfl rfl (pc' := 22) rfl ?_
      refine giaload B X362 A.2.2.2.2.2.1 (n := NN) (by rw [List.length_map]; exact k.2.2.2.2.1) hcl (v := (.int (u.ns.getD cl.toNatClampNeg 0))) (own_at (by rw [k.2.2.2.2.1]; exact own_nat hcl)) d7_22 (pc' := 23) rfl ?_
      refine giconst B X362 d7_23 (v := (1 : Int32)) rfl (pc' := 24) rfl ?_
      refine gisub B X362 d7_24 (v := (ob cl u)) (rfl) (pc' := 25) rfl ?_
      refine gdup_x2 B X362 d7_25 rfl rfl rfl (pc' := 26) rfl ?_
      refine giastore B X362 (i := cl.toNatClampNeg) A.2.2.2.2.2.1 (n := NN) (by rw [List.length_map]; exact k.2.2.2.2.1) hcl rfl (vs' := ((u.ns.set cl.toNatClampNeg (ob cl u)).map Value.int)) (own_set _ _ _) (own_hw hws 5 rfl) d7_26 (pc' := 27) rfl fun T363 h364 X365 W366 A367 => ?_
      have F368 := A.1.other W366 (own_nd ND 0 5 rfl rfl (by decide))
      have E369 := A.2.2.2.2.2.2.2.2.wr W366
      have F370 := A.2.1.other W366 (own_nd ND 1 5 rfl rfl (by decide))
      have F371 := A.2.2.1.other W366 (own_nd ND 2 5 rfl rfl (by decide))
      have F372 := A.2.2.2.1.other W366 (own_nd ND 3 5 rfl rfl (by decide))
      have F373 := A.2.2.2.2.1.other W366 (own_nd ND 4 5 rfl rfl (by decide))
      have F374 := A.2.2.2.2.2.2.1.other W366 (Ne.symm (own_nd ND 5 6 rfl rfl (by decide)))
      have F375 := A.2.2.2.2.2.2.2.1.other W366 (Ne.symm (own_nd ND 5 7 rfl rfl (by decide)))
      have F376 := FF.other W366 (Ne.symm (own_nf hf 5 rfl))
      refine gistore B X365 d7_27 (Ls' := #[.val (.ref q), .val (.int cl), .val (.ref f), .val (.int fr), .val (.int to), .val (.int rd), .val (.int i), .val (.int (fs.getD iN 0)), .val (.int (ob cl u)), .val (.int x9), .val (.int x10)]) rfl (pc' := 29) rfl ?_
      refine galoadN B X365 d7_29 rfl rfl (pc' := 30) rfl ?_
      refine gget B X365 (hw _ (List.mem_of_getElem? (i := 20) rfl)) F368.2.1 d7_30 (pc' := 33) rfl fun T377 X378 => ?_
      refine giload B X378 d7_33 rfl (pc' := 35) rfl ?_
      refine giaload B X378 F370 (n := n) (by rw [List.length_map]; exact k.1) hb (v := (.int (oy cl u))) (own_at (by rw [k.1]; exact own_nat hb)) d7_35 (pc' := 36) rfl ?_
      refine gistore B X378 d7_36 (Ls' := #[.val (.ref q), .val (.int cl), .val (.ref f), .val (.int fr), .val (.int to), .val (.int rd), .val (.int i), .val (.int (fs.getD iN 0)), .val (.int (ob cl u)), .val (.int (oy cl u)), .val (.int x10)]) rfl (pc' := 38) rfl ?_
      refine galoadN B X378 d7_38 rfl rfl (pc' := 39) rfl ?_
      refine gget B X378 (hw _ (List.mem_of_getElem? (i := 22) rfl)) F368.2.2.1 d7_39 (pc' := 42) rfl fun T379 X380 => ?_
      refine giload B X380 d7_42 rfl (pc' := 44) rfl ?_
      refine giaload B X380 F371 (n := n) (by rw [List.length_map]; exact k.2.1) hx0 (v := (.int (ol (fs.getD iN 0) u))) (own_at (by rw [k.2.1]; exact own_nat hx0)) d7_44 (pc' := 45) rfl ?_
      refine gistore B X380 d7_45 (Ls' := #[.val (.ref q), .val (.int cl), .val (.ref f), .val (.int fr), .val (.int to), .val (.int rd), .val (.int i), .val (.int (fs.getD iN 0)), .val (.int (ob cl u)), .val (.int (oy cl u)), .val (.int (ol (fs.getD iN 0) u))]) rfl (pc' := 47) rfl ?_
      refine galoadN B X380 d7_47 rfl rfl (pc' := 48) rfl ?_
      refine gget B X380 (hw _ (List.mem_of_getElem? (i := 20) rfl)) F368.2.1 d7_48 (pc' := 51) rfl fun T381 X382 => ?_
      refine giload B X382 d7_51 rfl (pc' := 53) rfl ?_
      refine giload B X382 d7_53 rfl (pc' := 55) rfl ?_
      refine giastore B X382 (i := (ol (fs.getD iN 0) u).toNatClampNeg) F370 (n := n) (by rw [List.length_map]; exact k.1) (k.l hx0) rfl (vs' := ((u.es.set (ol (fs.getD iN 0) u).toNatClampNeg (oy cl u)).map Value.int)) (own_set _ _ _) (own_hw hws 1 rfl) d7_55 (pc' := 56) rfl fun T383 h384 X385 W386 A387 => ?_
      have F388 := F368.other W386 (own_nd ND 0 1 rfl rfl (by decide))
      have E389 := E369.wr W386
      have F390 := F371.other W386 (Ne.symm (own_nd ND 1 2 rfl rfl (by decide)))
      have F391 := F372.other W386 (Ne.symm (own_nd ND 1 3 rfl rfl (by decide)))
      have F392 := F373.other W386 (Ne.symm (own_nd ND 1 4 rfl rfl (by decide)))
      have F393 := A367.other W386 (Ne.symm (own_nd ND 1 5 rfl rfl (by decide)))
      have F394 := F374.other W386 (Ne.symm (own_nd ND 1 6 rfl rfl (by decide)))
      have F395 := F375.other W386 (Ne.symm (own_nd ND 1 7 rfl rfl (by decide)))
      have F396 := F376.other W386 (Ne.symm (own_nf hf 1 rfl))
      refine galoadN B X385 d7_56 rfl rfl (pc' := 57) rfl ?_
      refine gget B X385 (hw _ (List.mem_of_getElem? (i := 22) rfl)) F388.2.2.1 d7_57 (pc' := 60) rfl fun T397 X398 => ?_
      refine giload B X398 d7_60 rfl (pc' := 62) rfl ?_
      refine giload B X398 d7_62 rfl (pc' := 64) rfl ?_
      refine giastore B X398 (i := (oy cl u).toNatClampNeg) F390 (n := n) (by rw [List.length_map]; exact k.2.1) (k.y hb) rfl (vs' := ((u.ls.set (oy cl u).toNatClampNeg (ol (fs.getD iN 0) u)).map Value.int)) (own_set _ _ _) (own_hw hws 2 rfl) d7_64 (pc' := 65) rfl fun T399 h400 X401 W402 A403 => ?_
      have F404 := F388.other W402 (own_nd ND 0 2 rfl rfl (by decide))
      have E405 := E389.wr W402
      have F406 := A387.other W402 (own_nd ND 1 2 rfl rfl (by decide))
      have F407 := F391.other W402 (Ne.symm (own_nd ND 2 3 rfl rfl (by decide)))
      have F408 := F392.other W402 (Ne.symm (own_nd ND 2 4 rfl rfl (by decide)))
      have F409 := F393.other W402 (Ne.symm (own_nd ND 2 5 rfl rfl (by decide)))
      have F410 := F394.other W402 (Ne.symm (own_nd ND 2 6 rfl rfl (by decide)))
      have F411 := F395.other W402 (Ne.symm (own_nd ND 2 7 rfl rfl (by decide)))
      have F412 := F396.other W402 (Ne.symm (own_nf hf 2 rfl))
      refine galoadN B X401 d7_65 rfl rfl (pc' := 66) rfl ?_
      refine gget B X401 (hw _ (List.mem_of_getElem? (i := 20) rfl)) F404.2.1 d7_66 (pc' := 69) rfl fun T413 X414 => ?_
      refine giload B X414 d7_69 rfl (pc' := 71) rfl ?_
      refine giload B X414 d7_71 rfl (pc' := 73) rfl ?_
      refine giastore B X414 (i := (ob cl u).toNatClampNeg) F406 (n := n) (by rw [List.length_map, List.length_set]; exact k.1) hb rfl (vs' := (((u.es.set (ol (fs.getD iN 0) u).toNatClampNeg (oy cl u)).set (ob cl u).toNatClampNeg (fs.getD iN 0)).map Value.int)) (own_set _ _ _) (own_hw hws 1 rfl) d7_73 (pc' := 74) rfl fun T415 h416 X417 W418 A419 => ?_
      have F420 := F404.other W418 (own_nd ND 0 1 rfl rfl (by decide))
      have E421 := E405.wr W418
      have F422 := A403.other W418 (Ne.symm (own_nd ND 1 2 rfl rfl (by decide)))
      have F423 := F407.other W418 (Ne.symm (own_nd ND 1 3 rfl rfl (by decide)))
      have F424 := F408.other W418 (Ne.symm (own_nd ND 1 4 rfl rfl (by decide)))
      have F425 := F409.other W418 (Ne.symm (own_nd ND 1 5 rfl rfl (by decide)))
      have F426 := F410.other W418 (Ne.symm (own_nd ND 1 6 rfl rfl (by decide)))
      have F427 := F411.other W418 (Ne.symm (own_nd ND 1 7 rfl rfl (by decide)))
      have F428 := F412.other W418 (Ne.symm (own_nf hf 1 rfl))
      refine galoadN B X417 d7_74 rfl rfl (pc' := 75) rfl ?_
      refine gget B X417 (hw _ (List.mem_of_getElem? (i := 22) rfl)) F420.2.2.1 d7_75 (pc' := 78) rfl fun T429 X430 => ?_
      refine giload B X430 d7_78 rfl (pc' := 80) rfl ?_
      refine giload B X430 d7_80 rfl (pc' := 82) rfl ?_
      refine giastore B X430 (i := (fs.getD iN 0).toNatClampNeg) F422 (n := n) (by rw [List.length_map, List.length_set]; exact k.2.1) hx0 rfl (vs' := (((u.ls.set (oy cl u).toNatClampNeg (ol (fs.getD iN 0) u)).set (fs.getD iN 0).toNatClampNeg (ob cl u)).map Value.int)) (own_set _ _ _) (own_hw hws 2 rfl) d7_82 (pc' := 83) rfl fun T431 h432 X433 W434 A435 => ?_
      have F436 := F420.other W434 (own_nd ND 0 2 rfl rfl (by decide))
      have E437 := E421.wr W434
      have F438 := A419.other W434 (own_nd ND 1 2 rfl rfl (by decide))
      have F439 := F423.other W434 (Ne.symm (own_nd ND 2 3 rfl rfl (by decide)))
      have F440 := F424.other W434 (Ne.symm (own_nd ND 2 4 rfl rfl (by decide)))
      have F441 := F425.other W434 (Ne.symm (own_nd ND 2 5 rfl rfl (by decide)))
      have F442 := F426.other W434 (Ne.symm (own_nd ND 2 6 rfl rfl (by decide)))
      have F443 := F427.other W434 (Ne.symm (own_nd ND 2 7 rfl rfl (by decide)))
      have F444 := F428.other W434 (Ne.symm (own_nf hf 2 rfl))
      refine giinc B X433 d7_83 rfl (v := (i + (1 : Int32))) rfl (Ls' := #[.val (.ref q), .val (.int cl), .val (.ref f), .val (.int fr), .val (.int to), .val (.int rd), .val (.int (i + (1 : Int32))), .val (.int (fs.getD iN 0)), .val (.int (ob cl u)), .val (.int (oy cl u)), .val (.int (ol (fs.getD iN 0) u))]) rfl (pc' := 86) rfl ?_
      refine ggoto B X433 (pc' := 3) d7_86 (by decide) ?_
      exact ih (iN + 1) (oMove cl (fs.getD iN 0) u) _ _ (i + (1 : Int32)) _ _ _ _ (by omega) (own_inc hi hto (by omega)) (k.move hb hx0) (can.move k hcl) (fun j a b => hx j (by omega) b) (Or.inr ⟨_, _, _, _, rfl, rfl, rfl, rfl⟩) ⟨F436, F438, A435, F439, F440, F441, F442, F443, E437⟩ F444 X433 K
set_option maxRecDepth 65536 in
set_option maxHeartbeats 4000000 in
theorem lp2 (l : Launch) (Z : State) (a0 : Array Value) (hw : ∀ d ∈ tables_1, d.before a0 Z = true) (q aE aL aK aS aN aP aR f : Addr) (cl fr to rd : Int32) (fs : List Int32) (n NN tN : Nat) (ND : [q, aE, aL, aK, aS, aN, aP, aR].Nodup) (hf : ∀ x ∈ [q, aE, aL, aK, aS, aN, aP, aR], x ≠ f) (hto : to.toInt = tN) (hfs : tN ≤ fs.length) (kc : Int32) {p : Program} {e : Env} {s : State} {m : MethodId} {below : List Frame} {meth : Method} {c : Code} {as' : Array Value} {R : Room} {h0 : Heap} {FE : State → Outcome → List Loc → Prop} {Q : Option Value → Heap → Prop} {cells slots : Nat} {ws : List Addr} (hws : ∀ x ∈ [q, aE, aL, aK, aS, aN, aP, aR], x ∈ ws ∨ h0.size ≤ x) (B : Fix p Z s m meth c prog_61_method_7_code 11 "com/example/bisim_for_markov/bisimformarkov/analysis/Partition" "split" (some .int)) (fuel : Nat) : ∀ (iN : Nat) (u : PS) (T : State) (h : Heap) (i : Int32) (sb sc sd : Slot), iN + fuel = tN → i.toInt = iN → u.cs.length = n → (∀ j, iN ≤ j → j < tN → inR n (fs.getD j 0)) → PA Z h q aE aL aK aS aN aP aR u → VA Z h f .int (fs.map Value.int) → St p l e R s m as' below meth c h0 ws T h cells slots → (∀ T' h' i', St p l e R s m as' below meth c h0 ws T' h' cells slots → PA Z h' q aE aL aK aS aN aP aR (u.wcs (oCls kc fs iN fuel u.cs)) → VA Z h' f .int (fs.map Value.int) → Go p e below FE h0 ws Q T' (mkF m 177 #[.val (.ref q), .val (.int cl), .val (.ref f), .val (.int fr), .val (.int to), .val (.int rd), .val (.int kc), .val (.int i'), sb, sc, sd] [])) → Go p e below FE h0 ws Q T (mkF m 153 #[.val (.ref q), .val (.int cl), .val (.ref f), .val (.int fr), .val (.int to), .val (.int rd), .val (.int kc), .val (.int i), sb, sc, sd] []) := by
  induction fuel with
  | zero =>
    intro iN u T h i sb sc sd hfu hi k hx A FF X K
    refine giload B X d7_153 rfl (pc' := 155) rfl ?_
    refine giload B X d7_155 rfl (pc' := 157) rfl ?_
    have c157_445 : ¬ (i < to) := by rw [Int32.lt_iff_toInt_lt]; omega
    refine gicY B X (pc' := 177) d7_157 (flt c157_445).2.1 (by decide) ?_
    exact K _ _ i X A FF
  | succ fuel ih =>
    intro iN u T h i sb sc sd hfu hi k hx A FF X K
    have hx0 := hx iN (Nat.le_refl _) (by omega)
    refine giload B X d7_153 rfl (pc' := 155) rfl ?_
    refine giload B X d7_155 rfl (pc' := 157) rfl ?_
    have c157_446 : i < to := by rw [Int32.lt_iff_toInt_lt]; omega
    refine gicN B X d7_157 (tlt c157_446).2.1 (pc' := 160) rfl ?_
    refine galoadN B X d7_160 rfl rfl (pc' := 161) rfl ?_
    refine gget B X (hw _ (List.mem_of_getElem? (i := 24) rfl)) A.1.2.2.2.1 d7_161 (pc' := 164) rfl fun T447 X448 => ?_
    refine galoadN B X448 d7_164 rfl rfl (pc' := 165) rfl ?_
    refine giload B X448 d7_165 rfl (pc' := 167) rfl ?_
    refine giaload B X448 FF (List.length_map ..) (by omega) (v := (.int (fs.getD iN 0))) (by rw [own_clamp hi]; exact own_at (by omega)) d7_167 (pc' := 168) rfl ?_
    refine giload B X448 d7_168 rfl (pc' := 170) rfl ?_
    refine giastore B X448 (i := (fs.getD iN 0).toNatClampNeg) A.2.2.2.1 (n := n) (by rw [List.length_map]; exact k) hx0 rfl (vs' := ((u.cs.set (fs.getD iN 0).toNatClampNeg kc).map Value.int)) (own_set _ _ _) (own_hw hws 3 rfl) d7_170 (pc' := 171) rfl fun T449 h450 X451 W452 A453 => ?_
    have F454 := A.1.other W452 (own_nd ND 0 3 rfl rfl (by decide))
    have E455 := A.2.2.2.2.2.2.2.2.wr W452
    have F456 := A.2.1.other W452 (own_nd ND 1 3 rfl rfl (by decide))
    have F457 := A.2.2.1.other W452 (own_nd ND 2 3 rfl rfl (by decide))
    have F458 := A.2.2.2.2.1.other W452 (Ne.symm (own_nd ND 3 4 rfl rfl (by decide)))
    have F459 := A.2.2.2.2.2.1.other W452 (Ne.symm (own_nd ND 3 5 rfl rfl (by decide)))
    have F460 := A.2.2.2.2.2.2.1.other W452 (Ne.symm (own_nd ND 3 6 rfl rfl (by decide)))
    have F461 := A.2.2.2.2.2.2.2.1.other W452 (Ne.symm (own_nd ND 3 7 rfl rfl (by decide)))
    have F462 := FF.other W452 (Ne.symm (own_nf hf 3 rfl))
    refine giinc B X451 d7_171 rfl (v := (i + (1 : Int32))) rfl (Ls' := #[.val (.ref q), .val (.int cl), .val (.ref f), .val (.int fr), .val (.int to), .val (.int rd), .val (.int kc), .val (.int (i + (1 : Int32))), sb, sc, sd]) rfl (pc' := 174) rfl ?_
    refine ggoto B X451 (pc' := 153) d7_174 (by decide) ?_
    exact ih (iN + 1) (u.wcs (u.cs.set (fs.getD iN 0).toNatClampNeg kc)) _ _ (i + (1 : Int32)) sb sc sd (by omega) (own_inc hi hto (by omega)) ((List.length_set ..).trans k) (fun j a b => hx j (by omega) b) ⟨F454, F456, F457, A453, F458, F459, F460, F461, E455⟩ F462 X451 K
theorem ef7_RIRIII (m : MethodId) (x0 : Addr) (x1 : Int32) (x2 : Addr) (x3 : Int32) (x4 : Int32) (x5 : Int32) : entryFrame m #[(.ref x0), (.int x1), (.ref x2), (.int x3), (.int x4), (.int x5)] 11 = mkF m 0 #[.val (.ref x0), .val (.int x1), .val (.ref x2), .val (.int x3), .val (.int x4), .val (.int x5), .unset, .unset, .unset, .unset, .unset] [] := by first | (simp [entryFrame, mkF, argsToLocals, Value.category]; done) | rfl
def rmr7 : Room := { frames := 0, cells := 0, slots := 0, locals := 0 }
set_option maxRecDepth 65536 in
set_option maxHeartbeats 4000000 in
theorem mt7 (l : Launch) (Z : State) (a0 : Array Value) (hw : ∀ d ∈ tables_1, d.before a0 Z = true) (q : Addr) (cl : Int32) (f : Addr) (fr : Int32) (to : Int32) (rd : Int32) (aE aL aK aS aN aP aR : Addr) (u : PS) (fs : List Int32) (n NN fN tN : Nat) (h0 : Heap) (A : PA Z h0 q aE aL aK aS aN aP aR u) (FF : VA Z h0 f .int (fs.map Value.int)) (ND : [q, aE, aL, aK, aS, aN, aP, aR].Nodup) (hf : ∀ x ∈ [q, aE, aL, aK, aS, aN, aP, aR], x ≠ f) (k : Ok n NN u) (can : Can n cl (tN - fN) u) (hx : ∀ j, fN ≤ j → j < tN → inR n (fs.getD j 0)) (hcl : inR NN cl) (hfr : fr.toInt = fN) (hto : to.toInt = tN) (hft : fN ≤ tN) (hfs : tN ≤ fs.length) (hcnt : inR NN u.cnt) : Meth l Z (⟨"com/example/bisim_for_markov/bisimformarkov/analysis/Partition", "split", "(I[IIII)I"⟩ : MethodName) prog_61_method_7_code 11 (some .int) rmr7 #[(.ref q), (.int cl), (.ref f), (.int fr), (.int to), (.int rd)] h0 [q, aE, aL, aK, aS, aN, aP, aR] (fun v h' => v = some (.int u.cnt) ∧ PA Z h' q aE aL aK aS aN aP aR (oSplit cl fs fr to rd fN tN u)) := by
  refine Meth.of pn7 ?_
  intro p e s m below meth c T B X
  refine Go.entry (ef7_RIRIII m q cl f fr to rd) ?_
  refine giloadN B X d7_0 rfl (pc' := 1) rfl ?_
  refine gistore B X d7_1 (Ls' := #[.val (.ref q), .val (.int cl), .val (.ref f), .val (.int fr), .val (.int to), .val (.int rd), .val (.int fr), .unset, .unset, .unset, .unset]) rfl (pc' := 3) rfl ?_
  refine lp1 l Z a0 hw q aE aL aK aS aN aP aR f cl fr to rd fs n NN tN ND hf hto hfs hcl (fun x hx => Or.inl hx) B (tN - fN) fN u _ _ fr .unset .unset .unset .unset (by omega) hfr k can hx (Or.inl ⟨rfl, rfl, rfl, rfl⟩) A FF X fun T2 h2 i2 sa sb sc sd hsl X2 A2 F2 => ?_
  have R1 := own_run (tN - fN) fN u k hcl can (fun j a b => hx j a (by omega))
  generalize e_u1 : oRun cl fs fN (tN - fN) u = u1 at A2 R1
  obtain ⟨k1, hc1, hs1, -⟩ := R1
  have hcn : inR NN u1.cnt := by rw [hc1]; exact hcnt
  show Go p e below _ _ _ _ T2 (mkF m 89 #[.val (.ref q), .val (.int cl), .val (.ref f), .val (.int fr), .val (.int to), .val (.int rd), .val (.int i2), sa, sb, sc, sd] [])
  rcases hsl with ⟨rfl, rfl, rfl, rfl⟩ | ⟨x7, x8, x9, x10, rfl, rfl, rfl, rfl⟩
  · skip
    refine galoadN B X2 d7_89 rfl rfl (pc' := 90) rfl ?_
    refine gdup B X2 d7_90 rfl (pc' := 91) rfl ?_
    refine gget B X2 (hw _ (List.mem_of_getElem? (i := 38) rfl)) A2.1.2.2.2.2.2.2.2.2 d7_91 (pc' := 94) rfl fun T463 X464 => ?_
    refine gdup_x1 B X464 d7_94 rfl rfl (pc' := 95) rfl ?_
    refine giconst B X464 d7_95 (v := (1 : Int32)) rfl (pc' := 96) rfl ?_
    refine giadd B X464 d7_96 rfl (pc' := 97) rfl ?_
    refine gput B X464 (ty := .int) (hw _ (List.mem_of_getElem? (i := 38) rfl)) A2.1.2.2.2.2.2.2.2.2 A2.1.1 (Or.inl (hw _ (List.mem_of_getElem? (i := 39) rfl))) (hw _ (List.mem_of_getElem? (i := 12) rfl)) (by decide) rfl rfl (Or.inl (List.mem_of_getElem? (i := 0) rfl)) d7_97 (pc' := 100) rfl fun T465 h466 X467 W468 => ?_
    have O469 := Pt.set7 hw A2.1 W468
    have E470 := A2.2.2.2.2.2.2.2.2.wr W468
    have F471 := A2.2.1.other W468 (Ne.symm (own_nd ND 0 1 rfl rfl (by decide)))
    have F472 := A2.2.2.1.other W468 (Ne.symm (own_nd ND 0 2 rfl rfl (by decide)))
    have F473 := A2.2.2.2.1.other W468 (Ne.symm (own_nd ND 0 3 rfl rfl (by decide)))
    have F474 := A2.2.2.2.2.1.other W468 (Ne.symm (own_nd ND 0 4 rfl rfl (by decide)))
    have F475 := A2.2.2.2.2.2.1.other W468 (Ne.symm (own_nd ND 0 5 rfl rfl (by decide)))
    have F476 := A2.2.2.2.2.2.2.1.other W468 (Ne.symm (own_nd ND 0 6 rfl rfl (by decide)))
    have F477 := A2.2.2.2.2.2.2.2.1.other W468 (Ne.symm (own_nd ND 0 7 rfl rfl (by decide)))
    have F478 := F2.other W468 (Ne.symm (own_nf hf 0 rfl))
    refine gistore B X467 d7_100 (Ls' := #[.val (.ref q), .val (.int cl), .val (.ref f), .val (.int fr), .val (.int to), .val (.int rd), .val (.int u1.cnt), .unset, .unset, .unset, .unset]) rfl (pc' := 102) rfl ?_
    refine galoadN B X467 d7_102 rfl rfl (pc' := 103) rfl ?_
    refine gget B X467 (hw _ (List.mem_of_getElem? (i := 30) rfl)) O469.2.2.2.2.1 d7_103 (pc' := 106) rfl fun T479 X480 => ?_
    refine giload B X480 d7_106 rfl (pc' := 108) rfl ?_
    refine galoadN B X480 d7_108 rfl rfl (pc' := 109) rfl ?_
    refine gget B X480 (hw _ (List.mem_of_getElem? (i := 32) rfl)) O469.2.2.2.2.2.1 d7_109 (pc' := 112) rfl fun T481 X482 => ?_
    refine giloadN B X482 d7_112 rfl (pc' := 113) rfl ?_
    refine giaload B X482 F475 (n := NN) (by rw [List.length_map]; exact k1.2.2.2.2.1) hcl (v := (.int (u1.ns.getD cl.toNatClampNeg 0))) (own_at (by rw [k1.2.2.2.2.1]; exact own_nat hcl)) d7_113 (pc' := 114) rfl ?_
    refine giastore B X482 (i := u1.cnt.toNatClampNeg) F474 (n := NN) (by rw [List.length_map]; exact k1.2.2.2.1) hcn rfl (vs' := ((u1.ss.set u1.cnt.toNatClampNeg (u1.ns.getD cl.toNatClampNeg 0)).map Value.int)) (own_set _ _ _) (Or.inl (List.mem_of_getElem? (i := 4) rfl)) d7_114 (pc' := 115) rfl fun T483 h484 X485 W486 A487 => ?_
    have F488 := O469.other W486 (own_nd ND 0 4 rfl rfl (by decide))
    have E489 := E470.wr W486
    have F490 := F471.other W486 (own_nd ND 1 4 rfl rfl (by decide))
    have F491 := F472.other W486 (own_nd ND 2 4 rfl rfl (by decide))
    have F492 := F473.other W486 (own_nd ND 3 4 rfl rfl (by decide))
    have F493 := F475.other W486 (Ne.symm (own_nd ND 4 5 rfl rfl (by decide)))
    have F494 := F476.other W486 (Ne.symm (own_nd ND 4 6 rfl rfl (by decide)))
    have F495 := F477.other W486 (Ne.symm (own_nd ND 4 7 rfl rfl (by decide)))
    have F496 := F478.other W486 (Ne.symm (own_nf hf 4 rfl))
    refine galoadN B X485 d7_115 rfl rfl (pc' := 116) rfl ?_
    refine gget B X485 (hw _ (List.mem_of_getElem? (i := 32) rfl)) F488.2.2.2.2.2.1 d7_116 (pc' := 119) rfl fun T497 X498 => ?_
    refine giload B X498 d7_119 rfl (pc' := 121) rfl ?_
    refine galoadN B X498 d7_121 rfl rfl (pc' := 122) rfl ?_
    refine gget B X498 (hw _ (List.mem_of_getElem? (i := 32) rfl)) F488.2.2.2.2.2.1 d7_122 (pc' := 125) rfl fun T499 X500 => ?_
    refine giloadN B X500 d7_125 rfl (pc' := 126) rfl ?_
    refine giaload B X500 F493 (n := NN) (by rw [List.length_map]; exact k1.2.2.2.2.1) hcl (v := (.int (u1.ns.getD cl.toNatClampNeg 0))) (own_at (by rw [k1.2.2.2.2.1]; exact own_nat hcl)) d7_126 (pc' := 127) rfl ?_
    refine giload B X500 d7_127 rfl (pc' := 129) rfl ?_
    refine giadd B X500 d7_129 rfl (pc' := 130) rfl ?_
    refine giloadN B X500 d7_130 rfl (pc' := 131) rfl ?_
    refine gisub B X500 d7_131 rfl (pc' := 132) rfl ?_
    refine giastore B X500 (i := u1.cnt.toNatClampNeg) F493 (n := NN) (by rw [List.length_map]; exact k1.2.2.2.2.1) hcn rfl (vs' := ((u1.ns.set u1.cnt.toNatClampNeg ((u1.ns.getD cl.toNatClampNeg 0) + to - fr)).map Value.int)) (own_set _ _ _) (Or.inl (List.mem_of_getElem? (i := 5) rfl)) d7_132 (pc' := 133) rfl fun T501 h502 X503 W504 A505 => ?_
    have F506 := F488.other W504 (own_nd ND 0 5 rfl rfl (by decide))
    have E507 := E489.wr W504
    have F508 := F490.other W504 (own_nd ND 1 5 rfl rfl (by decide))
    have F509 := F491.other W504 (own_nd ND 2 5 rfl rfl (by decide))
    have F510 := F492.other W504 (own_nd ND 3 5 rfl rfl (by decide))
    have F511 := A487.other W504 (own_nd ND 4 5 rfl rfl (by decide))
    have F512 := F494.other W504 (Ne.symm (own_nd ND 5 6 rfl rfl (by decide)))
    have F513 := F495.other W504 (Ne.symm (own_nd ND 5 7 rfl rfl (by decide)))
    have F514 := F496.other W504 (Ne.symm (own_nf hf 5 rfl))
    refine galoadN B X503 d7_133 rfl rfl (pc' := 134) rfl ?_
    refine gget B X503 (hw _ (List.mem_of_getElem? (i := 34) rfl)) F506.2.2.2.2.2.2.1 d7_134 (pc' := 137) rfl fun T515 X516 => ?_
    refine giload B X516 d7_137 rfl (pc' := 139) rfl ?_
    refine giloadN B X516 d7_139 rfl (pc' := 140) rfl ?_
    refine giastore B X516 (i := u1.cnt.toNatClampNeg) F512 (n := NN) (by rw [List.length_map]; exact k1.2.2.2.2.2.1) hcn rfl (vs' := ((u1.ps.set u1.cnt.toNatClampNeg cl).map Value.int)) (own_set _ _ _) (Or.inl (List.mem_of_getElem? (i := 6) rfl)) d7_140 (pc' := 141) rfl fun T517 h518 X519 W520 A521 => ?_
    have F522 := F506.other W520 (own_nd ND 0 6 rfl rfl (by decide))
    have E523 := E507.wr W520
    have F524 := F508.other W520 (own_nd ND 1 6 rfl rfl (by decide))
    have F525 := F509.other W520 (own_nd ND 2 6 rfl rfl (by decide))
    have F526 := F510.other W520 (own_nd ND 3 6 rfl rfl (by decide))
    have F527 := F511.other W520 (own_nd ND 4 6 rfl rfl (by decide))
    have F528 := A505.other W520 (own_nd ND 5 6 rfl rfl (by decide))
    have F529 := F513.other W520 (Ne.symm (own_nd ND 6 7 rfl rfl (by decide)))
    have F530 := F514.other W520 (Ne.symm (own_nf hf 6 rfl))
    refine galoadN B X519 d7_141 rfl rfl (pc' := 142) rfl ?_
    refine gget B X519 (hw _ (List.mem_of_getElem? (i := 36) rfl)) F522.2.2.2.2.2.2.2.1 d7_142 (pc' := 145) rfl fun T531 X532 => ?_
    refine giload B X532 d7_145 rfl (pc' := 147) rfl ?_
    refine giload B X532 d7_147 rfl (pc' := 149) rfl ?_
    refine giastore B X532 (i := u1.cnt.toNatClampNeg) F529 (n := NN) (by rw [List.length_map]; exact k1.2.2.2.2.2.2.1) hcn rfl (vs' := ((u1.rs.set u1.cnt.toNatClampNeg rd).map Value.int)) (own_set _ _ _) (Or.inl (List.mem_of_getElem? (i := 7) rfl)) d7_149 (pc' := 150) rfl fun T533 h534 X535 W536 A537 => ?_
    have F538 := F522.other W536 (own_nd ND 0 7 rfl rfl (by decide))
    have E539 := E523.wr W536
    have F540 := F524.other W536 (own_nd ND 1 7 rfl rfl (by decide))
    have F541 := F525.other W536 (own_nd ND 2 7 rfl rfl (by decide))
    have F542 := F526.other W536 (own_nd ND 3 7 rfl rfl (by decide))
    have F543 := F527.other W536 (own_nd ND 4 7 rfl rfl (by decide))
    have F544 := F528.other W536 (own_nd ND 5 7 rfl rfl (by decide))
    have F545 := A521.other W536 (own_nd ND 6 7 rfl rfl (by decide))
    have F546 := F530.other W536 (Ne.symm (own_nf hf 7 rfl))
    refine giloadN B X535 d7_150 rfl (pc' := 151) rfl ?_
    refine gistore B X535 d7_151 (Ls' := #[.val (.ref q), .val (.int cl), .val (.ref f), .val (.int fr), .val (.int to), .val (.int rd), .val (.int u1.cnt), .val (.int fr), .unset, .unset, .unset]) rfl (pc' := 153) rfl ?_
    have A553 : PA Z h534 q aE aL aK aS aN aP aR (oNew cl fr to rd u1) := ⟨F538, F540, F541, F542, F543, F544, F545, A537, E539⟩
    refine lp2 l Z a0 hw q aE aL aK aS aN aP aR f cl fr to rd fs n NN tN ND hf hto hfs u1.cnt (fun x hx => Or.inl hx) B (tN - fN) fN (oNew cl fr to rd u1) _ _ fr _ _ _ (by omega) hfr k1.2.2.1 hx A553 F546 X535 fun T547 h548 i549 X550 A551 F552 => ?_
    show Go p e below _ _ _ _ T547 (mkF m 177 #[.val (.ref q), .val (.int cl), .val (.ref f), .val (.int fr), .val (.int to), .val (.int rd), .val (.int u1.cnt), .val (.int i549), .unset, .unset, .unset] [])
    refine giload B X550 d7_177 rfl (pc' := 179) rfl ?_
    exact gretI B X550 d7_179 (by decide) (by decide) (⟨by rw [hc1], by rw [oSplit, e_u1, ← hc1, ← hs1]; exact A551⟩)
  · skip
    refine galoadN B X2 d7_89 rfl rfl (pc' := 90) rfl ?_
    refine gdup B X2 d7_90 rfl (pc' := 91) rfl ?_
    refine gget B X2 (hw _ (List.mem_of_getElem? (i := 38) rfl)) A2.1.2.2.2.2.2.2.2.2 d7_91 (pc' := 94) rfl fun T554 X555 => ?_
    refine gdup_x1 B X555 d7_94 rfl rfl (pc' := 95) rfl ?_
    refine giconst B X555 d7_95 (v := (1 : Int32)) rfl (pc' := 96) rfl ?_
    refine giadd B X555 d7_96 rfl (pc' := 97) rfl ?_
    refine gput B X555 (ty := .int) (hw _ (List.mem_of_getElem? (i := 38) rfl)) A2.1.2.2.2.2.2.2.2.2 A2.1.1 (Or.inl (hw _ (List.mem_of_getElem? (i := 39) rfl))) (hw _ (List.mem_of_getElem? (i := 12) rfl)) (by decide) rfl rfl (Or.inl (List.mem_of_getElem? (i := 0) rfl)) d7_97 (pc' := 100) rfl fun T556 h557 X558 W559 => ?_
    have O560 := Pt.set7 hw A2.1 W559
    have E561 := A2.2.2.2.2.2.2.2.2.wr W559
    have F562 := A2.2.1.other W559 (Ne.symm (own_nd ND 0 1 rfl rfl (by decide)))
    have F563 := A2.2.2.1.other W559 (Ne.symm (own_nd ND 0 2 rfl rfl (by decide)))
    have F564 := A2.2.2.2.1.other W559 (Ne.symm (own_nd ND 0 3 rfl rfl (by decide)))
    have F565 := A2.2.2.2.2.1.other W559 (Ne.symm (own_nd ND 0 4 rfl rfl (by decide)))
    have F566 := A2.2.2.2.2.2.1.other W559 (Ne.symm (own_nd ND 0 5 rfl rfl (by decide)))
    have F567 := A2.2.2.2.2.2.2.1.other W559 (Ne.symm (own_nd ND 0 6 rfl rfl (by decide)))
    have F568 := A2.2.2.2.2.2.2.2.1.other W559 (Ne.symm (own_nd ND 0 7 rfl rfl (by decide)))
    have F569 := F2.other W559 (Ne.symm (own_nf hf 0 rfl))
    refine gistore B X558 d7_100 (Ls' := #[.val (.ref q), .val (.int cl), .val (.ref f), .val (.int fr), .val (.int to), .val (.int rd), .val (.int u1.cnt), .val (.int x7), .val (.int x8), .val (.int x9), .val (.int x10)]) rfl (pc' := 102) rfl ?_
    refine galoadN B X558 d7_102 rfl rfl (pc' := 103) rfl ?_
    refine gget B X558 (hw _ (List.mem_of_getElem? (i := 30) rfl)) O560.2.2.2.2.1 d7_103 (pc' := 106) rfl fun T570 X571 => ?_
    refine giload B X571 d7_106 rfl (pc' := 108) rfl ?_
    refine galoadN B X571 d7_108 rfl rfl (pc' := 109) rfl ?_
    refine gget B X571 (hw _ (List.mem_of_getElem? (i := 32) rfl)) O560.2.2.2.2.2.1 d7_109 (pc' := 112) rfl fun T572 X573 => ?_
    refine giloadN B X573 d7_112 rfl (pc' := 113) rfl ?_
    refine giaload B X573 F566 (n := NN) (by rw [List.length_map]; exact k1.2.2.2.2.1) hcl (v := (.int (u1.ns.getD cl.toNatClampNeg 0))) (own_at (by rw [k1.2.2.2.2.1]; exact own_nat hcl)) d7_113 (pc' := 114) rfl ?_
    refine giastore B X573 (i := u1.cnt.toNatClampNeg) F565 (n := NN) (by rw [List.length_map]; exact k1.2.2.2.1) hcn rfl (vs' := ((u1.ss.set u1.cnt.toNatClampNeg (u1.ns.getD cl.toNatClampNeg 0)).map Value.int)) (own_set _ _ _) (Or.inl (List.mem_of_getElem? (i := 4) rfl)) d7_114 (pc' := 115) rfl fun T574 h575 X576 W577 A578 => ?_
    have F579 := O560.other W577 (own_nd ND 0 4 rfl rfl (by decide))
    have E580 := E561.wr W577
    have F581 := F562.other W577 (own_nd ND 1 4 rfl rfl (by decide))
    have F582 := F563.other W577 (own_nd ND 2 4 rfl rfl (by decide))
    have F583 := F564.other W577 (own_nd ND 3 4 rfl rfl (by decide))
    have F584 := F566.other W577 (Ne.symm (own_nd ND 4 5 rfl rfl (by decide)))
    have F585 := F567.other W577 (Ne.symm (own_nd ND 4 6 rfl rfl (by decide)))
    have F586 := F568.other W577 (Ne.symm (own_nd ND 4 7 rfl rfl (by decide)))
    have F587 := F569.other W577 (Ne.symm (own_nf hf 4 rfl))
    refine galoadN B X576 d7_115 rfl rfl (pc' := 116) rfl ?_
    refine gget B X576 (hw _ (List.mem_of_getElem? (i := 32) rfl)) F579.2.2.2.2.2.1 d7_116 (pc' := 119) rfl fun T588 X589 => ?_
    refine giload B X589 d7_119 rfl (pc' := 121) rfl ?_
    refine galoadN B X589 d7_121 rfl rfl (pc' := 122) rfl ?_
    refine gget B X589 (hw _ (List.mem_of_getElem? (i := 32) rfl)) F579.2.2.2.2.2.1 d7_122 (pc' := 125) rfl fun T590 X591 => ?_
    refine giloadN B X591 d7_125 rfl (pc' := 126) rfl ?_
    refine giaload B X591 F584 (n := NN) (by rw [List.length_map]; exact k1.2.2.2.2.1) hcl (v := (.int (u1.ns.getD cl.toNatClampNeg 0))) (own_at (by rw [k1.2.2.2.2.1]; exact own_nat hcl)) d7_126 (pc' := 127) rfl ?_
    refine giload B X591 d7_127 rfl (pc' := 129) rfl ?_
    refine giadd B X591 d7_129 rfl (pc' := 130) rfl ?_
    refine giloadN B X591 d7_130 rfl (pc' := 131) rfl ?_
    refine gisub B X591 d7_131 rfl (pc' := 132) rfl ?_
    refine giastore B X591 (i := u1.cnt.toNatClampNeg) F584 (n := NN) (by rw [List.length_map]; exact k1.2.2.2.2.1) hcn rfl (vs' := ((u1.ns.set u1.cnt.toNatClampNeg ((u1.ns.getD cl.toNatClampNeg 0) + to - fr)).map Value.int)) (own_set _ _ _) (Or.inl (List.mem_of_getElem? (i := 5) rfl)) d7_132 (pc' := 133) rfl fun T592 h593 X594 W595 A596 => ?_
    have F597 := F579.other W595 (own_nd ND 0 5 rfl rfl (by decide))
    have E598 := E580.wr W595
    have F599 := F581.other W595 (own_nd ND 1 5 rfl rfl (by decide))
    have F600 := F582.other W595 (own_nd ND 2 5 rfl rfl (by decide))
    have F601 := F583.other W595 (own_nd ND 3 5 rfl rfl (by decide))
    have F602 := A578.other W595 (own_nd ND 4 5 rfl rfl (by decide))
    have F603 := F585.other W595 (Ne.symm (own_nd ND 5 6 rfl rfl (by decide)))
    have F604 := F586.other W595 (Ne.symm (own_nd ND 5 7 rfl rfl (by decide)))
    have F605 := F587.other W595 (Ne.symm (own_nf hf 5 rfl))
    refine galoadN B X594 d7_133 rfl rfl (pc' := 134) rfl ?_
    refine gget B X594 (hw _ (List.mem_of_getElem? (i := 34) rfl)) F597.2.2.2.2.2.2.1 d7_134 (pc' := 137) rfl fun T606 X607 => ?_
    refine giload B X607 d7_137 rfl (pc' := 139) rfl ?_
    refine giloadN B X607 d7_139 rfl (pc' := 140) rfl ?_
    refine giastore B X607 (i := u1.cnt.toNatClampNeg) F603 (n := NN) (by rw [List.length_map]; exact k1.2.2.2.2.2.1) hcn rfl (vs' := ((u1.ps.set u1.cnt.toNatClampNeg cl).map Value.int)) (own_set _ _ _) (Or.inl (List.mem_of_getElem? (i := 6) rfl)) d7_140 (pc' := 141) rfl fun T608 h609 X610 W611 A612 => ?_
    have F613 := F597.other W611 (own_nd ND 0 6 rfl rfl (by decide))
    have E614 := E598.wr W611
    have F615 := F599.other W611 (own_nd ND 1 6 rfl rfl (by decide))
    have F616 := F600.other W611 (own_nd ND 2 6 rfl rfl (by decide))
    have F617 := F601.other W611 (own_nd ND 3 6 rfl rfl (by decide))
    have F618 := F602.other W611 (own_nd ND 4 6 rfl rfl (by decide))
    have F619 := A596.other W611 (own_nd ND 5 6 rfl rfl (by decide))
    have F620 := F604.other W611 (Ne.symm (own_nd ND 6 7 rfl rfl (by decide)))
    have F621 := F605.other W611 (Ne.symm (own_nf hf 6 rfl))
    refine galoadN B X610 d7_141 rfl rfl (pc' := 142) rfl ?_
    refine gget B X610 (hw _ (List.mem_of_getElem? (i := 36) rfl)) F613.2.2.2.2.2.2.2.1 d7_142 (pc' := 145) rfl fun T622 X623 => ?_
    refine giload B X623 d7_145 rfl (pc' := 147) rfl ?_
    refine giload B X623 d7_147 rfl (pc' := 149) rfl ?_
    refine giastore B X623 (i := u1.cnt.toNatClampNeg) F620 (n := NN) (by rw [List.length_map]; exact k1.2.2.2.2.2.2.1) hcn rfl (vs' := ((u1.rs.set u1.cnt.toNatClampNeg rd).map Value.int)) (own_set _ _ _) (Or.inl (List.mem_of_getElem? (i := 7) rfl)) d7_149 (pc' := 150) rfl fun T624 h625 X626 W627 A628 => ?_
    have F629 := F613.other W627 (own_nd ND 0 7 rfl rfl (by decide))
    have E630 := E614.wr W627
    have F631 := F615.other W627 (own_nd ND 1 7 rfl rfl (by decide))
    have F632 := F616.other W627 (own_nd ND 2 7 rfl rfl (by decide))
    have F633 := F617.other W627 (own_nd ND 3 7 rfl rfl (by decide))
    have F634 := F618.other W627 (own_nd ND 4 7 rfl rfl (by decide))
    have F635 := F619.other W627 (own_nd ND 5 7 rfl rfl (by decide))
    have F636 := A612.other W627 (own_nd ND 6 7 rfl rfl (by decide))
    have F637 := F621.other W627 (Ne.symm (own_nf hf 7 rfl))
    refine giloadN B X626 d7_150 rfl (pc' := 151) rfl ?_
    refine gistore B X626 d7_151 (Ls' := #[.val (.ref q), .val (.int cl), .val (.ref f), .val (.int fr), .val (.int to), .val (.int rd), .val (.int u1.cnt), .val (.int fr), .val (.int x8), .val (.int x9), .val (.int x10)]) rfl (pc' := 153) rfl ?_
    have A644 : PA Z h625 q aE aL aK aS aN aP aR (oNew cl fr to rd u1) := ⟨F629, F631, F632, F633, F634, F635, F636, A628, E630⟩
    refine lp2 l Z a0 hw q aE aL aK aS aN aP aR f cl fr to rd fs n NN tN ND hf hto hfs u1.cnt (fun x hx => Or.inl hx) B (tN - fN) fN (oNew cl fr to rd u1) _ _ fr _ _ _ (by omega) hfr k1.2.2.1 hx A644 F637 X626 fun T638 h639 i640 X641 A642 F643 => ?_
    show Go p e below _ _ _ _ T638 (mkF m 177 #[.val (.ref q), .val (.int cl), .val (.ref f), .val (.int fr), .val (.int to), .val (.int rd), .val (.int u1.cnt), .val (.int i640), .val (.int x8), .val (.int x9), .val (.int x10)] [])
    refine giload B X641 d7_177 rfl (pc' := 179) rfl ?_
    exact gretI B X641 d7_179 (by decide) (by decide) (⟨by rw [hc1], by rw [oSplit, e_u1, ← hc1, ← hs1]; exact A642⟩)
theorem own_fillR (n : Nat) (hn : n < 1000) (f : Nat) : ∀ (i : Nat) (xs : List Int32), xs.length = n → i + f ≤ n → (∀ j, j < n → inR n (xs.getD j 0)) → ∀ j, j < n → inR n ((oFill i f xs).getD j 0) := by
  induction f with
  | zero => intro i xs _ _ h; exact h
  | succ f ih =>
    intro i xs hl hi h
    have e : (Int32.ofNat i).toInt = i := Int32.toInt_ofNat_of_lt (by omega)
    exact ih (i + 1) (xs.set i (Int32.ofNat i)) ((List.length_set ..).trans hl) (by omega) (own_setR h (by omega) ⟨by omega, by omega⟩)
theorem own_repR (n : Nat) : ∀ j, j < n → inR n ((List.replicate n (0 : Int32)).getD j 0) := by
  intro j hj
  have : (List.replicate n (0 : Int32)).getD j 0 = 0 := by simp [List.getD_eq_getElem?_getD, hj]
  rw [this]
  have z : (0 : Int32).toInt = 0 := rfl
  exact ⟨by omega, by omega⟩
theorem own_ok0 {k : Int32} {nN : Nat} (h15 : nN ≤ 15) : Ok nN (max nN 1) (oS0 k nN) := by
  refine ⟨(own_fillLen ..).trans (List.length_replicate ..), (own_fillLen ..).trans (List.length_replicate ..), List.length_replicate .., List.length_replicate .., (List.length_set ..).trans (List.length_replicate ..), (List.length_set ..).trans (List.length_replicate ..), List.length_replicate .., ?_, ?_⟩
  · exact own_fillR nN (by omega) nN 0 _ (List.length_replicate ..) (by omega) (own_repR nN)
  · exact own_fillR nN (by omega) nN 0 _ (List.length_replicate ..) (by omega) (own_repR nN)
theorem own_n00 (k : Int32) (nN : Nat) : (oS0 k nN).ns.getD 0 0 = k := by
  show ((List.replicate (max nN 1) (0 : Int32)).set 0 k).getD 0 0 = k
  rw [own_getset _ _ _ _ (by rw [List.length_replicate]; omega), if_pos rfl]
theorem own_s00 (k : Int32) (nN : Nat) : (oS0 k nN).ss.getD 0 0 = 0 := by
  show (List.replicate (max nN 1) (0 : Int32)).getD 0 0 = 0
  rw [List.getD_eq_getElem?_getD, List.getElem?_replicate]; split <;> rfl
theorem own_split {n NN fN tN ci cc : Nat} {cl fr to rd : Int32} {fs : List Int32} {u : PS} (hn : n < 1000) (k : Ok n NN u) (hcl : inR NN cl) (can : Can n cl (tN - fN) u) (hx : ∀ j, fN ≤ j → j < tN → inR n (fs.getD j 0)) (hcnt : inR NN u.cnt) (hfr : fr.toInt = fN) (hto : to.toInt = tN) (hft : fN ≤ tN) (hci : cl.toNatClampNeg = ci) (hcc : u.cnt.toNatClampNeg = cc) (hne : ci ≠ cc) :
    Ok n NN (oSplit cl fs fr to rd fN tN u) ∧ (oSplit cl fs fr to rd fN tN u).cnt = u.cnt + (1 : Int32) ∧ ((oSplit cl fs fr to rd fN tN u).ns.getD ci 0).toInt = (u.ns.getD ci 0).toInt - (tN - fN : Nat) ∧ ((oSplit cl fs fr to rd fN tN u).ns.getD cc 0).toInt = (u.ns.getD ci 0).toInt ∧ ((oSplit cl fs fr to rd fN tN u).ss.getD cc 0).toInt = (u.ns.getD ci 0).toInt - (tN - fN : Nat) ∧ (∀ j, j ≠ ci → j ≠ cc → (oSplit cl fs fr to rd fN tN u).ns.getD j 0 = u.ns.getD j 0) ∧ (∀ j, j ≠ cc → (oSplit cl fs fr to rd fN tN u).ss.getD j 0 = u.ss.getD j 0) := by
  obtain ⟨c1, c2⟩ := can
  obtain ⟨r1, r2, r3, r4, r5, r6, r7, r8⟩ := own_run (fs := fs) (tN - fN) fN u k hcl ⟨c1, c2⟩ (fun j a b => hx j a (by omega))
  unfold oSplit
  generalize oRun cl fs fN (tN - fN) u = w at r1 r2 r3 r4 r5 r6 r7 r8
  obtain ⟨k1, k2, k3, k4, k5, k6, k7, k8, k9⟩ := r1
  rw [hci] at r7 r8 c1 c2
  have hcw : w.cnt.toNatClampNeg = cc := by rw [r2]; exact hcc
  have hccN : cc < NN := by rw [← hcc]; exact own_nat hcnt
  have hciN : ci < NN := by rw [← hci]; exact own_nat hcl
  have en : ((oNew cl fr to rd w).wcs (oCls u.cnt fs fN (tN - fN) u.cs)).ns = w.ns.set cc (w.ns.getD ci 0 + to - fr) := by
    show w.ns.set w.cnt.toNatClampNeg (w.ns.getD cl.toNatClampNeg 0 + to - fr) = _
    rw [hcw, hci]
  have es : ((oNew cl fr to rd w).wcs (oCls u.cnt fs fN (tN - fN) u.cs)).ss = w.ss.set cc (w.ns.getD ci 0) := by
    show w.ss.set w.cnt.toNatClampNeg (w.ns.getD cl.toNatClampNeg 0) = _
    rw [hcw, hci]
  rw [en, es]
  refine ⟨⟨k1, k2, ?_, ?_, ?_, ?_, ?_, k8, k9⟩, ?_, ?_, ?_, ?_, ?_, ?_⟩
  · show (oCls u.cnt fs fN (tN - fN) u.cs).length = n
    rw [own_clsLen]; exact k.2.2.1
  · exact (List.length_set ..).trans k4
  · exact (List.length_set ..).trans k5
  · exact (List.length_set ..).trans k6
  · exact (List.length_set ..).trans k7
  · show w.cnt + 1 = _
    rw [r2]
  · rw [own_getset _ _ _ _ (by omega), if_neg (Ne.symm hne), r7]
  · rw [own_getset _ _ _ _ (by omega), if_pos rfl]
    have a1 := c_iadd (w.ns.getD ci 0) to; have a2 := rng32 (w.ns.getD ci 0 + to)
    have b1 := c_isub (w.ns.getD ci 0 + to) fr; have b2 := rng32 (w.ns.getD ci 0 + to - fr)
    have b3 := rng32 to; have b4 := rng32 fr; have b5 := rng32 (w.ns.getD ci 0)
    omega
  · rw [own_getset _ _ _ _ (by omega), if_pos rfl, r7]
  · intro j h1 h2
    rw [own_getset _ _ _ _ (by omega), if_neg (Ne.symm h2), r8 j h1]
  · intro j h2
    rw [own_getset _ _ _ _ (by omega), if_neg (Ne.symm h2), r4]
theorem own_n (x : Int32) : ∃ nN : Nat, (x &&& (15 : Int32)).toInt = nN ∧ nN ≤ 15 := by
  have h := c_mask x 15 4 (by decide) (by decide)
  exact ⟨(x &&& (15 : Int32)).toInt.toNat, by omega, by omega⟩
theorem own_k4 (x : Int32) : ∃ kN : Nat, ((x &&& (2147483647 : Int32)) % (4 : Int32)).toInt = kN ∧ kN ≤ 3 := by
  have h := c_mask x 2147483647 31 (by decide) (by decide)
  have h2 := (c_irem (x &&& 2147483647) 4 4 (by decide)).1 (by rw [h]; omega)
  exact ⟨((x &&& (2147483647 : Int32)) % (4 : Int32)).toInt.toNat, by omega, by omega⟩
theorem own_remR {x d : Int32} {dN : Nat} (hd : d.toInt = dN) (h0 : 0 < dN) (hx : 0 ≤ x.toInt) : inR dN (x % d) := by
  have h2 := (c_irem x d dN hd).1 hx
  unfold inR
  rw [h2]
  exact ⟨Int.emod_nonneg _ (by omega), Int.emod_lt_of_pos _ (by omega)⟩
theorem own_m31 (x : Int32) : 0 ≤ (x &&& (2147483647 : Int32)).toInt := by
  have h := c_mask x 2147483647 31 (by decide) (by decide)
  omega
theorem own_toN {n : Nat} {x : Int32} (h : inR n x) : ∃ xN : Nat, x.toInt = xN ∧ xN < n := ⟨x.toInt.toNat, by have := h.1; omega, by have := h.1; have := h.2; omega⟩
theorem own_nz {x : Int32} {n : Nat} (h : x.toInt = n) (h0 : 0 < n) : x ≠ 0 := by rintro rfl; have z : (0 : Int32).toInt = 0 := rfl; omega
theorem own_hx3 {n kN : Nat} {a b c : Int32} (ha : inR n a) (hb : inR n b) (hc : inR n c) (hk : kN ≤ 3) : ∀ j, 0 ≤ j → j < kN → inR n (([a, b, c] : List Int32).getD j 0) := by
  intro j _ hj
  match j, (show j < 3 by omega) with
  | 0, _ => exact ha
  | 1, _ => exact hb
  | 2, _ => exact hc
theorem own_hx2 {n kN : Nat} {a b : Int32} (ha : inR n a) (hb : inR n b) (hk : kN ≤ 2) : ∀ j, 0 ≤ j → j < kN → inR n (([a, b] : List Int32).getD j 0) := by
  intro j _ hj
  match j, (show j < 2 by omega) with
  | 0, _ => exact ha
  | 1, _ => exact hb
theorem own_lit {NN : Nat} {x : Int32} {a : Nat} (hx : x.toInt = a) (h : a < NN) : inR NN x := ⟨by omega, by omega⟩

def oput (S : Int32) (t : List Int32 × Nat) (x : Int32) : List Int32 × Nat := if ((S >>> (x &&& 31)) &&& (1 : Int32)) = (0 : Int32) then t else (t.1.set t.2 x, t.2 + 1)
def ocand (q : Int32) : List Int32 := [(0 : Int32) ^^^ q, (1 : Int32) ^^^ q, (2 : Int32) ^^^ q, (3 : Int32) ^^^ q]
def oplace (S q : Int32) (t : List Int32 × Nat) : List Int32 × Nat := (ocand q).foldl (oput S) t
def oseq (S q : Int32) : List Int32 := (ocand q).filter fun x => decide (¬ ((S >>> (x &&& 31)) &&& (1 : Int32)) = (0 : Int32))
def osub (xs : List Int32) (fN tN : Nat) : List Int32 := (List.range (tN - fN)).map fun i => xs.getD (fN + i) 0
theorem own_putL (S : Int32) (t : List Int32 × Nat) (x : Int32) : (oput S t x).1.length = t.1.length ∧ (oput S t x).2 ≤ t.2 + 1 := by
  unfold oput; split
  · exact ⟨rfl, by omega⟩
  · exact ⟨List.length_set .., by show t.2 + 1 ≤ _; omega⟩
theorem own_fold (S : Int32) (cs : List Int32) : ∀ (t : List Int32 × Nat), t.2 + cs.length ≤ t.1.length →
    (cs.foldl (oput S) t).1.length = t.1.length ∧ (cs.foldl (oput S) t).2 = t.2 + (cs.filter fun x => decide (¬ ((S >>> (x &&& 31)) &&& (1 : Int32)) = (0 : Int32))).length ∧
    (∀ j, j < (cs.filter fun x => decide (¬ ((S >>> (x &&& 31)) &&& (1 : Int32)) = (0 : Int32))).length → (cs.foldl (oput S) t).1.getD (t.2 + j) 0 = (cs.filter fun x => decide (¬ ((S >>> (x &&& 31)) &&& (1 : Int32)) = (0 : Int32))).getD j 0) ∧ ∀ j, j < t.2 → (cs.foldl (oput S) t).1.getD j 0 = t.1.getD j 0 := by
  induction cs with
  | nil => intro t _; exact ⟨rfl, rfl, fun j hj => absurd hj (Nat.not_lt_zero _), fun _ _ => rfl⟩
  | cons x cs ih =>
    intro t ht
    rw [List.length_cons] at ht
    rw [List.foldl_cons]
    by_cases c : ((S >>> (x &&& 31)) &&& (1 : Int32)) = (0 : Int32)
    · have e : oput S t x = t := by unfold oput; rw [if_pos c]
      rw [e, List.filter_cons_of_neg (by simpa using c)]
      exact ih t (by omega)
    · have e : oput S t x = (t.1.set t.2 x, t.2 + 1) := by unfold oput; rw [if_neg c]
      rw [e, List.filter_cons_of_pos (by simpa using c)]
      obtain ⟨i1, i2, i3, i4⟩ := ih (t.1.set t.2 x, t.2 + 1) (by show t.2 + 1 + cs.length ≤ (t.1.set t.2 x).length; rw [List.length_set]; omega)
      refine ⟨i1.trans (List.length_set ..), by rw [i2, List.length_cons]; show t.2 + 1 + _ = _; omega, fun j hj => ?_, fun j hj => ?_⟩
      · cases j with
        | zero =>
          refine (i4 t.2 (Nat.lt_succ_self _)).trans ?_
          show (t.1.set t.2 x).getD t.2 0 = x
          rw [own_getset _ _ _ _ (by omega), if_pos rfl]
        | succ j =>
          have := i3 j (by rw [List.length_cons] at hj; omega)
          have e2 : t.2 + (j + 1) = t.2 + 1 + j := by omega
          rw [e2]; exact this
      · rw [i4 j (by show j < t.2 + 1; omega)]
        show (t.1.set t.2 x).getD j 0 = _
        rw [own_getset _ _ _ _ (by omega), if_neg (by omega)]
theorem own_place {S q : Int32} {ys : List Int32} {fN : Nat} (hl : ys.length = 6) (hf : fN ≤ 2) : (oplace S q (ys, fN)).1.length = 6 ∧ (oplace S q (ys, fN)).2 = fN + (oseq S q).length ∧ ∀ j, j < (oseq S q).length → (oplace S q (ys, fN)).1.getD (fN + j) 0 = (oseq S q).getD j 0 := by
  have h := own_fold S (ocand q) (ys, fN) (by show fN + 4 ≤ ys.length; omega)
  exact ⟨h.1.trans hl, h.2.1, h.2.2.1⟩
theorem own_seqLen (S q : Int32) : (oseq S q).length ≤ 4 := List.length_filter_le ..
/-- a split told by the list of the elements -/
def oMs (cl : Int32) (xs : List Int32) (u : PS) : PS := xs.foldl (fun u x => oMove cl x u) u
theorem own_runL (cl : Int32) (fs : List Int32) (xs : List Int32) : ∀ (i : Nat) (u : PS), (∀ j, j < xs.length → fs.getD (i + j) 0 = xs.getD j 0) → oRun cl fs i xs.length u = oMs cl xs u := by
  induction xs with
  | nil => intro i u _; rfl
  | cons x xs ih =>
    intro i u h
    have h0 : fs.getD i 0 = x := h 0 (Nat.succ_pos _)
    show oRun cl fs (i + 1) xs.length (oMove cl (fs.getD i 0) u) = oMs cl xs (oMove cl x u)
    rw [h0]
    exact ih (i + 1) _ fun j hj => by have := h (j + 1) (Nat.succ_lt_succ hj); rw [show i + 1 + j = i + (j + 1) by omega, this]; rfl
theorem own_clsL (kc : Int32) (fs : List Int32) (xs : List Int32) : ∀ (i : Nat) (ys : List Int32), (∀ j, j < xs.length → fs.getD (i + j) 0 = xs.getD j 0) → oCls kc fs i xs.length ys = xs.foldl (fun y x => y.set x.toNatClampNeg kc) ys := by
  induction xs with
  | nil => intro i u _; rfl
  | cons x xs ih =>
    intro i u h
    have h0 : fs.getD i 0 = x := h 0 (Nat.succ_pos _)
    show oCls kc fs (i + 1) xs.length (u.set (fs.getD i 0).toNatClampNeg kc) = xs.foldl (fun y x => y.set x.toNatClampNeg kc) (u.set x.toNatClampNeg kc)
    rw [h0]
    exact ih (i + 1) _ fun j hj => by have := h (j + 1) (Nat.succ_lt_succ hj); rw [show i + 1 + j = i + (j + 1) by omega, this]; rfl
def PS.nors (u : PS) : PS := (u.es, u.ls, u.cs, u.ss, u.ns, u.ps, [], u.cnt)
def oSp (cl : Int32) (xs : List Int32) (u : PS) : PS := ((oMs cl xs u).es, (oMs cl xs u).ls, xs.foldl (fun y x => y.set x.toNatClampNeg u.cnt) u.cs, (oMs cl xs u).ss.set u.cnt.toNatClampNeg ((oMs cl xs u).ns.getD cl.toNatClampNeg 0), (oMs cl xs u).ns.set u.cnt.toNatClampNeg ((oMs cl xs u).ns.getD cl.toNatClampNeg 0 + Int32.ofNat xs.length), (oMs cl xs u).ps.set u.cnt.toNatClampNeg cl, [], u.cnt + (1 : Int32))
theorem own_msn (cl : Int32) (xs : List Int32) : ∀ (u : PS), (oMs cl xs u).nors = oMs cl xs u.nors ∧ (oMs cl xs u).cnt = u.cnt ∧ (oMs cl xs u).rs = u.rs := by
  induction xs with
  | nil => intro u; exact ⟨rfl, rfl, rfl⟩
  | cons x xs ih => intro u; exact ih (oMove cl x u)
theorem own_tofr {x to fr : Int32} {fN tN n : Nat} (hfr : fr.toInt = fN) (hto : to.toInt = tN) (h : tN = fN + n) (hn : n < 1000) : x + to - fr = x + Int32.ofNat n := by
  have e : (Int32.ofNat n).toInt = n := Int32.toInt_ofNat_of_lt (by omega)
  have a1 := c_iadd x to; have b1 := c_isub (x + to) fr; have a2 := c_iadd x (Int32.ofNat n)
  have r1 := rng32 (x + to - fr); have r2 := rng32 (x + Int32.ofNat n)
  apply Int32.toInt_inj.mp
  omega
theorem own_sp {cl fr to rd : Int32} {fs xs : List Int32} {fN tN : Nat} {u : PS} (hfr : fr.toInt = fN) (hto : to.toInt = tN) (h : tN = fN + xs.length) (hn : xs.length < 1000) (hx : ∀ j, j < xs.length → fs.getD (fN + j) 0 = xs.getD j 0) : (oSplit cl fs fr to rd fN tN u).nors = oSp cl xs u.nors ∧ (oSplit cl fs fr to rd fN tN u).rs = u.rs.set u.cnt.toNatClampNeg rd := by
  have e : tN - fN = xs.length := by omega
  have m := own_msn cl xs u
  unfold oSplit
  rw [e, own_runL cl fs xs fN u hx, own_clsL u.cnt fs xs fN u.cs hx]
  refine ⟨?_, ?_⟩
  · unfold oSp
    rw [← m.1]
    show ((oMs cl xs u).es, (oMs cl xs u).ls, _, (oMs cl xs u).ss.set (oMs cl xs u).cnt.toNatClampNeg _, (oMs cl xs u).ns.set (oMs cl xs u).cnt.toNatClampNeg ((oMs cl xs u).ns.getD cl.toNatClampNeg 0 + to - fr), (oMs cl xs u).ps.set (oMs cl xs u).cnt.toNatClampNeg cl, [], (oMs cl xs u).cnt + 1) = _
    rw [m.2.1, own_tofr hfr hto h hn]
    rfl
  · show (oMs cl xs u).rs.set (oMs cl xs u).cnt.toNatClampNeg rd = _
    rw [m.2.1, m.2.2]
theorem own_f4 (x : Int32) : ∃ A : Fin 16, (x &&& (15 : Int32)) = Int32.ofNat A.1 := by
  have h := c_mask x 15 4 (by decide) (by decide)
  refine ⟨⟨(x &&& 15).toInt.toNat, by omega⟩, ?_⟩
  apply Int32.toInt_inj.mp
  show _ = (Int32.ofNat (x &&& 15).toInt.toNat).toInt
  rw [Int32.toInt_ofNat_of_lt (by omega)]
  omega
theorem own_f2 (x : Int32) : ∃ A : Fin 4, (x &&& (3 : Int32)) = Int32.ofNat A.1 := by
  have h := c_mask x 3 2 (by decide) (by decide)
  refine ⟨⟨(x &&& 3).toInt.toNat, by omega⟩, ?_⟩
  apply Int32.toInt_inj.mp
  show _ = (Int32.ofNat (x &&& 3).toInt.toNat).toInt
  rw [Int32.toInt_ofNat_of_lt (by omega)]
  omega
theorem own_fr (x : Int32) : ∃ fN : Nat, ((x &&& (3 : Int32)) % (3 : Int32)).toInt = fN ∧ fN ≤ 2 := by
  have h := c_mask x 3 2 (by decide) (by decide)
  have h2 := (c_irem (x &&& 3) 3 3 (by decide)).1 (by rw [h]; omega)
  exact ⟨((x &&& (3 : Int32)) % (3 : Int32)).toInt.toNat, by omega, by omega⟩
theorem own_candR : ∀ q : Fin 4, ∀ x ∈ ocand (Int32.ofNat q.1), 0 ≤ x.toInt ∧ x.toInt < (4 : Nat) := by decide
theorem own_seqR {S q : Int32} (hq : ∃ A : Fin 4, q = Int32.ofNat A.1) : ∀ x ∈ oseq S q, inR 4 x := by
  obtain ⟨A, rfl⟩ := hq
  intro x hx
  exact own_candR A x (List.mem_filter.mp hx).1
theorem own_hxs {fs xs : List Int32} {fN tN : Nat} (h : tN = fN + xs.length) (hx : ∀ j, j < xs.length → fs.getD (fN + j) 0 = xs.getD j 0) (hr : ∀ x ∈ xs, inR 4 x) : ∀ j, fN ≤ j → j < tN → inR 4 (fs.getD j 0) := by
  intro j h1 h2
  have e := hx (j - fN) (by omega)
  rw [show fN + (j - fN) = j by omega] at e
  rw [e]
  have hj : j - fN < xs.length := by omega
  have : xs.getD (j - fN) 0 = xs[j - fN] := by simp [hj]
  rw [this]
  exact hr _ (List.getElem_mem hj)
theorem own_sub4 {xs : List Int32} (h : xs.length = 4) : osub xs 0 4 = xs := by
  match xs, h with
  | [a, b, c, d], _ => rfl
theorem own_fitsI (xs : List Int32) : ∀ v ∈ xs.map Value.int, fits .int v = true := by
  intro v hv
  obtain ⟨x, -, rfl⟩ := List.mem_map.mp hv
  rfl
theorem own_lt6 {pN fN i : Nat} (h : pN ≤ fN + i) (hf : fN ≤ 2) (hi : i ≤ 3) : pN < 6 := by omega

section Cp
variable {p : Program} {l : Launch} {e : Env} {R : Room} {s : State} {m : MethodId} {args : Array Value} {below : List Frame} {meth : Method} {c : Code} {Z : State} {bytes : ByteArray} {maxL : Nat} {own nm : String} {ret : Option FieldType} {h0 : Heap} {T : State} {h : Heap} {cells slots : Nat} {FE : State → Outcome → List Loc → Prop} {Q : Option Value → Heap → Prop} {pc pc' : Nat} {Ls : Array Slot} {st : List Value} {a0 : Array Value}
theorem own_arv {a : Addr} {xs : List Int32} (A : VA Z h a .int (xs.map Value.int)) : ∃ k, Arv Z h a k .int (Int32.ofNat xs.length) (xs.map Value.int) (.int 0) := by
  obtain ⟨cl, A, r, q⟩ := A
  rw [List.length_map] at q
  have e : (Int32.ofNat xs.length).toInt = xs.length := Int32.toInt_ofNat_of_lt (by omega)
  have e2 : (Int32.ofNat xs.length).toNatClampNeg = xs.length := by simp only [Int32.toNatClampNeg]; omega
  have sz : cl.slots.size = xs.length := by rw [r]; simp
  refine ⟨_, cl, A, rfl, by rw [e2, sz], ?_, fun i hi => ?_, fun i hi => ?_⟩
  · rw [Int32.lt_iff_toInt_lt, e]; have z : (0 : Int32).toInt = 0 := rfl
    omega
  · rw [sz] at hi
    rw [r]; simp [hi]
  · rw [sz] at hi
    simp [hi, fits]
theorem gcopy (B : Fix p Z s m meth c bytes maxL own nm ret) (X : St p l e R s m args below meth c h0 [] T h cells slots) {a b : Addr} {i W : Nat} {xs ys us : List Int32} {sp dp nn : Int32} {sN nN : Nat} (w1 : (Cond.methodLink own i Jvm.Stand.acN).before a0 Z = true) (w2 : (Cond.native Jvm.Stand.acN).before a0 Z = true) (w3 : (Cond.static Jvm.Stand.acN).before a0 Z = true) (w4 : (Cond.initialized "java/lang/System").before a0 Z = true)
    (A : VA Z h a .int (xs.map Value.int)) (A' : VA Z h b .int (ys.map Value.int)) (hs : sp.toInt = sN) (hd0 : dp = 0) (hn : nn.toInt = nN) (hl : sN + nN ≤ xs.length) (hy : ys.length = nN) (hus : us = (List.range nN).map fun i => xs.getD (sN + i) 0) (ge : h0.size ≤ b)
    (hsz : Ls.size = maxL) (hfr : 1 ≤ R.frames) (hW : (st.map fun v => v.category).sum ≤ W) (hlo : W + (nativeFrameWords "java/lang/System" "arraycopy" 5 + 11) ≤ R.locals) (hd : decode bytes pc = .ok (.invokestatic i, 3)) (hp : pc' = pc + 3)
    (g : ∀ T' h', St p l e R s m args below meth c h0 [] T' h' cells slots → Keep h h' [b] → VA Z h' b .int (us.map Value.int) → Go p e below FE h0 [] Q T' (mkF m pc' Ls st)) : Go p e below FE h0 [] Q T (mkF m pc Ls (.int nn :: .int dp :: .ref b :: .int sp :: .ref a :: st)) := by
  subst hp; subst hd0
  obtain ⟨L0, X, eT, KK, FF⟩ := X
  have lx := A.len31
  have ly := A'.len31
  rw [List.length_map] at lx ly
  obtain ⟨k1, V1⟩ := own_arv A
  obtain ⟨k2, V2⟩ := own_arv A'
  have cl : ∀ {x : Int32} {n : Nat}, x.toInt = n → x.toNatClampNeg = n ∧ ¬ x < 0 := by
    intro x n h
    have z : (0 : Int32).toInt = 0 := rfl
    exact ⟨by simp only [Int32.toNatClampNeg]; omega, by rw [Int32.lt_iff_toInt_lt]; omega⟩
  have e1 := (cl (Int32.toInt_ofNat_of_lt (n := xs.length) (by omega))).1
  have e2 := (cl (Int32.toInt_ofNat_of_lt (n := ys.length) (by omega))).1
  have z0 : (0 : Int32).toNatClampNeg = 0 := rfl
  have FF' : Fr h0.size L0 := fun y q => (FF y q).elim (fun z => nomatch z) id
  obtain ⟨T', h', L', X', eT', N', K', V', k⟩ := cpA X B.1 B.2.1 B.2.2.2.2.1 w1 w2 w3 w4 eT V1 V2 (Or.inl ⟨rfl, rfl⟩) (cl hs).2 (by decide) (cl hn).2 (by rw [(cl hs).1, (cl hn).1, e1]; exact hl) (by rw [z0, (cl hn).1, e2, hy]; omega)
    (us := us.map Value.int) (by rw [hus, (cl hs).1, (cl hn).1, List.map_map]; refine List.map_congr_left fun i hi => ?_; have hi := List.mem_range.mp hi; simp [show sN + i < xs.length by omega]) (by rw [z0, (cl hn).1, List.length_map, hy]; omega) FF' ge (g := mkF m pc Ls (.int nn :: .int 0 :: .ref b :: .int sp :: .ref a :: st)) rfl (hsz.trans B.2.2.2.1.symm) rfl (hb B.2.2.1 hd) hfr (W := W) (by show 2 * 0 + _ ≤ _; rw [Nat.mul_zero, Nat.zero_add]; exact hW) hlo
  refine Go.to k (g T' h' ⟨L', X', eT', KK.trans K' (fun x q => by rw [List.mem_singleton] at q; subst q; exact Or.inr ge), fun y q => Or.inr (N' y q)⟩ K' ?_)
  obtain ⟨c2, A2, -, S2, -, H2, -⟩ := V'
  have ul : us.length = nN := by rw [hus]; simp
  have el : (List.take (0 : Int32).toNatClampNeg (ys.map Value.int) ++ us.map Value.int ++ List.drop ((0 : Int32).toNatClampNeg + nn.toNatClampNeg) (ys.map Value.int)) = us.map Value.int := by
    rw [z0, (cl hn).1, List.take_zero, List.nil_append, List.drop_eq_nil_of_le (by rw [List.length_map]; omega), List.append_nil]
  rw [el] at H2
  refine ⟨c2, A2, ?_, by rw [List.length_map]; omega⟩
  apply Array.ext
  · rw [S2, e2]; simp; omega
  · intro j h1 h2
    have := H2 j h1
    rw [Array.getElem?_eq_getElem h1] at this
    have h3 : j < us.length := by simpa using h2
    simp [h3] at this
    simpa using this
end Cp

theorem d1_0 : decode method_4_code 0 = .ok (.aload_n 0, 1) := by decide +kernel
theorem d1_1 : decode method_4_code 1 = .ok (.iconst 0, 1) := by decide +kernel
theorem d1_2 : decode method_4_code 2 = .ok (.iload_n 1, 1) := by decide +kernel
theorem d1_3 : decode method_4_code 3 = .ok (.iconst 3, 1) := by decide +kernel
theorem d1_4 : decode method_4_code 4 = .ok (.iand, 1) := by decide +kernel
theorem d1_5 : decode method_4_code 5 = .ok (.iastore, 1) := by decide +kernel
theorem d1_6 : decode method_4_code 6 = .ok (.aload_n 0, 1) := by decide +kernel
theorem d1_7 : decode method_4_code 7 = .ok (.iconst 1, 1) := by decide +kernel
theorem d1_8 : decode method_4_code 8 = .ok (.iload_n 1, 1) := by decide +kernel
theorem d1_9 : decode method_4_code 9 = .ok (.iconst 2, 1) := by decide +kernel
theorem d1_10 : decode method_4_code 10 = .ok (.iushr, 1) := by decide +kernel
theorem d1_11 : decode method_4_code 11 = .ok (.iconst 3, 1) := by decide +kernel
theorem d1_12 : decode method_4_code 12 = .ok (.iand, 1) := by decide +kernel
theorem d1_13 : decode method_4_code 13 = .ok (.iastore, 1) := by decide +kernel
theorem d1_14 : decode method_4_code 14 = .ok (.aload_n 0, 1) := by decide +kernel
theorem d1_15 : decode method_4_code 15 = .ok (.iconst 2, 1) := by decide +kernel
theorem d1_16 : decode method_4_code 16 = .ok (.iload_n 1, 1) := by decide +kernel
theorem d1_17 : decode method_4_code 17 = .ok (.iconst 4, 1) := by decide +kernel
theorem d1_18 : decode method_4_code 18 = .ok (.iushr, 1) := by decide +kernel
theorem d1_19 : decode method_4_code 19 = .ok (.iconst 3, 1) := by decide +kernel
theorem d1_20 : decode method_4_code 20 = .ok (.iand, 1) := by decide +kernel
theorem d1_21 : decode method_4_code 21 = .ok (.iastore, 1) := by decide +kernel
theorem d1_22 : decode method_4_code 22 = .ok (.aload_n 0, 1) := by decide +kernel
theorem d1_23 : decode method_4_code 23 = .ok (.iconst 3, 1) := by decide +kernel
theorem d1_24 : decode method_4_code 24 = .ok (.iload_n 1, 1) := by decide +kernel
theorem d1_25 : decode method_4_code 25 = .ok (.bipush 6, 2) := by decide +kernel
theorem d1_27 : decode method_4_code 27 = .ok (.iushr, 1) := by decide +kernel
theorem d1_28 : decode method_4_code 28 = .ok (.iconst 3, 1) := by decide +kernel
theorem d1_29 : decode method_4_code 29 = .ok (.iand, 1) := by decide +kernel
theorem d1_30 : decode method_4_code 30 = .ok (.iastore, 1) := by decide +kernel
theorem d1_31 : decode method_4_code 31 = .ok (.aload_n 0, 1) := by decide +kernel
theorem d1_32 : decode method_4_code 32 = .ok (.iconst 4, 1) := by decide +kernel
theorem d1_33 : decode method_4_code 33 = .ok (.iload_n 1, 1) := by decide +kernel
theorem d1_34 : decode method_4_code 34 = .ok (.bipush 8, 2) := by decide +kernel
theorem d1_36 : decode method_4_code 36 = .ok (.iushr, 1) := by decide +kernel
theorem d1_37 : decode method_4_code 37 = .ok (.iconst 3, 1) := by decide +kernel
theorem d1_38 : decode method_4_code 38 = .ok (.iand, 1) := by decide +kernel
theorem d1_39 : decode method_4_code 39 = .ok (.iastore, 1) := by decide +kernel
theorem d1_40 : decode method_4_code 40 = .ok (.aload_n 0, 1) := by decide +kernel
theorem d1_41 : decode method_4_code 41 = .ok (.iconst 5, 1) := by decide +kernel
theorem d1_42 : decode method_4_code 42 = .ok (.iload_n 1, 1) := by decide +kernel
theorem d1_43 : decode method_4_code 43 = .ok (.bipush 10, 2) := by decide +kernel
theorem d1_45 : decode method_4_code 45 = .ok (.iushr, 1) := by decide +kernel
theorem d1_46 : decode method_4_code 46 = .ok (.iconst 3, 1) := by decide +kernel
theorem d1_47 : decode method_4_code 47 = .ok (.iand, 1) := by decide +kernel
theorem d1_48 : decode method_4_code 48 = .ok (.iastore, 1) := by decide +kernel
theorem d1_49 : decode method_4_code 49 = .ok (.return_, 1) := by decide +kernel
theorem pn1 : plainFor (⟨"com/example/bisim_for_markov/bisimformarkov/analysis/PartitionSplitPinLaw", "fillPads", "([II)V"⟩ : MethodName) = true := plainFor_of_name (by first | (simp [plainName, overriddenIn]; done) | decide +kernel)
theorem ef1_RI (m : MethodId) (x0 : Addr) (x1 : Int32) : entryFrame m #[(.ref x0), (.int x1)] 2 = mkF m 0 #[.val (.ref x0), .val (.int x1)] [] := by first | (simp [entryFrame, mkF, argsToLocals, Value.category]; done) | rfl
def rmr1 : Room := { frames := 0, cells := 0, slots := 0, locals := 0 }
set_option maxRecDepth 65536 in
set_option maxHeartbeats 4000000 in
theorem mt1 (l : Launch) (Z : State) (a0 : Array Value) (hw : ∀ d ∈ tables_1, d.before a0 Z = true) (ar : Addr) (pad : Int32)  (h0 : Heap) (FA : VA Z h0 ar .int [(.int (0 : Int32)), (.int (0 : Int32)), (.int (0 : Int32)), (.int (0 : Int32)), (.int (0 : Int32)), (.int (0 : Int32))]) : Meth l Z (⟨"com/example/bisim_for_markov/bisimformarkov/analysis/PartitionSplitPinLaw", "fillPads", "([II)V"⟩ : MethodName) method_4_code 2 none rmr1 #[(.ref ar), (.int pad)] h0 [ar] (fun v h' => v = none ∧ ∃ ys : List Int32, ys.length = 6 ∧ VA Z h' ar .int (ys.map Value.int)) := by
  refine Meth.of pn1 ?_
  intro p e s m below meth c T B X
  refine Go.entry (ef1_RI m ar pad) ?_
  refine galoadN B X d1_0 rfl rfl (pc' := 1) rfl ?_
  refine giconst B X d1_1 (v := (0 : Int32)) rfl (pc' := 2) rfl ?_
  refine giloadN B X d1_2 rfl (pc' := 3) rfl ?_
  refine giconst B X d1_3 (v := (3 : Int32)) rfl (pc' := 4) rfl ?_
  refine giand B X d1_4 rfl (pc' := 5) rfl ?_
  refine giastore B X (i := 0) (n := 6) FA rfl (by decide) rfl (vs' := [(.int (pad &&& (3 : Int32))), (.int (0 : Int32)), (.int (0 : Int32)), (.int (0 : Int32)), (.int (0 : Int32)), (.int (0 : Int32))]) rfl (Or.inl (List.mem_of_getElem? (i := 0) rfl)) d1_5 (pc' := 6) rfl fun T645 h646 X647 W648 A649 => ?_
  refine galoadN B X647 d1_6 rfl rfl (pc' := 7) rfl ?_
  refine giconst B X647 d1_7 (v := (1 : Int32)) rfl (pc' := 8) rfl ?_
  refine giloadN B X647 d1_8 rfl (pc' := 9) rfl ?_
  refine giconst B X647 d1_9 (v := (2 : Int32)) rfl (pc' := 10) rfl ?_
  refine giushr B X647 d1_10 rfl (pc' := 11) rfl ?_
  refine giconst B X647 d1_11 (v := (3 : Int32)) rfl (pc' := 12) rfl ?_
  refine giand B X647 d1_12 rfl (pc' := 13) rfl ?_
  refine giastore B X647 (i := 1) (n := 6) A649 rfl (by decide) rfl (vs' := [(.int (pad &&& (3 : Int32))), (.int (((pad.toUInt32 >>> ((2 : Int32) &&& 31).toUInt32).toInt32) &&& (3 : Int32))), (.int (0 : Int32)), (.int (0 : Int32)), (.int (0 : Int32)), (.int (0 : Int32))]) rfl (Or.inl (List.mem_of_getElem? (i := 0) rfl)) d1_13 (pc' := 14) rfl fun T650 h651 X652 W653 A654 => ?_
  refine galoadN B X652 d1_14 rfl rfl (pc' := 15) rfl ?_
  refine giconst B X652 d1_15 (v := (2 : Int32)) rfl (pc' := 16) rfl ?_
  refine giloadN B X652 d1_16 rfl (pc' := 17) rfl ?_
  refine giconst B X652 d1_17 (v := (4 : Int32)) rfl (pc' := 18) rfl ?_
  refine giushr B X652 d1_18 rfl (pc' := 19) rfl ?_
  refine giconst B X652 d1_19 (v := (3 : Int32)) rfl (pc' := 20) rfl ?_
  refine giand B X652 d1_20 rfl (pc' := 21) rfl ?_
  refine giastore B X652 (i := 2) (n := 6) A654 rfl (by decide) rfl (vs' := [(.int (pad &&& (3 : Int32))), (.int (((pad.toUInt32 >>> ((2 : Int32) &&& 31).toUInt32).toInt32) &&& (3 : Int32))), (.int (((pad.toUInt32 >>> ((4 : Int32) &&& 31).toUInt32).toInt32) &&& (3 : Int32))), (.int (0 : Int32)), (.int (0 : Int32)), (.int (0 : Int32))]) rfl (Or.inl (List.mem_of_getElem? (i := 0) rfl)) d1_21 (pc' := 22) rfl fun T655 h656 X657 W658 A659 => ?_
  refine galoadN B X657 d1_22 rfl rfl (pc' := 23) rfl ?_
  refine giconst B X657 d1_23 (v := (3 : Int32)) rfl (pc' := 24) rfl ?_
  refine giloadN B X657 d1_24 rfl (pc' := 25) rfl ?_
  refine gbipush B X657 d1_25 (v := (6 : Int32)) rfl (pc' := 27) rfl ?_
  refine giushr B X657 d1_27 rfl (pc' := 28) rfl ?_
  refine giconst B X657 d1_28 (v := (3 : Int32)) rfl (pc' := 29) rfl ?_
  refine giand B X657 d1_29 rfl (pc' := 30) rfl ?_
  refine giastore B X657 (i := 3) (n := 6) A659 rfl (by decide) rfl (vs' := [(.int (pad &&& (3 : Int32))), (.int (((pad.toUInt32 >>> ((2 : Int32) &&& 31).toUInt32).toInt32) &&& (3 : Int32))), (.int (((pad.toUInt32 >>> ((4 : Int32) &&& 31).toUInt32).toInt32) &&& (3 : Int32))), (.int (((pad.toUInt32 >>> ((6 : Int32) &&& 31).toUInt32).toInt32) &&& (3 : Int32))), (.int (0 : Int32)), (.int (0 : Int32))]) rfl (Or.inl (List.mem_of_getElem? (i := 0) rfl)) d1_30 (pc' := 31) rfl fun T660 h661 X662 W663 A664 => ?_
  refine galoadN B X662 d1_31 rfl rfl (pc' := 32) rfl ?_
  refine giconst B X662 d1_32 (v := (4 : Int32)) rfl (pc' := 33) rfl ?_
  refine giloadN B X662 d1_33 rfl (pc' := 34) rfl ?_
  refine gbipush B X662 d1_34 (v := (8 : Int32)) rfl (pc' := 36) rfl ?_
  refine giushr B X662 d1_36 rfl (pc' := 37) rfl ?_
  refine giconst B X662 d1_37 (v := (3 : Int32)) rfl (pc' := 38) rfl ?_
  refine giand B X662 d1_38 rfl (pc' := 39) rfl ?_
  refine giastore B X662 (i := 4) (n := 6) A664 rfl (by decide) rfl (vs' := [(.int (pad &&& (3 : Int32))), (.int (((pad.toUInt32 >>> ((2 : Int32) &&& 31).toUInt32).toInt32) &&& (3 : Int32))), (.int (((pad.toUInt32 >>> ((4 : Int32) &&& 31).toUInt32).toInt32) &&& (3 : Int32))), (.int (((pad.toUInt32 >>> ((6 : Int32) &&& 31).toUInt32).toInt32) &&& (3 : Int32))), (.int (((pad.toUInt32 >>> ((8 : Int32) &&& 31).toUInt32).toInt32) &&& (3 : Int32))), (.int (0 : Int32))]) rfl (Or.inl (List.mem_of_getElem? (i := 0) rfl)) d1_39 (pc' := 40) rfl fun T665 h666 X667 W668 A669 => ?_
  refine galoadN B X667 d1_40 rfl rfl (pc' := 41) rfl ?_
  refine giconst B X667 d1_41 (v := (5 : Int32)) rfl (pc' := 42) rfl ?_
  refine giloadN B X667 d1_42 rfl (pc' := 43) rfl ?_
  refine gbipush B X667 d1_43 (v := (10 : Int32)) rfl (pc' := 45) rfl ?_
  refine giushr B X667 d1_45 rfl (pc' := 46) rfl ?_
  refine giconst B X667 d1_46 (v := (3 : Int32)) rfl (pc' := 47) rfl ?_
  refine giand B X667 d1_47 rfl (pc' := 48) rfl ?_
  refine giastore B X667 (i := 5) (n := 6) A669 rfl (by decide) rfl (vs' := [(.int (pad &&& (3 : Int32))), (.int (((pad.toUInt32 >>> ((2 : Int32) &&& 31).toUInt32).toInt32) &&& (3 : Int32))), (.int (((pad.toUInt32 >>> ((4 : Int32) &&& 31).toUInt32).toInt32) &&& (3 : Int32))), (.int (((pad.toUInt32 >>> ((6 : Int32) &&& 31).toUInt32).toInt32) &&& (3 : Int32))), (.int (((pad.toUInt32 >>> ((8 : Int32) &&& 31).toUInt32).toInt32) &&& (3 : Int32))), (.int (((pad.toUInt32 >>> ((10 : Int32) &&& 31).toUInt32).toInt32) &&& (3 : Int32)))]) rfl (Or.inl (List.mem_of_getElem? (i := 0) rfl)) d1_48 (pc' := 49) rfl fun T670 h671 X672 W673 A674 => ?_
  exact gretV B X672 d1_49 (by decide) (by decide) (⟨rfl, [(pad &&& (3 : Int32)), (((pad.toUInt32 >>> ((2 : Int32) &&& 31).toUInt32).toInt32) &&& (3 : Int32)), (((pad.toUInt32 >>> ((4 : Int32) &&& 31).toUInt32).toInt32) &&& (3 : Int32)), (((pad.toUInt32 >>> ((6 : Int32) &&& 31).toUInt32).toInt32) &&& (3 : Int32)), (((pad.toUInt32 >>> ((8 : Int32) &&& 31).toUInt32).toInt32) &&& (3 : Int32)), (((pad.toUInt32 >>> ((10 : Int32) &&& 31).toUInt32).toInt32) &&& (3 : Int32))], rfl, A674⟩)
theorem d3_0 : decode method_5_code 0 = .ok (.iload_n 2, 1) := by decide +kernel
theorem d3_1 : decode method_5_code 1 = .ok (.iload_n 3, 1) := by decide +kernel
theorem d3_2 : decode method_5_code 2 = .ok (.ishr, 1) := by decide +kernel
theorem d3_3 : decode method_5_code 3 = .ok (.iconst 1, 1) := by decide +kernel
theorem d3_4 : decode method_5_code 4 = .ok (.iand, 1) := by decide +kernel
theorem d3_5 : decode method_5_code 5 = .ok (.ifCond .eq 11, 3) := by decide +kernel
theorem d3_8 : decode method_5_code 8 = .ok (.aload_n 0, 1) := by decide +kernel
theorem d3_9 : decode method_5_code 9 = .ok (.iload_n 1, 1) := by decide +kernel
theorem d3_10 : decode method_5_code 10 = .ok (.iload_n 3, 1) := by decide +kernel
theorem d3_11 : decode method_5_code 11 = .ok (.iastore, 1) := by decide +kernel
theorem d3_12 : decode method_5_code 12 = .ok (.iload_n 1, 1) := by decide +kernel
theorem d3_13 : decode method_5_code 13 = .ok (.iconst 1, 1) := by decide +kernel
theorem d3_14 : decode method_5_code 14 = .ok (.iadd, 1) := by decide +kernel
theorem d3_15 : decode method_5_code 15 = .ok (.ireturn, 1) := by decide +kernel
theorem d3_16 : decode method_5_code 16 = .ok (.iload_n 1, 1) := by decide +kernel
theorem d3_17 : decode method_5_code 17 = .ok (.ireturn, 1) := by decide +kernel
theorem pn3 : plainFor (⟨"com/example/bisim_for_markov/bisimformarkov/analysis/PartitionSplitPinLaw", "put", "([IIII)I"⟩ : MethodName) = true := plainFor_of_name (by first | (simp [plainName, overriddenIn]; done) | decide +kernel)
theorem ef3_RIII (m : MethodId) (x0 : Addr) (x1 : Int32) (x2 : Int32) (x3 : Int32) : entryFrame m #[(.ref x0), (.int x1), (.int x2), (.int x3)] 4 = mkF m 0 #[.val (.ref x0), .val (.int x1), .val (.int x2), .val (.int x3)] [] := by first | (simp [entryFrame, mkF, argsToLocals, Value.category]; done) | rfl
def rmr3 : Room := { frames := 0, cells := 0, slots := 0, locals := 0 }
set_option maxRecDepth 65536 in
set_option maxHeartbeats 4000000 in
theorem mt3 (l : Launch) (Z : State) (a0 : Array Value) (hw : ∀ d ∈ tables_1, d.before a0 Z = true) (ar : Addr) (pos : Int32) (S : Int32) (x : Int32) (ys : List Int32) (pN : Nat) (h0 : Heap) (FA : VA Z h0 ar .int (ys.map Value.int)) (hp : pos.toInt = pN) (hl : ys.length = 6) (hp6 : pN < 6) : Meth l Z (⟨"com/example/bisim_for_markov/bisimformarkov/analysis/PartitionSplitPinLaw", "put", "([IIII)I"⟩ : MethodName) method_5_code 4 (some .int) rmr3 #[(.ref ar), (.int pos), (.int S), (.int x)] h0 [ar] (fun v h' => ∃ r : Int32, v = some (.int r) ∧ r.toInt = ((oput S (ys, pN) x).2 : Int) ∧ VA Z h' ar .int ((oput S (ys, pN) x).1.map Value.int)) := by
  refine Meth.of pn3 ?_
  intro p e s m below meth c T B X
  refine Go.entry (ef3_RIII m ar pos S x) ?_
  refine giloadN B X d3_0 rfl (pc' := 1) rfl ?_
  refine giloadN B X d3_1 rfl (pc' := 2) rfl ?_
  refine gishr B X d3_2 rfl (pc' := 3) rfl ?_
  refine giconst B X d3_3 (v := (1 : Int32)) rfl (pc' := 4) rfl ?_
  refine giand B X d3_4 rfl (pc' := 5) rfl ?_
  by_cases c5_675 : ((S >>> (x &&& 31)) &&& (1 : Int32)) = (0 : Int32)
  · refine gifY B X (pc' := 16) d3_5 ((if0 _ _).trans (teq c5_675).1) (by decide) ?_
    refine giloadN B X d3_16 rfl (pc' := 17) rfl ?_
    exact gretI B X d3_17 (by decide) (by decide) (⟨_, rfl, by rw [oput, if_pos c5_675]; exact hp, by rw [oput, if_pos c5_675]; exact FA⟩)
  · refine gifN B X d3_5 ((if0 _ _).trans (feq c5_675).1) (pc' := 8) rfl ?_
    refine galoadN B X d3_8 rfl rfl (pc' := 9) rfl ?_
    refine giloadN B X d3_9 rfl (pc' := 10) rfl ?_
    refine giloadN B X d3_10 rfl (pc' := 11) rfl ?_
    refine giastore B X (i := pN) FA (n := 6) (by rw [List.length_map]; exact hl) (by omega) (own_clamp hp) (vs' := ((ys.set pN x).map Value.int)) (own_set _ _ _) (Or.inl (List.mem_of_getElem? (i := 0) rfl)) d3_11 (pc' := 12) rfl fun T676 h677 X678 W679 A680 => ?_
    refine giloadN B X678 d3_12 rfl (pc' := 13) rfl ?_
    refine giconst B X678 d3_13 (v := (1 : Int32)) rfl (pc' := 14) rfl ?_
    refine giadd B X678 d3_14 rfl (pc' := 15) rfl ?_
    exact gretI B X678 d3_15 (by decide) (by decide) (⟨_, rfl, by rw [oput, if_neg c5_675]; exact own_addN hp (b := 1) rfl (by omega), by rw [oput, if_neg c5_675]; exact A680⟩)
theorem d2_0 : decode method_6_code 0 = .ok (.iload_n 1, 1) := by decide +kernel
theorem d2_1 : decode method_6_code 1 = .ok (.istore 4, 2) := by decide +kernel
theorem d2_3 : decode method_6_code 3 = .ok (.aload_n 0, 1) := by decide +kernel
theorem d2_4 : decode method_6_code 4 = .ok (.iload 4, 2) := by decide +kernel
theorem d2_6 : decode method_6_code 6 = .ok (.iload_n 2, 1) := by decide +kernel
theorem d2_7 : decode method_6_code 7 = .ok (.iconst 0, 1) := by decide +kernel
theorem d2_8 : decode method_6_code 8 = .ok (.iload_n 3, 1) := by decide +kernel
theorem d2_9 : decode method_6_code 9 = .ok (.ixor, 1) := by decide +kernel
theorem d2_10 : decode method_6_code 10 = .ok (.invokestatic 48, 3) := by decide +kernel
theorem d2_13 : decode method_6_code 13 = .ok (.istore 4, 2) := by decide +kernel
theorem d2_15 : decode method_6_code 15 = .ok (.aload_n 0, 1) := by decide +kernel
theorem d2_16 : decode method_6_code 16 = .ok (.iload 4, 2) := by decide +kernel
theorem d2_18 : decode method_6_code 18 = .ok (.iload_n 2, 1) := by decide +kernel
theorem d2_19 : decode method_6_code 19 = .ok (.iconst 1, 1) := by decide +kernel
theorem d2_20 : decode method_6_code 20 = .ok (.iload_n 3, 1) := by decide +kernel
theorem d2_21 : decode method_6_code 21 = .ok (.ixor, 1) := by decide +kernel
theorem d2_22 : decode method_6_code 22 = .ok (.invokestatic 48, 3) := by decide +kernel
theorem d2_25 : decode method_6_code 25 = .ok (.istore 4, 2) := by decide +kernel
theorem d2_27 : decode method_6_code 27 = .ok (.aload_n 0, 1) := by decide +kernel
theorem d2_28 : decode method_6_code 28 = .ok (.iload 4, 2) := by decide +kernel
theorem d2_30 : decode method_6_code 30 = .ok (.iload_n 2, 1) := by decide +kernel
theorem d2_31 : decode method_6_code 31 = .ok (.iconst 2, 1) := by decide +kernel
theorem d2_32 : decode method_6_code 32 = .ok (.iload_n 3, 1) := by decide +kernel
theorem d2_33 : decode method_6_code 33 = .ok (.ixor, 1) := by decide +kernel
theorem d2_34 : decode method_6_code 34 = .ok (.invokestatic 48, 3) := by decide +kernel
theorem d2_37 : decode method_6_code 37 = .ok (.istore 4, 2) := by decide +kernel
theorem d2_39 : decode method_6_code 39 = .ok (.aload_n 0, 1) := by decide +kernel
theorem d2_40 : decode method_6_code 40 = .ok (.iload 4, 2) := by decide +kernel
theorem d2_42 : decode method_6_code 42 = .ok (.iload_n 2, 1) := by decide +kernel
theorem d2_43 : decode method_6_code 43 = .ok (.iconst 3, 1) := by decide +kernel
theorem d2_44 : decode method_6_code 44 = .ok (.iload_n 3, 1) := by decide +kernel
theorem d2_45 : decode method_6_code 45 = .ok (.ixor, 1) := by decide +kernel
theorem d2_46 : decode method_6_code 46 = .ok (.invokestatic 48, 3) := by decide +kernel
theorem d2_49 : decode method_6_code 49 = .ok (.istore 4, 2) := by decide +kernel
theorem d2_51 : decode method_6_code 51 = .ok (.iload 4, 2) := by decide +kernel
theorem d2_53 : decode method_6_code 53 = .ok (.ireturn, 1) := by decide +kernel
theorem pn2 : plainFor (⟨"com/example/bisim_for_markov/bisimformarkov/analysis/PartitionSplitPinLaw", "place", "([IIII)I"⟩ : MethodName) = true := plainFor_of_name (by first | (simp [plainName, overriddenIn]; done) | decide +kernel)
theorem ef2_RIII (m : MethodId) (x0 : Addr) (x1 : Int32) (x2 : Int32) (x3 : Int32) : entryFrame m #[(.ref x0), (.int x1), (.int x2), (.int x3)] 5 = mkF m 0 #[.val (.ref x0), .val (.int x1), .val (.int x2), .val (.int x3), .unset] [] := by first | (simp [entryFrame, mkF, argsToLocals, Value.category]; done) | rfl
theorem pd___IIII_I : parseMethodDescriptor "([IIII)I" = some ⟨[(.array .int), .int, .int, .int], some .int⟩ := by decide +kernel
def rmr2 : Room := { frames := 1, cells := 0, slots := 0, locals := 15 }
set_option maxRecDepth 65536 in
set_option maxHeartbeats 4000000 in
theorem mt2 (l : Launch) (Z : State) (a0 : Array Value) (hw : ∀ d ∈ tables_1, d.before a0 Z = true) (ar : Addr) (fr : Int32) (S : Int32) (qq : Int32) (ys : List Int32) (fN : Nat) (h0 : Heap) (FA : VA Z h0 ar .int (ys.map Value.int)) (hl : ys.length = 6) (hfr : fr.toInt = fN) (hf2 : fN ≤ 2) : Meth l Z (⟨"com/example/bisim_for_markov/bisimformarkov/analysis/PartitionSplitPinLaw", "place", "([IIII)I"⟩ : MethodName) method_6_code 5 (some .int) rmr2 #[(.ref ar), (.int fr), (.int S), (.int qq)] h0 [ar] (fun v h' => ∃ r : Int32, v = some (.int r) ∧ r.toInt = ((oplace S qq (ys, fN)).2 : Int) ∧ VA Z h' ar .int ((oplace S qq (ys, fN)).1.map Value.int)) := by
  refine Meth.of pn2 ?_
  intro p e s m below meth c T B X
  refine Go.entry (ef2_RIII m ar fr S qq) ?_
  refine giloadN B X d2_0 rfl (pc' := 1) rfl ?_
  refine gistore B X d2_1 (Ls' := #[.val (.ref ar), .val (.int fr), .val (.int S), .val (.int qq), .val (.int fr)]) rfl (pc' := 3) rfl ?_
  have hL0 : (ys, fN).1.length = 6 := hl; have hP0 : (ys, fN).2 ≤ fN + 0 := Nat.le_refl _
  refine galoadN B X d2_3 rfl rfl (pc' := 4) rfl ?_
  refine giload B X d2_4 rfl (pc' := 6) rfl ?_
  refine giloadN B X d2_6 rfl (pc' := 7) rfl ?_
  refine giconst B X d2_7 (v := (0 : Int32)) rfl (pc' := 8) rfl ?_
  refine giloadN B X d2_8 rfl (pc' := 9) rfl ?_
  refine gixor B X d2_9 rfl (pc' := 10) rfl ?_
  refine gcallS B X (hw _ (List.mem_of_getElem? (i := 8) rfl)) (hw _ (List.mem_of_getElem? (i := 9) rfl)) (hw _ (List.mem_of_getElem? (i := 3) rfl)) (hw _ (List.mem_of_getElem? (i := 10) rfl)) (by decide) (mt3 l Z a0 hw ar fr S ((0 : Int32) ^^^ qq) (ys, fN).1 (ys, fN).2 h0 FA hfr hL0 (own_lt6 (i := 0) hP0 hf2 (by decide))) pd___IIII_I rfl (argsL := [(.ref ar), (.int fr), (.int S), (.int ((0 : Int32) ^^^ qq))]) (st := []) rfl rfl (W := 0) (Nat.le_of_eq rfl) (by decide) (by decide) (by decide) (by decide) (allS (Or.inl (List.mem_of_getElem? (i := 0) rfl)) all0) d2_10 (pc' := 13) rfl fun T681 h682 v683 X684 K685 Q686 => ?_
  obtain ⟨r687, rfl, hr688, A689⟩ := Q686
  have hL1 := (own_putL S (ys, fN) ((0 : Int32) ^^^ qq)).1.trans hL0; have hP1 : (oput S (ys, fN) ((0 : Int32) ^^^ qq)).2 ≤ fN + 1 := Nat.le_trans (own_putL S (ys, fN) ((0 : Int32) ^^^ qq)).2 (Nat.succ_le_succ hP0)
  show Go p e below _ _ _ _ T681 (mkF m 13 #[.val (.ref ar), .val (.int fr), .val (.int S), .val (.int qq), .val (.int fr)] [(.int r687)])
  refine gistore B X684 d2_13 (Ls' := #[.val (.ref ar), .val (.int fr), .val (.int S), .val (.int qq), .val (.int r687)]) rfl (pc' := 15) rfl ?_
  refine galoadN B X684 d2_15 rfl rfl (pc' := 16) rfl ?_
  refine giload B X684 d2_16 rfl (pc' := 18) rfl ?_
  refine giloadN B X684 d2_18 rfl (pc' := 19) rfl ?_
  refine giconst B X684 d2_19 (v := (1 : Int32)) rfl (pc' := 20) rfl ?_
  refine giloadN B X684 d2_20 rfl (pc' := 21) rfl ?_
  refine gixor B X684 d2_21 rfl (pc' := 22) rfl ?_
  refine gcallS B X684 (hw _ (List.mem_of_getElem? (i := 8) rfl)) (hw _ (List.mem_of_getElem? (i := 9) rfl)) (hw _ (List.mem_of_getElem? (i := 3) rfl)) (hw _ (List.mem_of_getElem? (i := 10) rfl)) (by decide) (mt3 l Z a0 hw ar r687 S ((1 : Int32) ^^^ qq) (oput S (ys, fN) ((0 : Int32) ^^^ qq)).1 (oput S (ys, fN) ((0 : Int32) ^^^ qq)).2 h682 A689 hr688 hL1 (own_lt6 (i := 1) hP1 hf2 (by decide))) pd___IIII_I rfl (argsL := [(.ref ar), (.int r687), (.int S), (.int ((1 : Int32) ^^^ qq))]) (st := []) rfl rfl (W := 0) (Nat.le_of_eq rfl) (by decide) (by decide) (by decide) (by decide) (allS (Or.inl (List.mem_of_getElem? (i := 0) rfl)) all0) d2_22 (pc' := 25) rfl fun T691 h692 v693 X694 K695 Q696 => ?_
  obtain ⟨r697, rfl, hr698, A699⟩ := Q696
  have hL2 := (own_putL S (oput S (ys, fN) ((0 : Int32) ^^^ qq)) ((1 : Int32) ^^^ qq)).1.trans hL1; have hP2 : (oput S (oput S (ys, fN) ((0 : Int32) ^^^ qq)) ((1 : Int32) ^^^ qq)).2 ≤ fN + 2 := Nat.le_trans (own_putL S (oput S (ys, fN) ((0 : Int32) ^^^ qq)) ((1 : Int32) ^^^ qq)).2 (Nat.succ_le_succ hP1)
  show Go p e below _ _ _ _ T691 (mkF m 25 #[.val (.ref ar), .val (.int fr), .val (.int S), .val (.int qq), .val (.int r687)] [(.int r697)])
  refine gistore B X694 d2_25 (Ls' := #[.val (.ref ar), .val (.int fr), .val (.int S), .val (.int qq), .val (.int r697)]) rfl (pc' := 27) rfl ?_
  refine galoadN B X694 d2_27 rfl rfl (pc' := 28) rfl ?_
  refine giload B X694 d2_28 rfl (pc' := 30) rfl ?_
  refine giloadN B X694 d2_30 rfl (pc' := 31) rfl ?_
  refine giconst B X694 d2_31 (v := (2 : Int32)) rfl (pc' := 32) rfl ?_
  refine giloadN B X694 d2_32 rfl (pc' := 33) rfl ?_
  refine gixor B X694 d2_33 rfl (pc' := 34) rfl ?_
  refine gcallS B X694 (hw _ (List.mem_of_getElem? (i := 8) rfl)) (hw _ (List.mem_of_getElem? (i := 9) rfl)) (hw _ (List.mem_of_getElem? (i := 3) rfl)) (hw _ (List.mem_of_getElem? (i := 10) rfl)) (by decide) (mt3 l Z a0 hw ar r697 S ((2 : Int32) ^^^ qq) (oput S (oput S (ys, fN) ((0 : Int32) ^^^ qq)) ((1 : Int32) ^^^ qq)).1 (oput S (oput S (ys, fN) ((0 : Int32) ^^^ qq)) ((1 : Int32) ^^^ qq)).2 h692 A699 hr698 hL2 (own_lt6 (i := 2) hP2 hf2 (by decide))) pd___IIII_I rfl (argsL := [(.ref ar), (.int r697), (.int S), (.int ((2 : Int32) ^^^ qq))]) (st := []) rfl rfl (W := 0) (Nat.le_of_eq rfl) (by decide) (by decide) (by decide) (by decide) (allS (Or.inl (List.mem_of_getElem? (i := 0) rfl)) all0) d2_34 (pc' := 37) rfl fun T701 h702 v703 X704 K705 Q706 => ?_
  obtain ⟨r707, rfl, hr708, A709⟩ := Q706
  have hL3 := (own_putL S (oput S (oput S (ys, fN) ((0 : Int32) ^^^ qq)) ((1 : Int32) ^^^ qq)) ((2 : Int32) ^^^ qq)).1.trans hL2; have hP3 : (oput S (oput S (oput S (ys, fN) ((0 : Int32) ^^^ qq)) ((1 : Int32) ^^^ qq)) ((2 : Int32) ^^^ qq)).2 ≤ fN + 3 := Nat.le_trans (own_putL S (oput S (oput S (ys, fN) ((0 : Int32) ^^^ qq)) ((1 : Int32) ^^^ qq)) ((2 : Int32) ^^^ qq)).2 (Nat.succ_le_succ hP2)
  show Go p e below _ _ _ _ T701 (mkF m 37 #[.val (.ref ar), .val (.int fr), .val (.int S), .val (.int qq), .val (.int r697)] [(.int r707)])
  refine gistore B X704 d2_37 (Ls' := #[.val (.ref ar), .val (.int fr), .val (.int S), .val (.int qq), .val (.int r707)]) rfl (pc' := 39) rfl ?_
  refine galoadN B X704 d2_39 rfl rfl (pc' := 40) rfl ?_
  refine giload B X704 d2_40 rfl (pc' := 42) rfl ?_
  refine giloadN B X704 d2_42 rfl (pc' := 43) rfl ?_
  refine giconst B X704 d2_43 (v := (3 : Int32)) rfl (pc' := 44) rfl ?_
  refine giloadN B X704 d2_44 rfl (pc' := 45) rfl ?_
  refine gixor B X704 d2_45 rfl (pc' := 46) rfl ?_
  refine gcallS B X704 (hw _ (List.mem_of_getElem? (i := 8) rfl)) (hw _ (List.mem_of_getElem? (i := 9) rfl)) (hw _ (List.mem_of_getElem? (i := 3) rfl)) (hw _ (List.mem_of_getElem? (i := 10) rfl)) (by decide) (mt3 l Z a0 hw ar r707 S ((3 : Int32) ^^^ qq) (oput S (oput S (oput S (ys, fN) ((0 : Int32) ^^^ qq)) ((1 : Int32) ^^^ qq)) ((2 : Int32) ^^^ qq)).1 (oput S (oput S (oput S (ys, fN) ((0 : Int32) ^^^ qq)) ((1 : Int32) ^^^ qq)) ((2 : Int32) ^^^ qq)).2 h702 A709 hr708 hL3 (own_lt6 (i := 3) hP3 hf2 (by decide))) pd___IIII_I rfl (argsL := [(.ref ar), (.int r707), (.int S), (.int ((3 : Int32) ^^^ qq))]) (st := []) rfl rfl (W := 0) (Nat.le_of_eq rfl) (by decide) (by decide) (by decide) (by decide) (allS (Or.inl (List.mem_of_getElem? (i := 0) rfl)) all0) d2_46 (pc' := 49) rfl fun T711 h712 v713 X714 K715 Q716 => ?_
  obtain ⟨r717, rfl, hr718, A719⟩ := Q716
  have hL4 := (own_putL S (oput S (oput S (oput S (ys, fN) ((0 : Int32) ^^^ qq)) ((1 : Int32) ^^^ qq)) ((2 : Int32) ^^^ qq)) ((3 : Int32) ^^^ qq)).1.trans hL3; have hP4 : (oput S (oput S (oput S (oput S (ys, fN) ((0 : Int32) ^^^ qq)) ((1 : Int32) ^^^ qq)) ((2 : Int32) ^^^ qq)) ((3 : Int32) ^^^ qq)).2 ≤ fN + 4 := Nat.le_trans (own_putL S (oput S (oput S (oput S (ys, fN) ((0 : Int32) ^^^ qq)) ((1 : Int32) ^^^ qq)) ((2 : Int32) ^^^ qq)) ((3 : Int32) ^^^ qq)).2 (Nat.succ_le_succ hP3)
  show Go p e below _ _ _ _ T711 (mkF m 49 #[.val (.ref ar), .val (.int fr), .val (.int S), .val (.int qq), .val (.int r707)] [(.int r717)])
  refine gistore B X714 d2_49 (Ls' := #[.val (.ref ar), .val (.int fr), .val (.int S), .val (.int qq), .val (.int r717)]) rfl (pc' := 51) rfl ?_
  refine giload B X714 d2_51 rfl (pc' := 53) rfl ?_
  exact gretI B X714 d2_53 (by decide) (by decide) (⟨_, rfl, hr718, A719⟩)
theorem d8_0 : decode prog_61_method_5_code 0 = .ok (.aload_n 0, 1) := by decide +kernel
theorem d8_1 : decode prog_61_method_5_code 1 = .ok (.getfield 31, 3) := by decide +kernel
theorem d8_4 : decode prog_61_method_5_code 4 = .ok (.iload_n 1, 1) := by decide +kernel
theorem d8_5 : decode prog_61_method_5_code 5 = .ok (.iaload, 1) := by decide +kernel
theorem d8_6 : decode prog_61_method_5_code 6 = .ok (.ireturn, 1) := by decide +kernel
theorem pn8 : plainFor (⟨"com/example/bisim_for_markov/bisimformarkov/analysis/Partition", "parent", "(I)I"⟩ : MethodName) = true := plainFor_of_name (by first | (simp [plainName, overriddenIn]; done) | decide +kernel)
theorem ef8_RI (m : MethodId) (x0 : Addr) (x1 : Int32) : entryFrame m #[(.ref x0), (.int x1)] 2 = mkF m 0 #[.val (.ref x0), .val (.int x1)] [] := by first | (simp [entryFrame, mkF, argsToLocals, Value.category]; done) | rfl
def rmr8 : Room := { frames := 0, cells := 0, slots := 0, locals := 0 }
set_option maxRecDepth 65536 in
set_option maxHeartbeats 4000000 in
theorem mt_parent (l : Launch) (Z : State) (a0 : Array Value) (hw : ∀ d ∈ tables_1, d.before a0 Z = true) (q : Addr) (cl : Int32) (aE aL aK aS aN aP aR : Addr) (u : PS) (n NN : Nat) (h0 : Heap) (A : PA Z h0 q aE aL aK aS aN aP aR u) (k : Ok n NN u) (hcl : inR NN cl) : Meth l Z (⟨"com/example/bisim_for_markov/bisimformarkov/analysis/Partition", "parent", "(I)I"⟩ : MethodName) prog_61_method_5_code 2 (some .int) rmr8 #[(.ref q), (.int cl)] h0 [] (fun vr h' => vr = some (.int (u.ps.getD cl.toNatClampNeg 0)) ∧ h' = h0) := by
  refine Meth.of pn8 ?_
  intro p e s m below meth c T B X
  refine Go.entry (ef8_RI m q cl) ?_
  refine galoadN B X d8_0 rfl rfl (pc' := 1) rfl ?_
  refine gget B X (hw _ (List.mem_of_getElem? (i := 34) rfl)) A.1.2.2.2.2.2.2.1 d8_1 (pc' := 4) rfl fun T721 X722 => ?_
  refine giloadN B X722 d8_4 rfl (pc' := 5) rfl ?_
  refine giaload B X722 A.2.2.2.2.2.2.1 (n := NN) (by rw [List.length_map]; exact k.2.2.2.2.2.1) hcl (v := (.int (u.ps.getD cl.toNatClampNeg 0))) (own_at (by rw [k.2.2.2.2.2.1]; exact own_nat hcl)) d8_5 (pc' := 6) rfl ?_
  exact gretI B X722 d8_6 (by decide) (by decide) (⟨rfl, rfl⟩)
theorem d9_0 : decode prog_61_method_6_code 0 = .ok (.aload_n 0, 1) := by decide +kernel
theorem d9_1 : decode prog_61_method_6_code 1 = .ok (.getfield 34, 3) := by decide +kernel
theorem d9_4 : decode prog_61_method_6_code 4 = .ok (.iload_n 1, 1) := by decide +kernel
theorem d9_5 : decode prog_61_method_6_code 5 = .ok (.iaload, 1) := by decide +kernel
theorem d9_6 : decode prog_61_method_6_code 6 = .ok (.ireturn, 1) := by decide +kernel
theorem pn9 : plainFor (⟨"com/example/bisim_for_markov/bisimformarkov/analysis/Partition", "round", "(I)I"⟩ : MethodName) = true := plainFor_of_name (by first | (simp [plainName, overriddenIn]; done) | decide +kernel)
theorem ef9_RI (m : MethodId) (x0 : Addr) (x1 : Int32) : entryFrame m #[(.ref x0), (.int x1)] 2 = mkF m 0 #[.val (.ref x0), .val (.int x1)] [] := by first | (simp [entryFrame, mkF, argsToLocals, Value.category]; done) | rfl
def rmr9 : Room := { frames := 0, cells := 0, slots := 0, locals := 0 }
set_option maxRecDepth 65536 in
set_option maxHeartbeats 4000000 in
theorem mt_round (l : Launch) (Z : State) (a0 : Array Value) (hw : ∀ d ∈ tables_1, d.before a0 Z = true) (q : Addr) (cl : Int32) (aE aL aK aS aN aP aR : Addr) (u : PS) (n NN : Nat) (h0 : Heap) (A : PA Z h0 q aE aL aK aS aN aP aR u) (k : Ok n NN u) (hcl : inR NN cl) : Meth l Z (⟨"com/example/bisim_for_markov/bisimformarkov/analysis/Partition", "round", "(I)I"⟩ : MethodName) prog_61_method_6_code 2 (some .int) rmr9 #[(.ref q), (.int cl)] h0 [] (fun vr h' => vr = some (.int (u.rs.getD cl.toNatClampNeg 0)) ∧ h' = h0) := by
  refine Meth.of pn9 ?_
  intro p e s m below meth c T B X
  refine Go.entry (ef9_RI m q cl) ?_
  refine galoadN B X d9_0 rfl rfl (pc' := 1) rfl ?_
  refine gget B X (hw _ (List.mem_of_getElem? (i := 36) rfl)) A.1.2.2.2.2.2.2.2.1 d9_1 (pc' := 4) rfl fun T723 X724 => ?_
  refine giloadN B X724 d9_4 rfl (pc' := 5) rfl ?_
  refine giaload B X724 A.2.2.2.2.2.2.2.1 (n := NN) (by rw [List.length_map]; exact k.2.2.2.2.2.2.1) hcl (v := (.int (u.rs.getD cl.toNatClampNeg 0))) (own_at (by rw [k.2.2.2.2.2.2.1]; exact own_nat hcl)) d9_5 (pc' := 6) rfl ?_
  exact gretI B X724 d9_6 (by decide) (by decide) (⟨rfl, rfl⟩)
theorem d10_0 : decode prog_61_method_2_code 0 = .ok (.aload_n 0, 1) := by decide +kernel
theorem d10_1 : decode prog_61_method_2_code 1 = .ok (.getfield 16, 3) := by decide +kernel
theorem d10_4 : decode prog_61_method_2_code 4 = .ok (.iload_n 1, 1) := by decide +kernel
theorem d10_5 : decode prog_61_method_2_code 5 = .ok (.iaload, 1) := by decide +kernel
theorem d10_6 : decode prog_61_method_2_code 6 = .ok (.ireturn, 1) := by decide +kernel
theorem pn10 : plainFor (⟨"com/example/bisim_for_markov/bisimformarkov/analysis/Partition", "classOf", "(I)I"⟩ : MethodName) = true := plainFor_of_name (by first | (simp [plainName, overriddenIn]; done) | decide +kernel)
theorem ef10_RI (m : MethodId) (x0 : Addr) (x1 : Int32) : entryFrame m #[(.ref x0), (.int x1)] 2 = mkF m 0 #[.val (.ref x0), .val (.int x1)] [] := by first | (simp [entryFrame, mkF, argsToLocals, Value.category]; done) | rfl
def rmr10 : Room := { frames := 0, cells := 0, slots := 0, locals := 0 }
set_option maxRecDepth 65536 in
set_option maxHeartbeats 4000000 in
theorem mt_classOf (l : Launch) (Z : State) (a0 : Array Value) (hw : ∀ d ∈ tables_1, d.before a0 Z = true) (q : Addr) (cl : Int32) (aE aL aK aS aN aP aR : Addr) (u : PS) (n NN : Nat) (h0 : Heap) (A : PA Z h0 q aE aL aK aS aN aP aR u) (k : Ok n NN u) (hcl : inR n cl) : Meth l Z (⟨"com/example/bisim_for_markov/bisimformarkov/analysis/Partition", "classOf", "(I)I"⟩ : MethodName) prog_61_method_2_code 2 (some .int) rmr10 #[(.ref q), (.int cl)] h0 [] (fun vr h' => vr = some (.int (u.cs.getD cl.toNatClampNeg 0)) ∧ h' = h0) := by
  refine Meth.of pn10 ?_
  intro p e s m below meth c T B X
  refine Go.entry (ef10_RI m q cl) ?_
  refine galoadN B X d10_0 rfl rfl (pc' := 1) rfl ?_
  refine gget B X (hw _ (List.mem_of_getElem? (i := 24) rfl)) A.1.2.2.2.1 d10_1 (pc' := 4) rfl fun T725 X726 => ?_
  refine giloadN B X726 d10_4 rfl (pc' := 5) rfl ?_
  refine giaload B X726 A.2.2.2.1 (n := n) (by rw [List.length_map]; exact k.2.2.1) hcl (v := (.int (u.cs.getD cl.toNatClampNeg 0))) (own_at (by rw [k.2.2.1]; exact own_nat hcl)) d10_5 (pc' := 6) rfl ?_
  exact gretI B X726 d10_6 (by decide) (by decide) (⟨rfl, rfl⟩)
theorem d11_0 : decode method_3_code 0 = .ok (.iload_n 2, 1) := by decide +kernel
theorem d11_1 : decode method_3_code 1 = .ok (.iload_n 0, 1) := by decide +kernel
theorem d11_2 : decode method_3_code 2 = .ok (.ishr, 1) := by decide +kernel
theorem d11_3 : decode method_3_code 3 = .ok (.iconst 1, 1) := by decide +kernel
theorem d11_4 : decode method_3_code 4 = .ok (.iand, 1) := by decide +kernel
theorem d11_5 : decode method_3_code 5 = .ok (.ifCond .eq 5, 3) := by decide +kernel
theorem d11_8 : decode method_3_code 8 = .ok (.iconst 2, 1) := by decide +kernel
theorem d11_9 : decode method_3_code 9 = .ok (.ireturn, 1) := by decide +kernel
theorem d11_10 : decode method_3_code 10 = .ok (.iload_n 1, 1) := by decide +kernel
theorem d11_11 : decode method_3_code 11 = .ok (.iload_n 0, 1) := by decide +kernel
theorem d11_12 : decode method_3_code 12 = .ok (.ishr, 1) := by decide +kernel
theorem d11_13 : decode method_3_code 13 = .ok (.iconst 1, 1) := by decide +kernel
theorem d11_14 : decode method_3_code 14 = .ok (.iand, 1) := by decide +kernel
theorem d11_15 : decode method_3_code 15 = .ok (.ifCond .eq 5, 3) := by decide +kernel
theorem d11_18 : decode method_3_code 18 = .ok (.iconst 1, 1) := by decide +kernel
theorem d11_19 : decode method_3_code 19 = .ok (.ireturn, 1) := by decide +kernel
theorem d11_20 : decode method_3_code 20 = .ok (.iconst 0, 1) := by decide +kernel
theorem d11_21 : decode method_3_code 21 = .ok (.ireturn, 1) := by decide +kernel
theorem pn11 : plainFor (⟨"com/example/bisim_for_markov/bisimformarkov/analysis/PartitionSplitPinLaw", "expected", "(III)I"⟩ : MethodName) = true := plainFor_of_name (by first | (simp [plainName, overriddenIn]; done) | decide +kernel)
theorem ef11_III (m : MethodId) (x0 : Int32) (x1 : Int32) (x2 : Int32) : entryFrame m #[(.int x0), (.int x1), (.int x2)] 3 = mkF m 0 #[.val (.int x0), .val (.int x1), .val (.int x2)] [] := by first | (simp [entryFrame, mkF, argsToLocals, Value.category]; done) | rfl
def oexp (x : Int32) (sA : Int32) (sB : Int32) : Int32 := if ((sB >>> (x &&& 31)) &&& (1 : Int32)) = (0 : Int32) then (if ((sA >>> (x &&& 31)) &&& (1 : Int32)) = (0 : Int32) then (0 : Int32) else ((1 : Int32))) else ((2 : Int32))
def rmr11 : Room := { frames := 0, cells := 0, slots := 0, locals := 0 }
set_option maxRecDepth 65536 in
set_option maxHeartbeats 4000000 in
theorem mtexp (l : Launch) (Z : State) (a0 : Array Value) (hw : ∀ d ∈ tables_1, d.before a0 Z = true) (x : Int32) (sA : Int32) (sB : Int32)  (h0 : Heap) : Meth l Z (⟨"com/example/bisim_for_markov/bisimformarkov/analysis/PartitionSplitPinLaw", "expected", "(III)I"⟩ : MethodName) method_3_code 3 (some .int) rmr11 #[(.int x), (.int sA), (.int sB)] h0 [] (fun vr h' => vr = some (.int (oexp x sA sB)) ∧ h' = h0) := by
  refine Meth.of pn11 ?_
  intro p e s m below meth c T B X
  refine Go.entry (ef11_III m x sA sB) ?_
  refine giloadN B X d11_0 rfl (pc' := 1) rfl ?_
  refine giloadN B X d11_1 rfl (pc' := 2) rfl ?_
  refine gishr B X d11_2 rfl (pc' := 3) rfl ?_
  refine giconst B X d11_3 (v := (1 : Int32)) rfl (pc' := 4) rfl ?_
  refine giand B X d11_4 rfl (pc' := 5) rfl ?_
  by_cases c5_727 : ((sB >>> (x &&& 31)) &&& (1 : Int32)) = (0 : Int32)
  · refine gifY B X (pc' := 10) d11_5 ((if0 _ _).trans (teq c5_727).1) (by decide) ?_
    refine giloadN B X d11_10 rfl (pc' := 11) rfl ?_
    refine giloadN B X d11_11 rfl (pc' := 12) rfl ?_
    refine gishr B X d11_12 rfl (pc' := 13) rfl ?_
    refine giconst B X d11_13 (v := (1 : Int32)) rfl (pc' := 14) rfl ?_
    refine giand B X d11_14 rfl (pc' := 15) rfl ?_
    by_cases c15_728 : ((sA >>> (x &&& 31)) &&& (1 : Int32)) = (0 : Int32)
    · refine gifY B X (pc' := 20) d11_15 ((if0 _ _).trans (teq c15_728).1) (by decide) ?_
      refine giconst B X d11_20 (v := (0 : Int32)) rfl (pc' := 21) rfl ?_
      exact gretI B X d11_21 (by decide) (by decide) (⟨by rw [oexp, if_pos c5_727, if_pos c15_728], rfl⟩)
    · refine gifN B X d11_15 ((if0 _ _).trans (feq c15_728).1) (pc' := 18) rfl ?_
      refine giconst B X d11_18 (v := (1 : Int32)) rfl (pc' := 19) rfl ?_
      exact gretI B X d11_19 (by decide) (by decide) (⟨by rw [oexp, if_pos c5_727, if_neg c15_728], rfl⟩)
  · refine gifN B X d11_5 ((if0 _ _).trans (feq c5_727).1) (pc' := 8) rfl ?_
    refine giconst B X d11_8 (v := (2 : Int32)) rfl (pc' := 9) rfl ?_
    exact gretI B X d11_9 (by decide) (by decide) (⟨by rw [oexp, if_neg c5_727], rfl⟩)
theorem d18_0 : decode method_7_code 0 = .ok (.iload_n 0, 1) := by decide +kernel
theorem d18_1 : decode method_7_code 1 = .ok (.ifCond .lt 12, 3) := by decide +kernel
theorem d18_4 : decode method_7_code 4 = .ok (.iload_n 1, 1) := by decide +kernel
theorem d18_5 : decode method_7_code 5 = .ok (.ifCond .lt 8, 3) := by decide +kernel
theorem d18_8 : decode method_7_code 8 = .ok (.iload_n 1, 1) := by decide +kernel
theorem d18_9 : decode method_7_code 9 = .ok (.iconst 3, 1) := by decide +kernel
theorem d18_10 : decode method_7_code 10 = .ok (.if_icmp .le 5, 3) := by decide +kernel
theorem d18_13 : decode method_7_code 13 = .ok (.iconst (-1), 1) := by decide +kernel
theorem d18_14 : decode method_7_code 14 = .ok (.ireturn, 1) := by decide +kernel
theorem d18_15 : decode method_7_code 15 = .ok (.iconst 1, 1) := by decide +kernel
theorem d18_16 : decode method_7_code 16 = .ok (.iload_n 1, 1) := by decide +kernel
theorem d18_17 : decode method_7_code 17 = .ok (.ishl, 1) := by decide +kernel
theorem d18_18 : decode method_7_code 18 = .ok (.istore_n 2, 1) := by decide +kernel
theorem d18_19 : decode method_7_code 19 = .ok (.iload_n 0, 1) := by decide +kernel
theorem d18_20 : decode method_7_code 20 = .ok (.iload_n 2, 1) := by decide +kernel
theorem d18_21 : decode method_7_code 21 = .ok (.iand, 1) := by decide +kernel
theorem d18_22 : decode method_7_code 22 = .ok (.ifCond .eq 5, 3) := by decide +kernel
theorem d18_25 : decode method_7_code 25 = .ok (.iconst (-1), 1) := by decide +kernel
theorem d18_26 : decode method_7_code 26 = .ok (.ireturn, 1) := by decide +kernel
theorem d18_27 : decode method_7_code 27 = .ok (.iload_n 0, 1) := by decide +kernel
theorem d18_28 : decode method_7_code 28 = .ok (.iload_n 2, 1) := by decide +kernel
theorem d18_29 : decode method_7_code 29 = .ok (.ior, 1) := by decide +kernel
theorem d18_30 : decode method_7_code 30 = .ok (.ireturn, 1) := by decide +kernel
theorem pn18 : plainFor (⟨"com/example/bisim_for_markov/bisimformarkov/analysis/PartitionSplitPinLaw", "addSeen", "(II)I"⟩ : MethodName) = true := plainFor_of_name (by first | (simp [plainName, overriddenIn]; done) | decide +kernel)
theorem ef18_II (m : MethodId) (x0 : Int32) (x1 : Int32) : entryFrame m #[(.int x0), (.int x1)] 3 = mkF m 0 #[.val (.int x0), .val (.int x1), .unset] [] := by first | (simp [entryFrame, mkF, argsToLocals, Value.category]; done) | rfl
def oadd (sn : Int32) (x : Int32) : Int32 := if sn < (0 : Int32) then (-1 : Int32) else (if x < (0 : Int32) then (-1 : Int32) else (if (3 : Int32) < x then (-1 : Int32) else (if (sn &&& ((1 : Int32) <<< (x &&& 31))) = (0 : Int32) then (sn ||| ((1 : Int32) <<< (x &&& 31))) else ((-1 : Int32)))))
def rmr18 : Room := { frames := 0, cells := 0, slots := 0, locals := 0 }
set_option maxRecDepth 65536 in
set_option maxHeartbeats 4000000 in
theorem mtadd (l : Launch) (Z : State) (a0 : Array Value) (hw : ∀ d ∈ tables_1, d.before a0 Z = true) (sn : Int32) (x : Int32)  (h0 : Heap) : Meth l Z (⟨"com/example/bisim_for_markov/bisimformarkov/analysis/PartitionSplitPinLaw", "addSeen", "(II)I"⟩ : MethodName) method_7_code 3 (some .int) rmr18 #[(.int sn), (.int x)] h0 [] (fun vr h' => vr = some (.int (oadd sn x)) ∧ h' = h0) := by
  refine Meth.of pn18 ?_
  intro p e s m below meth c T B X
  refine Go.entry (ef18_II m sn x) ?_
  refine giloadN B X d18_0 rfl (pc' := 1) rfl ?_
  by_cases c1_729 : sn < (0 : Int32)
  · refine gifY B X (pc' := 13) d18_1 ((if0 _ _).trans (tlt c1_729).1) (by decide) ?_
    refine giconst B X d18_13 (v := (-1 : Int32)) rfl (pc' := 14) rfl ?_
    exact gretI B X d18_14 (by decide) (by decide) (⟨by rw [oadd, if_pos c1_729], rfl⟩)
  · refine gifN B X d18_1 ((if0 _ _).trans (flt c1_729).1) (pc' := 4) rfl ?_
    refine giloadN B X d18_4 rfl (pc' := 5) rfl ?_
    by_cases c5_730 : x < (0 : Int32)
    · refine gifY B X (pc' := 13) d18_5 ((if0 _ _).trans (tlt c5_730).1) (by decide) ?_
      refine giconst B X d18_13 (v := (-1 : Int32)) rfl (pc' := 14) rfl ?_
      exact gretI B X d18_14 (by decide) (by decide) (⟨by rw [oadd, if_neg c1_729, if_pos c5_730], rfl⟩)
    · refine gifN B X d18_5 ((if0 _ _).trans (flt c5_730).1) (pc' := 8) rfl ?_
      refine giloadN B X d18_8 rfl (pc' := 9) rfl ?_
      refine giconst B X d18_9 (v := (3 : Int32)) rfl (pc' := 10) rfl ?_
      by_cases c10_731 : (3 : Int32) < x
      · refine gicN B X d18_10 (tlt c10_731).2.2.2 (pc' := 13) rfl ?_
        refine giconst B X d18_13 (v := (-1 : Int32)) rfl (pc' := 14) rfl ?_
        exact gretI B X d18_14 (by decide) (by decide) (⟨by rw [oadd, if_neg c1_729, if_neg c5_730, if_pos c10_731], rfl⟩)
      · refine gicY B X (pc' := 15) d18_10 (flt c10_731).2.2.2 (by decide) ?_
        refine giconst B X d18_15 (v := (1 : Int32)) rfl (pc' := 16) rfl ?_
        refine giloadN B X d18_16 rfl (pc' := 17) rfl ?_
        refine gishl B X d18_17 rfl (pc' := 18) rfl ?_
        refine gistoreN B X d18_18 (Ls' := #[.val (.int sn), .val (.int x), .val (.int ((1 : Int32) <<< (x &&& 31)))]) rfl (pc' := 19) rfl ?_
        refine giloadN B X d18_19 rfl (pc' := 20) rfl ?_
        refine giloadN B X d18_20 rfl (pc' := 21) rfl ?_
        refine giand B X d18_21 rfl (pc' := 22) rfl ?_
        by_cases c22_732 : (sn &&& ((1 : Int32) <<< (x &&& 31))) = (0 : Int32)
        · refine gifY B X (pc' := 27) d18_22 ((if0 _ _).trans (teq c22_732).1) (by decide) ?_
          refine giloadN B X d18_27 rfl (pc' := 28) rfl ?_
          refine giloadN B X d18_28 rfl (pc' := 29) rfl ?_
          refine gior B X d18_29 rfl (pc' := 30) rfl ?_
          exact gretI B X d18_30 (by decide) (by decide) (⟨by rw [oadd, if_neg c1_729, if_neg c5_730, if_neg c10_731, if_pos c22_732], rfl⟩)
        · refine gifN B X d18_22 ((if0 _ _).trans (feq c22_732).1) (pc' := 25) rfl ?_
          refine giconst B X d18_25 (v := (-1 : Int32)) rfl (pc' := 26) rfl ?_
          exact gretI B X d18_26 (by decide) (by decide) (⟨by rw [oadd, if_neg c1_729, if_neg c5_730, if_neg c10_731, if_neg c22_732], rfl⟩)
theorem d16_0 : decode jdk_29_method_69_code 0 = .ok (.iload_n 0, 1) := by decide +kernel
theorem d16_1 : decode jdk_29_method_69_code 1 = .ok (.iload_n 1, 1) := by decide +kernel
theorem d16_2 : decode jdk_29_method_69_code 2 = .ok (.if_icmp .gt 7, 3) := by decide +kernel
theorem d16_5 : decode jdk_29_method_69_code 5 = .ok (.iload_n 0, 1) := by decide +kernel
theorem d16_6 : decode jdk_29_method_69_code 6 = .ok (.goto 4, 3) := by decide +kernel
theorem d16_9 : decode jdk_29_method_69_code 9 = .ok (.iload_n 1, 1) := by decide +kernel
theorem d16_10 : decode jdk_29_method_69_code 10 = .ok (.ireturn, 1) := by decide +kernel
theorem ef16_II (m : MethodId) (x0 : Int32) (x1 : Int32) : entryFrame m #[(.int x0), (.int x1)] 2 = mkF m 0 #[.val (.int x0), .val (.int x1)] [] := by first | (simp [entryFrame, mkF, argsToLocals, Value.category]; done) | rfl
def omin (x : Int32) (y : Int32) : Int32 := if y < x then y else (x)
def rmr16 : Room := { frames := 0, cells := 0, slots := 0, locals := 0 }
set_option maxRecDepth 65536 in
set_option maxHeartbeats 4000000 in
theorem mtmin (l : Launch) (Z : State) (a0 : Array Value) (hw : ∀ d ∈ tables_1, d.before a0 Z = true) (x : Int32) (y : Int32)  (h0 : Heap) : Meth l Z (⟨"java/lang/Math", "min", "(II)I"⟩ : MethodName) jdk_29_method_69_code 2 (some .int) rmr16 #[(.int x), (.int y)] h0 [] (fun vr h' => vr = some (.int (omin x y)) ∧ h' = h0) := by
  refine Meth.of (Jvm.Free.JP.mathPlain rfl (by decide +kernel)) ?_
  intro p e s m below meth c T B X
  refine Go.entry (ef16_II m x y) ?_
  refine giloadN B X d16_0 rfl (pc' := 1) rfl ?_
  refine giloadN B X d16_1 rfl (pc' := 2) rfl ?_
  by_cases c2_733 : y < x
  · refine gicY B X (pc' := 9) d16_2 (tlt c2_733).2.2.1 (by decide) ?_
    refine giloadN B X d16_9 rfl (pc' := 10) rfl ?_
    exact gretI B X d16_10 (by decide) (by decide) (⟨by rw [omin, if_pos c2_733], rfl⟩)
  · refine gicN B X d16_2 (flt c2_733).2.2.1 (pc' := 5) rfl ?_
    refine giloadN B X d16_5 rfl (pc' := 6) rfl ?_
    refine ggoto B X (pc' := 10) d16_6 (by decide) ?_
    exact gretI B X d16_10 (by decide) (by decide) (⟨by rw [omin, if_neg c2_733], rfl⟩)
theorem d15_0 : decode jdk_65_method_131_code 0 = .ok (.iload_n 1, 1) := by decide +kernel
theorem d15_1 : decode jdk_65_method_131_code 1 = .ok (.iload_n 0, 1) := by decide +kernel
theorem d15_2 : decode jdk_65_method_131_code 2 = .ok (.if_icmp .ge 35, 3) := by decide +kernel
theorem d15_5 : decode jdk_65_method_131_code 5 = .ok (.new 43, 3) := by decide +kernel
theorem d15_8 : decode jdk_65_method_131_code 8 = .ok (.dup, 1) := by decide +kernel
theorem d15_9 : decode jdk_65_method_131_code 9 = .ok (.new 45, 3) := by decide +kernel
theorem d15_12 : decode jdk_65_method_131_code 12 = .ok (.dup, 1) := by decide +kernel
theorem d15_13 : decode jdk_65_method_131_code 13 = .ok (.invokespecial 47, 3) := by decide +kernel
theorem d15_16 : decode jdk_65_method_131_code 16 = .ok (.iload_n 0, 1) := by decide +kernel
theorem d15_17 : decode jdk_65_method_131_code 17 = .ok (.invokevirtual 54, 3) := by decide +kernel
theorem d15_20 : decode jdk_65_method_131_code 20 = .ok (.ldc_w 337, 3) := by decide +kernel
theorem d15_23 : decode jdk_65_method_131_code 23 = .ok (.invokevirtual 50, 3) := by decide +kernel
theorem d15_26 : decode jdk_65_method_131_code 26 = .ok (.iload_n 1, 1) := by decide +kernel
theorem d15_27 : decode jdk_65_method_131_code 27 = .ok (.invokevirtual 54, 3) := by decide +kernel
theorem d15_30 : decode jdk_65_method_131_code 30 = .ok (.invokevirtual 61, 3) := by decide +kernel
theorem d15_33 : decode jdk_65_method_131_code 33 = .ok (.invokespecial 65, 3) := by decide +kernel
theorem d15_36 : decode jdk_65_method_131_code 36 = .ok (.athrow, 1) := by decide +kernel
theorem d15_37 : decode jdk_65_method_131_code 37 = .ok (.return_, 1) := by decide +kernel
theorem pn15 : plainFor (⟨"java/util/Arrays", "checkLength", "(II)V"⟩ : MethodName) = true := by decide +kernel
theorem ef15_II (m : MethodId) (x0 : Int32) (x1 : Int32) : entryFrame m #[(.int x0), (.int x1)] 2 = mkF m 0 #[.val (.int x0), .val (.int x1)] [] := by first | (simp [entryFrame, mkF, argsToLocals, Value.category]; done) | rfl
def rmr15 : Room := { frames := 0, cells := 0, slots := 0, locals := 0 }
set_option maxRecDepth 65536 in
set_option maxHeartbeats 4000000 in
theorem mt15 (l : Launch) (Z : State) (a0 : Array Value) (hw : ∀ d ∈ tables_1, d.before a0 Z = true) (x : Int32) (y : Int32)  (h0 : Heap) (hxy : ¬ y < x) : Meth l Z (⟨"java/util/Arrays", "checkLength", "(II)V"⟩ : MethodName) jdk_65_method_131_code 2 none rmr15 #[(.int x), (.int y)] h0 [] (fun v h' => v = none ∧ h' = h0) := by
  refine Meth.of pn15 ?_
  intro p e s m below meth c T B X
  refine Go.entry (ef15_II m x y) ?_
  refine giloadN B X d15_0 rfl (pc' := 1) rfl ?_
  refine giloadN B X d15_1 rfl (pc' := 2) rfl ?_
  have c2_734 : ¬ (y < x) := hxy
  refine gicY B X (pc' := 37) d15_2 (flt c2_734).2.1 (by decide) ?_
  exact gretV B X d15_37 (by decide) (by decide) (⟨rfl, rfl⟩)
theorem own_min {x y : Int32} (h : y.toInt ≤ x.toInt) : omin x y = y := by
  unfold omin
  split
  · rfl
  · rename_i q; rw [Int32.lt_iff_toInt_lt] at q; exact Int32.toInt_inj.mp (by omega)
theorem own_4sub {fr : Int32} {fN : Nat} (h : fr.toInt = fN) (h4 : fN ≤ 4) : ((4 : Int32) - fr).toInt = ((4 - fN : Nat) : Int) := own_subN (a := 4) rfl h (by omega) h4
theorem d14_0 : decode jdk_65_method_137_code 0 = .ok (.iload_n 1, 1) := by decide +kernel
theorem d14_1 : decode jdk_65_method_137_code 1 = .ok (.iload_n 2, 1) := by decide +kernel
theorem d14_2 : decode jdk_65_method_137_code 2 = .ok (.invokestatic 343, 3) := by decide +kernel
theorem d14_5 : decode jdk_65_method_137_code 5 = .ok (.iload_n 2, 1) := by decide +kernel
theorem d14_6 : decode jdk_65_method_137_code 6 = .ok (.iload_n 1, 1) := by decide +kernel
theorem d14_7 : decode jdk_65_method_137_code 7 = .ok (.isub, 1) := by decide +kernel
theorem d14_8 : decode jdk_65_method_137_code 8 = .ok (.istore_n 3, 1) := by decide +kernel
theorem d14_9 : decode jdk_65_method_137_code 9 = .ok (.iload_n 3, 1) := by decide +kernel
theorem d14_10 : decode jdk_65_method_137_code 10 = .ok (.newarray .int, 2) := by decide +kernel
theorem d14_12 : decode jdk_65_method_137_code 12 = .ok (.astore 4, 2) := by decide +kernel
theorem d14_14 : decode jdk_65_method_137_code 14 = .ok (.aload_n 0, 1) := by decide +kernel
theorem d14_15 : decode jdk_65_method_137_code 15 = .ok (.iload_n 1, 1) := by decide +kernel
theorem d14_16 : decode jdk_65_method_137_code 16 = .ok (.aload 4, 2) := by decide +kernel
theorem d14_18 : decode jdk_65_method_137_code 18 = .ok (.iconst 0, 1) := by decide +kernel
theorem d14_19 : decode jdk_65_method_137_code 19 = .ok (.aload_n 0, 1) := by decide +kernel
theorem d14_20 : decode jdk_65_method_137_code 20 = .ok (.arraylength, 1) := by decide +kernel
theorem d14_21 : decode jdk_65_method_137_code 21 = .ok (.iload_n 1, 1) := by decide +kernel
theorem d14_22 : decode jdk_65_method_137_code 22 = .ok (.isub, 1) := by decide +kernel
theorem d14_23 : decode jdk_65_method_137_code 23 = .ok (.iload_n 3, 1) := by decide +kernel
theorem d14_24 : decode jdk_65_method_137_code 24 = .ok (.invokestatic 304, 3) := by decide +kernel
theorem d14_27 : decode jdk_65_method_137_code 27 = .ok (.invokestatic 150, 3) := by decide +kernel
theorem d14_30 : decode jdk_65_method_137_code 30 = .ok (.aload 4, 2) := by decide +kernel
theorem d14_32 : decode jdk_65_method_137_code 32 = .ok (.areturn, 1) := by decide +kernel
theorem pn14 : plainFor (⟨"java/util/Arrays", "copyOfRangeInt", "([III)[I"⟩ : MethodName) = true := by decide +kernel
theorem ef14_RII (m : MethodId) (x0 : Addr) (x1 : Int32) (x2 : Int32) : entryFrame m #[(.ref x0), (.int x1), (.int x2)] 5 = mkF m 0 #[.val (.ref x0), .val (.int x1), .val (.int x2), .unset, .unset] [] := by first | (simp [entryFrame, mkF, argsToLocals, Value.category]; done) | rfl
theorem pd__II_V : parseMethodDescriptor "(II)V" = some ⟨[.int, .int], none⟩ := by decide +kernel
def rmr14 : Room := { frames := 1, cells := 1, slots := 4, locals := 40 }
set_option maxRecDepth 65536 in
set_option maxHeartbeats 4000000 in
theorem mt14 (l : Launch) (Z : State) (a0 : Array Value) (hw : ∀ d ∈ tables_1, d.before a0 Z = true) (ar : Addr) (fr : Int32) (to : Int32) (xs : List Int32) (fN tN : Nat) (h0 : Heap) (FA : VA Z h0 ar .int (xs.map Value.int)) (hL : xs.length = 4) (hfr : fr.toInt = fN) (hto : to.toInt = tN) (hft : fN ≤ tN) (ht4 : tN ≤ 4) : Meth l Z (⟨"java/util/Arrays", "copyOfRangeInt", "([III)[I"⟩ : MethodName) jdk_65_method_137_code 5 (some (.array .int)) rmr14 #[(.ref ar), (.int fr), (.int to)] h0 [] (fun v h' => ∃ b, v = some (.ref b) ∧ h0.size ≤ b ∧ VA Z h' b .int ((osub xs fN tN).map Value.int)) := by
  refine Meth.of pn14 ?_
  intro p e s m below meth c T B X
  refine Go.entry (ef14_RII m ar fr to) ?_
  refine giloadN B X d14_0 rfl (pc' := 1) rfl ?_
  refine giloadN B X d14_1 rfl (pc' := 2) rfl ?_
  refine gcallS B X (hw _ (List.mem_of_getElem? (i := 75) rfl)) (hw _ (List.mem_of_getElem? (i := 76) rfl)) (hw _ (List.mem_of_getElem? (i := 70) rfl)) (hw _ (List.mem_of_getElem? (i := 77) rfl)) (by decide) (mt15 l Z a0 hw fr to  h0 (by rw [Int32.lt_iff_toInt_lt]; omega)) pd__II_V rfl (argsL := [(.int fr), (.int to)]) (st := []) rfl rfl (W := 0) (Nat.le_of_eq rfl) (by decide) (by decide) (by decide) (by decide) (fun x q => nomatch q) d14_2 (pc' := 5) rfl (pureV rfl rfl fun T735 X736 => ?_)
  refine giloadN B X736 d14_5 rfl (pc' := 6) rfl ?_
  refine giloadN B X736 d14_6 rfl (pc' := 7) rfl ?_
  refine gisub B X736 d14_7 rfl (pc' := 8) rfl ?_
  refine gistoreN B X736 d14_8 (Ls' := #[.val (.ref ar), .val (.int fr), .val (.int to), .val (.int (to - fr)), .unset]) rfl (pc' := 9) rfl ?_
  refine giloadN B X736 d14_9 rfl (pc' := 10) rfl ?_
  have hd : (to - fr).toInt = ((tN - fN : Nat) : Int) := own_subN hto hfr (by omega) hft
  refine gnewarray B X736 (cap := 4) (vs := ((List.replicate (tN - fN) (0 : Int32)).map Value.int)) (ty := .int) rfl (own_rep hd) (hw _ (List.mem_of_getElem? (i := 0) rfl)) (by omega) (by omega) (by decide) (by decide) (by decide) d14_10 (pc' := 12) rfl fun T737 h738 a739 X740 q741 E742 z_a739 A743 => ?_
  have n744 : ar ≠ a739 := by rw [q741]; exact Nat.ne_of_lt FA.lt
  have F745 := FA.ext E742
  refine gastore B X740 d14_12 rfl (Ls' := #[.val (.ref ar), .val (.int fr), .val (.int to), .val (.int (to - fr)), .val (.ref a739)]) rfl (pc' := 14) rfl ?_
  refine galoadN B X740 d14_14 rfl rfl (pc' := 15) rfl ?_
  refine giloadN B X740 d14_15 rfl (pc' := 16) rfl ?_
  refine gaload B X740 d14_16 rfl rfl (pc' := 18) rfl ?_
  refine giconst B X740 d14_18 (v := (0 : Int32)) rfl (pc' := 19) rfl ?_
  refine galoadN B X740 d14_19 rfl rfl (pc' := 20) rfl ?_
  refine glength B X740 (n := (4 : Int32)) F745 (k := 4) (by rw [List.length_map]; exact hL) rfl d14_20 (pc' := 21) rfl ?_
  refine giloadN B X740 d14_21 rfl (pc' := 22) rfl ?_
  refine gisub B X740 d14_22 rfl (pc' := 23) rfl ?_
  refine giloadN B X740 d14_23 rfl (pc' := 24) rfl ?_
  refine gcallS B X740 (hw _ (List.mem_of_getElem? (i := 78) rfl)) (hw _ (List.mem_of_getElem? (i := 79) rfl)) (hw _ (List.mem_of_getElem? (i := 28) rfl)) (hw _ (List.mem_of_getElem? (i := 80) rfl)) (by decide) (mtmin l Z a0 hw ((4 : Int32) - fr) (to - fr)  h738 ) pd__II_I rfl (argsL := [(.int ((4 : Int32) - fr)), (.int (to - fr))]) (st := [(.int (0 : Int32)), (.ref a739), (.int fr), (.ref ar)]) rfl rfl (W := 4) (Nat.le_of_eq rfl) (by decide) (by decide) (by decide) (by decide) (fun x q => nomatch q) d14_24 (pc' := 27) rfl (pureG rfl rfl fun T746 X747 => ?_)
  have hm := own_min (x := (4 : Int32) - fr) (y := to - fr) (by have a := own_4sub hfr (by omega); omega)
  rw [hm]
  refine gcopy B X747 (W := 0) (hw _ (List.mem_of_getElem? (i := 81) rfl)) (hw _ (List.mem_of_getElem? (i := 84) rfl)) (hw _ (List.mem_of_getElem? (i := 82) rfl)) (hw _ (List.mem_of_getElem? (i := 83) rfl)) F745 A743 hfr rfl hd (by omega) (List.length_replicate ..) (us := osub xs fN tN) rfl z_a739 rfl (by decide) (Nat.le_of_eq rfl) (by decide) d14_27 (pc' := 30) rfl fun T748 h749 X750 K751 A752 => ?_
  have F753 := F745.keep K751 (ninS n744 nin0)
  refine gaload B X750 d14_30 rfl rfl (pc' := 32) rfl ?_
  exact gretA B X750 rfl rfl d14_32 (by decide) (by decide) (⟨_, rfl, z_a739, A752⟩)
theorem d13_0 : decode jdk_65_method_136_code 0 = .ok (.iload_n 1, 1) := by decide +kernel
theorem d13_1 : decode jdk_65_method_136_code 1 = .ok (.ifCond .ne 9, 3) := by decide +kernel
theorem d13_4 : decode jdk_65_method_136_code 4 = .ok (.iload_n 2, 1) := by decide +kernel
theorem d13_5 : decode jdk_65_method_136_code 5 = .ok (.aload_n 0, 1) := by decide +kernel
theorem d13_6 : decode jdk_65_method_136_code 6 = .ok (.arraylength, 1) := by decide +kernel
theorem d13_7 : decode jdk_65_method_136_code 7 = .ok (.if_icmp .eq 10, 3) := by decide +kernel
theorem d13_10 : decode jdk_65_method_136_code 10 = .ok (.aload_n 0, 1) := by decide +kernel
theorem d13_11 : decode jdk_65_method_136_code 11 = .ok (.iload_n 1, 1) := by decide +kernel
theorem d13_12 : decode jdk_65_method_136_code 12 = .ok (.iload_n 2, 1) := by decide +kernel
theorem d13_13 : decode jdk_65_method_136_code 13 = .ok (.invokestatic 351, 3) := by decide +kernel
theorem d13_16 : decode jdk_65_method_136_code 16 = .ok (.areturn, 1) := by decide +kernel
theorem d13_17 : decode jdk_65_method_136_code 17 = .ok (.aload_n 0, 1) := by decide +kernel
theorem d13_18 : decode jdk_65_method_136_code 18 = .ok (.invokevirtual 316, 3) := by decide +kernel
theorem d13_21 : decode jdk_65_method_136_code 21 = .ok (.checkcast 317, 3) := by decide +kernel
theorem d13_24 : decode jdk_65_method_136_code 24 = .ok (.areturn, 1) := by decide +kernel
theorem pn13 : plainFor (⟨"java/util/Arrays", "copyOfRange", "([III)[I"⟩ : MethodName) = true := by decide +kernel
theorem ef13_RII (m : MethodId) (x0 : Addr) (x1 : Int32) (x2 : Int32) : entryFrame m #[(.ref x0), (.int x1), (.int x2)] 3 = mkF m 0 #[.val (.ref x0), .val (.int x1), .val (.int x2)] [] := by first | (simp [entryFrame, mkF, argsToLocals, Value.category]; done) | rfl
theorem pd___III__I : parseMethodDescriptor "([III)[I" = some ⟨[(.array .int), .int, .int], some (.array .int)⟩ := by decide +kernel
def rmr13 : Room := { frames := 2, cells := 1, slots := 4, locals := 56 }
set_option maxRecDepth 65536 in
set_option maxHeartbeats 4000000 in
theorem mt13 (l : Launch) (Z : State) (a0 : Array Value) (hw : ∀ d ∈ tables_1, d.before a0 Z = true) (ar : Addr) (fr : Int32) (to : Int32) (xs : List Int32) (fN tN : Nat) (h0 : Heap) (FA : VA Z h0 ar .int (xs.map Value.int)) (hL : xs.length = 4) (hfr : fr.toInt = fN) (hto : to.toInt = tN) (hft : fN ≤ tN) (ht4 : tN ≤ 4) (E : Exa Z h0 ar "[I") : Meth l Z (⟨"java/util/Arrays", "copyOfRange", "([III)[I"⟩ : MethodName) jdk_65_method_136_code 3 (some (.array .int)) rmr13 #[(.ref ar), (.int fr), (.int to)] h0 [] (fun v h' => ∃ b, v = some (.ref b) ∧ h0.size ≤ b ∧ VA Z h' b .int ((osub xs fN tN).map Value.int)) := by
  refine Meth.of pn13 ?_
  intro p e s m below meth c T B X
  refine Go.entry (ef13_RII m ar fr to) ?_
  refine giloadN B X d13_0 rfl (pc' := 1) rfl ?_
  by_cases c1_754 : fr = (0 : Int32)
  · refine gifN B X d13_1 ((if0 _ _).trans (teq c1_754).2) (pc' := 4) rfl ?_
    refine giloadN B X d13_4 rfl (pc' := 5) rfl ?_
    refine galoadN B X d13_5 rfl rfl (pc' := 6) rfl ?_
    refine glength B X (n := (4 : Int32)) FA (k := 4) (by rw [List.length_map]; exact hL) rfl d13_6 (pc' := 7) rfl ?_
    by_cases c7_755 : to = (4 : Int32)
    · refine gicY B X (pc' := 17) d13_7 (teq c7_755).1 (by decide) ?_
      refine galoadN B X d13_17 rfl rfl (pc' := 18) rfl ?_
      refine gclone B X (W := 0) (cap := 4) (hw _ (List.mem_of_getElem? (i := 91) rfl)) (hw _ (List.mem_of_getElem? (i := 92) rfl)) (hw _ (List.mem_of_getElem? (i := 96) rfl)) (hw _ (List.mem_of_getElem? (i := 94) rfl)) (hw _ (List.mem_of_getElem? (i := 95) rfl)) (hw _ (List.mem_of_getElem? (i := 97) rfl)) FA E (own_fitsI xs) (n := 4) (by rw [List.length_map]; exact hL) (by decide) rfl (by decide) (Nat.le_of_eq rfl) (by decide) (by decide) (by decide) d13_18 (pc' := 21) rfl fun T756 h757 a758 X759 q760 E761 z_a758 A762 E763 => ?_
      have n764 : ar ≠ a758 := by rw [q760]; exact Nat.ne_of_lt FA.lt
      have E765 := E.ext E761
      have F766 := FA.ext E761
      refine gcast B X759 (hw _ (List.mem_of_getElem? (i := 98) rfl)) (Ins.self E763) d13_21 (pc' := 24) rfl fun T767 X768 => ?_
      exact gretA B X768 rfl rfl d13_24 (by decide) (by decide) (⟨_, rfl, z_a758, by rw [show fN = 0 by rw [c1_754] at hfr; have z : (0 : Int32).toInt = 0 := rfl; omega, show tN = 4 by rw [c7_755] at hto; have z : (4 : Int32).toInt = 4 := rfl; omega, own_sub4 hL]; exact A762⟩)
    · refine gicN B X d13_7 (feq c7_755).1 (pc' := 10) rfl ?_
      refine galoadN B X d13_10 rfl rfl (pc' := 11) rfl ?_
      refine giloadN B X d13_11 rfl (pc' := 12) rfl ?_
      refine giloadN B X d13_12 rfl (pc' := 13) rfl ?_
      refine gcallS B X (hw _ (List.mem_of_getElem? (i := 72) rfl)) (hw _ (List.mem_of_getElem? (i := 73) rfl)) (hw _ (List.mem_of_getElem? (i := 70) rfl)) (hw _ (List.mem_of_getElem? (i := 74) rfl)) (by decide) (mt14 l Z a0 hw ar fr to xs fN tN h0 FA hL hfr hto hft ht4) pd___III__I rfl (argsL := [(.ref ar), (.int fr), (.int to)]) (st := []) rfl rfl (W := 0) (Nat.le_of_eq rfl) (by decide) (by decide) (by decide) (by decide) (fun x q => nomatch q) d13_13 (pc' := 16) rfl fun T769 h770 v771 X772 K773 Q774 => ?_
      have E775 := E.keep K773
      have F776 := FA.keep K773 nin0
      obtain ⟨b777, rfl, y778, A779⟩ := Q774
      have z_b777 : h0.size ≤ b777 := Nat.le_trans X.kept.1 y778
      have n780 : ar ≠ b777 := Nat.ne_of_lt (Nat.lt_of_lt_of_le FA.lt y778)
      show Go p e below _ _ _ _ T769 (mkF m 16 #[.val (.ref ar), .val (.int fr), .val (.int to)] [(.ref b777)])
      exact gretA B X772 rfl rfl d13_16 (by decide) (by decide) (⟨_, rfl, z_b777, A779⟩)
  · refine gifY B X (pc' := 10) d13_1 ((if0 _ _).trans (feq c1_754).2) (by decide) ?_
    refine galoadN B X d13_10 rfl rfl (pc' := 11) rfl ?_
    refine giloadN B X d13_11 rfl (pc' := 12) rfl ?_
    refine giloadN B X d13_12 rfl (pc' := 13) rfl ?_
    refine gcallS B X (hw _ (List.mem_of_getElem? (i := 72) rfl)) (hw _ (List.mem_of_getElem? (i := 73) rfl)) (hw _ (List.mem_of_getElem? (i := 70) rfl)) (hw _ (List.mem_of_getElem? (i := 74) rfl)) (by decide) (mt14 l Z a0 hw ar fr to xs fN tN h0 FA hL hfr hto hft ht4) pd___III__I rfl (argsL := [(.ref ar), (.int fr), (.int to)]) (st := []) rfl rfl (W := 0) (Nat.le_of_eq rfl) (by decide) (by decide) (by decide) (by decide) (fun x q => nomatch q) d13_13 (pc' := 16) rfl fun T781 h782 v783 X784 K785 Q786 => ?_
    have E787 := E.keep K785
    have F788 := FA.keep K785 nin0
    obtain ⟨b789, rfl, y790, A791⟩ := Q786
    have z_b789 : h0.size ≤ b789 := Nat.le_trans X.kept.1 y790
    have n792 : ar ≠ b789 := Nat.ne_of_lt (Nat.lt_of_lt_of_le FA.lt y790)
    show Go p e below _ _ _ _ T781 (mkF m 16 #[.val (.ref ar), .val (.int fr), .val (.int to)] [(.ref b789)])
    exact gretA B X784 rfl rfl d13_16 (by decide) (by decide) (⟨_, rfl, z_b789, A791⟩)
theorem d12_0 : decode prog_61_method_4_code 0 = .ok (.aload_n 0, 1) := by decide +kernel
theorem d12_1 : decode prog_61_method_4_code 1 = .ok (.getfield 7, 3) := by decide +kernel
theorem d12_4 : decode prog_61_method_4_code 4 = .ok (.aload_n 0, 1) := by decide +kernel
theorem d12_5 : decode prog_61_method_4_code 5 = .ok (.getfield 25, 3) := by decide +kernel
theorem d12_8 : decode prog_61_method_4_code 8 = .ok (.iload_n 1, 1) := by decide +kernel
theorem d12_9 : decode prog_61_method_4_code 9 = .ok (.iaload, 1) := by decide +kernel
theorem d12_10 : decode prog_61_method_4_code 10 = .ok (.aload_n 0, 1) := by decide +kernel
theorem d12_11 : decode prog_61_method_4_code 11 = .ok (.getfield 28, 3) := by decide +kernel
theorem d12_14 : decode prog_61_method_4_code 14 = .ok (.iload_n 1, 1) := by decide +kernel
theorem d12_15 : decode prog_61_method_4_code 15 = .ok (.iaload, 1) := by decide +kernel
theorem d12_16 : decode prog_61_method_4_code 16 = .ok (.invokestatic 41, 3) := by decide +kernel
theorem d12_19 : decode prog_61_method_4_code 19 = .ok (.areturn, 1) := by decide +kernel
theorem pn12 : plainFor (⟨"com/example/bisim_for_markov/bisimformarkov/analysis/Partition", "members", "(I)[I"⟩ : MethodName) = true := plainFor_of_name (by first | (simp [plainName, overriddenIn]; done) | decide +kernel)
theorem ef12_RI (m : MethodId) (x0 : Addr) (x1 : Int32) : entryFrame m #[(.ref x0), (.int x1)] 2 = mkF m 0 #[.val (.ref x0), .val (.int x1)] [] := by first | (simp [entryFrame, mkF, argsToLocals, Value.category]; done) | rfl
def rmr12 : Room := { frames := 3, cells := 1, slots := 4, locals := 70 }
set_option maxRecDepth 65536 in
set_option maxHeartbeats 4000000 in
theorem mt12 (l : Launch) (Z : State) (a0 : Array Value) (hw : ∀ d ∈ tables_1, d.before a0 Z = true) (q : Addr) (cl : Int32) (aE aL aK aS aN aP aR : Addr) (u : PS) (sN eN : Nat) (h0 : Heap) (A : PA Z h0 q aE aL aK aS aN aP aR u) (k : Ok 4 4 u) (hcl : inR 4 cl) (hs : (u.ss.getD cl.toNatClampNeg 0).toInt = sN) (he : (u.ns.getD cl.toNatClampNeg 0).toInt = eN) (hse : sN ≤ eN) (he4 : eN ≤ 4) : Meth l Z (⟨"com/example/bisim_for_markov/bisimformarkov/analysis/Partition", "members", "(I)[I"⟩ : MethodName) prog_61_method_4_code 2 (some (.array .int)) rmr12 #[(.ref q), (.int cl)] h0 [] (fun v h' => ∃ b, v = some (.ref b) ∧ h0.size ≤ b ∧ VA Z h' b .int ((osub u.es sN eN).map Value.int)) := by
  refine Meth.of pn12 ?_
  intro p e s m below meth c T B X
  refine Go.entry (ef12_RI m q cl) ?_
  refine galoadN B X d12_0 rfl rfl (pc' := 1) rfl ?_
  refine gget B X (hw _ (List.mem_of_getElem? (i := 20) rfl)) A.1.2.1 d12_1 (pc' := 4) rfl fun T793 X794 => ?_
  refine galoadN B X794 d12_4 rfl rfl (pc' := 5) rfl ?_
  refine gget B X794 (hw _ (List.mem_of_getElem? (i := 30) rfl)) A.1.2.2.2.2.1 d12_5 (pc' := 8) rfl fun T795 X796 => ?_
  refine giloadN B X796 d12_8 rfl (pc' := 9) rfl ?_
  refine giaload B X796 A.2.2.2.2.1 (n := 4) (by rw [List.length_map]; exact k.2.2.2.1) hcl (v := (.int (u.ss.getD cl.toNatClampNeg 0))) (own_at (by rw [k.2.2.2.1]; exact own_nat hcl)) d12_9 (pc' := 10) rfl ?_
  refine galoadN B X796 d12_10 rfl rfl (pc' := 11) rfl ?_
  refine gget B X796 (hw _ (List.mem_of_getElem? (i := 32) rfl)) A.1.2.2.2.2.2.1 d12_11 (pc' := 14) rfl fun T797 X798 => ?_
  refine giloadN B X798 d12_14 rfl (pc' := 15) rfl ?_
  refine giaload B X798 A.2.2.2.2.2.1 (n := 4) (by rw [List.length_map]; exact k.2.2.2.2.1) hcl (v := (.int (u.ns.getD cl.toNatClampNeg 0))) (own_at (by rw [k.2.2.2.2.1]; exact own_nat hcl)) d12_15 (pc' := 16) rfl ?_
  refine gcallS B X798 (hw _ (List.mem_of_getElem? (i := 68) rfl)) (hw _ (List.mem_of_getElem? (i := 69) rfl)) (hw _ (List.mem_of_getElem? (i := 70) rfl)) (hw _ (List.mem_of_getElem? (i := 71) rfl)) (by decide) (mt13 l Z a0 hw aE (u.ss.getD cl.toNatClampNeg 0) (u.ns.getD cl.toNatClampNeg 0) u.es sN eN h0 A.2.1 k.1 hs he hse he4 A.2.2.2.2.2.2.2.2) pd___III__I rfl (argsL := [(.ref aE), (.int (u.ss.getD cl.toNatClampNeg 0)), (.int (u.ns.getD cl.toNatClampNeg 0))]) (st := []) rfl rfl (W := 0) (Nat.le_of_eq rfl) (by decide) (by decide) (by decide) (by decide) (fun x q => nomatch q) d12_16 (pc' := 19) rfl fun T799 h800 v801 X802 K803 Q804 => ?_
  have F805 := A.1.keep K803 nin0
  have E806 := A.2.2.2.2.2.2.2.2.keep K803
  have F807 := A.2.1.keep K803 nin0
  have F808 := A.2.2.1.keep K803 nin0
  have F809 := A.2.2.2.1.keep K803 nin0
  have F810 := A.2.2.2.2.1.keep K803 nin0
  have F811 := A.2.2.2.2.2.1.keep K803 nin0
  have F812 := A.2.2.2.2.2.2.1.keep K803 nin0
  have F813 := A.2.2.2.2.2.2.2.1.keep K803 nin0
  obtain ⟨b814, rfl, y815, A816⟩ := Q804
  have z_b814 : h0.size ≤ b814 := Nat.le_trans X798.kept.1 y815
  have n817 : q ≠ b814 := Nat.ne_of_lt (Nat.lt_of_lt_of_le A.1.lt y815)
  have n818 : aE ≠ b814 := Nat.ne_of_lt (Nat.lt_of_lt_of_le A.2.1.lt y815)
  have n819 : aL ≠ b814 := Nat.ne_of_lt (Nat.lt_of_lt_of_le A.2.2.1.lt y815)
  have n820 : aK ≠ b814 := Nat.ne_of_lt (Nat.lt_of_lt_of_le A.2.2.2.1.lt y815)
  have n821 : aS ≠ b814 := Nat.ne_of_lt (Nat.lt_of_lt_of_le A.2.2.2.2.1.lt y815)
  have n822 : aN ≠ b814 := Nat.ne_of_lt (Nat.lt_of_lt_of_le A.2.2.2.2.2.1.lt y815)
  have n823 : aP ≠ b814 := Nat.ne_of_lt (Nat.lt_of_lt_of_le A.2.2.2.2.2.2.1.lt y815)
  have n824 : aR ≠ b814 := Nat.ne_of_lt (Nat.lt_of_lt_of_le A.2.2.2.2.2.2.2.1.lt y815)
  show Go p e below _ _ _ _ T799 (mkF m 19 #[.val (.ref q), .val (.int cl)] [(.ref b814)])
  exact gretA B X802 rfl rfl d12_19 (by decide) (by decide) (⟨_, rfl, z_b814, A816⟩)
theorem d17_0 : decode method_8_code 0 = .ok (.aload_n 0, 1) := by decide +kernel
theorem d17_1 : decode method_8_code 1 = .ok (.arraylength, 1) := by decide +kernel
theorem d17_2 : decode method_8_code 2 = .ok (.iconst 4, 1) := by decide +kernel
theorem d17_3 : decode method_8_code 3 = .ok (.if_icmp .le 5, 3) := by decide +kernel
theorem d17_6 : decode method_8_code 6 = .ok (.iconst 0, 1) := by decide +kernel
theorem d17_7 : decode method_8_code 7 = .ok (.ireturn, 1) := by decide +kernel
theorem d17_8 : decode method_8_code 8 = .ok (.iconst 0, 1) := by decide +kernel
theorem d17_9 : decode method_8_code 9 = .ok (.istore_n 2, 1) := by decide +kernel
theorem d17_10 : decode method_8_code 10 = .ok (.aload_n 0, 1) := by decide +kernel
theorem d17_11 : decode method_8_code 11 = .ok (.arraylength, 1) := by decide +kernel
theorem d17_12 : decode method_8_code 12 = .ok (.ifCond .le 11, 3) := by decide +kernel
theorem d17_15 : decode method_8_code 15 = .ok (.iload_n 2, 1) := by decide +kernel
theorem d17_16 : decode method_8_code 16 = .ok (.aload_n 0, 1) := by decide +kernel
theorem d17_17 : decode method_8_code 17 = .ok (.iconst 0, 1) := by decide +kernel
theorem d17_18 : decode method_8_code 18 = .ok (.iaload, 1) := by decide +kernel
theorem d17_19 : decode method_8_code 19 = .ok (.invokestatic 51, 3) := by decide +kernel
theorem d17_22 : decode method_8_code 22 = .ok (.istore_n 2, 1) := by decide +kernel
theorem d17_23 : decode method_8_code 23 = .ok (.aload_n 0, 1) := by decide +kernel
theorem d17_24 : decode method_8_code 24 = .ok (.arraylength, 1) := by decide +kernel
theorem d17_25 : decode method_8_code 25 = .ok (.iconst 1, 1) := by decide +kernel
theorem d17_26 : decode method_8_code 26 = .ok (.if_icmp .le 11, 3) := by decide +kernel
theorem d17_29 : decode method_8_code 29 = .ok (.iload_n 2, 1) := by decide +kernel
theorem d17_30 : decode method_8_code 30 = .ok (.aload_n 0, 1) := by decide +kernel
theorem d17_31 : decode method_8_code 31 = .ok (.iconst 1, 1) := by decide +kernel
theorem d17_32 : decode method_8_code 32 = .ok (.iaload, 1) := by decide +kernel
theorem d17_33 : decode method_8_code 33 = .ok (.invokestatic 51, 3) := by decide +kernel
theorem d17_36 : decode method_8_code 36 = .ok (.istore_n 2, 1) := by decide +kernel
theorem d17_37 : decode method_8_code 37 = .ok (.aload_n 0, 1) := by decide +kernel
theorem d17_38 : decode method_8_code 38 = .ok (.arraylength, 1) := by decide +kernel
theorem d17_39 : decode method_8_code 39 = .ok (.iconst 2, 1) := by decide +kernel
theorem d17_40 : decode method_8_code 40 = .ok (.if_icmp .le 11, 3) := by decide +kernel
theorem d17_43 : decode method_8_code 43 = .ok (.iload_n 2, 1) := by decide +kernel
theorem d17_44 : decode method_8_code 44 = .ok (.aload_n 0, 1) := by decide +kernel
theorem d17_45 : decode method_8_code 45 = .ok (.iconst 2, 1) := by decide +kernel
theorem d17_46 : decode method_8_code 46 = .ok (.iaload, 1) := by decide +kernel
theorem d17_47 : decode method_8_code 47 = .ok (.invokestatic 51, 3) := by decide +kernel
theorem d17_50 : decode method_8_code 50 = .ok (.istore_n 2, 1) := by decide +kernel
theorem d17_51 : decode method_8_code 51 = .ok (.aload_n 0, 1) := by decide +kernel
theorem d17_52 : decode method_8_code 52 = .ok (.arraylength, 1) := by decide +kernel
theorem d17_53 : decode method_8_code 53 = .ok (.iconst 3, 1) := by decide +kernel
theorem d17_54 : decode method_8_code 54 = .ok (.if_icmp .le 11, 3) := by decide +kernel
theorem d17_57 : decode method_8_code 57 = .ok (.iload_n 2, 1) := by decide +kernel
theorem d17_58 : decode method_8_code 58 = .ok (.aload_n 0, 1) := by decide +kernel
theorem d17_59 : decode method_8_code 59 = .ok (.iconst 3, 1) := by decide +kernel
theorem d17_60 : decode method_8_code 60 = .ok (.iaload, 1) := by decide +kernel
theorem d17_61 : decode method_8_code 61 = .ok (.invokestatic 51, 3) := by decide +kernel
theorem d17_64 : decode method_8_code 64 = .ok (.istore_n 2, 1) := by decide +kernel
theorem d17_65 : decode method_8_code 65 = .ok (.iload_n 2, 1) := by decide +kernel
theorem d17_66 : decode method_8_code 66 = .ok (.iload_n 1, 1) := by decide +kernel
theorem d17_67 : decode method_8_code 67 = .ok (.if_icmp .ne 7, 3) := by decide +kernel
theorem d17_70 : decode method_8_code 70 = .ok (.iconst 1, 1) := by decide +kernel
theorem d17_71 : decode method_8_code 71 = .ok (.goto 4, 3) := by decide +kernel
theorem d17_74 : decode method_8_code 74 = .ok (.iconst 0, 1) := by decide +kernel
theorem d17_75 : decode method_8_code 75 = .ok (.ireturn, 1) := by decide +kernel
theorem pn17 : plainFor (⟨"com/example/bisim_for_markov/bisimformarkov/analysis/PartitionSplitPinLaw", "sameSet", "([II)Z"⟩ : MethodName) = true := plainFor_of_name (by first | (simp [plainName, overriddenIn]; done) | decide +kernel)
theorem ef17_RI (m : MethodId) (x0 : Addr) (x1 : Int32) : entryFrame m #[(.ref x0), (.int x1)] 3 = mkF m 0 #[.val (.ref x0), .val (.int x1), .unset] [] := by first | (simp [entryFrame, mkF, argsToLocals, Value.category]; done) | rfl
def osame (nl : Int32) (x0 : Int32) (x1 : Int32) (x2 : Int32) (x3 : Int32) (want : Int32) : Int32 := if (0 : Int32) < nl then (if (1 : Int32) < nl then (if (2 : Int32) < nl then (if (3 : Int32) < nl then (if (oadd (oadd (oadd (oadd (0 : Int32) x0) x1) x2) x3) = want then (1 : Int32) else ((0 : Int32))) else (if (oadd (oadd (oadd (0 : Int32) x0) x1) x2) = want then (1 : Int32) else ((0 : Int32)))) else (if (3 : Int32) < nl then (if (oadd (oadd (oadd (0 : Int32) x0) x1) x3) = want then (1 : Int32) else ((0 : Int32))) else (if (oadd (oadd (0 : Int32) x0) x1) = want then (1 : Int32) else ((0 : Int32))))) else (if (2 : Int32) < nl then (if (3 : Int32) < nl then (if (oadd (oadd (oadd (0 : Int32) x0) x2) x3) = want then (1 : Int32) else ((0 : Int32))) else (if (oadd (oadd (0 : Int32) x0) x2) = want then (1 : Int32) else ((0 : Int32)))) else (if (3 : Int32) < nl then (if (oadd (oadd (0 : Int32) x0) x3) = want then (1 : Int32) else ((0 : Int32))) else (if (oadd (0 : Int32) x0) = want then (1 : Int32) else ((0 : Int32)))))) else (if (1 : Int32) < nl then (if (2 : Int32) < nl then (if (3 : Int32) < nl then (if (oadd (oadd (oadd (0 : Int32) x1) x2) x3) = want then (1 : Int32) else ((0 : Int32))) else (if (oadd (oadd (0 : Int32) x1) x2) = want then (1 : Int32) else ((0 : Int32)))) else (if (3 : Int32) < nl then (if (oadd (oadd (0 : Int32) x1) x3) = want then (1 : Int32) else ((0 : Int32))) else (if (oadd (0 : Int32) x1) = want then (1 : Int32) else ((0 : Int32))))) else (if (2 : Int32) < nl then (if (3 : Int32) < nl then (if (oadd (oadd (0 : Int32) x2) x3) = want then (1 : Int32) else ((0 : Int32))) else (if (oadd (0 : Int32) x2) = want then (1 : Int32) else ((0 : Int32)))) else (if (3 : Int32) < nl then (if (oadd (0 : Int32) x3) = want then (1 : Int32) else ((0 : Int32))) else (if (0 : Int32) = want then (1 : Int32) else ((0 : Int32))))))
def rmr17 : Room := { frames := 1, cells := 0, slots := 0, locals := 14 }
set_option maxRecDepth 65536 in
set_option maxHeartbeats 4000000 in
theorem mtsame (l : Launch) (Z : State) (a0 : Array Value) (hw : ∀ d ∈ tables_1, d.before a0 Z = true) (ar : Addr) (want : Int32) (vs : List Value) (nN : Nat) (nl x0 x1 x2 x3 : Int32) (h0 : Heap) (FA : VA Z h0 ar .int vs) (hn : vs.length = nN) (hnl : nl.toInt = nN) (h4 : ¬ (4 : Int32) < nl) (v0 : (0 : Int32) < nl → vs[(0 : Int32).toNatClampNeg]? = some (.int x0)) (v1 : (1 : Int32) < nl → vs[(1 : Int32).toNatClampNeg]? = some (.int x1)) (v2 : (2 : Int32) < nl → vs[(2 : Int32).toNatClampNeg]? = some (.int x2)) (v3 : (3 : Int32) < nl → vs[(3 : Int32).toNatClampNeg]? = some (.int x3)) : Meth l Z (⟨"com/example/bisim_for_markov/bisimformarkov/analysis/PartitionSplitPinLaw", "sameSet", "([II)Z"⟩ : MethodName) method_8_code 3 (some .boolean) rmr17 #[(.ref ar), (.int want)] h0 [] (fun vr h' => vr = some (.int (osame nl x0 x1 x2 x3 want)) ∧ h' = h0) := by
  refine Meth.of pn17 ?_
  intro p e s m below meth c T B X
  refine Go.entry (ef17_RI m ar want) ?_
  refine galoadN B X d17_0 rfl rfl (pc' := 1) rfl ?_
  refine glength B X (n := nl) FA hn hnl d17_1 (pc' := 2) rfl ?_
  refine giconst B X d17_2 (v := (4 : Int32)) rfl (pc' := 3) rfl ?_
  have c3_825 : ¬ ((4 : Int32) < nl) := h4
  refine gicY B X (pc' := 8) d17_3 (flt c3_825).2.2.2 (by decide) ?_
  refine giconst B X d17_8 (v := (0 : Int32)) rfl (pc' := 9) rfl ?_
  refine gistoreN B X d17_9 (Ls' := #[.val (.ref ar), .val (.int want), .val (.int (0 : Int32))]) rfl (pc' := 10) rfl ?_
  refine galoadN B X d17_10 rfl rfl (pc' := 11) rfl ?_
  refine glength B X (n := nl) FA hn hnl d17_11 (pc' := 12) rfl ?_
  by_cases c12_826 : (0 : Int32) < nl
  · refine gifN B X d17_12 ((if0 _ _).trans (tlt c12_826).2.2.2) (pc' := 15) rfl ?_
    refine giloadN B X d17_15 rfl (pc' := 16) rfl ?_
    refine galoadN B X d17_16 rfl rfl (pc' := 17) rfl ?_
    refine giconst B X d17_17 (v := (0 : Int32)) rfl (pc' := 18) rfl ?_
    refine giaload B X FA hn (by have a := c12_826; rw [Int32.lt_iff_toInt_lt] at a; have z : (0 : Int32).toInt = 0 := rfl; omega) (v := (.int x0)) (v0 c12_826) d17_18 (pc' := 19) rfl ?_
    refine gcallS B X (hw _ (List.mem_of_getElem? (i := 88) rfl)) (hw _ (List.mem_of_getElem? (i := 89) rfl)) (hw _ (List.mem_of_getElem? (i := 3) rfl)) (hw _ (List.mem_of_getElem? (i := 90) rfl)) (by decide) (mtadd l Z a0 hw (0 : Int32) x0  h0 ) pd__II_I rfl (argsL := [(.int (0 : Int32)), (.int x0)]) (st := []) rfl rfl (W := 0) (Nat.le_of_eq rfl) (by decide) (by decide) (by decide) (by decide) (fun x q => nomatch q) d17_19 (pc' := 22) rfl (pureG rfl rfl fun T827 X828 => ?_)
    refine gistoreN B X828 d17_22 (Ls' := #[.val (.ref ar), .val (.int want), .val (.int (oadd (0 : Int32) x0))]) rfl (pc' := 23) rfl ?_
    refine galoadN B X828 d17_23 rfl rfl (pc' := 24) rfl ?_
    refine glength B X828 (n := nl) FA hn hnl d17_24 (pc' := 25) rfl ?_
    refine giconst B X828 d17_25 (v := (1 : Int32)) rfl (pc' := 26) rfl ?_
    by_cases c26_829 : (1 : Int32) < nl
    · refine gicN B X828 d17_26 (tlt c26_829).2.2.2 (pc' := 29) rfl ?_
      refine giloadN B X828 d17_29 rfl (pc' := 30) rfl ?_
      refine galoadN B X828 d17_30 rfl rfl (pc' := 31) rfl ?_
      refine giconst B X828 d17_31 (v := (1 : Int32)) rfl (pc' := 32) rfl ?_
      refine giaload B X828 FA hn (by have a := c26_829; rw [Int32.lt_iff_toInt_lt] at a; have z : (1 : Int32).toInt = 1 := rfl; omega) (v := (.int x1)) (v1 c26_829) d17_32 (pc' := 33) rfl ?_
      refine gcallS B X828 (hw _ (List.mem_of_getElem? (i := 88) rfl)) (hw _ (List.mem_of_getElem? (i := 89) rfl)) (hw _ (List.mem_of_getElem? (i := 3) rfl)) (hw _ (List.mem_of_getElem? (i := 90) rfl)) (by decide) (mtadd l Z a0 hw (oadd (0 : Int32) x0) x1  h0 ) pd__II_I rfl (argsL := [(.int (oadd (0 : Int32) x0)), (.int x1)]) (st := []) rfl rfl (W := 0) (Nat.le_of_eq rfl) (by decide) (by decide) (by decide) (by decide) (fun x q => nomatch q) d17_33 (pc' := 36) rfl (pureG rfl rfl fun T830 X831 => ?_)
      refine gistoreN B X831 d17_36 (Ls' := #[.val (.ref ar), .val (.int want), .val (.int (oadd (oadd (0 : Int32) x0) x1))]) rfl (pc' := 37) rfl ?_
      refine galoadN B X831 d17_37 rfl rfl (pc' := 38) rfl ?_
      refine glength B X831 (n := nl) FA hn hnl d17_38 (pc' := 39) rfl ?_
      refine giconst B X831 d17_39 (v := (2 : Int32)) rfl (pc' := 40) rfl ?_
      by_cases c40_832 : (2 : Int32) < nl
      · refine gicN B X831 d17_40 (tlt c40_832).2.2.2 (pc' := 43) rfl ?_
        refine giloadN B X831 d17_43 rfl (pc' := 44) rfl ?_
        refine galoadN B X831 d17_44 rfl rfl (pc' := 45) rfl ?_
        refine giconst B X831 d17_45 (v := (2 : Int32)) rfl (pc' := 46) rfl ?_
        refine giaload B X831 FA hn (by have a := c40_832; rw [Int32.lt_iff_toInt_lt] at a; have z : (2 : Int32).toInt = 2 := rfl; omega) (v := (.int x2)) (v2 c40_832) d17_46 (pc' := 47) rfl ?_
        refine gcallS B X831 (hw _ (List.mem_of_getElem? (i := 88) rfl)) (hw _ (List.mem_of_getElem? (i := 89) rfl)) (hw _ (List.mem_of_getElem? (i := 3) rfl)) (hw _ (List.mem_of_getElem? (i := 90) rfl)) (by decide) (mtadd l Z a0 hw (oadd (oadd (0 : Int32) x0) x1) x2  h0 ) pd__II_I rfl (argsL := [(.int (oadd (oadd (0 : Int32) x0) x1)), (.int x2)]) (st := []) rfl rfl (W := 0) (Nat.le_of_eq rfl) (by decide) (by decide) (by decide) (by decide) (fun x q => nomatch q) d17_47 (pc' := 50) rfl (pureG rfl rfl fun T833 X834 => ?_)
        refine gistoreN B X834 d17_50 (Ls' := #[.val (.ref ar), .val (.int want), .val (.int (oadd (oadd (oadd (0 : Int32) x0) x1) x2))]) rfl (pc' := 51) rfl ?_
        refine galoadN B X834 d17_51 rfl rfl (pc' := 52) rfl ?_
        refine glength B X834 (n := nl) FA hn hnl d17_52 (pc' := 53) rfl ?_
        refine giconst B X834 d17_53 (v := (3 : Int32)) rfl (pc' := 54) rfl ?_
        by_cases c54_835 : (3 : Int32) < nl
        · refine gicN B X834 d17_54 (tlt c54_835).2.2.2 (pc' := 57) rfl ?_
          refine giloadN B X834 d17_57 rfl (pc' := 58) rfl ?_
          refine galoadN B X834 d17_58 rfl rfl (pc' := 59) rfl ?_
          refine giconst B X834 d17_59 (v := (3 : Int32)) rfl (pc' := 60) rfl ?_
          refine giaload B X834 FA hn (by have a := c54_835; rw [Int32.lt_iff_toInt_lt] at a; have z : (3 : Int32).toInt = 3 := rfl; omega) (v := (.int x3)) (v3 c54_835) d17_60 (pc' := 61) rfl ?_
          refine gcallS B X834 (hw _ (List.mem_of_getElem? (i := 88) rfl)) (hw _ (List.mem_of_getElem? (i := 89) rfl)) (hw _ (List.mem_of_getElem? (i := 3) rfl)) (hw _ (List.mem_of_getElem? (i := 90) rfl)) (by decide) (mtadd l Z a0 hw (oadd (oadd (oadd (0 : Int32) x0) x1) x2) x3  h0 ) pd__II_I rfl (argsL := [(.int (oadd (oadd (oadd (0 : Int32) x0) x1) x2)), (.int x3)]) (st := []) rfl rfl (W := 0) (Nat.le_of_eq rfl) (by decide) (by decide) (by decide) (by decide) (fun x q => nomatch q) d17_61 (pc' := 64) rfl (pureG rfl rfl fun T836 X837 => ?_)
          refine gistoreN B X837 d17_64 (Ls' := #[.val (.ref ar), .val (.int want), .val (.int (oadd (oadd (oadd (oadd (0 : Int32) x0) x1) x2) x3))]) rfl (pc' := 65) rfl ?_
          refine giloadN B X837 d17_65 rfl (pc' := 66) rfl ?_
          refine giloadN B X837 d17_66 rfl (pc' := 67) rfl ?_
          by_cases c67_838 : (oadd (oadd (oadd (oadd (0 : Int32) x0) x1) x2) x3) = want
          · refine gicN B X837 d17_67 (teq c67_838).2 (pc' := 70) rfl ?_
            refine giconst B X837 d17_70 (v := (1 : Int32)) rfl (pc' := 71) rfl ?_
            refine ggoto B X837 (pc' := 75) d17_71 (by decide) ?_
            exact gretN B X837 (z' := (1 : Int32)) (by simp) (rfl) d17_75 (by decide) (by decide) (⟨by rw [osame, if_pos c12_826, if_pos c26_829, if_pos c40_832, if_pos c54_835, if_pos c67_838], rfl⟩)
          · refine gicY B X837 (pc' := 74) d17_67 (feq c67_838).2 (by decide) ?_
            refine giconst B X837 d17_74 (v := (0 : Int32)) rfl (pc' := 75) rfl ?_
            exact gretN B X837 (z' := (0 : Int32)) (by simp) (rfl) d17_75 (by decide) (by decide) (⟨by rw [osame, if_pos c12_826, if_pos c26_829, if_pos c40_832, if_pos c54_835, if_neg c67_838], rfl⟩)
        · refine gicY B X834 (pc' := 65) d17_54 (flt c54_835).2.2.2 (by decide) ?_
          refine giloadN B X834 d17_65 rfl (pc' := 66) rfl ?_
          refine giloadN B X834 d17_66 rfl (pc' := 67) rfl ?_
          by_cases c67_839 : (oadd (oadd (oadd (0 : Int32) x0) x1) x2) = want
          · refine gicN B X834 d17_67 (teq c67_839).2 (pc' := 70) rfl ?_
            refine giconst B X834 d17_70 (v := (1 : Int32)) rfl (pc' := 71) rfl ?_
            refine ggoto B X834 (pc' := 75) d17_71 (by decide) ?_
            exact gretN B X834 (z' := (1 : Int32)) (by simp) (rfl) d17_75 (by decide) (by decide) (⟨by rw [osame, if_pos c12_826, if_pos c26_829, if_pos c40_832, if_neg c54_835, if_pos c67_839], rfl⟩)
          · refine gicY B X834 (pc' := 74) d17_67 (feq c67_839).2 (by decide) ?_
            refine giconst B X834 d17_74 (v := (0 : Int32)) rfl (pc' := 75) rfl ?_
            exact gretN B X834 (z' := (0 : Int32)) (by simp) (rfl) d17_75 (by decide) (by decide) (⟨by rw [osame, if_pos c12_826, if_pos c26_829, if_pos c40_832, if_neg c54_835, if_neg c67_839], rfl⟩)
      · refine gicY B X831 (pc' := 51) d17_40 (flt c40_832).2.2.2 (by decide) ?_
        refine galoadN B X831 d17_51 rfl rfl (pc' := 52) rfl ?_
        refine glength B X831 (n := nl) FA hn hnl d17_52 (pc' := 53) rfl ?_
        refine giconst B X831 d17_53 (v := (3 : Int32)) rfl (pc' := 54) rfl ?_
        by_cases c54_840 : (3 : Int32) < nl
        · refine gicN B X831 d17_54 (tlt c54_840).2.2.2 (pc' := 57) rfl ?_
          refine giloadN B X831 d17_57 rfl (pc' := 58) rfl ?_
          refine galoadN B X831 d17_58 rfl rfl (pc' := 59) rfl ?_
          refine giconst B X831 d17_59 (v := (3 : Int32)) rfl (pc' := 60) rfl ?_
          refine giaload B X831 FA hn (by have a := c54_840; rw [Int32.lt_iff_toInt_lt] at a; have z : (3 : Int32).toInt = 3 := rfl; omega) (v := (.int x3)) (v3 c54_840) d17_60 (pc' := 61) rfl ?_
          refine gcallS B X831 (hw _ (List.mem_of_getElem? (i := 88) rfl)) (hw _ (List.mem_of_getElem? (i := 89) rfl)) (hw _ (List.mem_of_getElem? (i := 3) rfl)) (hw _ (List.mem_of_getElem? (i := 90) rfl)) (by decide) (mtadd l Z a0 hw (oadd (oadd (0 : Int32) x0) x1) x3  h0 ) pd__II_I rfl (argsL := [(.int (oadd (oadd (0 : Int32) x0) x1)), (.int x3)]) (st := []) rfl rfl (W := 0) (Nat.le_of_eq rfl) (by decide) (by decide) (by decide) (by decide) (fun x q => nomatch q) d17_61 (pc' := 64) rfl (pureG rfl rfl fun T841 X842 => ?_)
          refine gistoreN B X842 d17_64 (Ls' := #[.val (.ref ar), .val (.int want), .val (.int (oadd (oadd (oadd (0 : Int32) x0) x1) x3))]) rfl (pc' := 65) rfl ?_
          refine giloadN B X842 d17_65 rfl (pc' := 66) rfl ?_
          refine giloadN B X842 d17_66 rfl (pc' := 67) rfl ?_
          by_cases c67_843 : (oadd (oadd (oadd (0 : Int32) x0) x1) x3) = want
          · refine gicN B X842 d17_67 (teq c67_843).2 (pc' := 70) rfl ?_
            refine giconst B X842 d17_70 (v := (1 : Int32)) rfl (pc' := 71) rfl ?_
            refine ggoto B X842 (pc' := 75) d17_71 (by decide) ?_
            exact gretN B X842 (z' := (1 : Int32)) (by simp) (rfl) d17_75 (by decide) (by decide) (⟨by rw [osame, if_pos c12_826, if_pos c26_829, if_neg c40_832, if_pos c54_840, if_pos c67_843], rfl⟩)
          · refine gicY B X842 (pc' := 74) d17_67 (feq c67_843).2 (by decide) ?_
            refine giconst B X842 d17_74 (v := (0 : Int32)) rfl (pc' := 75) rfl ?_
            exact gretN B X842 (z' := (0 : Int32)) (by simp) (rfl) d17_75 (by decide) (by decide) (⟨by rw [osame, if_pos c12_826, if_pos c26_829, if_neg c40_832, if_pos c54_840, if_neg c67_843], rfl⟩)
        · refine gicY B X831 (pc' := 65) d17_54 (flt c54_840).2.2.2 (by decide) ?_
          refine giloadN B X831 d17_65 rfl (pc' := 66) rfl ?_
          refine giloadN B X831 d17_66 rfl (pc' := 67) rfl ?_
          by_cases c67_844 : (oadd (oadd (0 : Int32) x0) x1) = want
          · refine gicN B X831 d17_67 (teq c67_844).2 (pc' := 70) rfl ?_
            refine giconst B X831 d17_70 (v := (1 : Int32)) rfl (pc' := 71) rfl ?_
            refine ggoto B X831 (pc' := 75) d17_71 (by decide) ?_
            exact gretN B X831 (z' := (1 : Int32)) (by simp) (rfl) d17_75 (by decide) (by decide) (⟨by rw [osame, if_pos c12_826, if_pos c26_829, if_neg c40_832, if_neg c54_840, if_pos c67_844], rfl⟩)
          · refine gicY B X831 (pc' := 74) d17_67 (feq c67_844).2 (by decide) ?_
            refine giconst B X831 d17_74 (v := (0 : Int32)) rfl (pc' := 75) rfl ?_
            exact gretN B X831 (z' := (0 : Int32)) (by simp) (rfl) d17_75 (by decide) (by decide) (⟨by rw [osame, if_pos c12_826, if_pos c26_829, if_neg c40_832, if_neg c54_840, if_neg c67_844], rfl⟩)
    · refine gicY B X828 (pc' := 37) d17_26 (flt c26_829).2.2.2 (by decide) ?_
      refine galoadN B X828 d17_37 rfl rfl (pc' := 38) rfl ?_
      refine glength B X828 (n := nl) FA hn hnl d17_38 (pc' := 39) rfl ?_
      refine giconst B X828 d17_39 (v := (2 : Int32)) rfl (pc' := 40) rfl ?_
      by_cases c40_845 : (2 : Int32) < nl
      · refine gicN B X828 d17_40 (tlt c40_845).2.2.2 (pc' := 43) rfl ?_
        refine giloadN B X828 d17_43 rfl (pc' := 44) rfl ?_
        refine galoadN B X828 d17_44 rfl rfl (pc' := 45) rfl ?_
        refine giconst B X828 d17_45 (v := (2 : Int32)) rfl (pc' := 46) rfl ?_
        refine giaload B X828 FA hn (by have a := c40_845; rw [Int32.lt_iff_toInt_lt] at a; have z : (2 : Int32).toInt = 2 := rfl; omega) (v := (.int x2)) (v2 c40_845) d17_46 (pc' := 47) rfl ?_
        refine gcallS B X828 (hw _ (List.mem_of_getElem? (i := 88) rfl)) (hw _ (List.mem_of_getElem? (i := 89) rfl)) (hw _ (List.mem_of_getElem? (i := 3) rfl)) (hw _ (List.mem_of_getElem? (i := 90) rfl)) (by decide) (mtadd l Z a0 hw (oadd (0 : Int32) x0) x2  h0 ) pd__II_I rfl (argsL := [(.int (oadd (0 : Int32) x0)), (.int x2)]) (st := []) rfl rfl (W := 0) (Nat.le_of_eq rfl) (by decide) (by decide) (by decide) (by decide) (fun x q => nomatch q) d17_47 (pc' := 50) rfl (pureG rfl rfl fun T846 X847 => ?_)
        refine gistoreN B X847 d17_50 (Ls' := #[.val (.ref ar), .val (.int want), .val (.int (oadd (oadd (0 : Int32) x0) x2))]) rfl (pc' := 51) rfl ?_
        refine galoadN B X847 d17_51 rfl rfl (pc' := 52) rfl ?_
        refine glength B X847 (n := nl) FA hn hnl d17_52 (pc' := 53) rfl ?_
        refine giconst B X847 d17_53 (v := (3 : Int32)) rfl (pc' := 54) rfl ?_
        by_cases c54_848 : (3 : Int32) < nl
        · refine gicN B X847 d17_54 (tlt c54_848).2.2.2 (pc' := 57) rfl ?_
          refine giloadN B X847 d17_57 rfl (pc' := 58) rfl ?_
          refine galoadN B X847 d17_58 rfl rfl (pc' := 59) rfl ?_
          refine giconst B X847 d17_59 (v := (3 : Int32)) rfl (pc' := 60) rfl ?_
          refine giaload B X847 FA hn (by have a := c54_848; rw [Int32.lt_iff_toInt_lt] at a; have z : (3 : Int32).toInt = 3 := rfl; omega) (v := (.int x3)) (v3 c54_848) d17_60 (pc' := 61) rfl ?_
          refine gcallS B X847 (hw _ (List.mem_of_getElem? (i := 88) rfl)) (hw _ (List.mem_of_getElem? (i := 89) rfl)) (hw _ (List.mem_of_getElem? (i := 3) rfl)) (hw _ (List.mem_of_getElem? (i := 90) rfl)) (by decide) (mtadd l Z a0 hw (oadd (oadd (0 : Int32) x0) x2) x3  h0 ) pd__II_I rfl (argsL := [(.int (oadd (oadd (0 : Int32) x0) x2)), (.int x3)]) (st := []) rfl rfl (W := 0) (Nat.le_of_eq rfl) (by decide) (by decide) (by decide) (by decide) (fun x q => nomatch q) d17_61 (pc' := 64) rfl (pureG rfl rfl fun T849 X850 => ?_)
          refine gistoreN B X850 d17_64 (Ls' := #[.val (.ref ar), .val (.int want), .val (.int (oadd (oadd (oadd (0 : Int32) x0) x2) x3))]) rfl (pc' := 65) rfl ?_
          refine giloadN B X850 d17_65 rfl (pc' := 66) rfl ?_
          refine giloadN B X850 d17_66 rfl (pc' := 67) rfl ?_
          by_cases c67_851 : (oadd (oadd (oadd (0 : Int32) x0) x2) x3) = want
          · refine gicN B X850 d17_67 (teq c67_851).2 (pc' := 70) rfl ?_
            refine giconst B X850 d17_70 (v := (1 : Int32)) rfl (pc' := 71) rfl ?_
            refine ggoto B X850 (pc' := 75) d17_71 (by decide) ?_
            exact gretN B X850 (z' := (1 : Int32)) (by simp) (rfl) d17_75 (by decide) (by decide) (⟨by rw [osame, if_pos c12_826, if_neg c26_829, if_pos c40_845, if_pos c54_848, if_pos c67_851], rfl⟩)
          · refine gicY B X850 (pc' := 74) d17_67 (feq c67_851).2 (by decide) ?_
            refine giconst B X850 d17_74 (v := (0 : Int32)) rfl (pc' := 75) rfl ?_
            exact gretN B X850 (z' := (0 : Int32)) (by simp) (rfl) d17_75 (by decide) (by decide) (⟨by rw [osame, if_pos c12_826, if_neg c26_829, if_pos c40_845, if_pos c54_848, if_neg c67_851], rfl⟩)
        · refine gicY B X847 (pc' := 65) d17_54 (flt c54_848).2.2.2 (by decide) ?_
          refine giloadN B X847 d17_65 rfl (pc' := 66) rfl ?_
          refine giloadN B X847 d17_66 rfl (pc' := 67) rfl ?_
          by_cases c67_852 : (oadd (oadd (0 : Int32) x0) x2) = want
          · refine gicN B X847 d17_67 (teq c67_852).2 (pc' := 70) rfl ?_
            refine giconst B X847 d17_70 (v := (1 : Int32)) rfl (pc' := 71) rfl ?_
            refine ggoto B X847 (pc' := 75) d17_71 (by decide) ?_
            exact gretN B X847 (z' := (1 : Int32)) (by simp) (rfl) d17_75 (by decide) (by decide) (⟨by rw [osame, if_pos c12_826, if_neg c26_829, if_pos c40_845, if_neg c54_848, if_pos c67_852], rfl⟩)
          · refine gicY B X847 (pc' := 74) d17_67 (feq c67_852).2 (by decide) ?_
            refine giconst B X847 d17_74 (v := (0 : Int32)) rfl (pc' := 75) rfl ?_
            exact gretN B X847 (z' := (0 : Int32)) (by simp) (rfl) d17_75 (by decide) (by decide) (⟨by rw [osame, if_pos c12_826, if_neg c26_829, if_pos c40_845, if_neg c54_848, if_neg c67_852], rfl⟩)
      · refine gicY B X828 (pc' := 51) d17_40 (flt c40_845).2.2.2 (by decide) ?_
        refine galoadN B X828 d17_51 rfl rfl (pc' := 52) rfl ?_
        refine glength B X828 (n := nl) FA hn hnl d17_52 (pc' := 53) rfl ?_
        refine giconst B X828 d17_53 (v := (3 : Int32)) rfl (pc' := 54) rfl ?_
        by_cases c54_853 : (3 : Int32) < nl
        · refine gicN B X828 d17_54 (tlt c54_853).2.2.2 (pc' := 57) rfl ?_
          refine giloadN B X828 d17_57 rfl (pc' := 58) rfl ?_
          refine galoadN B X828 d17_58 rfl rfl (pc' := 59) rfl ?_
          refine giconst B X828 d17_59 (v := (3 : Int32)) rfl (pc' := 60) rfl ?_
          refine giaload B X828 FA hn (by have a := c54_853; rw [Int32.lt_iff_toInt_lt] at a; have z : (3 : Int32).toInt = 3 := rfl; omega) (v := (.int x3)) (v3 c54_853) d17_60 (pc' := 61) rfl ?_
          refine gcallS B X828 (hw _ (List.mem_of_getElem? (i := 88) rfl)) (hw _ (List.mem_of_getElem? (i := 89) rfl)) (hw _ (List.mem_of_getElem? (i := 3) rfl)) (hw _ (List.mem_of_getElem? (i := 90) rfl)) (by decide) (mtadd l Z a0 hw (oadd (0 : Int32) x0) x3  h0 ) pd__II_I rfl (argsL := [(.int (oadd (0 : Int32) x0)), (.int x3)]) (st := []) rfl rfl (W := 0) (Nat.le_of_eq rfl) (by decide) (by decide) (by decide) (by decide) (fun x q => nomatch q) d17_61 (pc' := 64) rfl (pureG rfl rfl fun T854 X855 => ?_)
          refine gistoreN B X855 d17_64 (Ls' := #[.val (.ref ar), .val (.int want), .val (.int (oadd (oadd (0 : Int32) x0) x3))]) rfl (pc' := 65) rfl ?_
          refine giloadN B X855 d17_65 rfl (pc' := 66) rfl ?_
          refine giloadN B X855 d17_66 rfl (pc' := 67) rfl ?_
          by_cases c67_856 : (oadd (oadd (0 : Int32) x0) x3) = want
          · refine gicN B X855 d17_67 (teq c67_856).2 (pc' := 70) rfl ?_
            refine giconst B X855 d17_70 (v := (1 : Int32)) rfl (pc' := 71) rfl ?_
            refine ggoto B X855 (pc' := 75) d17_71 (by decide) ?_
            exact gretN B X855 (z' := (1 : Int32)) (by simp) (rfl) d17_75 (by decide) (by decide) (⟨by rw [osame, if_pos c12_826, if_neg c26_829, if_neg c40_845, if_pos c54_853, if_pos c67_856], rfl⟩)
          · refine gicY B X855 (pc' := 74) d17_67 (feq c67_856).2 (by decide) ?_
            refine giconst B X855 d17_74 (v := (0 : Int32)) rfl (pc' := 75) rfl ?_
            exact gretN B X855 (z' := (0 : Int32)) (by simp) (rfl) d17_75 (by decide) (by decide) (⟨by rw [osame, if_pos c12_826, if_neg c26_829, if_neg c40_845, if_pos c54_853, if_neg c67_856], rfl⟩)
        · refine gicY B X828 (pc' := 65) d17_54 (flt c54_853).2.2.2 (by decide) ?_
          refine giloadN B X828 d17_65 rfl (pc' := 66) rfl ?_
          refine giloadN B X828 d17_66 rfl (pc' := 67) rfl ?_
          by_cases c67_857 : (oadd (0 : Int32) x0) = want
          · refine gicN B X828 d17_67 (teq c67_857).2 (pc' := 70) rfl ?_
            refine giconst B X828 d17_70 (v := (1 : Int32)) rfl (pc' := 71) rfl ?_
            refine ggoto B X828 (pc' := 75) d17_71 (by decide) ?_
            exact gretN B X828 (z' := (1 : Int32)) (by simp) (rfl) d17_75 (by decide) (by decide) (⟨by rw [osame, if_pos c12_826, if_neg c26_829, if_neg c40_845, if_neg c54_853, if_pos c67_857], rfl⟩)
          · refine gicY B X828 (pc' := 74) d17_67 (feq c67_857).2 (by decide) ?_
            refine giconst B X828 d17_74 (v := (0 : Int32)) rfl (pc' := 75) rfl ?_
            exact gretN B X828 (z' := (0 : Int32)) (by simp) (rfl) d17_75 (by decide) (by decide) (⟨by rw [osame, if_pos c12_826, if_neg c26_829, if_neg c40_845, if_neg c54_853, if_neg c67_857], rfl⟩)
  · refine gifY B X (pc' := 23) d17_12 ((if0 _ _).trans (flt c12_826).2.2.2) (by decide) ?_
    refine galoadN B X d17_23 rfl rfl (pc' := 24) rfl ?_
    refine glength B X (n := nl) FA hn hnl d17_24 (pc' := 25) rfl ?_
    refine giconst B X d17_25 (v := (1 : Int32)) rfl (pc' := 26) rfl ?_
    by_cases c26_858 : (1 : Int32) < nl
    · refine gicN B X d17_26 (tlt c26_858).2.2.2 (pc' := 29) rfl ?_
      refine giloadN B X d17_29 rfl (pc' := 30) rfl ?_
      refine galoadN B X d17_30 rfl rfl (pc' := 31) rfl ?_
      refine giconst B X d17_31 (v := (1 : Int32)) rfl (pc' := 32) rfl ?_
      refine giaload B X FA hn (by have a := c26_858; rw [Int32.lt_iff_toInt_lt] at a; have z : (1 : Int32).toInt = 1 := rfl; omega) (v := (.int x1)) (v1 c26_858) d17_32 (pc' := 33) rfl ?_
      refine gcallS B X (hw _ (List.mem_of_getElem? (i := 88) rfl)) (hw _ (List.mem_of_getElem? (i := 89) rfl)) (hw _ (List.mem_of_getElem? (i := 3) rfl)) (hw _ (List.mem_of_getElem? (i := 90) rfl)) (by decide) (mtadd l Z a0 hw (0 : Int32) x1  h0 ) pd__II_I rfl (argsL := [(.int (0 : Int32)), (.int x1)]) (st := []) rfl rfl (W := 0) (Nat.le_of_eq rfl) (by decide) (by decide) (by decide) (by decide) (fun x q => nomatch q) d17_33 (pc' := 36) rfl (pureG rfl rfl fun T859 X860 => ?_)
      refine gistoreN B X860 d17_36 (Ls' := #[.val (.ref ar), .val (.int want), .val (.int (oadd (0 : Int32) x1))]) rfl (pc' := 37) rfl ?_
      refine galoadN B X860 d17_37 rfl rfl (pc' := 38) rfl ?_
      refine glength B X860 (n := nl) FA hn hnl d17_38 (pc' := 39) rfl ?_
      refine giconst B X860 d17_39 (v := (2 : Int32)) rfl (pc' := 40) rfl ?_
      by_cases c40_861 : (2 : Int32) < nl
      · refine gicN B X860 d17_40 (tlt c40_861).2.2.2 (pc' := 43) rfl ?_
        refine giloadN B X860 d17_43 rfl (pc' := 44) rfl ?_
        refine galoadN B X860 d17_44 rfl rfl (pc' := 45) rfl ?_
        refine giconst B X860 d17_45 (v := (2 : Int32)) rfl (pc' := 46) rfl ?_
        refine giaload B X860 FA hn (by have a := c40_861; rw [Int32.lt_iff_toInt_lt] at a; have z : (2 : Int32).toInt = 2 := rfl; omega) (v := (.int x2)) (v2 c40_861) d17_46 (pc' := 47) rfl ?_
        refine gcallS B X860 (hw _ (List.mem_of_getElem? (i := 88) rfl)) (hw _ (List.mem_of_getElem? (i := 89) rfl)) (hw _ (List.mem_of_getElem? (i := 3) rfl)) (hw _ (List.mem_of_getElem? (i := 90) rfl)) (by decide) (mtadd l Z a0 hw (oadd (0 : Int32) x1) x2  h0 ) pd__II_I rfl (argsL := [(.int (oadd (0 : Int32) x1)), (.int x2)]) (st := []) rfl rfl (W := 0) (Nat.le_of_eq rfl) (by decide) (by decide) (by decide) (by decide) (fun x q => nomatch q) d17_47 (pc' := 50) rfl (pureG rfl rfl fun T862 X863 => ?_)
        refine gistoreN B X863 d17_50 (Ls' := #[.val (.ref ar), .val (.int want), .val (.int (oadd (oadd (0 : Int32) x1) x2))]) rfl (pc' := 51) rfl ?_
        refine galoadN B X863 d17_51 rfl rfl (pc' := 52) rfl ?_
        refine glength B X863 (n := nl) FA hn hnl d17_52 (pc' := 53) rfl ?_
        refine giconst B X863 d17_53 (v := (3 : Int32)) rfl (pc' := 54) rfl ?_
        by_cases c54_864 : (3 : Int32) < nl
        · refine gicN B X863 d17_54 (tlt c54_864).2.2.2 (pc' := 57) rfl ?_
          refine giloadN B X863 d17_57 rfl (pc' := 58) rfl ?_
          refine galoadN B X863 d17_58 rfl rfl (pc' := 59) rfl ?_
          refine giconst B X863 d17_59 (v := (3 : Int32)) rfl (pc' := 60) rfl ?_
          refine giaload B X863 FA hn (by have a := c54_864; rw [Int32.lt_iff_toInt_lt] at a; have z : (3 : Int32).toInt = 3 := rfl; omega) (v := (.int x3)) (v3 c54_864) d17_60 (pc' := 61) rfl ?_
          refine gcallS B X863 (hw _ (List.mem_of_getElem? (i := 88) rfl)) (hw _ (List.mem_of_getElem? (i := 89) rfl)) (hw _ (List.mem_of_getElem? (i := 3) rfl)) (hw _ (List.mem_of_getElem? (i := 90) rfl)) (by decide) (mtadd l Z a0 hw (oadd (oadd (0 : Int32) x1) x2) x3  h0 ) pd__II_I rfl (argsL := [(.int (oadd (oadd (0 : Int32) x1) x2)), (.int x3)]) (st := []) rfl rfl (W := 0) (Nat.le_of_eq rfl) (by decide) (by decide) (by decide) (by decide) (fun x q => nomatch q) d17_61 (pc' := 64) rfl (pureG rfl rfl fun T865 X866 => ?_)
          refine gistoreN B X866 d17_64 (Ls' := #[.val (.ref ar), .val (.int want), .val (.int (oadd (oadd (oadd (0 : Int32) x1) x2) x3))]) rfl (pc' := 65) rfl ?_
          refine giloadN B X866 d17_65 rfl (pc' := 66) rfl ?_
          refine giloadN B X866 d17_66 rfl (pc' := 67) rfl ?_
          by_cases c67_867 : (oadd (oadd (oadd (0 : Int32) x1) x2) x3) = want
          · refine gicN B X866 d17_67 (teq c67_867).2 (pc' := 70) rfl ?_
            refine giconst B X866 d17_70 (v := (1 : Int32)) rfl (pc' := 71) rfl ?_
            refine ggoto B X866 (pc' := 75) d17_71 (by decide) ?_
            exact gretN B X866 (z' := (1 : Int32)) (by simp) (rfl) d17_75 (by decide) (by decide) (⟨by rw [osame, if_neg c12_826, if_pos c26_858, if_pos c40_861, if_pos c54_864, if_pos c67_867], rfl⟩)
          · refine gicY B X866 (pc' := 74) d17_67 (feq c67_867).2 (by decide) ?_
            refine giconst B X866 d17_74 (v := (0 : Int32)) rfl (pc' := 75) rfl ?_
            exact gretN B X866 (z' := (0 : Int32)) (by simp) (rfl) d17_75 (by decide) (by decide) (⟨by rw [osame, if_neg c12_826, if_pos c26_858, if_pos c40_861, if_pos c54_864, if_neg c67_867], rfl⟩)
        · refine gicY B X863 (pc' := 65) d17_54 (flt c54_864).2.2.2 (by decide) ?_
          refine giloadN B X863 d17_65 rfl (pc' := 66) rfl ?_
          refine giloadN B X863 d17_66 rfl (pc' := 67) rfl ?_
          by_cases c67_868 : (oadd (oadd (0 : Int32) x1) x2) = want
          · refine gicN B X863 d17_67 (teq c67_868).2 (pc' := 70) rfl ?_
            refine giconst B X863 d17_70 (v := (1 : Int32)) rfl (pc' := 71) rfl ?_
            refine ggoto B X863 (pc' := 75) d17_71 (by decide) ?_
            exact gretN B X863 (z' := (1 : Int32)) (by simp) (rfl) d17_75 (by decide) (by decide) (⟨by rw [osame, if_neg c12_826, if_pos c26_858, if_pos c40_861, if_neg c54_864, if_pos c67_868], rfl⟩)
          · refine gicY B X863 (pc' := 74) d17_67 (feq c67_868).2 (by decide) ?_
            refine giconst B X863 d17_74 (v := (0 : Int32)) rfl (pc' := 75) rfl ?_
            exact gretN B X863 (z' := (0 : Int32)) (by simp) (rfl) d17_75 (by decide) (by decide) (⟨by rw [osame, if_neg c12_826, if_pos c26_858, if_pos c40_861, if_neg c54_864, if_neg c67_868], rfl⟩)
      · refine gicY B X860 (pc' := 51) d17_40 (flt c40_861).2.2.2 (by decide) ?_
        refine galoadN B X860 d17_51 rfl rfl (pc' := 52) rfl ?_
        refine glength B X860 (n := nl) FA hn hnl d17_52 (pc' := 53) rfl ?_
        refine giconst B X860 d17_53 (v := (3 : Int32)) rfl (pc' := 54) rfl ?_
        by_cases c54_869 : (3 : Int32) < nl
        · refine gicN B X860 d17_54 (tlt c54_869).2.2.2 (pc' := 57) rfl ?_
          refine giloadN B X860 d17_57 rfl (pc' := 58) rfl ?_
          refine galoadN B X860 d17_58 rfl rfl (pc' := 59) rfl ?_
          refine giconst B X860 d17_59 (v := (3 : Int32)) rfl (pc' := 60) rfl ?_
          refine giaload B X860 FA hn (by have a := c54_869; rw [Int32.lt_iff_toInt_lt] at a; have z : (3 : Int32).toInt = 3 := rfl; omega) (v := (.int x3)) (v3 c54_869) d17_60 (pc' := 61) rfl ?_
          refine gcallS B X860 (hw _ (List.mem_of_getElem? (i := 88) rfl)) (hw _ (List.mem_of_getElem? (i := 89) rfl)) (hw _ (List.mem_of_getElem? (i := 3) rfl)) (hw _ (List.mem_of_getElem? (i := 90) rfl)) (by decide) (mtadd l Z a0 hw (oadd (0 : Int32) x1) x3  h0 ) pd__II_I rfl (argsL := [(.int (oadd (0 : Int32) x1)), (.int x3)]) (st := []) rfl rfl (W := 0) (Nat.le_of_eq rfl) (by decide) (by decide) (by decide) (by decide) (fun x q => nomatch q) d17_61 (pc' := 64) rfl (pureG rfl rfl fun T870 X871 => ?_)
          refine gistoreN B X871 d17_64 (Ls' := #[.val (.ref ar), .val (.int want), .val (.int (oadd (oadd (0 : Int32) x1) x3))]) rfl (pc' := 65) rfl ?_
          refine giloadN B X871 d17_65 rfl (pc' := 66) rfl ?_
          refine giloadN B X871 d17_66 rfl (pc' := 67) rfl ?_
          by_cases c67_872 : (oadd (oadd (0 : Int32) x1) x3) = want
          · refine gicN B X871 d17_67 (teq c67_872).2 (pc' := 70) rfl ?_
            refine giconst B X871 d17_70 (v := (1 : Int32)) rfl (pc' := 71) rfl ?_
            refine ggoto B X871 (pc' := 75) d17_71 (by decide) ?_
            exact gretN B X871 (z' := (1 : Int32)) (by simp) (rfl) d17_75 (by decide) (by decide) (⟨by rw [osame, if_neg c12_826, if_pos c26_858, if_neg c40_861, if_pos c54_869, if_pos c67_872], rfl⟩)
          · refine gicY B X871 (pc' := 74) d17_67 (feq c67_872).2 (by decide) ?_
            refine giconst B X871 d17_74 (v := (0 : Int32)) rfl (pc' := 75) rfl ?_
            exact gretN B X871 (z' := (0 : Int32)) (by simp) (rfl) d17_75 (by decide) (by decide) (⟨by rw [osame, if_neg c12_826, if_pos c26_858, if_neg c40_861, if_pos c54_869, if_neg c67_872], rfl⟩)
        · refine gicY B X860 (pc' := 65) d17_54 (flt c54_869).2.2.2 (by decide) ?_
          refine giloadN B X860 d17_65 rfl (pc' := 66) rfl ?_
          refine giloadN B X860 d17_66 rfl (pc' := 67) rfl ?_
          by_cases c67_873 : (oadd (0 : Int32) x1) = want
          · refine gicN B X860 d17_67 (teq c67_873).2 (pc' := 70) rfl ?_
            refine giconst B X860 d17_70 (v := (1 : Int32)) rfl (pc' := 71) rfl ?_
            refine ggoto B X860 (pc' := 75) d17_71 (by decide) ?_
            exact gretN B X860 (z' := (1 : Int32)) (by simp) (rfl) d17_75 (by decide) (by decide) (⟨by rw [osame, if_neg c12_826, if_pos c26_858, if_neg c40_861, if_neg c54_869, if_pos c67_873], rfl⟩)
          · refine gicY B X860 (pc' := 74) d17_67 (feq c67_873).2 (by decide) ?_
            refine giconst B X860 d17_74 (v := (0 : Int32)) rfl (pc' := 75) rfl ?_
            exact gretN B X860 (z' := (0 : Int32)) (by simp) (rfl) d17_75 (by decide) (by decide) (⟨by rw [osame, if_neg c12_826, if_pos c26_858, if_neg c40_861, if_neg c54_869, if_neg c67_873], rfl⟩)
    · refine gicY B X (pc' := 37) d17_26 (flt c26_858).2.2.2 (by decide) ?_
      refine galoadN B X d17_37 rfl rfl (pc' := 38) rfl ?_
      refine glength B X (n := nl) FA hn hnl d17_38 (pc' := 39) rfl ?_
      refine giconst B X d17_39 (v := (2 : Int32)) rfl (pc' := 40) rfl ?_
      by_cases c40_874 : (2 : Int32) < nl
      · refine gicN B X d17_40 (tlt c40_874).2.2.2 (pc' := 43) rfl ?_
        refine giloadN B X d17_43 rfl (pc' := 44) rfl ?_
        refine galoadN B X d17_44 rfl rfl (pc' := 45) rfl ?_
        refine giconst B X d17_45 (v := (2 : Int32)) rfl (pc' := 46) rfl ?_
        refine giaload B X FA hn (by have a := c40_874; rw [Int32.lt_iff_toInt_lt] at a; have z : (2 : Int32).toInt = 2 := rfl; omega) (v := (.int x2)) (v2 c40_874) d17_46 (pc' := 47) rfl ?_
        refine gcallS B X (hw _ (List.mem_of_getElem? (i := 88) rfl)) (hw _ (List.mem_of_getElem? (i := 89) rfl)) (hw _ (List.mem_of_getElem? (i := 3) rfl)) (hw _ (List.mem_of_getElem? (i := 90) rfl)) (by decide) (mtadd l Z a0 hw (0 : Int32) x2  h0 ) pd__II_I rfl (argsL := [(.int (0 : Int32)), (.int x2)]) (st := []) rfl rfl (W := 0) (Nat.le_of_eq rfl) (by decide) (by decide) (by decide) (by decide) (fun x q => nomatch q) d17_47 (pc' := 50) rfl (pureG rfl rfl fun T875 X876 => ?_)
        refine gistoreN B X876 d17_50 (Ls' := #[.val (.ref ar), .val (.int want), .val (.int (oadd (0 : Int32) x2))]) rfl (pc' := 51) rfl ?_
        refine galoadN B X876 d17_51 rfl rfl (pc' := 52) rfl ?_
        refine glength B X876 (n := nl) FA hn hnl d17_52 (pc' := 53) rfl ?_
        refine giconst B X876 d17_53 (v := (3 : Int32)) rfl (pc' := 54) rfl ?_
        by_cases c54_877 : (3 : Int32) < nl
        · refine gicN B X876 d17_54 (tlt c54_877).2.2.2 (pc' := 57) rfl ?_
          refine giloadN B X876 d17_57 rfl (pc' := 58) rfl ?_
          refine galoadN B X876 d17_58 rfl rfl (pc' := 59) rfl ?_
          refine giconst B X876 d17_59 (v := (3 : Int32)) rfl (pc' := 60) rfl ?_
          refine giaload B X876 FA hn (by have a := c54_877; rw [Int32.lt_iff_toInt_lt] at a; have z : (3 : Int32).toInt = 3 := rfl; omega) (v := (.int x3)) (v3 c54_877) d17_60 (pc' := 61) rfl ?_
          refine gcallS B X876 (hw _ (List.mem_of_getElem? (i := 88) rfl)) (hw _ (List.mem_of_getElem? (i := 89) rfl)) (hw _ (List.mem_of_getElem? (i := 3) rfl)) (hw _ (List.mem_of_getElem? (i := 90) rfl)) (by decide) (mtadd l Z a0 hw (oadd (0 : Int32) x2) x3  h0 ) pd__II_I rfl (argsL := [(.int (oadd (0 : Int32) x2)), (.int x3)]) (st := []) rfl rfl (W := 0) (Nat.le_of_eq rfl) (by decide) (by decide) (by decide) (by decide) (fun x q => nomatch q) d17_61 (pc' := 64) rfl (pureG rfl rfl fun T878 X879 => ?_)
          refine gistoreN B X879 d17_64 (Ls' := #[.val (.ref ar), .val (.int want), .val (.int (oadd (oadd (0 : Int32) x2) x3))]) rfl (pc' := 65) rfl ?_
          refine giloadN B X879 d17_65 rfl (pc' := 66) rfl ?_
          refine giloadN B X879 d17_66 rfl (pc' := 67) rfl ?_
          by_cases c67_880 : (oadd (oadd (0 : Int32) x2) x3) = want
          · refine gicN B X879 d17_67 (teq c67_880).2 (pc' := 70) rfl ?_
            refine giconst B X879 d17_70 (v := (1 : Int32)) rfl (pc' := 71) rfl ?_
            refine ggoto B X879 (pc' := 75) d17_71 (by decide) ?_
            exact gretN B X879 (z' := (1 : Int32)) (by simp) (rfl) d17_75 (by decide) (by decide) (⟨by rw [osame, if_neg c12_826, if_neg c26_858, if_pos c40_874, if_pos c54_877, if_pos c67_880], rfl⟩)
          · refine gicY B X879 (pc' := 74) d17_67 (feq c67_880).2 (by decide) ?_
            refine giconst B X879 d17_74 (v := (0 : Int32)) rfl (pc' := 75) rfl ?_
            exact gretN B X879 (z' := (0 : Int32)) (by simp) (rfl) d17_75 (by decide) (by decide) (⟨by rw [osame, if_neg c12_826, if_neg c26_858, if_pos c40_874, if_pos c54_877, if_neg c67_880], rfl⟩)
        · refine gicY B X876 (pc' := 65) d17_54 (flt c54_877).2.2.2 (by decide) ?_
          refine giloadN B X876 d17_65 rfl (pc' := 66) rfl ?_
          refine giloadN B X876 d17_66 rfl (pc' := 67) rfl ?_
          by_cases c67_881 : (oadd (0 : Int32) x2) = want
          · refine gicN B X876 d17_67 (teq c67_881).2 (pc' := 70) rfl ?_
            refine giconst B X876 d17_70 (v := (1 : Int32)) rfl (pc' := 71) rfl ?_
            refine ggoto B X876 (pc' := 75) d17_71 (by decide) ?_
            exact gretN B X876 (z' := (1 : Int32)) (by simp) (rfl) d17_75 (by decide) (by decide) (⟨by rw [osame, if_neg c12_826, if_neg c26_858, if_pos c40_874, if_neg c54_877, if_pos c67_881], rfl⟩)
          · refine gicY B X876 (pc' := 74) d17_67 (feq c67_881).2 (by decide) ?_
            refine giconst B X876 d17_74 (v := (0 : Int32)) rfl (pc' := 75) rfl ?_
            exact gretN B X876 (z' := (0 : Int32)) (by simp) (rfl) d17_75 (by decide) (by decide) (⟨by rw [osame, if_neg c12_826, if_neg c26_858, if_pos c40_874, if_neg c54_877, if_neg c67_881], rfl⟩)
      · refine gicY B X (pc' := 51) d17_40 (flt c40_874).2.2.2 (by decide) ?_
        refine galoadN B X d17_51 rfl rfl (pc' := 52) rfl ?_
        refine glength B X (n := nl) FA hn hnl d17_52 (pc' := 53) rfl ?_
        refine giconst B X d17_53 (v := (3 : Int32)) rfl (pc' := 54) rfl ?_
        by_cases c54_882 : (3 : Int32) < nl
        · refine gicN B X d17_54 (tlt c54_882).2.2.2 (pc' := 57) rfl ?_
          refine giloadN B X d17_57 rfl (pc' := 58) rfl ?_
          refine galoadN B X d17_58 rfl rfl (pc' := 59) rfl ?_
          refine giconst B X d17_59 (v := (3 : Int32)) rfl (pc' := 60) rfl ?_
          refine giaload B X FA hn (by have a := c54_882; rw [Int32.lt_iff_toInt_lt] at a; have z : (3 : Int32).toInt = 3 := rfl; omega) (v := (.int x3)) (v3 c54_882) d17_60 (pc' := 61) rfl ?_
          refine gcallS B X (hw _ (List.mem_of_getElem? (i := 88) rfl)) (hw _ (List.mem_of_getElem? (i := 89) rfl)) (hw _ (List.mem_of_getElem? (i := 3) rfl)) (hw _ (List.mem_of_getElem? (i := 90) rfl)) (by decide) (mtadd l Z a0 hw (0 : Int32) x3  h0 ) pd__II_I rfl (argsL := [(.int (0 : Int32)), (.int x3)]) (st := []) rfl rfl (W := 0) (Nat.le_of_eq rfl) (by decide) (by decide) (by decide) (by decide) (fun x q => nomatch q) d17_61 (pc' := 64) rfl (pureG rfl rfl fun T883 X884 => ?_)
          refine gistoreN B X884 d17_64 (Ls' := #[.val (.ref ar), .val (.int want), .val (.int (oadd (0 : Int32) x3))]) rfl (pc' := 65) rfl ?_
          refine giloadN B X884 d17_65 rfl (pc' := 66) rfl ?_
          refine giloadN B X884 d17_66 rfl (pc' := 67) rfl ?_
          by_cases c67_885 : (oadd (0 : Int32) x3) = want
          · refine gicN B X884 d17_67 (teq c67_885).2 (pc' := 70) rfl ?_
            refine giconst B X884 d17_70 (v := (1 : Int32)) rfl (pc' := 71) rfl ?_
            refine ggoto B X884 (pc' := 75) d17_71 (by decide) ?_
            exact gretN B X884 (z' := (1 : Int32)) (by simp) (rfl) d17_75 (by decide) (by decide) (⟨by rw [osame, if_neg c12_826, if_neg c26_858, if_neg c40_874, if_pos c54_882, if_pos c67_885], rfl⟩)
          · refine gicY B X884 (pc' := 74) d17_67 (feq c67_885).2 (by decide) ?_
            refine giconst B X884 d17_74 (v := (0 : Int32)) rfl (pc' := 75) rfl ?_
            exact gretN B X884 (z' := (0 : Int32)) (by simp) (rfl) d17_75 (by decide) (by decide) (⟨by rw [osame, if_neg c12_826, if_neg c26_858, if_neg c40_874, if_pos c54_882, if_neg c67_885], rfl⟩)
        · refine gicY B X (pc' := 65) d17_54 (flt c54_882).2.2.2 (by decide) ?_
          refine giloadN B X d17_65 rfl (pc' := 66) rfl ?_
          refine giloadN B X d17_66 rfl (pc' := 67) rfl ?_
          by_cases c67_886 : (0 : Int32) = want
          · refine gicN B X d17_67 (teq c67_886).2 (pc' := 70) rfl ?_
            refine giconst B X d17_70 (v := (1 : Int32)) rfl (pc' := 71) rfl ?_
            refine ggoto B X (pc' := 75) d17_71 (by decide) ?_
            exact gretN B X (z' := (1 : Int32)) (by simp) (rfl) d17_75 (by decide) (by decide) (⟨by rw [osame, if_neg c12_826, if_neg c26_858, if_neg c40_874, if_neg c54_882, if_pos c67_886], rfl⟩)
          · refine gicY B X (pc' := 74) d17_67 (feq c67_886).2 (by decide) ?_
            refine giconst B X d17_74 (v := (0 : Int32)) rfl (pc' := 75) rfl ?_
            exact gretN B X (z' := (0 : Int32)) (by simp) (rfl) d17_75 (by decide) (by decide) (⟨by rw [osame, if_neg c12_826, if_neg c26_858, if_neg c40_874, if_neg c54_882, if_neg c67_886], rfl⟩)
abbrev ock (cl a b : Int32) (u : PS) : Prop := u.ps.getD 1 0 = 0 ∧ u.ps.getD 2 0 = cl ∧ u.cs.getD 0 0 = oexp (0 : Int32) a b ∧ u.cs.getD 1 0 = oexp (1 : Int32) a b ∧ u.cs.getD 2 0 = oexp (2 : Int32) a b ∧ u.cs.getD 3 0 = oexp (3 : Int32) a b ∧ (0 ≤ (u.ss.getD 0 0).toInt ∧ (u.ss.getD 0 0).toInt ≤ (u.ns.getD 0 0).toInt ∧ (u.ns.getD 0 0).toInt ≤ (4 : Nat) ∧ osame (Int32.ofNat (osub u.es (u.ss.getD 0 0).toNatClampNeg (u.ns.getD 0 0).toNatClampNeg).length) ((osub u.es (u.ss.getD 0 0).toNatClampNeg (u.ns.getD 0 0).toNatClampNeg).getD 0 0) ((osub u.es (u.ss.getD 0 0).toNatClampNeg (u.ns.getD 0 0).toNatClampNeg).getD 1 0) ((osub u.es (u.ss.getD 0 0).toNatClampNeg (u.ns.getD 0 0).toNatClampNeg).getD 2 0) ((osub u.es (u.ss.getD 0 0).toNatClampNeg (u.ns.getD 0 0).toNatClampNeg).getD 3 0) (((15 : Int32) &&& (a ^^^ (-1 : Int32))) &&& (b ^^^ (-1 : Int32))) = 1) ∧ (0 ≤ (u.ss.getD 1 0).toInt ∧ (u.ss.getD 1 0).toInt ≤ (u.ns.getD 1 0).toInt ∧ (u.ns.getD 1 0).toInt ≤ (4 : Nat) ∧ osame (Int32.ofNat (osub u.es (u.ss.getD 1 0).toNatClampNeg (u.ns.getD 1 0).toNatClampNeg).length) ((osub u.es (u.ss.getD 1 0).toNatClampNeg (u.ns.getD 1 0).toNatClampNeg).getD 0 0) ((osub u.es (u.ss.getD 1 0).toNatClampNeg (u.ns.getD 1 0).toNatClampNeg).getD 1 0) ((osub u.es (u.ss.getD 1 0).toNatClampNeg (u.ns.getD 1 0).toNatClampNeg).getD 2 0) ((osub u.es (u.ss.getD 1 0).toNatClampNeg (u.ns.getD 1 0).toNatClampNeg).getD 3 0) (a &&& (b ^^^ (-1 : Int32))) = 1) ∧ (0 ≤ (u.ss.getD 2 0).toInt ∧ (u.ss.getD 2 0).toInt ≤ (u.ns.getD 2 0).toInt ∧ (u.ns.getD 2 0).toInt ≤ (4 : Nat) ∧ osame (Int32.ofNat (osub u.es (u.ss.getD 2 0).toNatClampNeg (u.ns.getD 2 0).toNatClampNeg).length) ((osub u.es (u.ss.getD 2 0).toNatClampNeg (u.ns.getD 2 0).toNatClampNeg).getD 0 0) ((osub u.es (u.ss.getD 2 0).toNatClampNeg (u.ns.getD 2 0).toNatClampNeg).getD 1 0) ((osub u.es (u.ss.getD 2 0).toNatClampNeg (u.ns.getD 2 0).toNatClampNeg).getD 2 0) ((osub u.es (u.ss.getD 2 0).toNatClampNeg (u.ns.getD 2 0).toNatClampNeg).getD 3 0) b = 1)
abbrev oal0 (a qx b qy : Int32) : Prop := (((oseq (b &&& ((15 : Int32) &&& (a ^^^ (-1 : Int32)))) qy).length : Int) ≤ ((oSp (0 : Int32) (oseq a qx) (oS0 (4 : Int32) 4).nors).ns.getD 0 0).toInt ∧ ((oSp (0 : Int32) (oseq a qx) (oS0 (4 : Int32) 4).nors).ns.getD 0 0).toInt ≤ (4 : Nat)) ∧ ock (0 : Int32) a (b &&& ((15 : Int32) &&& (a ^^^ (-1 : Int32)))) (oSp (0 : Int32) (oseq (b &&& ((15 : Int32) &&& (a ^^^ (-1 : Int32)))) qy) (oSp (0 : Int32) (oseq a qx) (oS0 (4 : Int32) 4).nors))
set_option maxRecDepth 100000 in
theorem own_all0 : ∀ (A : Fin 16) (x : Fin 4) (D : Fin 16) (y : Fin 4), oal0 (Int32.ofNat A.1) (Int32.ofNat x.1) (Int32.ofNat D.1) (Int32.ofNat y.1) := by decide +kernel
abbrev oal1 (a qx b qy : Int32) : Prop := (((oseq (b &&& a) qy).length : Int) ≤ ((oSp (0 : Int32) (oseq a qx) (oS0 (4 : Int32) 4).nors).ns.getD 1 0).toInt ∧ ((oSp (0 : Int32) (oseq a qx) (oS0 (4 : Int32) 4).nors).ns.getD 1 0).toInt ≤ (4 : Nat)) ∧ ock (1 : Int32) a (b &&& a) (oSp (1 : Int32) (oseq (b &&& a) qy) (oSp (0 : Int32) (oseq a qx) (oS0 (4 : Int32) 4).nors))
set_option maxRecDepth 100000 in
theorem own_all1 : ∀ (A : Fin 16) (x : Fin 4) (D : Fin 16) (y : Fin 4), oal1 (Int32.ofNat A.1) (Int32.ofNat x.1) (Int32.ofNat D.1) (Int32.ofNat y.1) := by decide +kernel
theorem own_cl0 {x : Int32} (h : 0 ≤ x.toInt) : x.toInt = (x.toNatClampNeg : Int) := by simp only [Int32.toNatClampNeg]; omega
theorem own_subL (xs : List Int32) (s t : Nat) (h : t ≤ 4) : (osub xs s t).length ≤ 4 := by unfold osub; rw [List.length_map, List.length_range]; omega
theorem own_ofl {xs : List Int32} (h : xs.length ≤ 4) : (Int32.ofNat xs.length).toInt = (xs.length : Int) := Int32.toInt_ofNat_of_lt (by omega)
theorem own_n4 {xs : List Int32} (h : xs.length ≤ 4) : ¬ (4 : Int32) < Int32.ofNat xs.length := by rw [Int32.lt_iff_toInt_lt, own_ofl h]; have z : (4 : Int32).toInt = 4 := rfl; omega
theorem own_vi {xs : List Int32} (h : xs.length ≤ 4) {x : Int32} (i : Nat) (hx : x.toInt = i) (q : x < Int32.ofNat xs.length) : (xs.map Value.int)[x.toNatClampNeg]? = some (.int (xs.getD i 0)) := by
  rw [Int32.lt_iff_toInt_lt, own_ofl h, hx] at q
  rw [own_clamp hx]; exact own_at (by omega)
theorem own_cl4 {x y : Int32} (h0 : 0 ≤ x.toInt) (h : x.toInt ≤ y.toInt) (h4 : y.toInt ≤ (4 : Nat)) : x.toNatClampNeg ≤ y.toNatClampNeg ∧ y.toNatClampNeg ≤ 4 := by simp only [Int32.toNatClampNeg]; omega
theorem pn0 : plainFor (⟨"com/example/bisim_for_markov/bisimformarkov/analysis/PartitionSplitPinLaw", "law", "(IIIII)Z"⟩ : MethodName) = true := plainFor_of_name (by first | (simp [plainName, overriddenIn]; done) | decide +kernel)
theorem ef0_IIIII (m : MethodId) (x0 : Int32) (x1 : Int32) (x2 : Int32) (x3 : Int32) (x4 : Int32) : entryFrame m #[(.int x0), (.int x1), (.int x2), (.int x3), (.int x4)] 23 = mkF m 0 #[.val (.int x0), .val (.int x1), .val (.int x2), .val (.int x3), .val (.int x4), .unset, .unset, .unset, .unset, .unset, .unset, .unset, .unset, .unset, .unset, .unset, .unset, .unset, .unset, .unset, .unset, .unset, .unset] [] := by first | (simp [entryFrame, mkF, argsToLocals, Value.category]; done) | rfl
theorem pd___II_V : parseMethodDescriptor "([II)V" = some ⟨[(.array .int), .int], none⟩ := by decide +kernel
theorem pd__I_V : parseMethodDescriptor "(I)V" = some ⟨[.int], none⟩ := by decide +kernel
theorem pd__I_IIII_I : parseMethodDescriptor "(I[IIII)I" = some ⟨[.int, (.array .int), .int, .int, .int], some .int⟩ := by decide +kernel
theorem pd__I_I : parseMethodDescriptor "(I)I" = some ⟨[.int], some .int⟩ := by decide +kernel
theorem pd__III_I : parseMethodDescriptor "(III)I" = some ⟨[.int, .int, .int], some .int⟩ := by decide +kernel
theorem pd__I__I : parseMethodDescriptor "(I)[I" = some ⟨[.int], some (.array .int)⟩ := by decide +kernel
theorem pd___II_Z : parseMethodDescriptor "([II)Z" = some ⟨[(.array .int), .int], some .boolean⟩ := by decide +kernel
set_option maxRecDepth 65536 in
set_option maxHeartbeats 4000000 in
theorem mt0 (l : Launch) (Z : State) (a0 : Array Value) (hw : ∀ d ∈ tables_1, d.before a0 Z = true) (p0 : Int32) (p1 : Int32) (p2 : Int32) (p3 : Int32) (p4 : Int32) (h0 : Heap) : Meth l Z x code maxLocals ret room_1 #[(.int p0), (.int p1), (.int p2), (.int p3), (.int p4)] h0 [] (fun v h' => v = some (.int 1)) := by
  refine Meth.of pn0 ?_
  intro p e s m below meth c T B X
  have B : Fix p Z s m meth c code 23 "com/example/bisim_for_markov/bisimformarkov/analysis/PartitionSplitPinLaw" "law" (some .boolean) := B
  refine Go.entry (ef0_IIIII m p0 p1 p2 p3 p4) ?_
  refine giloadN B X at_0 rfl (pc' := 1) rfl ?_
  refine gbipush B X at_1 (v := (15 : Int32)) rfl (pc' := 3) rfl ?_
  refine giand B X at_3 rfl (pc' := 4) rfl ?_
  generalize e_qa : (p0 &&& (15 : Int32)) = qa
  refine gistore B X at_4 (Ls' := #[.val (.int p0), .val (.int p1), .val (.int p2), .val (.int p3), .val (.int p4), .val (.int qa), .unset, .unset, .unset, .unset, .unset, .unset, .unset, .unset, .unset, .unset, .unset, .unset, .unset, .unset, .unset, .unset, .unset]) rfl (pc' := 6) rfl ?_
  obtain ⟨gA, xgA⟩ : ∃ A : Fin 16, qa = Int32.ofNat A.1 := by rw [← e_qa]; exact own_f4 _
  refine giloadN B X at_6 rfl (pc' := 7) rfl ?_
  refine giconst B X at_7 (v := (4 : Int32)) rfl (pc' := 8) rfl ?_
  refine giushr B X at_8 rfl (pc' := 9) rfl ?_
  refine giconst B X at_9 (v := (3 : Int32)) rfl (pc' := 10) rfl ?_
  refine giand B X at_10 rfl (pc' := 11) rfl ?_
  generalize e_qq1 : (((p0.toUInt32 >>> ((4 : Int32) &&& 31).toUInt32).toInt32) &&& (3 : Int32)) = qq1
  refine gistore B X at_11 (Ls' := #[.val (.int p0), .val (.int p1), .val (.int p2), .val (.int p3), .val (.int p4), .val (.int qa), .val (.int qq1), .unset, .unset, .unset, .unset, .unset, .unset, .unset, .unset, .unset, .unset, .unset, .unset, .unset, .unset, .unset, .unset]) rfl (pc' := 13) rfl ?_
  obtain ⟨g1, xg1⟩ : ∃ A : Fin 4, qq1 = Int32.ofNat A.1 := by rw [← e_qq1]; exact own_f2 _
  refine giloadN B X at_13 rfl (pc' := 14) rfl ?_
  refine gbipush B X at_14 (v := (6 : Int32)) rfl (pc' := 16) rfl ?_
  refine giushr B X at_16 rfl (pc' := 17) rfl ?_
  refine giconst B X at_17 (v := (3 : Int32)) rfl (pc' := 18) rfl ?_
  refine giand B X at_18 rfl (pc' := 19) rfl ?_
  refine giconst B X at_19 (v := (3 : Int32)) rfl (pc' := 20) rfl ?_
  refine girem B X at_20 (by decide) rfl (pc' := 21) rfl ?_
  generalize e_qf1 : ((((p0.toUInt32 >>> ((6 : Int32) &&& 31).toUInt32).toInt32) &&& (3 : Int32)) % (3 : Int32)) = qf1
  refine gistore B X at_21 (Ls' := #[.val (.int p0), .val (.int p1), .val (.int p2), .val (.int p3), .val (.int p4), .val (.int qa), .val (.int qq1), .val (.int qf1), .unset, .unset, .unset, .unset, .unset, .unset, .unset, .unset, .unset, .unset, .unset, .unset, .unset, .unset, .unset]) rfl (pc' := 23) rfl ?_
  obtain ⟨fN1, hf1, hf12⟩ : ∃ fN : Nat, qf1.toInt = fN ∧ fN ≤ 2 := by rw [← e_qf1]; exact own_fr _
  refine giloadN B X at_23 rfl (pc' := 24) rfl ?_
  refine giconst B X at_24 (v := (4 : Int32)) rfl (pc' := 25) rfl ?_
  refine giushr B X at_25 rfl (pc' := 26) rfl ?_
  refine giconst B X at_26 (v := (1 : Int32)) rfl (pc' := 27) rfl ?_
  refine giand B X at_27 rfl (pc' := 28) rfl ?_
  by_cases c28_887 : (((p1.toUInt32 >>> ((4 : Int32) &&& 31).toUInt32).toInt32) &&& (1 : Int32)) = (0 : Int32)
  · refine gifY B X (pc' := 35) at_28 ((if0 _ _).trans (teq c28_887).1) (by decide) ?_
    refine giconst B X at_35 (v := (0 : Int32)) rfl (pc' := 36) rfl ?_
    refine gistore B X at_36 (Ls' := #[.val (.int p0), .val (.int p1), .val (.int p2), .val (.int p3), .val (.int p4), .val (.int qa), .val (.int qq1), .val (.int qf1), .val (.int (0 : Int32)), .unset, .unset, .unset, .unset, .unset, .unset, .unset, .unset, .unset, .unset, .unset, .unset, .unset, .unset]) rfl (pc' := 38) rfl ?_
    refine giload B X at_38 rfl (pc' := 40) rfl ?_
    refine giconst B X at_40 (v := (1 : Int32)) rfl (pc' := 41) rfl ?_
    have c41_888 : ¬ ((0 : Int32) = (1 : Int32)) := (by decide)
    refine gicY B X (pc' := 49) at_41 (feq c41_888).2 (by decide) ?_
    refine gbipush B X at_49 (v := (15 : Int32)) rfl (pc' := 51) rfl ?_
    refine giload B X at_51 rfl (pc' := 53) rfl ?_
    refine giconst B X at_53 (v := (-1 : Int32)) rfl (pc' := 54) rfl ?_
    refine gixor B X at_54 rfl (pc' := 55) rfl ?_
    refine giand B X at_55 rfl (pc' := 56) rfl ?_
    refine gistore B X at_56 (Ls' := #[.val (.int p0), .val (.int p1), .val (.int p2), .val (.int p3), .val (.int p4), .val (.int qa), .val (.int qq1), .val (.int qf1), .val (.int (0 : Int32)), .val (.int ((15 : Int32) &&& (qa ^^^ (-1 : Int32)))), .unset, .unset, .unset, .unset, .unset, .unset, .unset, .unset, .unset, .unset, .unset, .unset, .unset]) rfl (pc' := 58) rfl ?_
    refine giloadN B X at_58 rfl (pc' := 59) rfl ?_
    refine gbipush B X at_59 (v := (15 : Int32)) rfl (pc' := 61) rfl ?_
    refine giand B X at_61 rfl (pc' := 62) rfl ?_
    generalize e_qb : (p1 &&& (15 : Int32)) = qb
    refine giload B X at_62 rfl (pc' := 64) rfl ?_
    obtain ⟨gB, xgB⟩ : ∃ A : Fin 16, qb = Int32.ofNat A.1 := by rw [← e_qb]; exact own_f4 _
    refine giand B X at_64 rfl (pc' := 65) rfl ?_
    refine gistore B X at_65 (Ls' := #[.val (.int p0), .val (.int p1), .val (.int p2), .val (.int p3), .val (.int p4), .val (.int qa), .val (.int qq1), .val (.int qf1), .val (.int (0 : Int32)), .val (.int ((15 : Int32) &&& (qa ^^^ (-1 : Int32)))), .val (.int (qb &&& ((15 : Int32) &&& (qa ^^^ (-1 : Int32))))), .unset, .unset, .unset, .unset, .unset, .unset, .unset, .unset, .unset, .unset, .unset, .unset]) rfl (pc' := 67) rfl ?_
    refine giloadN B X at_67 rfl (pc' := 68) rfl ?_
    refine giconst B X at_68 (v := (5 : Int32)) rfl (pc' := 69) rfl ?_
    refine giushr B X at_69 rfl (pc' := 70) rfl ?_
    refine giconst B X at_70 (v := (3 : Int32)) rfl (pc' := 71) rfl ?_
    refine giand B X at_71 rfl (pc' := 72) rfl ?_
    generalize e_qq2 : (((p1.toUInt32 >>> ((5 : Int32) &&& 31).toUInt32).toInt32) &&& (3 : Int32)) = qq2
    refine gistore B X at_72 (Ls' := #[.val (.int p0), .val (.int p1), .val (.int p2), .val (.int p3), .val (.int p4), .val (.int qa), .val (.int qq1), .val (.int qf1), .val (.int (0 : Int32)), .val (.int ((15 : Int32) &&& (qa ^^^ (-1 : Int32)))), .val (.int (qb &&& ((15 : Int32) &&& (qa ^^^ (-1 : Int32))))), .val (.int qq2), .unset, .unset, .unset, .unset, .unset, .unset, .unset, .unset, .unset, .unset, .unset]) rfl (pc' := 74) rfl ?_
    obtain ⟨g2, xg2⟩ : ∃ A : Fin 4, qq2 = Int32.ofNat A.1 := by rw [← e_qq2]; exact own_f2 _
    refine giloadN B X at_74 rfl (pc' := 75) rfl ?_
    refine gbipush B X at_75 (v := (7 : Int32)) rfl (pc' := 77) rfl ?_
    refine giushr B X at_77 rfl (pc' := 78) rfl ?_
    refine giconst B X at_78 (v := (3 : Int32)) rfl (pc' := 79) rfl ?_
    refine giand B X at_79 rfl (pc' := 80) rfl ?_
    refine giconst B X at_80 (v := (3 : Int32)) rfl (pc' := 81) rfl ?_
    refine girem B X at_81 (by decide) rfl (pc' := 82) rfl ?_
    generalize e_qf2 : ((((p1.toUInt32 >>> ((7 : Int32) &&& 31).toUInt32).toInt32) &&& (3 : Int32)) % (3 : Int32)) = qf2
    refine gistore B X at_82 (Ls' := #[.val (.int p0), .val (.int p1), .val (.int p2), .val (.int p3), .val (.int p4), .val (.int qa), .val (.int qq1), .val (.int qf1), .val (.int (0 : Int32)), .val (.int ((15 : Int32) &&& (qa ^^^ (-1 : Int32)))), .val (.int (qb &&& ((15 : Int32) &&& (qa ^^^ (-1 : Int32))))), .val (.int qq2), .val (.int qf2), .unset, .unset, .unset, .unset, .unset, .unset, .unset, .unset, .unset, .unset]) rfl (pc' := 84) rfl ?_
    obtain ⟨fN2, hf2, hf22⟩ : ∃ fN : Nat, qf2.toInt = fN ∧ fN ≤ 2 := by rw [← e_qf2]; exact own_fr _
    refine gbipush B X at_84 (v := (6 : Int32)) rfl (pc' := 86) rfl ?_
    refine gnewarray B X (cap := 6) (vs := [(.int (0 : Int32)), (.int (0 : Int32)), (.int (0 : Int32)), (.int (0 : Int32)), (.int (0 : Int32)), (.int (0 : Int32))]) (ty := .int) rfl rfl (hw _ (List.mem_of_getElem? (i := 0) rfl)) (by decide) (by decide) (by decide) (by decide) (by decide) at_86 (pc' := 88) rfl fun T889 h890 a891 X892 q893 E894 z_a891 A895 => ?_
    refine gastore B X892 at_88 rfl (Ls' := #[.val (.int p0), .val (.int p1), .val (.int p2), .val (.int p3), .val (.int p4), .val (.int qa), .val (.int qq1), .val (.int qf1), .val (.int (0 : Int32)), .val (.int ((15 : Int32) &&& (qa ^^^ (-1 : Int32)))), .val (.int (qb &&& ((15 : Int32) &&& (qa ^^^ (-1 : Int32))))), .val (.int qq2), .val (.int qf2), .val (.ref a891), .unset, .unset, .unset, .unset, .unset, .unset, .unset, .unset, .unset]) rfl (pc' := 90) rfl ?_
    refine gbipush B X892 at_90 (v := (6 : Int32)) rfl (pc' := 92) rfl ?_
    refine gnewarray B X892 (cap := 6) (vs := [(.int (0 : Int32)), (.int (0 : Int32)), (.int (0 : Int32)), (.int (0 : Int32)), (.int (0 : Int32)), (.int (0 : Int32))]) (ty := .int) rfl rfl (hw _ (List.mem_of_getElem? (i := 0) rfl)) (by decide) (by decide) (by decide) (by decide) (by decide) at_92 (pc' := 94) rfl fun T896 h897 a898 X899 q900 E901 z_a898 A902 => ?_
    have n903 : a891 ≠ a898 := by rw [q900]; exact Nat.ne_of_lt A895.lt
    have F904 := A895.ext E901
    refine gastore B X899 at_94 rfl (Ls' := #[.val (.int p0), .val (.int p1), .val (.int p2), .val (.int p3), .val (.int p4), .val (.int qa), .val (.int qq1), .val (.int qf1), .val (.int (0 : Int32)), .val (.int ((15 : Int32) &&& (qa ^^^ (-1 : Int32)))), .val (.int (qb &&& ((15 : Int32) &&& (qa ^^^ (-1 : Int32))))), .val (.int qq2), .val (.int qf2), .val (.ref a891), .val (.ref a898), .unset, .unset, .unset, .unset, .unset, .unset, .unset, .unset]) rfl (pc' := 96) rfl ?_
    refine gaload B X899 at_96 rfl rfl (pc' := 98) rfl ?_
    refine giload B X899 at_98 rfl (pc' := 100) rfl ?_
    refine gcallS B X899 (hw _ (List.mem_of_getElem? (i := 1) rfl)) (hw _ (List.mem_of_getElem? (i := 2) rfl)) (hw _ (List.mem_of_getElem? (i := 3) rfl)) (hw _ (List.mem_of_getElem? (i := 4) rfl)) (by decide) (mt1 l Z a0 hw a891 p4  h897 F904) pd___II_V rfl (argsL := [(.ref a891), (.int p4)]) (st := []) rfl rfl (W := 0) (Nat.le_of_eq rfl) (by decide) (by decide) (by decide) (by decide) (allS (Or.inr z_a891) all0) at_100 (pc' := 103) rfl fun T905 h906 v907 X908 K909 Q910 => ?_
    have F911 := A902.keep K909 (ninS (Ne.symm n903) nin0)
    obtain ⟨rfl, ys912, hy913, A914⟩ := Q910
    show Go p e below _ _ _ _ T905 (mkF m 103 #[.val (.int p0), .val (.int p1), .val (.int p2), .val (.int p3), .val (.int p4), .val (.int qa), .val (.int qq1), .val (.int qf1), .val (.int (0 : Int32)), .val (.int ((15 : Int32) &&& (qa ^^^ (-1 : Int32)))), .val (.int (qb &&& ((15 : Int32) &&& (qa ^^^ (-1 : Int32))))), .val (.int qq2), .val (.int qf2), .val (.ref a891), .val (.ref a898), .unset, .unset, .unset, .unset, .unset, .unset, .unset, .unset] [])
    refine gaload B X908 at_103 rfl rfl (pc' := 105) rfl ?_
    refine giload B X908 at_105 rfl (pc' := 107) rfl ?_
    refine gbipush B X908 at_107 (v := (12 : Int32)) rfl (pc' := 109) rfl ?_
    refine giushr B X908 at_109 rfl (pc' := 110) rfl ?_
    refine gcallS B X908 (hw _ (List.mem_of_getElem? (i := 1) rfl)) (hw _ (List.mem_of_getElem? (i := 2) rfl)) (hw _ (List.mem_of_getElem? (i := 3) rfl)) (hw _ (List.mem_of_getElem? (i := 4) rfl)) (by decide) (mt1 l Z a0 hw a898 ((p4.toUInt32 >>> ((12 : Int32) &&& 31).toUInt32).toInt32)  h906 F911) pd___II_V rfl (argsL := [(.ref a898), (.int ((p4.toUInt32 >>> ((12 : Int32) &&& 31).toUInt32).toInt32))]) (st := []) rfl rfl (W := 0) (Nat.le_of_eq rfl) (by decide) (by decide) (by decide) (by decide) (allS (Or.inr z_a898) all0) at_110 (pc' := 113) rfl fun T915 h916 v917 X918 K919 Q920 => ?_
    have F921 := A914.keep K919 (ninS n903 nin0)
    obtain ⟨rfl, ys922, hy923, A924⟩ := Q920
    show Go p e below _ _ _ _ T915 (mkF m 113 #[.val (.int p0), .val (.int p1), .val (.int p2), .val (.int p3), .val (.int p4), .val (.int qa), .val (.int qq1), .val (.int qf1), .val (.int (0 : Int32)), .val (.int ((15 : Int32) &&& (qa ^^^ (-1 : Int32)))), .val (.int (qb &&& ((15 : Int32) &&& (qa ^^^ (-1 : Int32))))), .val (.int qq2), .val (.int qf2), .val (.ref a891), .val (.ref a898), .unset, .unset, .unset, .unset, .unset, .unset, .unset, .unset] [])
    refine gaload B X918 at_113 rfl rfl (pc' := 115) rfl ?_
    refine giload B X918 at_115 rfl (pc' := 117) rfl ?_
    refine giload B X918 at_117 rfl (pc' := 119) rfl ?_
    refine giload B X918 at_119 rfl (pc' := 121) rfl ?_
    refine gcallS B X918 (hw _ (List.mem_of_getElem? (i := 5) rfl)) (hw _ (List.mem_of_getElem? (i := 6) rfl)) (hw _ (List.mem_of_getElem? (i := 3) rfl)) (hw _ (List.mem_of_getElem? (i := 7) rfl)) (by decide) (mt2 l Z a0 hw a891 qf1 qa qq1 ys912 fN1 h916 F921 hy913 hf1 hf12) pd___IIII_I rfl (argsL := [(.ref a891), (.int qf1), (.int qa), (.int qq1)]) (st := []) rfl rfl (W := 0) (Nat.le_of_eq rfl) (by decide) (by decide) (by decide) (by decide) (allS (Or.inr z_a891) all0) at_121 (pc' := 124) rfl fun T925 h926 v927 X928 K929 Q930 => ?_
    have F931 := A924.keep K929 (ninS (Ne.symm n903) nin0)
    obtain ⟨r932, rfl, hr933, A934⟩ := Q930
    have P935 := own_place (S := qa) (q := qq1) (fN := fN1) hy913 hf12
    generalize (oplace qa qq1 (ys912, fN1)).1 = P935f at P935 A934
    rw [P935.2.1] at hr933
    show Go p e below _ _ _ _ T925 (mkF m 124 #[.val (.int p0), .val (.int p1), .val (.int p2), .val (.int p3), .val (.int p4), .val (.int qa), .val (.int qq1), .val (.int qf1), .val (.int (0 : Int32)), .val (.int ((15 : Int32) &&& (qa ^^^ (-1 : Int32)))), .val (.int (qb &&& ((15 : Int32) &&& (qa ^^^ (-1 : Int32))))), .val (.int qq2), .val (.int qf2), .val (.ref a891), .val (.ref a898), .unset, .unset, .unset, .unset, .unset, .unset, .unset, .unset] [(.int r932)])
    refine gistore B X928 at_124 (Ls' := #[.val (.int p0), .val (.int p1), .val (.int p2), .val (.int p3), .val (.int p4), .val (.int qa), .val (.int qq1), .val (.int qf1), .val (.int (0 : Int32)), .val (.int ((15 : Int32) &&& (qa ^^^ (-1 : Int32)))), .val (.int (qb &&& ((15 : Int32) &&& (qa ^^^ (-1 : Int32))))), .val (.int qq2), .val (.int qf2), .val (.ref a891), .val (.ref a898), .val (.int r932), .unset, .unset, .unset, .unset, .unset, .unset, .unset]) rfl (pc' := 126) rfl ?_
    refine gaload B X928 at_126 rfl rfl (pc' := 128) rfl ?_
    refine giload B X928 at_128 rfl (pc' := 130) rfl ?_
    refine giload B X928 at_130 rfl (pc' := 132) rfl ?_
    refine giload B X928 at_132 rfl (pc' := 134) rfl ?_
    refine gcallS B X928 (hw _ (List.mem_of_getElem? (i := 5) rfl)) (hw _ (List.mem_of_getElem? (i := 6) rfl)) (hw _ (List.mem_of_getElem? (i := 3) rfl)) (hw _ (List.mem_of_getElem? (i := 7) rfl)) (by decide) (mt2 l Z a0 hw a898 qf2 (qb &&& ((15 : Int32) &&& (qa ^^^ (-1 : Int32)))) qq2 ys922 fN2 h926 F931 hy923 hf2 hf22) pd___IIII_I rfl (argsL := [(.ref a898), (.int qf2), (.int (qb &&& ((15 : Int32) &&& (qa ^^^ (-1 : Int32))))), (.int qq2)]) (st := []) rfl rfl (W := 0) (Nat.le_of_eq rfl) (by decide) (by decide) (by decide) (by decide) (allS (Or.inr z_a898) all0) at_134 (pc' := 137) rfl fun T937 h938 v939 X940 K941 Q942 => ?_
    have F943 := A934.keep K941 (ninS n903 nin0)
    obtain ⟨r944, rfl, hr945, A946⟩ := Q942
    have P947 := own_place (S := (qb &&& ((15 : Int32) &&& (qa ^^^ (-1 : Int32))))) (q := qq2) (fN := fN2) hy923 hf22
    generalize (oplace (qb &&& ((15 : Int32) &&& (qa ^^^ (-1 : Int32)))) qq2 (ys922, fN2)).1 = P947f at P947 A946
    rw [P947.2.1] at hr945
    show Go p e below _ _ _ _ T937 (mkF m 137 #[.val (.int p0), .val (.int p1), .val (.int p2), .val (.int p3), .val (.int p4), .val (.int qa), .val (.int qq1), .val (.int qf1), .val (.int (0 : Int32)), .val (.int ((15 : Int32) &&& (qa ^^^ (-1 : Int32)))), .val (.int (qb &&& ((15 : Int32) &&& (qa ^^^ (-1 : Int32))))), .val (.int qq2), .val (.int qf2), .val (.ref a891), .val (.ref a898), .val (.int r932), .unset, .unset, .unset, .unset, .unset, .unset, .unset] [(.int r944)])
    refine gistore B X940 at_137 (Ls' := #[.val (.int p0), .val (.int p1), .val (.int p2), .val (.int p3), .val (.int p4), .val (.int qa), .val (.int qq1), .val (.int qf1), .val (.int (0 : Int32)), .val (.int ((15 : Int32) &&& (qa ^^^ (-1 : Int32)))), .val (.int (qb &&& ((15 : Int32) &&& (qa ^^^ (-1 : Int32))))), .val (.int qq2), .val (.int qf2), .val (.ref a891), .val (.ref a898), .val (.int r932), .val (.int r944), .unset, .unset, .unset, .unset, .unset, .unset]) rfl (pc' := 139) rfl ?_
    refine gnew B X940 (hw _ (List.mem_of_getElem? (i := 11) rfl)) (hw _ (List.mem_of_getElem? (i := 12) rfl)) (hw _ (List.mem_of_getElem? (i := 13) rfl)) (by decide) (by decide) at_139 (pc' := 142) rfl fun T949 h950 a951 X952 q953 E954 z_a951 A955 D956 => ?_
    have O957 : Pt Z h950 a951 .null .null .null .null .null .null .null (.int (0 : Int32)) := ⟨A955, D956 (Or.inr (hw _ (List.mem_of_getElem? (i := 21) rfl))) (ty := (.array .int)) (by decide), D956 (Or.inr (hw _ (List.mem_of_getElem? (i := 23) rfl))) (ty := (.array .int)) (by decide), D956 (Or.inr (hw _ (List.mem_of_getElem? (i := 25) rfl))) (ty := (.array .int)) (by decide), D956 (Or.inr (hw _ (List.mem_of_getElem? (i := 31) rfl))) (ty := (.array .int)) (by decide), D956 (Or.inr (hw _ (List.mem_of_getElem? (i := 33) rfl))) (ty := (.array .int)) (by decide), D956 (Or.inr (hw _ (List.mem_of_getElem? (i := 35) rfl))) (ty := (.array .int)) (by decide), D956 (Or.inr (hw _ (List.mem_of_getElem? (i := 37) rfl))) (ty := (.array .int)) (by decide), D956 (Or.inl (hw _ (List.mem_of_getElem? (i := 39) rfl))) (ty := .int) (by decide)⟩
    have n958 : a891 ≠ a951 := by rw [q953]; exact Nat.ne_of_lt F943.lt
    have n959 : a898 ≠ a951 := by rw [q953]; exact Nat.ne_of_lt A946.lt
    have F960 := F943.ext E954
    have F961 := A946.ext E954
    refine gdup B X952 at_142 rfl (pc' := 143) rfl ?_
    refine giconst B X952 at_143 (v := (4 : Int32)) rfl (pc' := 144) rfl ?_
    refine gcallI B X952 rfl rfl (hw _ (List.mem_of_getElem? (i := 14) rfl)) (hw _ (List.mem_of_getElem? (i := 15) rfl)) (hw _ (List.mem_of_getElem? (i := 13) rfl)) (hw _ (List.mem_of_getElem? (i := 16) rfl)) (by decide) (mt4 l Z a0 hw a951 (4 : Int32) 4 h950 O957 (by decide) (by decide)) pd__I_V rfl (argsL := [(.int (4 : Int32))]) (st := [(.ref a951)]) rfl rfl (W := 1) (Nat.le_of_eq rfl) (by decide) (by decide) (by decide) (by decide) (allS (Or.inr z_a951) all0) at_144 (pc' := 147) rfl fun T962 h963 v964 X965 K966 Q967 => ?_
    have F968 := F960.keep K966 (ninS n958 nin0)
    have F969 := F961.keep K966 (ninS n959 nin0)
    obtain ⟨rfl, aE970, aL971, aK972, aS973, aN974, aP975, aR976, ND977, zz978, A979⟩ := Q967
    have y_aE970 := own_hw zz978 0 rfl
    have z_aE970 : h0.size ≤ aE970 := Nat.le_trans X952.kept.1 y_aE970
    have n980 : a891 ≠ aE970 := Nat.ne_of_lt (Nat.lt_of_lt_of_le F960.lt y_aE970)
    have n981 : a898 ≠ aE970 := Nat.ne_of_lt (Nat.lt_of_lt_of_le F961.lt y_aE970)
    have y_aL971 := own_hw zz978 1 rfl
    have z_aL971 : h0.size ≤ aL971 := Nat.le_trans X952.kept.1 y_aL971
    have n982 : a891 ≠ aL971 := Nat.ne_of_lt (Nat.lt_of_lt_of_le F960.lt y_aL971)
    have n983 : a898 ≠ aL971 := Nat.ne_of_lt (Nat.lt_of_lt_of_le F961.lt y_aL971)
    have y_aK972 := own_hw zz978 2 rfl
    have z_aK972 : h0.size ≤ aK972 := Nat.le_trans X952.kept.1 y_aK972
    have n984 : a891 ≠ aK972 := Nat.ne_of_lt (Nat.lt_of_lt_of_le F960.lt y_aK972)
    have n985 : a898 ≠ aK972 := Nat.ne_of_lt (Nat.lt_of_lt_of_le F961.lt y_aK972)
    have y_aS973 := own_hw zz978 3 rfl
    have z_aS973 : h0.size ≤ aS973 := Nat.le_trans X952.kept.1 y_aS973
    have n986 : a891 ≠ aS973 := Nat.ne_of_lt (Nat.lt_of_lt_of_le F960.lt y_aS973)
    have n987 : a898 ≠ aS973 := Nat.ne_of_lt (Nat.lt_of_lt_of_le F961.lt y_aS973)
    have y_aN974 := own_hw zz978 4 rfl
    have z_aN974 : h0.size ≤ aN974 := Nat.le_trans X952.kept.1 y_aN974
    have n988 : a891 ≠ aN974 := Nat.ne_of_lt (Nat.lt_of_lt_of_le F960.lt y_aN974)
    have n989 : a898 ≠ aN974 := Nat.ne_of_lt (Nat.lt_of_lt_of_le F961.lt y_aN974)
    have y_aP975 := own_hw zz978 5 rfl
    have z_aP975 : h0.size ≤ aP975 := Nat.le_trans X952.kept.1 y_aP975
    have n990 : a891 ≠ aP975 := Nat.ne_of_lt (Nat.lt_of_lt_of_le F960.lt y_aP975)
    have n991 : a898 ≠ aP975 := Nat.ne_of_lt (Nat.lt_of_lt_of_le F961.lt y_aP975)
    have y_aR976 := own_hw zz978 6 rfl
    have z_aR976 : h0.size ≤ aR976 := Nat.le_trans X952.kept.1 y_aR976
    have n992 : a891 ≠ aR976 := Nat.ne_of_lt (Nat.lt_of_lt_of_le F960.lt y_aR976)
    have n993 : a898 ≠ aR976 := Nat.ne_of_lt (Nat.lt_of_lt_of_le F961.lt y_aR976)
    show Go p e below _ _ _ _ T962 (mkF m 147 #[.val (.int p0), .val (.int p1), .val (.int p2), .val (.int p3), .val (.int p4), .val (.int qa), .val (.int qq1), .val (.int qf1), .val (.int (0 : Int32)), .val (.int ((15 : Int32) &&& (qa ^^^ (-1 : Int32)))), .val (.int (qb &&& ((15 : Int32) &&& (qa ^^^ (-1 : Int32))))), .val (.int qq2), .val (.int qf2), .val (.ref a891), .val (.ref a898), .val (.int r932), .val (.int r944), .unset, .unset, .unset, .unset, .unset, .unset] [(.ref a951)])
    have k0 : Ok 4 4 (oS0 (4 : Int32) 4) := own_ok0 (by decide)
    refine gastore B X965 at_147 rfl (Ls' := #[.val (.int p0), .val (.int p1), .val (.int p2), .val (.int p3), .val (.int p4), .val (.int qa), .val (.int qq1), .val (.int qf1), .val (.int (0 : Int32)), .val (.int ((15 : Int32) &&& (qa ^^^ (-1 : Int32)))), .val (.int (qb &&& ((15 : Int32) &&& (qa ^^^ (-1 : Int32))))), .val (.int qq2), .val (.int qf2), .val (.ref a891), .val (.ref a898), .val (.int r932), .val (.int r944), .val (.ref a951), .unset, .unset, .unset, .unset, .unset]) rfl (pc' := 149) rfl ?_
    refine gaload B X965 at_149 rfl rfl (pc' := 151) rfl ?_
    refine giconst B X965 at_151 (v := (0 : Int32)) rfl (pc' := 152) rfl ?_
    refine gaload B X965 at_152 rfl rfl (pc' := 154) rfl ?_
    refine giload B X965 at_154 rfl (pc' := 156) rfl ?_
    refine giload B X965 at_156 rfl (pc' := 158) rfl ?_
    refine giloadN B X965 at_158 rfl (pc' := 159) rfl ?_
    have sl1 := own_seqLen qa qq1
    have hx1 := own_hxs (fN := fN1) rfl P935.2.2 (own_seqR ⟨_, xg1⟩)
    have can1 : Can 4 (0 : Int32) ((fN1 + (oseq qa qq1).length) - fN1) (oS0 (4 : Int32) 4) := ⟨by show _ ≤ ((oS0 (4 : Int32) 4).ns.getD 0 0).toInt; rw [own_n00]; have z : (4 : Int32).toInt = 4 := rfl; omega, by show ((oS0 (4 : Int32) 4).ns.getD 0 0).toInt ≤ _; rw [own_n00]; decide⟩
    have c1 : inR 4 (0 : Int32) := own_lit (a := 0) rfl (by decide)
    have d1 : inR 4 (oS0 (4 : Int32) 4).cnt := own_lit (x := 1) (a := 1) rfl (by decide)
    have S1 := own_split (rd := p2) (by decide) k0 c1 can1 hx1 d1 hf1 hr933 (Nat.le_add_right ..) (ci := 0) (cc := 1) rfl rfl (by decide)
    have N1 := own_sp (cl := (0 : Int32)) (rd := p2) (u := (oS0 (4 : Int32) 4)) hf1 hr933 rfl (by omega) P935.2.2
    have hf_159 : ∀ x ∈ [a951, aE970, aL971, aK972, aS973, aN974, aP975, aR976], x ≠ a891 := (allS (Ne.symm n958) (allS (Ne.symm n980) (allS (Ne.symm n982) (allS (Ne.symm n984) (allS (Ne.symm n986) (allS (Ne.symm n988) (allS (Ne.symm n990) (allS (Ne.symm n992) all0))))))))
    have A_159 : PA Z h963 a951 aE970 aL971 aK972 aS973 aN974 aP975 aR976 (oS0 (4 : Int32) 4) := ⟨A979.1, A979.2.1, A979.2.2.1, A979.2.2.2.1, A979.2.2.2.2.1, A979.2.2.2.2.2.1, A979.2.2.2.2.2.2.1, A979.2.2.2.2.2.2.2.1, A979.2.2.2.2.2.2.2.2⟩
    refine gcallV B X965 A979.1.1 (hw _ (List.mem_of_getElem? (i := 40) rfl)) (hw _ (List.mem_of_getElem? (i := 41) rfl)) (hw _ (List.mem_of_getElem? (i := 43) rfl)) (hw _ (List.mem_of_getElem? (i := 42) rfl)) (hw _ (List.mem_of_getElem? (i := 13) rfl)) (hw _ (List.mem_of_getElem? (i := 44) rfl)) rfl (by decide) (mt7 l Z a0 hw a951 (0 : Int32) a891 qf1 r932 p2 aE970 aL971 aK972 aS973 aN974 aP975 aR976 (oS0 (4 : Int32) 4) P935f 4 4 fN1 (fN1 + (oseq qa qq1).length) h963 A_159 F968 ND977 hf_159 k0 can1 hx1 c1 hf1 hr933 (Nat.le_add_right ..) (by rw [P935.1]; omega) d1) pd__I_IIII_I rfl (argsL := [(.int (0 : Int32)), (.ref a891), (.int qf1), (.int r932), (.int p2)]) (st := []) rfl rfl (W := 0) (Nat.le_of_eq rfl) (by decide) (by decide) (by decide) (by decide) (allS (Or.inr z_a951) (allS (Or.inr z_aE970) (allS (Or.inr z_aL971) (allS (Or.inr z_aK972) (allS (Or.inr z_aS973) (allS (Or.inr z_aN974) (allS (Or.inr z_aP975) (allS (Or.inr z_aR976) all0)))))))) at_159 (pc' := 162) rfl fun T994 h995 v996 X997 K998 Q999 => ?_
    have F1000 := F968.keep K998 (ninS n958 (ninS n980 (ninS n982 (ninS n984 (ninS n986 (ninS n988 (ninS n990 (ninS n992 nin0))))))))
    have F1001 := F969.keep K998 (ninS n959 (ninS n981 (ninS n983 (ninS n985 (ninS n987 (ninS n989 (ninS n991 (ninS n993 nin0))))))))
    have E1002 := A979.2.2.2.2.2.2.2.2.keep K998
    obtain ⟨rfl, A1003⟩ := Q999
    generalize (oSplit (0 : Int32) P935f qf1 r932 p2 fN1 (fN1 + (oseq qa qq1).length) (oS0 (4 : Int32) 4)) = u1 at A1003 S1 N1
    obtain ⟨k1, cnt1, -⟩ := S1
    have cnt1 : u1.cnt = 2 := cnt1
    show Go p e below _ _ _ _ T994 (mkF m 162 #[.val (.int p0), .val (.int p1), .val (.int p2), .val (.int p3), .val (.int p4), .val (.int qa), .val (.int qq1), .val (.int qf1), .val (.int (0 : Int32)), .val (.int ((15 : Int32) &&& (qa ^^^ (-1 : Int32)))), .val (.int (qb &&& ((15 : Int32) &&& (qa ^^^ (-1 : Int32))))), .val (.int qq2), .val (.int qf2), .val (.ref a891), .val (.ref a898), .val (.int r932), .val (.int r944), .val (.ref a951), .unset, .unset, .unset, .unset, .unset] [(.int (oS0 (4 : Int32) 4).cnt)])
    refine gistore B X997 at_162 (Ls' := #[.val (.int p0), .val (.int p1), .val (.int p2), .val (.int p3), .val (.int p4), .val (.int qa), .val (.int qq1), .val (.int qf1), .val (.int (0 : Int32)), .val (.int ((15 : Int32) &&& (qa ^^^ (-1 : Int32)))), .val (.int (qb &&& ((15 : Int32) &&& (qa ^^^ (-1 : Int32))))), .val (.int qq2), .val (.int qf2), .val (.ref a891), .val (.ref a898), .val (.int r932), .val (.int r944), .val (.ref a951), .val (.int (oS0 (4 : Int32) 4).cnt), .unset, .unset, .unset, .unset]) rfl (pc' := 164) rfl ?_
    refine gaload B X997 at_164 rfl rfl (pc' := 166) rfl ?_
    refine giload B X997 at_166 rfl (pc' := 168) rfl ?_
    refine gaload B X997 at_168 rfl rfl (pc' := 170) rfl ?_
    refine giload B X997 at_170 rfl (pc' := 172) rfl ?_
    refine giload B X997 at_172 rfl (pc' := 174) rfl ?_
    refine giloadN B X997 at_174 rfl (pc' := 175) rfl ?_
    have AL := own_all0 gA g1 gB g2
    rw [← xgA, ← xg1, ← xgB, ← xg2] at AL
    unfold oal0 at AL
    rw [← N1.1] at AL
    obtain ⟨AC, AL⟩ := AL
    have sl2 := own_seqLen (qb &&& ((15 : Int32) &&& (qa ^^^ (-1 : Int32)))) qq2
    have hx2 := own_hxs (fN := fN2) rfl P947.2.2 (own_seqR ⟨_, xg2⟩)
    have can2 : Can 4 (0 : Int32) ((fN2 + (oseq (qb &&& ((15 : Int32) &&& (qa ^^^ (-1 : Int32)))) qq2).length) - fN2) u1 := ⟨by rw [Nat.add_sub_cancel_left]; exact AC.1, AC.2⟩
    have c2 : inR 4 (0 : Int32) := own_lit (a := 0) rfl (by decide)
    have d2 : inR 4 u1.cnt := by rw [cnt1]; exact own_lit (a := 2) rfl (by decide)
    have S2 := own_split (rd := p3) (by decide) k1 c2 can2 hx2 d2 hf2 hr945 (Nat.le_add_right ..) (ci := 0) (cc := 2) rfl (by rw [cnt1]; rfl) (by decide)
    have N2 := own_sp (cl := (0 : Int32)) (rd := p3) (u := u1) hf2 hr945 rfl (by omega) P947.2.2
    have hf_175 : ∀ x ∈ [a951, aE970, aL971, aK972, aS973, aN974, aP975, aR976], x ≠ a898 := (allS (Ne.symm n959) (allS (Ne.symm n981) (allS (Ne.symm n983) (allS (Ne.symm n985) (allS (Ne.symm n987) (allS (Ne.symm n989) (allS (Ne.symm n991) (allS (Ne.symm n993) all0))))))))
    have A_175 : PA Z h995 a951 aE970 aL971 aK972 aS973 aN974 aP975 aR976 u1 := ⟨A1003.1, A1003.2.1, A1003.2.2.1, A1003.2.2.2.1, A1003.2.2.2.2.1, A1003.2.2.2.2.2.1, A1003.2.2.2.2.2.2.1, A1003.2.2.2.2.2.2.2.1, A1003.2.2.2.2.2.2.2.2⟩
    refine gcallV B X997 A1003.1.1 (hw _ (List.mem_of_getElem? (i := 40) rfl)) (hw _ (List.mem_of_getElem? (i := 41) rfl)) (hw _ (List.mem_of_getElem? (i := 43) rfl)) (hw _ (List.mem_of_getElem? (i := 42) rfl)) (hw _ (List.mem_of_getElem? (i := 13) rfl)) (hw _ (List.mem_of_getElem? (i := 44) rfl)) rfl (by decide) (mt7 l Z a0 hw a951 (0 : Int32) a898 qf2 r944 p3 aE970 aL971 aK972 aS973 aN974 aP975 aR976 u1 P947f 4 4 fN2 (fN2 + (oseq (qb &&& ((15 : Int32) &&& (qa ^^^ (-1 : Int32)))) qq2).length) h995 A_175 F1001 ND977 hf_175 k1 can2 hx2 c2 hf2 hr945 (Nat.le_add_right ..) (by rw [P947.1]; omega) d2) pd__I_IIII_I rfl (argsL := [(.int (0 : Int32)), (.ref a898), (.int qf2), (.int r944), (.int p3)]) (st := []) rfl rfl (W := 0) (Nat.le_of_eq rfl) (by decide) (by decide) (by decide) (by decide) (allS (Or.inr z_a951) (allS (Or.inr z_aE970) (allS (Or.inr z_aL971) (allS (Or.inr z_aK972) (allS (Or.inr z_aS973) (allS (Or.inr z_aN974) (allS (Or.inr z_aP975) (allS (Or.inr z_aR976) all0)))))))) at_175 (pc' := 178) rfl fun T1005 h1006 v1007 X1008 K1009 Q1010 => ?_
    have F1011 := F1000.keep K1009 (ninS n958 (ninS n980 (ninS n982 (ninS n984 (ninS n986 (ninS n988 (ninS n990 (ninS n992 nin0))))))))
    have F1012 := F1001.keep K1009 (ninS n959 (ninS n981 (ninS n983 (ninS n985 (ninS n987 (ninS n989 (ninS n991 (ninS n993 nin0))))))))
    have E1013 := A1003.2.2.2.2.2.2.2.2.keep K1009
    obtain ⟨rfl, A1014⟩ := Q1010
    generalize (oSplit (0 : Int32) P947f qf2 r944 p3 fN2 (fN2 + (oseq (qb &&& ((15 : Int32) &&& (qa ^^^ (-1 : Int32)))) qq2).length) u1) = u2 at A1014 S2 N2
    obtain ⟨k2, cnt2, -⟩ := S2
    rw [← N2.1] at AL
    have R2 : u2.rs = ((oS0 (4 : Int32) 4).rs.set 1 p2).set 2 p3 := by rw [N2.2, N1.2, cnt1]; rfl
    obtain ⟨b1, b2, b3, b4, b5, b6, m0, m1, m2⟩ := AL
    show Go p e below _ _ _ _ T1005 (mkF m 178 #[.val (.int p0), .val (.int p1), .val (.int p2), .val (.int p3), .val (.int p4), .val (.int qa), .val (.int qq1), .val (.int qf1), .val (.int (0 : Int32)), .val (.int ((15 : Int32) &&& (qa ^^^ (-1 : Int32)))), .val (.int (qb &&& ((15 : Int32) &&& (qa ^^^ (-1 : Int32))))), .val (.int qq2), .val (.int qf2), .val (.ref a891), .val (.ref a898), .val (.int r932), .val (.int r944), .val (.ref a951), .val (.int (oS0 (4 : Int32) 4).cnt), .unset, .unset, .unset, .unset] [(.int u1.cnt)])
    refine gistore B X1008 at_178 (Ls' := #[.val (.int p0), .val (.int p1), .val (.int p2), .val (.int p3), .val (.int p4), .val (.int qa), .val (.int qq1), .val (.int qf1), .val (.int (0 : Int32)), .val (.int ((15 : Int32) &&& (qa ^^^ (-1 : Int32)))), .val (.int (qb &&& ((15 : Int32) &&& (qa ^^^ (-1 : Int32))))), .val (.int qq2), .val (.int qf2), .val (.ref a891), .val (.ref a898), .val (.int r932), .val (.int r944), .val (.ref a951), .val (.int (oS0 (4 : Int32) 4).cnt), .val (.int u1.cnt), .unset, .unset, .unset]) rfl (pc' := 180) rfl ?_
    refine giload B X1008 at_180 rfl (pc' := 182) rfl ?_
    refine giconst B X1008 at_182 (v := (1 : Int32)) rfl (pc' := 183) rfl ?_
    have c183_1016 : (oS0 (4 : Int32) 4).cnt = (1 : Int32) := rfl
    refine gicN B X1008 at_183 (teq c183_1016).2 (pc' := 186) rfl ?_
    refine giload B X1008 at_186 rfl (pc' := 188) rfl ?_
    refine giconst B X1008 at_188 (v := (2 : Int32)) rfl (pc' := 189) rfl ?_
    have c189_1017 : u1.cnt = (2 : Int32) := cnt1
    refine gicY B X1008 (pc' := 194) at_189 (teq c189_1017).1 (by decide) ?_
    refine gaload B X1008 at_194 rfl rfl (pc' := 196) rfl ?_
    refine giconst B X1008 at_196 (v := (1 : Int32)) rfl (pc' := 197) rfl ?_
    refine gcallV B X1008 A1014.1.1 (hw _ (List.mem_of_getElem? (i := 45) rfl)) (hw _ (List.mem_of_getElem? (i := 46) rfl)) (hw _ (List.mem_of_getElem? (i := 48) rfl)) (hw _ (List.mem_of_getElem? (i := 47) rfl)) (hw _ (List.mem_of_getElem? (i := 13) rfl)) (hw _ (List.mem_of_getElem? (i := 49) rfl)) rfl (by decide) (mt_parent l Z a0 hw a951 (1 : Int32) aE970 aL971 aK972 aS973 aN974 aP975 aR976 u2 4 4 h1006 ⟨A1014.1, A1014.2.1, A1014.2.2.1, A1014.2.2.2.1, A1014.2.2.2.2.1, A1014.2.2.2.2.2.1, A1014.2.2.2.2.2.2.1, A1014.2.2.2.2.2.2.2.1, A1014.2.2.2.2.2.2.2.2⟩ k2 (own_lit (a := 1) rfl (by decide))) pd__I_I rfl (argsL := [(.int (1 : Int32))]) (st := []) rfl rfl (W := 0) (Nat.le_of_eq rfl) (by decide) (by decide) (by decide) (by decide) (fun x q => nomatch q) at_197 (pc' := 200) rfl (pureG rfl rfl fun T1018 X1019 => ?_)
    have c200_1020 : (u2.ps.getD (1 : Int32).toNatClampNeg 0) = (0 : Int32) := b1
    refine gifN B X1019 at_200 ((if0 _ _).trans (teq c200_1020).2) (pc' := 203) rfl ?_
    refine gaload B X1019 at_203 rfl rfl (pc' := 205) rfl ?_
    refine giconst B X1019 at_205 (v := (1 : Int32)) rfl (pc' := 206) rfl ?_
    refine gcallV B X1019 A1014.1.1 (hw _ (List.mem_of_getElem? (i := 50) rfl)) (hw _ (List.mem_of_getElem? (i := 51) rfl)) (hw _ (List.mem_of_getElem? (i := 53) rfl)) (hw _ (List.mem_of_getElem? (i := 52) rfl)) (hw _ (List.mem_of_getElem? (i := 13) rfl)) (hw _ (List.mem_of_getElem? (i := 54) rfl)) rfl (by decide) (mt_round l Z a0 hw a951 (1 : Int32) aE970 aL971 aK972 aS973 aN974 aP975 aR976 u2 4 4 h1006 ⟨A1014.1, A1014.2.1, A1014.2.2.1, A1014.2.2.2.1, A1014.2.2.2.2.1, A1014.2.2.2.2.2.1, A1014.2.2.2.2.2.2.1, A1014.2.2.2.2.2.2.2.1, A1014.2.2.2.2.2.2.2.2⟩ k2 (own_lit (a := 1) rfl (by decide))) pd__I_I rfl (argsL := [(.int (1 : Int32))]) (st := []) rfl rfl (W := 0) (Nat.le_of_eq rfl) (by decide) (by decide) (by decide) (by decide) (fun x q => nomatch q) at_206 (pc' := 209) rfl (pureG rfl rfl fun T1021 X1022 => ?_)
    refine giloadN B X1022 at_209 rfl (pc' := 210) rfl ?_
    have c210_1023 : (u2.rs.getD (1 : Int32).toNatClampNeg 0) = p2 := by rw [R2]; rfl
    refine gicY B X1022 (pc' := 215) at_210 (teq c210_1023).1 (by decide) ?_
    refine gaload B X1022 at_215 rfl rfl (pc' := 217) rfl ?_
    refine giconst B X1022 at_217 (v := (2 : Int32)) rfl (pc' := 218) rfl ?_
    refine gcallV B X1022 A1014.1.1 (hw _ (List.mem_of_getElem? (i := 45) rfl)) (hw _ (List.mem_of_getElem? (i := 46) rfl)) (hw _ (List.mem_of_getElem? (i := 48) rfl)) (hw _ (List.mem_of_getElem? (i := 47) rfl)) (hw _ (List.mem_of_getElem? (i := 13) rfl)) (hw _ (List.mem_of_getElem? (i := 49) rfl)) rfl (by decide) (mt_parent l Z a0 hw a951 (2 : Int32) aE970 aL971 aK972 aS973 aN974 aP975 aR976 u2 4 4 h1006 ⟨A1014.1, A1014.2.1, A1014.2.2.1, A1014.2.2.2.1, A1014.2.2.2.2.1, A1014.2.2.2.2.2.1, A1014.2.2.2.2.2.2.1, A1014.2.2.2.2.2.2.2.1, A1014.2.2.2.2.2.2.2.2⟩ k2 (own_lit (a := 2) rfl (by decide))) pd__I_I rfl (argsL := [(.int (2 : Int32))]) (st := []) rfl rfl (W := 0) (Nat.le_of_eq rfl) (by decide) (by decide) (by decide) (by decide) (fun x q => nomatch q) at_218 (pc' := 221) rfl (pureG rfl rfl fun T1024 X1025 => ?_)
    refine giload B X1025 at_221 rfl (pc' := 223) rfl ?_
    have c223_1026 : (u2.ps.getD (2 : Int32).toNatClampNeg 0) = (0 : Int32) := b2
    refine gicN B X1025 at_223 (teq c223_1026).2 (pc' := 226) rfl ?_
    refine gaload B X1025 at_226 rfl rfl (pc' := 228) rfl ?_
    refine giconst B X1025 at_228 (v := (2 : Int32)) rfl (pc' := 229) rfl ?_
    refine gcallV B X1025 A1014.1.1 (hw _ (List.mem_of_getElem? (i := 50) rfl)) (hw _ (List.mem_of_getElem? (i := 51) rfl)) (hw _ (List.mem_of_getElem? (i := 53) rfl)) (hw _ (List.mem_of_getElem? (i := 52) rfl)) (hw _ (List.mem_of_getElem? (i := 13) rfl)) (hw _ (List.mem_of_getElem? (i := 54) rfl)) rfl (by decide) (mt_round l Z a0 hw a951 (2 : Int32) aE970 aL971 aK972 aS973 aN974 aP975 aR976 u2 4 4 h1006 ⟨A1014.1, A1014.2.1, A1014.2.2.1, A1014.2.2.2.1, A1014.2.2.2.2.1, A1014.2.2.2.2.2.1, A1014.2.2.2.2.2.2.1, A1014.2.2.2.2.2.2.2.1, A1014.2.2.2.2.2.2.2.2⟩ k2 (own_lit (a := 2) rfl (by decide))) pd__I_I rfl (argsL := [(.int (2 : Int32))]) (st := []) rfl rfl (W := 0) (Nat.le_of_eq rfl) (by decide) (by decide) (by decide) (by decide) (fun x q => nomatch q) at_229 (pc' := 232) rfl (pureG rfl rfl fun T1027 X1028 => ?_)
    refine giloadN B X1028 at_232 rfl (pc' := 233) rfl ?_
    have c233_1029 : (u2.rs.getD (2 : Int32).toNatClampNeg 0) = p3 := by rw [R2]; rfl
    refine gicY B X1028 (pc' := 238) at_233 (teq c233_1029).1 (by decide) ?_
    refine gaload B X1028 at_238 rfl rfl (pc' := 240) rfl ?_
    refine giconst B X1028 at_240 (v := (0 : Int32)) rfl (pc' := 241) rfl ?_
    refine gcallV B X1028 A1014.1.1 (hw _ (List.mem_of_getElem? (i := 55) rfl)) (hw _ (List.mem_of_getElem? (i := 56) rfl)) (hw _ (List.mem_of_getElem? (i := 58) rfl)) (hw _ (List.mem_of_getElem? (i := 57) rfl)) (hw _ (List.mem_of_getElem? (i := 13) rfl)) (hw _ (List.mem_of_getElem? (i := 59) rfl)) rfl (by decide) (mt_classOf l Z a0 hw a951 (0 : Int32) aE970 aL971 aK972 aS973 aN974 aP975 aR976 u2 4 4 h1006 ⟨A1014.1, A1014.2.1, A1014.2.2.1, A1014.2.2.2.1, A1014.2.2.2.2.1, A1014.2.2.2.2.2.1, A1014.2.2.2.2.2.2.1, A1014.2.2.2.2.2.2.2.1, A1014.2.2.2.2.2.2.2.2⟩ k2 (own_lit (a := 0) rfl (by decide))) pd__I_I rfl (argsL := [(.int (0 : Int32))]) (st := []) rfl rfl (W := 0) (Nat.le_of_eq rfl) (by decide) (by decide) (by decide) (by decide) (fun x q => nomatch q) at_241 (pc' := 244) rfl (pureG rfl rfl fun T1030 X1031 => ?_)
    refine giconst B X1031 at_244 (v := (0 : Int32)) rfl (pc' := 245) rfl ?_
    refine giload B X1031 at_245 rfl (pc' := 247) rfl ?_
    refine giload B X1031 at_247 rfl (pc' := 249) rfl ?_
    refine gcallS B X1031 (hw _ (List.mem_of_getElem? (i := 60) rfl)) (hw _ (List.mem_of_getElem? (i := 61) rfl)) (hw _ (List.mem_of_getElem? (i := 3) rfl)) (hw _ (List.mem_of_getElem? (i := 62) rfl)) (by decide) (mtexp l Z a0 hw (0 : Int32) qa (qb &&& ((15 : Int32) &&& (qa ^^^ (-1 : Int32))))  h1006 ) pd__III_I rfl (argsL := [(.int (0 : Int32)), (.int qa), (.int (qb &&& ((15 : Int32) &&& (qa ^^^ (-1 : Int32)))))]) (st := [(.int (u2.cs.getD (0 : Int32).toNatClampNeg 0))]) rfl rfl (W := 1) (Nat.le_of_eq rfl) (by decide) (by decide) (by decide) (by decide) (fun x q => nomatch q) at_249 (pc' := 252) rfl (pureG rfl rfl fun T1032 X1033 => ?_)
    have c252_1034 : (u2.cs.getD (0 : Int32).toNatClampNeg 0) = (oexp (0 : Int32) qa (qb &&& ((15 : Int32) &&& (qa ^^^ (-1 : Int32))))) := b3
    refine gicY B X1033 (pc' := 257) at_252 (teq c252_1034).1 (by decide) ?_
    refine gaload B X1033 at_257 rfl rfl (pc' := 259) rfl ?_
    refine giconst B X1033 at_259 (v := (1 : Int32)) rfl (pc' := 260) rfl ?_
    refine gcallV B X1033 A1014.1.1 (hw _ (List.mem_of_getElem? (i := 55) rfl)) (hw _ (List.mem_of_getElem? (i := 56) rfl)) (hw _ (List.mem_of_getElem? (i := 58) rfl)) (hw _ (List.mem_of_getElem? (i := 57) rfl)) (hw _ (List.mem_of_getElem? (i := 13) rfl)) (hw _ (List.mem_of_getElem? (i := 59) rfl)) rfl (by decide) (mt_classOf l Z a0 hw a951 (1 : Int32) aE970 aL971 aK972 aS973 aN974 aP975 aR976 u2 4 4 h1006 ⟨A1014.1, A1014.2.1, A1014.2.2.1, A1014.2.2.2.1, A1014.2.2.2.2.1, A1014.2.2.2.2.2.1, A1014.2.2.2.2.2.2.1, A1014.2.2.2.2.2.2.2.1, A1014.2.2.2.2.2.2.2.2⟩ k2 (own_lit (a := 1) rfl (by decide))) pd__I_I rfl (argsL := [(.int (1 : Int32))]) (st := []) rfl rfl (W := 0) (Nat.le_of_eq rfl) (by decide) (by decide) (by decide) (by decide) (fun x q => nomatch q) at_260 (pc' := 263) rfl (pureG rfl rfl fun T1035 X1036 => ?_)
    refine giconst B X1036 at_263 (v := (1 : Int32)) rfl (pc' := 264) rfl ?_
    refine giload B X1036 at_264 rfl (pc' := 266) rfl ?_
    refine giload B X1036 at_266 rfl (pc' := 268) rfl ?_
    refine gcallS B X1036 (hw _ (List.mem_of_getElem? (i := 60) rfl)) (hw _ (List.mem_of_getElem? (i := 61) rfl)) (hw _ (List.mem_of_getElem? (i := 3) rfl)) (hw _ (List.mem_of_getElem? (i := 62) rfl)) (by decide) (mtexp l Z a0 hw (1 : Int32) qa (qb &&& ((15 : Int32) &&& (qa ^^^ (-1 : Int32))))  h1006 ) pd__III_I rfl (argsL := [(.int (1 : Int32)), (.int qa), (.int (qb &&& ((15 : Int32) &&& (qa ^^^ (-1 : Int32)))))]) (st := [(.int (u2.cs.getD (1 : Int32).toNatClampNeg 0))]) rfl rfl (W := 1) (Nat.le_of_eq rfl) (by decide) (by decide) (by decide) (by decide) (fun x q => nomatch q) at_268 (pc' := 271) rfl (pureG rfl rfl fun T1037 X1038 => ?_)
    have c271_1039 : (u2.cs.getD (1 : Int32).toNatClampNeg 0) = (oexp (1 : Int32) qa (qb &&& ((15 : Int32) &&& (qa ^^^ (-1 : Int32))))) := b4
    refine gicY B X1038 (pc' := 276) at_271 (teq c271_1039).1 (by decide) ?_
    refine gaload B X1038 at_276 rfl rfl (pc' := 278) rfl ?_
    refine giconst B X1038 at_278 (v := (2 : Int32)) rfl (pc' := 279) rfl ?_
    refine gcallV B X1038 A1014.1.1 (hw _ (List.mem_of_getElem? (i := 55) rfl)) (hw _ (List.mem_of_getElem? (i := 56) rfl)) (hw _ (List.mem_of_getElem? (i := 58) rfl)) (hw _ (List.mem_of_getElem? (i := 57) rfl)) (hw _ (List.mem_of_getElem? (i := 13) rfl)) (hw _ (List.mem_of_getElem? (i := 59) rfl)) rfl (by decide) (mt_classOf l Z a0 hw a951 (2 : Int32) aE970 aL971 aK972 aS973 aN974 aP975 aR976 u2 4 4 h1006 ⟨A1014.1, A1014.2.1, A1014.2.2.1, A1014.2.2.2.1, A1014.2.2.2.2.1, A1014.2.2.2.2.2.1, A1014.2.2.2.2.2.2.1, A1014.2.2.2.2.2.2.2.1, A1014.2.2.2.2.2.2.2.2⟩ k2 (own_lit (a := 2) rfl (by decide))) pd__I_I rfl (argsL := [(.int (2 : Int32))]) (st := []) rfl rfl (W := 0) (Nat.le_of_eq rfl) (by decide) (by decide) (by decide) (by decide) (fun x q => nomatch q) at_279 (pc' := 282) rfl (pureG rfl rfl fun T1040 X1041 => ?_)
    refine giconst B X1041 at_282 (v := (2 : Int32)) rfl (pc' := 283) rfl ?_
    refine giload B X1041 at_283 rfl (pc' := 285) rfl ?_
    refine giload B X1041 at_285 rfl (pc' := 287) rfl ?_
    refine gcallS B X1041 (hw _ (List.mem_of_getElem? (i := 60) rfl)) (hw _ (List.mem_of_getElem? (i := 61) rfl)) (hw _ (List.mem_of_getElem? (i := 3) rfl)) (hw _ (List.mem_of_getElem? (i := 62) rfl)) (by decide) (mtexp l Z a0 hw (2 : Int32) qa (qb &&& ((15 : Int32) &&& (qa ^^^ (-1 : Int32))))  h1006 ) pd__III_I rfl (argsL := [(.int (2 : Int32)), (.int qa), (.int (qb &&& ((15 : Int32) &&& (qa ^^^ (-1 : Int32)))))]) (st := [(.int (u2.cs.getD (2 : Int32).toNatClampNeg 0))]) rfl rfl (W := 1) (Nat.le_of_eq rfl) (by decide) (by decide) (by decide) (by decide) (fun x q => nomatch q) at_287 (pc' := 290) rfl (pureG rfl rfl fun T1042 X1043 => ?_)
    have c290_1044 : (u2.cs.getD (2 : Int32).toNatClampNeg 0) = (oexp (2 : Int32) qa (qb &&& ((15 : Int32) &&& (qa ^^^ (-1 : Int32))))) := b5
    refine gicY B X1043 (pc' := 295) at_290 (teq c290_1044).1 (by decide) ?_
    refine gaload B X1043 at_295 rfl rfl (pc' := 297) rfl ?_
    refine giconst B X1043 at_297 (v := (3 : Int32)) rfl (pc' := 298) rfl ?_
    refine gcallV B X1043 A1014.1.1 (hw _ (List.mem_of_getElem? (i := 55) rfl)) (hw _ (List.mem_of_getElem? (i := 56) rfl)) (hw _ (List.mem_of_getElem? (i := 58) rfl)) (hw _ (List.mem_of_getElem? (i := 57) rfl)) (hw _ (List.mem_of_getElem? (i := 13) rfl)) (hw _ (List.mem_of_getElem? (i := 59) rfl)) rfl (by decide) (mt_classOf l Z a0 hw a951 (3 : Int32) aE970 aL971 aK972 aS973 aN974 aP975 aR976 u2 4 4 h1006 ⟨A1014.1, A1014.2.1, A1014.2.2.1, A1014.2.2.2.1, A1014.2.2.2.2.1, A1014.2.2.2.2.2.1, A1014.2.2.2.2.2.2.1, A1014.2.2.2.2.2.2.2.1, A1014.2.2.2.2.2.2.2.2⟩ k2 (own_lit (a := 3) rfl (by decide))) pd__I_I rfl (argsL := [(.int (3 : Int32))]) (st := []) rfl rfl (W := 0) (Nat.le_of_eq rfl) (by decide) (by decide) (by decide) (by decide) (fun x q => nomatch q) at_298 (pc' := 301) rfl (pureG rfl rfl fun T1045 X1046 => ?_)
    refine giconst B X1046 at_301 (v := (3 : Int32)) rfl (pc' := 302) rfl ?_
    refine giload B X1046 at_302 rfl (pc' := 304) rfl ?_
    refine giload B X1046 at_304 rfl (pc' := 306) rfl ?_
    refine gcallS B X1046 (hw _ (List.mem_of_getElem? (i := 60) rfl)) (hw _ (List.mem_of_getElem? (i := 61) rfl)) (hw _ (List.mem_of_getElem? (i := 3) rfl)) (hw _ (List.mem_of_getElem? (i := 62) rfl)) (by decide) (mtexp l Z a0 hw (3 : Int32) qa (qb &&& ((15 : Int32) &&& (qa ^^^ (-1 : Int32))))  h1006 ) pd__III_I rfl (argsL := [(.int (3 : Int32)), (.int qa), (.int (qb &&& ((15 : Int32) &&& (qa ^^^ (-1 : Int32)))))]) (st := [(.int (u2.cs.getD (3 : Int32).toNatClampNeg 0))]) rfl rfl (W := 1) (Nat.le_of_eq rfl) (by decide) (by decide) (by decide) (by decide) (fun x q => nomatch q) at_306 (pc' := 309) rfl (pureG rfl rfl fun T1047 X1048 => ?_)
    have c309_1049 : (u2.cs.getD (3 : Int32).toNatClampNeg 0) = (oexp (3 : Int32) qa (qb &&& ((15 : Int32) &&& (qa ^^^ (-1 : Int32))))) := b6
    refine gicY B X1048 (pc' := 314) at_309 (teq c309_1049).1 (by decide) ?_
    refine gbipush B X1048 at_314 (v := (15 : Int32)) rfl (pc' := 316) rfl ?_
    refine giload B X1048 at_316 rfl (pc' := 318) rfl ?_
    refine giconst B X1048 at_318 (v := (-1 : Int32)) rfl (pc' := 319) rfl ?_
    refine gixor B X1048 at_319 rfl (pc' := 320) rfl ?_
    refine giand B X1048 at_320 rfl (pc' := 321) rfl ?_
    refine giload B X1048 at_321 rfl (pc' := 323) rfl ?_
    refine giconst B X1048 at_323 (v := (-1 : Int32)) rfl (pc' := 324) rfl ?_
    refine gixor B X1048 at_324 rfl (pc' := 325) rfl ?_
    refine giand B X1048 at_325 rfl (pc' := 326) rfl ?_
    refine gistore B X1048 at_326 (Ls' := #[.val (.int p0), .val (.int p1), .val (.int p2), .val (.int p3), .val (.int p4), .val (.int qa), .val (.int qq1), .val (.int qf1), .val (.int (0 : Int32)), .val (.int ((15 : Int32) &&& (qa ^^^ (-1 : Int32)))), .val (.int (qb &&& ((15 : Int32) &&& (qa ^^^ (-1 : Int32))))), .val (.int qq2), .val (.int qf2), .val (.ref a891), .val (.ref a898), .val (.int r932), .val (.int r944), .val (.ref a951), .val (.int (oS0 (4 : Int32) 4).cnt), .val (.int u1.cnt), .val (.int (((15 : Int32) &&& (qa ^^^ (-1 : Int32))) &&& ((qb &&& ((15 : Int32) &&& (qa ^^^ (-1 : Int32)))) ^^^ (-1 : Int32)))), .unset, .unset]) rfl (pc' := 328) rfl ?_
    refine giload B X1048 at_328 rfl (pc' := 330) rfl ?_
    refine giload B X1048 at_330 rfl (pc' := 332) rfl ?_
    refine giconst B X1048 at_332 (v := (-1 : Int32)) rfl (pc' := 333) rfl ?_
    refine gixor B X1048 at_333 rfl (pc' := 334) rfl ?_
    refine giand B X1048 at_334 rfl (pc' := 335) rfl ?_
    refine gistore B X1048 at_335 (Ls' := #[.val (.int p0), .val (.int p1), .val (.int p2), .val (.int p3), .val (.int p4), .val (.int qa), .val (.int qq1), .val (.int qf1), .val (.int (0 : Int32)), .val (.int ((15 : Int32) &&& (qa ^^^ (-1 : Int32)))), .val (.int (qb &&& ((15 : Int32) &&& (qa ^^^ (-1 : Int32))))), .val (.int qq2), .val (.int qf2), .val (.ref a891), .val (.ref a898), .val (.int r932), .val (.int r944), .val (.ref a951), .val (.int (oS0 (4 : Int32) 4).cnt), .val (.int u1.cnt), .val (.int (((15 : Int32) &&& (qa ^^^ (-1 : Int32))) &&& ((qb &&& ((15 : Int32) &&& (qa ^^^ (-1 : Int32)))) ^^^ (-1 : Int32)))), .val (.int (qa &&& ((qb &&& ((15 : Int32) &&& (qa ^^^ (-1 : Int32)))) ^^^ (-1 : Int32)))), .unset]) rfl (pc' := 337) rfl ?_
    refine giload B X1048 at_337 rfl (pc' := 339) rfl ?_
    refine gistore B X1048 at_339 (Ls' := #[.val (.int p0), .val (.int p1), .val (.int p2), .val (.int p3), .val (.int p4), .val (.int qa), .val (.int qq1), .val (.int qf1), .val (.int (0 : Int32)), .val (.int ((15 : Int32) &&& (qa ^^^ (-1 : Int32)))), .val (.int (qb &&& ((15 : Int32) &&& (qa ^^^ (-1 : Int32))))), .val (.int qq2), .val (.int qf2), .val (.ref a891), .val (.ref a898), .val (.int r932), .val (.int r944), .val (.ref a951), .val (.int (oS0 (4 : Int32) 4).cnt), .val (.int u1.cnt), .val (.int (((15 : Int32) &&& (qa ^^^ (-1 : Int32))) &&& ((qb &&& ((15 : Int32) &&& (qa ^^^ (-1 : Int32)))) ^^^ (-1 : Int32)))), .val (.int (qa &&& ((qb &&& ((15 : Int32) &&& (qa ^^^ (-1 : Int32)))) ^^^ (-1 : Int32)))), .val (.int (qb &&& ((15 : Int32) &&& (qa ^^^ (-1 : Int32)))))]) rfl (pc' := 341) rfl ?_
    refine gaload B X1048 at_341 rfl rfl (pc' := 343) rfl ?_
    refine giconst B X1048 at_343 (v := (0 : Int32)) rfl (pc' := 344) rfl ?_
    refine gcallV B X1048 A1014.1.1 (hw _ (List.mem_of_getElem? (i := 63) rfl)) (hw _ (List.mem_of_getElem? (i := 64) rfl)) (hw _ (List.mem_of_getElem? (i := 66) rfl)) (hw _ (List.mem_of_getElem? (i := 65) rfl)) (hw _ (List.mem_of_getElem? (i := 13) rfl)) (hw _ (List.mem_of_getElem? (i := 67) rfl)) rfl (by decide) (mt12 l Z a0 hw a951 (0 : Int32) aE970 aL971 aK972 aS973 aN974 aP975 aR976 u2 (u2.ss.getD 0 0).toNatClampNeg (u2.ns.getD 0 0).toNatClampNeg h1006 ⟨A1014.1, A1014.2.1, A1014.2.2.1, A1014.2.2.2.1, A1014.2.2.2.2.1, A1014.2.2.2.2.2.1, A1014.2.2.2.2.2.2.1, A1014.2.2.2.2.2.2.2.1, A1014.2.2.2.2.2.2.2.2⟩ k2 (own_lit (a := 0) rfl (by decide)) (own_cl0 m0.1) (own_cl0 (Int.le_trans m0.1 m0.2.1)) (own_cl4 m0.1 m0.2.1 m0.2.2.1).1 (own_cl4 m0.1 m0.2.1 m0.2.2.1).2) pd__I__I rfl (argsL := [(.int (0 : Int32))]) (st := []) rfl rfl (W := 0) (Nat.le_of_eq rfl) (by decide) (by decide) (by decide) (by decide) (fun x q => nomatch q) at_344 (pc' := 347) rfl fun T1050 h1051 v1052 X1053 K1054 Q1055 => ?_
    have F1056 := F1011.keep K1054 nin0
    have F1057 := F1012.keep K1054 nin0
    have F1058 := A1014.1.keep K1054 nin0
    have E1059 := A1014.2.2.2.2.2.2.2.2.keep K1054
    have F1060 := A1014.2.1.keep K1054 nin0
    have F1061 := A1014.2.2.1.keep K1054 nin0
    have F1062 := A1014.2.2.2.1.keep K1054 nin0
    have F1063 := A1014.2.2.2.2.1.keep K1054 nin0
    have F1064 := A1014.2.2.2.2.2.1.keep K1054 nin0
    have F1065 := A1014.2.2.2.2.2.2.1.keep K1054 nin0
    have F1066 := A1014.2.2.2.2.2.2.2.1.keep K1054 nin0
    obtain ⟨b1067, rfl, y1068, A1069⟩ := Q1055
    have z_b1067 : h0.size ≤ b1067 := Nat.le_trans X1048.kept.1 y1068
    have n1070 : a891 ≠ b1067 := Nat.ne_of_lt (Nat.lt_of_lt_of_le F1011.lt y1068)
    have n1071 : a898 ≠ b1067 := Nat.ne_of_lt (Nat.lt_of_lt_of_le F1012.lt y1068)
    have n1072 : a951 ≠ b1067 := Nat.ne_of_lt (Nat.lt_of_lt_of_le A1014.1.lt y1068)
    have n1073 : aE970 ≠ b1067 := Nat.ne_of_lt (Nat.lt_of_lt_of_le A1014.2.1.lt y1068)
    have n1074 : aL971 ≠ b1067 := Nat.ne_of_lt (Nat.lt_of_lt_of_le A1014.2.2.1.lt y1068)
    have n1075 : aK972 ≠ b1067 := Nat.ne_of_lt (Nat.lt_of_lt_of_le A1014.2.2.2.1.lt y1068)
    have n1076 : aS973 ≠ b1067 := Nat.ne_of_lt (Nat.lt_of_lt_of_le A1014.2.2.2.2.1.lt y1068)
    have n1077 : aN974 ≠ b1067 := Nat.ne_of_lt (Nat.lt_of_lt_of_le A1014.2.2.2.2.2.1.lt y1068)
    have n1078 : aP975 ≠ b1067 := Nat.ne_of_lt (Nat.lt_of_lt_of_le A1014.2.2.2.2.2.2.1.lt y1068)
    have n1079 : aR976 ≠ b1067 := Nat.ne_of_lt (Nat.lt_of_lt_of_le A1014.2.2.2.2.2.2.2.1.lt y1068)
    show Go p e below _ _ _ _ T1050 (mkF m 347 #[.val (.int p0), .val (.int p1), .val (.int p2), .val (.int p3), .val (.int p4), .val (.int qa), .val (.int qq1), .val (.int qf1), .val (.int (0 : Int32)), .val (.int ((15 : Int32) &&& (qa ^^^ (-1 : Int32)))), .val (.int (qb &&& ((15 : Int32) &&& (qa ^^^ (-1 : Int32))))), .val (.int qq2), .val (.int qf2), .val (.ref a891), .val (.ref a898), .val (.int r932), .val (.int r944), .val (.ref a951), .val (.int (oS0 (4 : Int32) 4).cnt), .val (.int u1.cnt), .val (.int (((15 : Int32) &&& (qa ^^^ (-1 : Int32))) &&& ((qb &&& ((15 : Int32) &&& (qa ^^^ (-1 : Int32)))) ^^^ (-1 : Int32)))), .val (.int (qa &&& ((qb &&& ((15 : Int32) &&& (qa ^^^ (-1 : Int32)))) ^^^ (-1 : Int32)))), .val (.int (qb &&& ((15 : Int32) &&& (qa ^^^ (-1 : Int32)))))] [(.ref b1067)])
    refine giload B X1053 at_347 rfl (pc' := 349) rfl ?_
    have ml0 := own_subL u2.es (u2.ss.getD 0 0).toNatClampNeg (u2.ns.getD 0 0).toNatClampNeg (own_cl4 m0.1 m0.2.1 m0.2.2.1).2
    refine gcallS B X1053 (hw _ (List.mem_of_getElem? (i := 85) rfl)) (hw _ (List.mem_of_getElem? (i := 86) rfl)) (hw _ (List.mem_of_getElem? (i := 3) rfl)) (hw _ (List.mem_of_getElem? (i := 87) rfl)) (by decide) (mtsame l Z a0 hw b1067 (((15 : Int32) &&& (qa ^^^ (-1 : Int32))) &&& ((qb &&& ((15 : Int32) &&& (qa ^^^ (-1 : Int32)))) ^^^ (-1 : Int32))) ((osub u2.es (u2.ss.getD 0 0).toNatClampNeg (u2.ns.getD 0 0).toNatClampNeg).map Value.int) (osub u2.es (u2.ss.getD 0 0).toNatClampNeg (u2.ns.getD 0 0).toNatClampNeg).length (Int32.ofNat (osub u2.es (u2.ss.getD 0 0).toNatClampNeg (u2.ns.getD 0 0).toNatClampNeg).length) ((osub u2.es (u2.ss.getD 0 0).toNatClampNeg (u2.ns.getD 0 0).toNatClampNeg).getD 0 0) ((osub u2.es (u2.ss.getD 0 0).toNatClampNeg (u2.ns.getD 0 0).toNatClampNeg).getD 1 0) ((osub u2.es (u2.ss.getD 0 0).toNatClampNeg (u2.ns.getD 0 0).toNatClampNeg).getD 2 0) ((osub u2.es (u2.ss.getD 0 0).toNatClampNeg (u2.ns.getD 0 0).toNatClampNeg).getD 3 0) h1051 A1069 (List.length_map ..) (own_ofl ml0) (own_n4 ml0) (own_vi ml0 0 rfl) (own_vi ml0 1 rfl) (own_vi ml0 2 rfl) (own_vi ml0 3 rfl)) pd___II_Z rfl (argsL := [(.ref b1067), (.int (((15 : Int32) &&& (qa ^^^ (-1 : Int32))) &&& ((qb &&& ((15 : Int32) &&& (qa ^^^ (-1 : Int32)))) ^^^ (-1 : Int32))))]) (st := []) rfl rfl (W := 0) (Nat.le_of_eq rfl) (by decide) (by decide) (by decide) (by decide) (fun x q => nomatch q) at_349 (pc' := 352) rfl (pureG rfl rfl fun T1080 X1081 => ?_)
    have c352_1082 : ¬ ((osame (Int32.ofNat (osub u2.es (u2.ss.getD 0 0).toNatClampNeg (u2.ns.getD 0 0).toNatClampNeg).length) ((osub u2.es (u2.ss.getD 0 0).toNatClampNeg (u2.ns.getD 0 0).toNatClampNeg).getD 0 0) ((osub u2.es (u2.ss.getD 0 0).toNatClampNeg (u2.ns.getD 0 0).toNatClampNeg).getD 1 0) ((osub u2.es (u2.ss.getD 0 0).toNatClampNeg (u2.ns.getD 0 0).toNatClampNeg).getD 2 0) ((osub u2.es (u2.ss.getD 0 0).toNatClampNeg (u2.ns.getD 0 0).toNatClampNeg).getD 3 0) (((15 : Int32) &&& (qa ^^^ (-1 : Int32))) &&& ((qb &&& ((15 : Int32) &&& (qa ^^^ (-1 : Int32)))) ^^^ (-1 : Int32)))) = (0 : Int32)) := fun q => absurd (m0.2.2.2.symm.trans q) (by decide)
    refine gifN B X1081 at_352 ((if0 _ _).trans (feq c352_1082).1) (pc' := 355) rfl ?_
    refine gaload B X1081 at_355 rfl rfl (pc' := 357) rfl ?_
    refine giconst B X1081 at_357 (v := (1 : Int32)) rfl (pc' := 358) rfl ?_
    refine gcallV B X1081 F1058.1 (hw _ (List.mem_of_getElem? (i := 63) rfl)) (hw _ (List.mem_of_getElem? (i := 64) rfl)) (hw _ (List.mem_of_getElem? (i := 66) rfl)) (hw _ (List.mem_of_getElem? (i := 65) rfl)) (hw _ (List.mem_of_getElem? (i := 13) rfl)) (hw _ (List.mem_of_getElem? (i := 67) rfl)) rfl (by decide) (mt12 l Z a0 hw a951 (1 : Int32) aE970 aL971 aK972 aS973 aN974 aP975 aR976 u2 (u2.ss.getD 1 0).toNatClampNeg (u2.ns.getD 1 0).toNatClampNeg h1051 ⟨F1058, F1060, F1061, F1062, F1063, F1064, F1065, F1066, E1059⟩ k2 (own_lit (a := 1) rfl (by decide)) (own_cl0 m1.1) (own_cl0 (Int.le_trans m1.1 m1.2.1)) (own_cl4 m1.1 m1.2.1 m1.2.2.1).1 (own_cl4 m1.1 m1.2.1 m1.2.2.1).2) pd__I__I rfl (argsL := [(.int (1 : Int32))]) (st := []) rfl rfl (W := 0) (Nat.le_of_eq rfl) (by decide) (by decide) (by decide) (by decide) (fun x q => nomatch q) at_358 (pc' := 361) rfl fun T1083 h1084 v1085 X1086 K1087 Q1088 => ?_
    have F1089 := F1056.keep K1087 nin0
    have F1090 := F1057.keep K1087 nin0
    have F1091 := F1058.keep K1087 nin0
    have E1092 := E1059.keep K1087
    have F1093 := F1060.keep K1087 nin0
    have F1094 := F1061.keep K1087 nin0
    have F1095 := F1062.keep K1087 nin0
    have F1096 := F1063.keep K1087 nin0
    have F1097 := F1064.keep K1087 nin0
    have F1098 := F1065.keep K1087 nin0
    have F1099 := F1066.keep K1087 nin0
    have F1100 := A1069.keep K1087 nin0
    obtain ⟨b1101, rfl, y1102, A1103⟩ := Q1088
    have z_b1101 : h0.size ≤ b1101 := Nat.le_trans X1081.kept.1 y1102
    have n1104 : a891 ≠ b1101 := Nat.ne_of_lt (Nat.lt_of_lt_of_le F1056.lt y1102)
    have n1105 : a898 ≠ b1101 := Nat.ne_of_lt (Nat.lt_of_lt_of_le F1057.lt y1102)
    have n1106 : a951 ≠ b1101 := Nat.ne_of_lt (Nat.lt_of_lt_of_le F1058.lt y1102)
    have n1107 : aE970 ≠ b1101 := Nat.ne_of_lt (Nat.lt_of_lt_of_le F1060.lt y1102)
    have n1108 : aL971 ≠ b1101 := Nat.ne_of_lt (Nat.lt_of_lt_of_le F1061.lt y1102)
    have n1109 : aK972 ≠ b1101 := Nat.ne_of_lt (Nat.lt_of_lt_of_le F1062.lt y1102)
    have n1110 : aS973 ≠ b1101 := Nat.ne_of_lt (Nat.lt_of_lt_of_le F1063.lt y1102)
    have n1111 : aN974 ≠ b1101 := Nat.ne_of_lt (Nat.lt_of_lt_of_le F1064.lt y1102)
    have n1112 : aP975 ≠ b1101 := Nat.ne_of_lt (Nat.lt_of_lt_of_le F1065.lt y1102)
    have n1113 : aR976 ≠ b1101 := Nat.ne_of_lt (Nat.lt_of_lt_of_le F1066.lt y1102)
    have n1114 : b1067 ≠ b1101 := Nat.ne_of_lt (Nat.lt_of_lt_of_le A1069.lt y1102)
    show Go p e below _ _ _ _ T1083 (mkF m 361 #[.val (.int p0), .val (.int p1), .val (.int p2), .val (.int p3), .val (.int p4), .val (.int qa), .val (.int qq1), .val (.int qf1), .val (.int (0 : Int32)), .val (.int ((15 : Int32) &&& (qa ^^^ (-1 : Int32)))), .val (.int (qb &&& ((15 : Int32) &&& (qa ^^^ (-1 : Int32))))), .val (.int qq2), .val (.int qf2), .val (.ref a891), .val (.ref a898), .val (.int r932), .val (.int r944), .val (.ref a951), .val (.int (oS0 (4 : Int32) 4).cnt), .val (.int u1.cnt), .val (.int (((15 : Int32) &&& (qa ^^^ (-1 : Int32))) &&& ((qb &&& ((15 : Int32) &&& (qa ^^^ (-1 : Int32)))) ^^^ (-1 : Int32)))), .val (.int (qa &&& ((qb &&& ((15 : Int32) &&& (qa ^^^ (-1 : Int32)))) ^^^ (-1 : Int32)))), .val (.int (qb &&& ((15 : Int32) &&& (qa ^^^ (-1 : Int32)))))] [(.ref b1101)])
    refine giload B X1086 at_361 rfl (pc' := 363) rfl ?_
    have ml1 := own_subL u2.es (u2.ss.getD 1 0).toNatClampNeg (u2.ns.getD 1 0).toNatClampNeg (own_cl4 m1.1 m1.2.1 m1.2.2.1).2
    refine gcallS B X1086 (hw _ (List.mem_of_getElem? (i := 85) rfl)) (hw _ (List.mem_of_getElem? (i := 86) rfl)) (hw _ (List.mem_of_getElem? (i := 3) rfl)) (hw _ (List.mem_of_getElem? (i := 87) rfl)) (by decide) (mtsame l Z a0 hw b1101 (qa &&& ((qb &&& ((15 : Int32) &&& (qa ^^^ (-1 : Int32)))) ^^^ (-1 : Int32))) ((osub u2.es (u2.ss.getD 1 0).toNatClampNeg (u2.ns.getD 1 0).toNatClampNeg).map Value.int) (osub u2.es (u2.ss.getD 1 0).toNatClampNeg (u2.ns.getD 1 0).toNatClampNeg).length (Int32.ofNat (osub u2.es (u2.ss.getD 1 0).toNatClampNeg (u2.ns.getD 1 0).toNatClampNeg).length) ((osub u2.es (u2.ss.getD 1 0).toNatClampNeg (u2.ns.getD 1 0).toNatClampNeg).getD 0 0) ((osub u2.es (u2.ss.getD 1 0).toNatClampNeg (u2.ns.getD 1 0).toNatClampNeg).getD 1 0) ((osub u2.es (u2.ss.getD 1 0).toNatClampNeg (u2.ns.getD 1 0).toNatClampNeg).getD 2 0) ((osub u2.es (u2.ss.getD 1 0).toNatClampNeg (u2.ns.getD 1 0).toNatClampNeg).getD 3 0) h1084 A1103 (List.length_map ..) (own_ofl ml1) (own_n4 ml1) (own_vi ml1 0 rfl) (own_vi ml1 1 rfl) (own_vi ml1 2 rfl) (own_vi ml1 3 rfl)) pd___II_Z rfl (argsL := [(.ref b1101), (.int (qa &&& ((qb &&& ((15 : Int32) &&& (qa ^^^ (-1 : Int32)))) ^^^ (-1 : Int32))))]) (st := []) rfl rfl (W := 0) (Nat.le_of_eq rfl) (by decide) (by decide) (by decide) (by decide) (fun x q => nomatch q) at_363 (pc' := 366) rfl (pureG rfl rfl fun T1115 X1116 => ?_)
    have c366_1117 : ¬ ((osame (Int32.ofNat (osub u2.es (u2.ss.getD 1 0).toNatClampNeg (u2.ns.getD 1 0).toNatClampNeg).length) ((osub u2.es (u2.ss.getD 1 0).toNatClampNeg (u2.ns.getD 1 0).toNatClampNeg).getD 0 0) ((osub u2.es (u2.ss.getD 1 0).toNatClampNeg (u2.ns.getD 1 0).toNatClampNeg).getD 1 0) ((osub u2.es (u2.ss.getD 1 0).toNatClampNeg (u2.ns.getD 1 0).toNatClampNeg).getD 2 0) ((osub u2.es (u2.ss.getD 1 0).toNatClampNeg (u2.ns.getD 1 0).toNatClampNeg).getD 3 0) (qa &&& ((qb &&& ((15 : Int32) &&& (qa ^^^ (-1 : Int32)))) ^^^ (-1 : Int32)))) = (0 : Int32)) := fun q => absurd (m1.2.2.2.symm.trans q) (by decide)
    refine gifN B X1116 at_366 ((if0 _ _).trans (feq c366_1117).1) (pc' := 369) rfl ?_
    refine gaload B X1116 at_369 rfl rfl (pc' := 371) rfl ?_
    refine giconst B X1116 at_371 (v := (2 : Int32)) rfl (pc' := 372) rfl ?_
    refine gcallV B X1116 F1091.1 (hw _ (List.mem_of_getElem? (i := 63) rfl)) (hw _ (List.mem_of_getElem? (i := 64) rfl)) (hw _ (List.mem_of_getElem? (i := 66) rfl)) (hw _ (List.mem_of_getElem? (i := 65) rfl)) (hw _ (List.mem_of_getElem? (i := 13) rfl)) (hw _ (List.mem_of_getElem? (i := 67) rfl)) rfl (by decide) (mt12 l Z a0 hw a951 (2 : Int32) aE970 aL971 aK972 aS973 aN974 aP975 aR976 u2 (u2.ss.getD 2 0).toNatClampNeg (u2.ns.getD 2 0).toNatClampNeg h1084 ⟨F1091, F1093, F1094, F1095, F1096, F1097, F1098, F1099, E1092⟩ k2 (own_lit (a := 2) rfl (by decide)) (own_cl0 m2.1) (own_cl0 (Int.le_trans m2.1 m2.2.1)) (own_cl4 m2.1 m2.2.1 m2.2.2.1).1 (own_cl4 m2.1 m2.2.1 m2.2.2.1).2) pd__I__I rfl (argsL := [(.int (2 : Int32))]) (st := []) rfl rfl (W := 0) (Nat.le_of_eq rfl) (by decide) (by decide) (by decide) (by decide) (fun x q => nomatch q) at_372 (pc' := 375) rfl fun T1118 h1119 v1120 X1121 K1122 Q1123 => ?_
    have F1124 := F1089.keep K1122 nin0
    have F1125 := F1090.keep K1122 nin0
    have F1126 := F1091.keep K1122 nin0
    have E1127 := E1092.keep K1122
    have F1128 := F1093.keep K1122 nin0
    have F1129 := F1094.keep K1122 nin0
    have F1130 := F1095.keep K1122 nin0
    have F1131 := F1096.keep K1122 nin0
    have F1132 := F1097.keep K1122 nin0
    have F1133 := F1098.keep K1122 nin0
    have F1134 := F1099.keep K1122 nin0
    have F1135 := F1100.keep K1122 nin0
    have F1136 := A1103.keep K1122 nin0
    obtain ⟨b1137, rfl, y1138, A1139⟩ := Q1123
    have z_b1137 : h0.size ≤ b1137 := Nat.le_trans X1116.kept.1 y1138
    have n1140 : a891 ≠ b1137 := Nat.ne_of_lt (Nat.lt_of_lt_of_le F1089.lt y1138)
    have n1141 : a898 ≠ b1137 := Nat.ne_of_lt (Nat.lt_of_lt_of_le F1090.lt y1138)
    have n1142 : a951 ≠ b1137 := Nat.ne_of_lt (Nat.lt_of_lt_of_le F1091.lt y1138)
    have n1143 : aE970 ≠ b1137 := Nat.ne_of_lt (Nat.lt_of_lt_of_le F1093.lt y1138)
    have n1144 : aL971 ≠ b1137 := Nat.ne_of_lt (Nat.lt_of_lt_of_le F1094.lt y1138)
    have n1145 : aK972 ≠ b1137 := Nat.ne_of_lt (Nat.lt_of_lt_of_le F1095.lt y1138)
    have n1146 : aS973 ≠ b1137 := Nat.ne_of_lt (Nat.lt_of_lt_of_le F1096.lt y1138)
    have n1147 : aN974 ≠ b1137 := Nat.ne_of_lt (Nat.lt_of_lt_of_le F1097.lt y1138)
    have n1148 : aP975 ≠ b1137 := Nat.ne_of_lt (Nat.lt_of_lt_of_le F1098.lt y1138)
    have n1149 : aR976 ≠ b1137 := Nat.ne_of_lt (Nat.lt_of_lt_of_le F1099.lt y1138)
    have n1150 : b1067 ≠ b1137 := Nat.ne_of_lt (Nat.lt_of_lt_of_le F1100.lt y1138)
    have n1151 : b1101 ≠ b1137 := Nat.ne_of_lt (Nat.lt_of_lt_of_le A1103.lt y1138)
    show Go p e below _ _ _ _ T1118 (mkF m 375 #[.val (.int p0), .val (.int p1), .val (.int p2), .val (.int p3), .val (.int p4), .val (.int qa), .val (.int qq1), .val (.int qf1), .val (.int (0 : Int32)), .val (.int ((15 : Int32) &&& (qa ^^^ (-1 : Int32)))), .val (.int (qb &&& ((15 : Int32) &&& (qa ^^^ (-1 : Int32))))), .val (.int qq2), .val (.int qf2), .val (.ref a891), .val (.ref a898), .val (.int r932), .val (.int r944), .val (.ref a951), .val (.int (oS0 (4 : Int32) 4).cnt), .val (.int u1.cnt), .val (.int (((15 : Int32) &&& (qa ^^^ (-1 : Int32))) &&& ((qb &&& ((15 : Int32) &&& (qa ^^^ (-1 : Int32)))) ^^^ (-1 : Int32)))), .val (.int (qa &&& ((qb &&& ((15 : Int32) &&& (qa ^^^ (-1 : Int32)))) ^^^ (-1 : Int32)))), .val (.int (qb &&& ((15 : Int32) &&& (qa ^^^ (-1 : Int32)))))] [(.ref b1137)])
    refine giload B X1121 at_375 rfl (pc' := 377) rfl ?_
    have ml2 := own_subL u2.es (u2.ss.getD 2 0).toNatClampNeg (u2.ns.getD 2 0).toNatClampNeg (own_cl4 m2.1 m2.2.1 m2.2.2.1).2
    refine gcallS B X1121 (hw _ (List.mem_of_getElem? (i := 85) rfl)) (hw _ (List.mem_of_getElem? (i := 86) rfl)) (hw _ (List.mem_of_getElem? (i := 3) rfl)) (hw _ (List.mem_of_getElem? (i := 87) rfl)) (by decide) (mtsame l Z a0 hw b1137 (qb &&& ((15 : Int32) &&& (qa ^^^ (-1 : Int32)))) ((osub u2.es (u2.ss.getD 2 0).toNatClampNeg (u2.ns.getD 2 0).toNatClampNeg).map Value.int) (osub u2.es (u2.ss.getD 2 0).toNatClampNeg (u2.ns.getD 2 0).toNatClampNeg).length (Int32.ofNat (osub u2.es (u2.ss.getD 2 0).toNatClampNeg (u2.ns.getD 2 0).toNatClampNeg).length) ((osub u2.es (u2.ss.getD 2 0).toNatClampNeg (u2.ns.getD 2 0).toNatClampNeg).getD 0 0) ((osub u2.es (u2.ss.getD 2 0).toNatClampNeg (u2.ns.getD 2 0).toNatClampNeg).getD 1 0) ((osub u2.es (u2.ss.getD 2 0).toNatClampNeg (u2.ns.getD 2 0).toNatClampNeg).getD 2 0) ((osub u2.es (u2.ss.getD 2 0).toNatClampNeg (u2.ns.getD 2 0).toNatClampNeg).getD 3 0) h1119 A1139 (List.length_map ..) (own_ofl ml2) (own_n4 ml2) (own_vi ml2 0 rfl) (own_vi ml2 1 rfl) (own_vi ml2 2 rfl) (own_vi ml2 3 rfl)) pd___II_Z rfl (argsL := [(.ref b1137), (.int (qb &&& ((15 : Int32) &&& (qa ^^^ (-1 : Int32)))))]) (st := []) rfl rfl (W := 0) (Nat.le_of_eq rfl) (by decide) (by decide) (by decide) (by decide) (fun x q => nomatch q) at_377 (pc' := 380) rfl (pureG rfl rfl fun T1152 X1153 => ?_)
    have c380_1154 : ¬ ((osame (Int32.ofNat (osub u2.es (u2.ss.getD 2 0).toNatClampNeg (u2.ns.getD 2 0).toNatClampNeg).length) ((osub u2.es (u2.ss.getD 2 0).toNatClampNeg (u2.ns.getD 2 0).toNatClampNeg).getD 0 0) ((osub u2.es (u2.ss.getD 2 0).toNatClampNeg (u2.ns.getD 2 0).toNatClampNeg).getD 1 0) ((osub u2.es (u2.ss.getD 2 0).toNatClampNeg (u2.ns.getD 2 0).toNatClampNeg).getD 2 0) ((osub u2.es (u2.ss.getD 2 0).toNatClampNeg (u2.ns.getD 2 0).toNatClampNeg).getD 3 0) (qb &&& ((15 : Int32) &&& (qa ^^^ (-1 : Int32))))) = (0 : Int32)) := fun q => absurd (m2.2.2.2.symm.trans q) (by decide)
    refine gifN B X1153 at_380 ((if0 _ _).trans (feq c380_1154).1) (pc' := 383) rfl ?_
    refine giconst B X1153 at_383 (v := (1 : Int32)) rfl (pc' := 384) rfl ?_
    refine ggoto B X1153 (pc' := 388) at_384 (by decide) ?_
    exact gretN B X1153 (z' := (1 : Int32)) (by simp) (rfl) at_388 (by decide) (by decide) (rfl)
  · refine gifN B X at_28 ((if0 _ _).trans (feq c28_887).1) (pc' := 31) rfl ?_
    refine giconst B X at_31 (v := (1 : Int32)) rfl (pc' := 32) rfl ?_
    refine ggoto B X (pc' := 36) at_32 (by decide) ?_
    refine gistore B X at_36 (Ls' := #[.val (.int p0), .val (.int p1), .val (.int p2), .val (.int p3), .val (.int p4), .val (.int qa), .val (.int qq1), .val (.int qf1), .val (.int (1 : Int32)), .unset, .unset, .unset, .unset, .unset, .unset, .unset, .unset, .unset, .unset, .unset, .unset, .unset, .unset]) rfl (pc' := 38) rfl ?_
    refine giload B X at_38 rfl (pc' := 40) rfl ?_
    refine giconst B X at_40 (v := (1 : Int32)) rfl (pc' := 41) rfl ?_
    have c41_1155 : (1 : Int32) = (1 : Int32) := (by decide)
    refine gicN B X at_41 (teq c41_1155).2 (pc' := 44) rfl ?_
    refine giload B X at_44 rfl (pc' := 46) rfl ?_
    refine ggoto B X (pc' := 56) at_46 (by decide) ?_
    refine gistore B X at_56 (Ls' := #[.val (.int p0), .val (.int p1), .val (.int p2), .val (.int p3), .val (.int p4), .val (.int qa), .val (.int qq1), .val (.int qf1), .val (.int (1 : Int32)), .val (.int qa), .unset, .unset, .unset, .unset, .unset, .unset, .unset, .unset, .unset, .unset, .unset, .unset, .unset]) rfl (pc' := 58) rfl ?_
    refine giloadN B X at_58 rfl (pc' := 59) rfl ?_
    refine gbipush B X at_59 (v := (15 : Int32)) rfl (pc' := 61) rfl ?_
    refine giand B X at_61 rfl (pc' := 62) rfl ?_
    generalize e_qb : (p1 &&& (15 : Int32)) = qb
    refine giload B X at_62 rfl (pc' := 64) rfl ?_
    obtain ⟨gB, xgB⟩ : ∃ A : Fin 16, qb = Int32.ofNat A.1 := by rw [← e_qb]; exact own_f4 _
    refine giand B X at_64 rfl (pc' := 65) rfl ?_
    refine gistore B X at_65 (Ls' := #[.val (.int p0), .val (.int p1), .val (.int p2), .val (.int p3), .val (.int p4), .val (.int qa), .val (.int qq1), .val (.int qf1), .val (.int (1 : Int32)), .val (.int qa), .val (.int (qb &&& qa)), .unset, .unset, .unset, .unset, .unset, .unset, .unset, .unset, .unset, .unset, .unset, .unset]) rfl (pc' := 67) rfl ?_
    refine giloadN B X at_67 rfl (pc' := 68) rfl ?_
    refine giconst B X at_68 (v := (5 : Int32)) rfl (pc' := 69) rfl ?_
    refine giushr B X at_69 rfl (pc' := 70) rfl ?_
    refine giconst B X at_70 (v := (3 : Int32)) rfl (pc' := 71) rfl ?_
    refine giand B X at_71 rfl (pc' := 72) rfl ?_
    generalize e_qq2 : (((p1.toUInt32 >>> ((5 : Int32) &&& 31).toUInt32).toInt32) &&& (3 : Int32)) = qq2
    refine gistore B X at_72 (Ls' := #[.val (.int p0), .val (.int p1), .val (.int p2), .val (.int p3), .val (.int p4), .val (.int qa), .val (.int qq1), .val (.int qf1), .val (.int (1 : Int32)), .val (.int qa), .val (.int (qb &&& qa)), .val (.int qq2), .unset, .unset, .unset, .unset, .unset, .unset, .unset, .unset, .unset, .unset, .unset]) rfl (pc' := 74) rfl ?_
    obtain ⟨g2, xg2⟩ : ∃ A : Fin 4, qq2 = Int32.ofNat A.1 := by rw [← e_qq2]; exact own_f2 _
    refine giloadN B X at_74 rfl (pc' := 75) rfl ?_
    refine gbipush B X at_75 (v := (7 : Int32)) rfl (pc' := 77) rfl ?_
    refine giushr B X at_77 rfl (pc' := 78) rfl ?_
    refine giconst B X at_78 (v := (3 : Int32)) rfl (pc' := 79) rfl ?_
    refine giand B X at_79 rfl (pc' := 80) rfl ?_
    refine giconst B X at_80 (v := (3 : Int32)) rfl (pc' := 81) rfl ?_
    refine girem B X at_81 (by decide) rfl (pc' := 82) rfl ?_
    generalize e_qf2 : ((((p1.toUInt32 >>> ((7 : Int32) &&& 31).toUInt32).toInt32) &&& (3 : Int32)) % (3 : Int32)) = qf2
    refine gistore B X at_82 (Ls' := #[.val (.int p0), .val (.int p1), .val (.int p2), .val (.int p3), .val (.int p4), .val (.int qa), .val (.int qq1), .val (.int qf1), .val (.int (1 : Int32)), .val (.int qa), .val (.int (qb &&& qa)), .val (.int qq2), .val (.int qf2), .unset, .unset, .unset, .unset, .unset, .unset, .unset, .unset, .unset, .unset]) rfl (pc' := 84) rfl ?_
    obtain ⟨fN2, hf2, hf22⟩ : ∃ fN : Nat, qf2.toInt = fN ∧ fN ≤ 2 := by rw [← e_qf2]; exact own_fr _
    refine gbipush B X at_84 (v := (6 : Int32)) rfl (pc' := 86) rfl ?_
    refine gnewarray B X (cap := 6) (vs := [(.int (0 : Int32)), (.int (0 : Int32)), (.int (0 : Int32)), (.int (0 : Int32)), (.int (0 : Int32)), (.int (0 : Int32))]) (ty := .int) rfl rfl (hw _ (List.mem_of_getElem? (i := 0) rfl)) (by decide) (by decide) (by decide) (by decide) (by decide) at_86 (pc' := 88) rfl fun T1156 h1157 a1158 X1159 q1160 E1161 z_a1158 A1162 => ?_
    refine gastore B X1159 at_88 rfl (Ls' := #[.val (.int p0), .val (.int p1), .val (.int p2), .val (.int p3), .val (.int p4), .val (.int qa), .val (.int qq1), .val (.int qf1), .val (.int (1 : Int32)), .val (.int qa), .val (.int (qb &&& qa)), .val (.int qq2), .val (.int qf2), .val (.ref a1158), .unset, .unset, .unset, .unset, .unset, .unset, .unset, .unset, .unset]) rfl (pc' := 90) rfl ?_
    refine gbipush B X1159 at_90 (v := (6 : Int32)) rfl (pc' := 92) rfl ?_
    refine gnewarray B X1159 (cap := 6) (vs := [(.int (0 : Int32)), (.int (0 : Int32)), (.int (0 : Int32)), (.int (0 : Int32)), (.int (0 : Int32)), (.int (0 : Int32))]) (ty := .int) rfl rfl (hw _ (List.mem_of_getElem? (i := 0) rfl)) (by decide) (by decide) (by decide) (by decide) (by decide) at_92 (pc' := 94) rfl fun T1163 h1164 a1165 X1166 q1167 E1168 z_a1165 A1169 => ?_
    have n1170 : a1158 ≠ a1165 := by rw [q1167]; exact Nat.ne_of_lt A1162.lt
    have F1171 := A1162.ext E1168
    refine gastore B X1166 at_94 rfl (Ls' := #[.val (.int p0), .val (.int p1), .val (.int p2), .val (.int p3), .val (.int p4), .val (.int qa), .val (.int qq1), .val (.int qf1), .val (.int (1 : Int32)), .val (.int qa), .val (.int (qb &&& qa)), .val (.int qq2), .val (.int qf2), .val (.ref a1158), .val (.ref a1165), .unset, .unset, .unset, .unset, .unset, .unset, .unset, .unset]) rfl (pc' := 96) rfl ?_
    refine gaload B X1166 at_96 rfl rfl (pc' := 98) rfl ?_
    refine giload B X1166 at_98 rfl (pc' := 100) rfl ?_
    refine gcallS B X1166 (hw _ (List.mem_of_getElem? (i := 1) rfl)) (hw _ (List.mem_of_getElem? (i := 2) rfl)) (hw _ (List.mem_of_getElem? (i := 3) rfl)) (hw _ (List.mem_of_getElem? (i := 4) rfl)) (by decide) (mt1 l Z a0 hw a1158 p4  h1164 F1171) pd___II_V rfl (argsL := [(.ref a1158), (.int p4)]) (st := []) rfl rfl (W := 0) (Nat.le_of_eq rfl) (by decide) (by decide) (by decide) (by decide) (allS (Or.inr z_a1158) all0) at_100 (pc' := 103) rfl fun T1172 h1173 v1174 X1175 K1176 Q1177 => ?_
    have F1178 := A1169.keep K1176 (ninS (Ne.symm n1170) nin0)
    obtain ⟨rfl, ys1179, hy1180, A1181⟩ := Q1177
    show Go p e below _ _ _ _ T1172 (mkF m 103 #[.val (.int p0), .val (.int p1), .val (.int p2), .val (.int p3), .val (.int p4), .val (.int qa), .val (.int qq1), .val (.int qf1), .val (.int (1 : Int32)), .val (.int qa), .val (.int (qb &&& qa)), .val (.int qq2), .val (.int qf2), .val (.ref a1158), .val (.ref a1165), .unset, .unset, .unset, .unset, .unset, .unset, .unset, .unset] [])
    refine gaload B X1175 at_103 rfl rfl (pc' := 105) rfl ?_
    refine giload B X1175 at_105 rfl (pc' := 107) rfl ?_
    refine gbipush B X1175 at_107 (v := (12 : Int32)) rfl (pc' := 109) rfl ?_
    refine giushr B X1175 at_109 rfl (pc' := 110) rfl ?_
    refine gcallS B X1175 (hw _ (List.mem_of_getElem? (i := 1) rfl)) (hw _ (List.mem_of_getElem? (i := 2) rfl)) (hw _ (List.mem_of_getElem? (i := 3) rfl)) (hw _ (List.mem_of_getElem? (i := 4) rfl)) (by decide) (mt1 l Z a0 hw a1165 ((p4.toUInt32 >>> ((12 : Int32) &&& 31).toUInt32).toInt32)  h1173 F1178) pd___II_V rfl (argsL := [(.ref a1165), (.int ((p4.toUInt32 >>> ((12 : Int32) &&& 31).toUInt32).toInt32))]) (st := []) rfl rfl (W := 0) (Nat.le_of_eq rfl) (by decide) (by decide) (by decide) (by decide) (allS (Or.inr z_a1165) all0) at_110 (pc' := 113) rfl fun T1182 h1183 v1184 X1185 K1186 Q1187 => ?_
    have F1188 := A1181.keep K1186 (ninS n1170 nin0)
    obtain ⟨rfl, ys1189, hy1190, A1191⟩ := Q1187
    show Go p e below _ _ _ _ T1182 (mkF m 113 #[.val (.int p0), .val (.int p1), .val (.int p2), .val (.int p3), .val (.int p4), .val (.int qa), .val (.int qq1), .val (.int qf1), .val (.int (1 : Int32)), .val (.int qa), .val (.int (qb &&& qa)), .val (.int qq2), .val (.int qf2), .val (.ref a1158), .val (.ref a1165), .unset, .unset, .unset, .unset, .unset, .unset, .unset, .unset] [])
    refine gaload B X1185 at_113 rfl rfl (pc' := 115) rfl ?_
    refine giload B X1185 at_115 rfl (pc' := 117) rfl ?_
    refine giload B X1185 at_117 rfl (pc' := 119) rfl ?_
    refine giload B X1185 at_119 rfl (pc' := 121) rfl ?_
    refine gcallS B X1185 (hw _ (List.mem_of_getElem? (i := 5) rfl)) (hw _ (List.mem_of_getElem? (i := 6) rfl)) (hw _ (List.mem_of_getElem? (i := 3) rfl)) (hw _ (List.mem_of_getElem? (i := 7) rfl)) (by decide) (mt2 l Z a0 hw a1158 qf1 qa qq1 ys1179 fN1 h1183 F1188 hy1180 hf1 hf12) pd___IIII_I rfl (argsL := [(.ref a1158), (.int qf1), (.int qa), (.int qq1)]) (st := []) rfl rfl (W := 0) (Nat.le_of_eq rfl) (by decide) (by decide) (by decide) (by decide) (allS (Or.inr z_a1158) all0) at_121 (pc' := 124) rfl fun T1192 h1193 v1194 X1195 K1196 Q1197 => ?_
    have F1198 := A1191.keep K1196 (ninS (Ne.symm n1170) nin0)
    obtain ⟨r1199, rfl, hr1200, A1201⟩ := Q1197
    have P1202 := own_place (S := qa) (q := qq1) (fN := fN1) hy1180 hf12
    generalize (oplace qa qq1 (ys1179, fN1)).1 = P1202f at P1202 A1201
    rw [P1202.2.1] at hr1200
    show Go p e below _ _ _ _ T1192 (mkF m 124 #[.val (.int p0), .val (.int p1), .val (.int p2), .val (.int p3), .val (.int p4), .val (.int qa), .val (.int qq1), .val (.int qf1), .val (.int (1 : Int32)), .val (.int qa), .val (.int (qb &&& qa)), .val (.int qq2), .val (.int qf2), .val (.ref a1158), .val (.ref a1165), .unset, .unset, .unset, .unset, .unset, .unset, .unset, .unset] [(.int r1199)])
    refine gistore B X1195 at_124 (Ls' := #[.val (.int p0), .val (.int p1), .val (.int p2), .val (.int p3), .val (.int p4), .val (.int qa), .val (.int qq1), .val (.int qf1), .val (.int (1 : Int32)), .val (.int qa), .val (.int (qb &&& qa)), .val (.int qq2), .val (.int qf2), .val (.ref a1158), .val (.ref a1165), .val (.int r1199), .unset, .unset, .unset, .unset, .unset, .unset, .unset]) rfl (pc' := 126) rfl ?_
    refine gaload B X1195 at_126 rfl rfl (pc' := 128) rfl ?_
    refine giload B X1195 at_128 rfl (pc' := 130) rfl ?_
    refine giload B X1195 at_130 rfl (pc' := 132) rfl ?_
    refine giload B X1195 at_132 rfl (pc' := 134) rfl ?_
    refine gcallS B X1195 (hw _ (List.mem_of_getElem? (i := 5) rfl)) (hw _ (List.mem_of_getElem? (i := 6) rfl)) (hw _ (List.mem_of_getElem? (i := 3) rfl)) (hw _ (List.mem_of_getElem? (i := 7) rfl)) (by decide) (mt2 l Z a0 hw a1165 qf2 (qb &&& qa) qq2 ys1189 fN2 h1193 F1198 hy1190 hf2 hf22) pd___IIII_I rfl (argsL := [(.ref a1165), (.int qf2), (.int (qb &&& qa)), (.int qq2)]) (st := []) rfl rfl (W := 0) (Nat.le_of_eq rfl) (by decide) (by decide) (by decide) (by decide) (allS (Or.inr z_a1165) all0) at_134 (pc' := 137) rfl fun T1204 h1205 v1206 X1207 K1208 Q1209 => ?_
    have F1210 := A1201.keep K1208 (ninS n1170 nin0)
    obtain ⟨r1211, rfl, hr1212, A1213⟩ := Q1209
    have P1214 := own_place (S := (qb &&& qa)) (q := qq2) (fN := fN2) hy1190 hf22
    generalize (oplace (qb &&& qa) qq2 (ys1189, fN2)).1 = P1214f at P1214 A1213
    rw [P1214.2.1] at hr1212
    show Go p e below _ _ _ _ T1204 (mkF m 137 #[.val (.int p0), .val (.int p1), .val (.int p2), .val (.int p3), .val (.int p4), .val (.int qa), .val (.int qq1), .val (.int qf1), .val (.int (1 : Int32)), .val (.int qa), .val (.int (qb &&& qa)), .val (.int qq2), .val (.int qf2), .val (.ref a1158), .val (.ref a1165), .val (.int r1199), .unset, .unset, .unset, .unset, .unset, .unset, .unset] [(.int r1211)])
    refine gistore B X1207 at_137 (Ls' := #[.val (.int p0), .val (.int p1), .val (.int p2), .val (.int p3), .val (.int p4), .val (.int qa), .val (.int qq1), .val (.int qf1), .val (.int (1 : Int32)), .val (.int qa), .val (.int (qb &&& qa)), .val (.int qq2), .val (.int qf2), .val (.ref a1158), .val (.ref a1165), .val (.int r1199), .val (.int r1211), .unset, .unset, .unset, .unset, .unset, .unset]) rfl (pc' := 139) rfl ?_
    refine gnew B X1207 (hw _ (List.mem_of_getElem? (i := 11) rfl)) (hw _ (List.mem_of_getElem? (i := 12) rfl)) (hw _ (List.mem_of_getElem? (i := 13) rfl)) (by decide) (by decide) at_139 (pc' := 142) rfl fun T1216 h1217 a1218 X1219 q1220 E1221 z_a1218 A1222 D1223 => ?_
    have O1224 : Pt Z h1217 a1218 .null .null .null .null .null .null .null (.int (0 : Int32)) := ⟨A1222, D1223 (Or.inr (hw _ (List.mem_of_getElem? (i := 21) rfl))) (ty := (.array .int)) (by decide), D1223 (Or.inr (hw _ (List.mem_of_getElem? (i := 23) rfl))) (ty := (.array .int)) (by decide), D1223 (Or.inr (hw _ (List.mem_of_getElem? (i := 25) rfl))) (ty := (.array .int)) (by decide), D1223 (Or.inr (hw _ (List.mem_of_getElem? (i := 31) rfl))) (ty := (.array .int)) (by decide), D1223 (Or.inr (hw _ (List.mem_of_getElem? (i := 33) rfl))) (ty := (.array .int)) (by decide), D1223 (Or.inr (hw _ (List.mem_of_getElem? (i := 35) rfl))) (ty := (.array .int)) (by decide), D1223 (Or.inr (hw _ (List.mem_of_getElem? (i := 37) rfl))) (ty := (.array .int)) (by decide), D1223 (Or.inl (hw _ (List.mem_of_getElem? (i := 39) rfl))) (ty := .int) (by decide)⟩
    have n1225 : a1158 ≠ a1218 := by rw [q1220]; exact Nat.ne_of_lt F1210.lt
    have n1226 : a1165 ≠ a1218 := by rw [q1220]; exact Nat.ne_of_lt A1213.lt
    have F1227 := F1210.ext E1221
    have F1228 := A1213.ext E1221
    refine gdup B X1219 at_142 rfl (pc' := 143) rfl ?_
    refine giconst B X1219 at_143 (v := (4 : Int32)) rfl (pc' := 144) rfl ?_
    refine gcallI B X1219 rfl rfl (hw _ (List.mem_of_getElem? (i := 14) rfl)) (hw _ (List.mem_of_getElem? (i := 15) rfl)) (hw _ (List.mem_of_getElem? (i := 13) rfl)) (hw _ (List.mem_of_getElem? (i := 16) rfl)) (by decide) (mt4 l Z a0 hw a1218 (4 : Int32) 4 h1217 O1224 (by decide) (by decide)) pd__I_V rfl (argsL := [(.int (4 : Int32))]) (st := [(.ref a1218)]) rfl rfl (W := 1) (Nat.le_of_eq rfl) (by decide) (by decide) (by decide) (by decide) (allS (Or.inr z_a1218) all0) at_144 (pc' := 147) rfl fun T1229 h1230 v1231 X1232 K1233 Q1234 => ?_
    have F1235 := F1227.keep K1233 (ninS n1225 nin0)
    have F1236 := F1228.keep K1233 (ninS n1226 nin0)
    obtain ⟨rfl, aE1237, aL1238, aK1239, aS1240, aN1241, aP1242, aR1243, ND1244, zz1245, A1246⟩ := Q1234
    have y_aE1237 := own_hw zz1245 0 rfl
    have z_aE1237 : h0.size ≤ aE1237 := Nat.le_trans X1219.kept.1 y_aE1237
    have n1247 : a1158 ≠ aE1237 := Nat.ne_of_lt (Nat.lt_of_lt_of_le F1227.lt y_aE1237)
    have n1248 : a1165 ≠ aE1237 := Nat.ne_of_lt (Nat.lt_of_lt_of_le F1228.lt y_aE1237)
    have y_aL1238 := own_hw zz1245 1 rfl
    have z_aL1238 : h0.size ≤ aL1238 := Nat.le_trans X1219.kept.1 y_aL1238
    have n1249 : a1158 ≠ aL1238 := Nat.ne_of_lt (Nat.lt_of_lt_of_le F1227.lt y_aL1238)
    have n1250 : a1165 ≠ aL1238 := Nat.ne_of_lt (Nat.lt_of_lt_of_le F1228.lt y_aL1238)
    have y_aK1239 := own_hw zz1245 2 rfl
    have z_aK1239 : h0.size ≤ aK1239 := Nat.le_trans X1219.kept.1 y_aK1239
    have n1251 : a1158 ≠ aK1239 := Nat.ne_of_lt (Nat.lt_of_lt_of_le F1227.lt y_aK1239)
    have n1252 : a1165 ≠ aK1239 := Nat.ne_of_lt (Nat.lt_of_lt_of_le F1228.lt y_aK1239)
    have y_aS1240 := own_hw zz1245 3 rfl
    have z_aS1240 : h0.size ≤ aS1240 := Nat.le_trans X1219.kept.1 y_aS1240
    have n1253 : a1158 ≠ aS1240 := Nat.ne_of_lt (Nat.lt_of_lt_of_le F1227.lt y_aS1240)
    have n1254 : a1165 ≠ aS1240 := Nat.ne_of_lt (Nat.lt_of_lt_of_le F1228.lt y_aS1240)
    have y_aN1241 := own_hw zz1245 4 rfl
    have z_aN1241 : h0.size ≤ aN1241 := Nat.le_trans X1219.kept.1 y_aN1241
    have n1255 : a1158 ≠ aN1241 := Nat.ne_of_lt (Nat.lt_of_lt_of_le F1227.lt y_aN1241)
    have n1256 : a1165 ≠ aN1241 := Nat.ne_of_lt (Nat.lt_of_lt_of_le F1228.lt y_aN1241)
    have y_aP1242 := own_hw zz1245 5 rfl
    have z_aP1242 : h0.size ≤ aP1242 := Nat.le_trans X1219.kept.1 y_aP1242
    have n1257 : a1158 ≠ aP1242 := Nat.ne_of_lt (Nat.lt_of_lt_of_le F1227.lt y_aP1242)
    have n1258 : a1165 ≠ aP1242 := Nat.ne_of_lt (Nat.lt_of_lt_of_le F1228.lt y_aP1242)
    have y_aR1243 := own_hw zz1245 6 rfl
    have z_aR1243 : h0.size ≤ aR1243 := Nat.le_trans X1219.kept.1 y_aR1243
    have n1259 : a1158 ≠ aR1243 := Nat.ne_of_lt (Nat.lt_of_lt_of_le F1227.lt y_aR1243)
    have n1260 : a1165 ≠ aR1243 := Nat.ne_of_lt (Nat.lt_of_lt_of_le F1228.lt y_aR1243)
    show Go p e below _ _ _ _ T1229 (mkF m 147 #[.val (.int p0), .val (.int p1), .val (.int p2), .val (.int p3), .val (.int p4), .val (.int qa), .val (.int qq1), .val (.int qf1), .val (.int (1 : Int32)), .val (.int qa), .val (.int (qb &&& qa)), .val (.int qq2), .val (.int qf2), .val (.ref a1158), .val (.ref a1165), .val (.int r1199), .val (.int r1211), .unset, .unset, .unset, .unset, .unset, .unset] [(.ref a1218)])
    have k0 : Ok 4 4 (oS0 (4 : Int32) 4) := own_ok0 (by decide)
    refine gastore B X1232 at_147 rfl (Ls' := #[.val (.int p0), .val (.int p1), .val (.int p2), .val (.int p3), .val (.int p4), .val (.int qa), .val (.int qq1), .val (.int qf1), .val (.int (1 : Int32)), .val (.int qa), .val (.int (qb &&& qa)), .val (.int qq2), .val (.int qf2), .val (.ref a1158), .val (.ref a1165), .val (.int r1199), .val (.int r1211), .val (.ref a1218), .unset, .unset, .unset, .unset, .unset]) rfl (pc' := 149) rfl ?_
    refine gaload B X1232 at_149 rfl rfl (pc' := 151) rfl ?_
    refine giconst B X1232 at_151 (v := (0 : Int32)) rfl (pc' := 152) rfl ?_
    refine gaload B X1232 at_152 rfl rfl (pc' := 154) rfl ?_
    refine giload B X1232 at_154 rfl (pc' := 156) rfl ?_
    refine giload B X1232 at_156 rfl (pc' := 158) rfl ?_
    refine giloadN B X1232 at_158 rfl (pc' := 159) rfl ?_
    have sl1 := own_seqLen qa qq1
    have hx1 := own_hxs (fN := fN1) rfl P1202.2.2 (own_seqR ⟨_, xg1⟩)
    have can1 : Can 4 (0 : Int32) ((fN1 + (oseq qa qq1).length) - fN1) (oS0 (4 : Int32) 4) := ⟨by show _ ≤ ((oS0 (4 : Int32) 4).ns.getD 0 0).toInt; rw [own_n00]; have z : (4 : Int32).toInt = 4 := rfl; omega, by show ((oS0 (4 : Int32) 4).ns.getD 0 0).toInt ≤ _; rw [own_n00]; decide⟩
    have c1 : inR 4 (0 : Int32) := own_lit (a := 0) rfl (by decide)
    have d1 : inR 4 (oS0 (4 : Int32) 4).cnt := own_lit (x := 1) (a := 1) rfl (by decide)
    have S1 := own_split (rd := p2) (by decide) k0 c1 can1 hx1 d1 hf1 hr1200 (Nat.le_add_right ..) (ci := 0) (cc := 1) rfl rfl (by decide)
    have N1 := own_sp (cl := (0 : Int32)) (rd := p2) (u := (oS0 (4 : Int32) 4)) hf1 hr1200 rfl (by omega) P1202.2.2
    have hf_159 : ∀ x ∈ [a1218, aE1237, aL1238, aK1239, aS1240, aN1241, aP1242, aR1243], x ≠ a1158 := (allS (Ne.symm n1225) (allS (Ne.symm n1247) (allS (Ne.symm n1249) (allS (Ne.symm n1251) (allS (Ne.symm n1253) (allS (Ne.symm n1255) (allS (Ne.symm n1257) (allS (Ne.symm n1259) all0))))))))
    have A_159 : PA Z h1230 a1218 aE1237 aL1238 aK1239 aS1240 aN1241 aP1242 aR1243 (oS0 (4 : Int32) 4) := ⟨A1246.1, A1246.2.1, A1246.2.2.1, A1246.2.2.2.1, A1246.2.2.2.2.1, A1246.2.2.2.2.2.1, A1246.2.2.2.2.2.2.1, A1246.2.2.2.2.2.2.2.1, A1246.2.2.2.2.2.2.2.2⟩
    refine gcallV B X1232 A1246.1.1 (hw _ (List.mem_of_getElem? (i := 40) rfl)) (hw _ (List.mem_of_getElem? (i := 41) rfl)) (hw _ (List.mem_of_getElem? (i := 43) rfl)) (hw _ (List.mem_of_getElem? (i := 42) rfl)) (hw _ (List.mem_of_getElem? (i := 13) rfl)) (hw _ (List.mem_of_getElem? (i := 44) rfl)) rfl (by decide) (mt7 l Z a0 hw a1218 (0 : Int32) a1158 qf1 r1199 p2 aE1237 aL1238 aK1239 aS1240 aN1241 aP1242 aR1243 (oS0 (4 : Int32) 4) P1202f 4 4 fN1 (fN1 + (oseq qa qq1).length) h1230 A_159 F1235 ND1244 hf_159 k0 can1 hx1 c1 hf1 hr1200 (Nat.le_add_right ..) (by rw [P1202.1]; omega) d1) pd__I_IIII_I rfl (argsL := [(.int (0 : Int32)), (.ref a1158), (.int qf1), (.int r1199), (.int p2)]) (st := []) rfl rfl (W := 0) (Nat.le_of_eq rfl) (by decide) (by decide) (by decide) (by decide) (allS (Or.inr z_a1218) (allS (Or.inr z_aE1237) (allS (Or.inr z_aL1238) (allS (Or.inr z_aK1239) (allS (Or.inr z_aS1240) (allS (Or.inr z_aN1241) (allS (Or.inr z_aP1242) (allS (Or.inr z_aR1243) all0)))))))) at_159 (pc' := 162) rfl fun T1261 h1262 v1263 X1264 K1265 Q1266 => ?_
    have F1267 := F1235.keep K1265 (ninS n1225 (ninS n1247 (ninS n1249 (ninS n1251 (ninS n1253 (ninS n1255 (ninS n1257 (ninS n1259 nin0))))))))
    have F1268 := F1236.keep K1265 (ninS n1226 (ninS n1248 (ninS n1250 (ninS n1252 (ninS n1254 (ninS n1256 (ninS n1258 (ninS n1260 nin0))))))))
    have E1269 := A1246.2.2.2.2.2.2.2.2.keep K1265
    obtain ⟨rfl, A1270⟩ := Q1266
    generalize (oSplit (0 : Int32) P1202f qf1 r1199 p2 fN1 (fN1 + (oseq qa qq1).length) (oS0 (4 : Int32) 4)) = u1 at A1270 S1 N1
    obtain ⟨k1, cnt1, -⟩ := S1
    have cnt1 : u1.cnt = 2 := cnt1
    show Go p e below _ _ _ _ T1261 (mkF m 162 #[.val (.int p0), .val (.int p1), .val (.int p2), .val (.int p3), .val (.int p4), .val (.int qa), .val (.int qq1), .val (.int qf1), .val (.int (1 : Int32)), .val (.int qa), .val (.int (qb &&& qa)), .val (.int qq2), .val (.int qf2), .val (.ref a1158), .val (.ref a1165), .val (.int r1199), .val (.int r1211), .val (.ref a1218), .unset, .unset, .unset, .unset, .unset] [(.int (oS0 (4 : Int32) 4).cnt)])
    refine gistore B X1264 at_162 (Ls' := #[.val (.int p0), .val (.int p1), .val (.int p2), .val (.int p3), .val (.int p4), .val (.int qa), .val (.int qq1), .val (.int qf1), .val (.int (1 : Int32)), .val (.int qa), .val (.int (qb &&& qa)), .val (.int qq2), .val (.int qf2), .val (.ref a1158), .val (.ref a1165), .val (.int r1199), .val (.int r1211), .val (.ref a1218), .val (.int (oS0 (4 : Int32) 4).cnt), .unset, .unset, .unset, .unset]) rfl (pc' := 164) rfl ?_
    refine gaload B X1264 at_164 rfl rfl (pc' := 166) rfl ?_
    refine giload B X1264 at_166 rfl (pc' := 168) rfl ?_
    refine gaload B X1264 at_168 rfl rfl (pc' := 170) rfl ?_
    refine giload B X1264 at_170 rfl (pc' := 172) rfl ?_
    refine giload B X1264 at_172 rfl (pc' := 174) rfl ?_
    refine giloadN B X1264 at_174 rfl (pc' := 175) rfl ?_
    have AL := own_all1 gA g1 gB g2
    rw [← xgA, ← xg1, ← xgB, ← xg2] at AL
    unfold oal1 at AL
    rw [← N1.1] at AL
    obtain ⟨AC, AL⟩ := AL
    have sl2 := own_seqLen (qb &&& qa) qq2
    have hx2 := own_hxs (fN := fN2) rfl P1214.2.2 (own_seqR ⟨_, xg2⟩)
    have can2 : Can 4 (1 : Int32) ((fN2 + (oseq (qb &&& qa) qq2).length) - fN2) u1 := ⟨by rw [Nat.add_sub_cancel_left]; exact AC.1, AC.2⟩
    have c2 : inR 4 (1 : Int32) := own_lit (a := 1) rfl (by decide)
    have d2 : inR 4 u1.cnt := by rw [cnt1]; exact own_lit (a := 2) rfl (by decide)
    have S2 := own_split (rd := p3) (by decide) k1 c2 can2 hx2 d2 hf2 hr1212 (Nat.le_add_right ..) (ci := 1) (cc := 2) rfl (by rw [cnt1]; rfl) (by decide)
    have N2 := own_sp (cl := (1 : Int32)) (rd := p3) (u := u1) hf2 hr1212 rfl (by omega) P1214.2.2
    have hf_175 : ∀ x ∈ [a1218, aE1237, aL1238, aK1239, aS1240, aN1241, aP1242, aR1243], x ≠ a1165 := (allS (Ne.symm n1226) (allS (Ne.symm n1248) (allS (Ne.symm n1250) (allS (Ne.symm n1252) (allS (Ne.symm n1254) (allS (Ne.symm n1256) (allS (Ne.symm n1258) (allS (Ne.symm n1260) all0))))))))
    have A_175 : PA Z h1262 a1218 aE1237 aL1238 aK1239 aS1240 aN1241 aP1242 aR1243 u1 := ⟨A1270.1, A1270.2.1, A1270.2.2.1, A1270.2.2.2.1, A1270.2.2.2.2.1, A1270.2.2.2.2.2.1, A1270.2.2.2.2.2.2.1, A1270.2.2.2.2.2.2.2.1, A1270.2.2.2.2.2.2.2.2⟩
    refine gcallV B X1264 A1270.1.1 (hw _ (List.mem_of_getElem? (i := 40) rfl)) (hw _ (List.mem_of_getElem? (i := 41) rfl)) (hw _ (List.mem_of_getElem? (i := 43) rfl)) (hw _ (List.mem_of_getElem? (i := 42) rfl)) (hw _ (List.mem_of_getElem? (i := 13) rfl)) (hw _ (List.mem_of_getElem? (i := 44) rfl)) rfl (by decide) (mt7 l Z a0 hw a1218 (1 : Int32) a1165 qf2 r1211 p3 aE1237 aL1238 aK1239 aS1240 aN1241 aP1242 aR1243 u1 P1214f 4 4 fN2 (fN2 + (oseq (qb &&& qa) qq2).length) h1262 A_175 F1268 ND1244 hf_175 k1 can2 hx2 c2 hf2 hr1212 (Nat.le_add_right ..) (by rw [P1214.1]; omega) d2) pd__I_IIII_I rfl (argsL := [(.int (1 : Int32)), (.ref a1165), (.int qf2), (.int r1211), (.int p3)]) (st := []) rfl rfl (W := 0) (Nat.le_of_eq rfl) (by decide) (by decide) (by decide) (by decide) (allS (Or.inr z_a1218) (allS (Or.inr z_aE1237) (allS (Or.inr z_aL1238) (allS (Or.inr z_aK1239) (allS (Or.inr z_aS1240) (allS (Or.inr z_aN1241) (allS (Or.inr z_aP1242) (allS (Or.inr z_aR1243) all0)))))))) at_175 (pc' := 178) rfl fun T1272 h1273 v1274 X1275 K1276 Q1277 => ?_
    have F1278 := F1267.keep K1276 (ninS n1225 (ninS n1247 (ninS n1249 (ninS n1251 (ninS n1253 (ninS n1255 (ninS n1257 (ninS n1259 nin0))))))))
    have F1279 := F1268.keep K1276 (ninS n1226 (ninS n1248 (ninS n1250 (ninS n1252 (ninS n1254 (ninS n1256 (ninS n1258 (ninS n1260 nin0))))))))
    have E1280 := A1270.2.2.2.2.2.2.2.2.keep K1276
    obtain ⟨rfl, A1281⟩ := Q1277
    generalize (oSplit (1 : Int32) P1214f qf2 r1211 p3 fN2 (fN2 + (oseq (qb &&& qa) qq2).length) u1) = u2 at A1281 S2 N2
    obtain ⟨k2, cnt2, -⟩ := S2
    rw [← N2.1] at AL
    have R2 : u2.rs = ((oS0 (4 : Int32) 4).rs.set 1 p2).set 2 p3 := by rw [N2.2, N1.2, cnt1]; rfl
    obtain ⟨b1, b2, b3, b4, b5, b6, m0, m1, m2⟩ := AL
    show Go p e below _ _ _ _ T1272 (mkF m 178 #[.val (.int p0), .val (.int p1), .val (.int p2), .val (.int p3), .val (.int p4), .val (.int qa), .val (.int qq1), .val (.int qf1), .val (.int (1 : Int32)), .val (.int qa), .val (.int (qb &&& qa)), .val (.int qq2), .val (.int qf2), .val (.ref a1158), .val (.ref a1165), .val (.int r1199), .val (.int r1211), .val (.ref a1218), .val (.int (oS0 (4 : Int32) 4).cnt), .unset, .unset, .unset, .unset] [(.int u1.cnt)])
    refine gistore B X1275 at_178 (Ls' := #[.val (.int p0), .val (.int p1), .val (.int p2), .val (.int p3), .val (.int p4), .val (.int qa), .val (.int qq1), .val (.int qf1), .val (.int (1 : Int32)), .val (.int qa), .val (.int (qb &&& qa)), .val (.int qq2), .val (.int qf2), .val (.ref a1158), .val (.ref a1165), .val (.int r1199), .val (.int r1211), .val (.ref a1218), .val (.int (oS0 (4 : Int32) 4).cnt), .val (.int u1.cnt), .unset, .unset, .unset]) rfl (pc' := 180) rfl ?_
    refine giload B X1275 at_180 rfl (pc' := 182) rfl ?_
    refine giconst B X1275 at_182 (v := (1 : Int32)) rfl (pc' := 183) rfl ?_
    have c183_1283 : (oS0 (4 : Int32) 4).cnt = (1 : Int32) := rfl
    refine gicN B X1275 at_183 (teq c183_1283).2 (pc' := 186) rfl ?_
    refine giload B X1275 at_186 rfl (pc' := 188) rfl ?_
    refine giconst B X1275 at_188 (v := (2 : Int32)) rfl (pc' := 189) rfl ?_
    have c189_1284 : u1.cnt = (2 : Int32) := cnt1
    refine gicY B X1275 (pc' := 194) at_189 (teq c189_1284).1 (by decide) ?_
    refine gaload B X1275 at_194 rfl rfl (pc' := 196) rfl ?_
    refine giconst B X1275 at_196 (v := (1 : Int32)) rfl (pc' := 197) rfl ?_
    refine gcallV B X1275 A1281.1.1 (hw _ (List.mem_of_getElem? (i := 45) rfl)) (hw _ (List.mem_of_getElem? (i := 46) rfl)) (hw _ (List.mem_of_getElem? (i := 48) rfl)) (hw _ (List.mem_of_getElem? (i := 47) rfl)) (hw _ (List.mem_of_getElem? (i := 13) rfl)) (hw _ (List.mem_of_getElem? (i := 49) rfl)) rfl (by decide) (mt_parent l Z a0 hw a1218 (1 : Int32) aE1237 aL1238 aK1239 aS1240 aN1241 aP1242 aR1243 u2 4 4 h1273 ⟨A1281.1, A1281.2.1, A1281.2.2.1, A1281.2.2.2.1, A1281.2.2.2.2.1, A1281.2.2.2.2.2.1, A1281.2.2.2.2.2.2.1, A1281.2.2.2.2.2.2.2.1, A1281.2.2.2.2.2.2.2.2⟩ k2 (own_lit (a := 1) rfl (by decide))) pd__I_I rfl (argsL := [(.int (1 : Int32))]) (st := []) rfl rfl (W := 0) (Nat.le_of_eq rfl) (by decide) (by decide) (by decide) (by decide) (fun x q => nomatch q) at_197 (pc' := 200) rfl (pureG rfl rfl fun T1285 X1286 => ?_)
    have c200_1287 : (u2.ps.getD (1 : Int32).toNatClampNeg 0) = (0 : Int32) := b1
    refine gifN B X1286 at_200 ((if0 _ _).trans (teq c200_1287).2) (pc' := 203) rfl ?_
    refine gaload B X1286 at_203 rfl rfl (pc' := 205) rfl ?_
    refine giconst B X1286 at_205 (v := (1 : Int32)) rfl (pc' := 206) rfl ?_
    refine gcallV B X1286 A1281.1.1 (hw _ (List.mem_of_getElem? (i := 50) rfl)) (hw _ (List.mem_of_getElem? (i := 51) rfl)) (hw _ (List.mem_of_getElem? (i := 53) rfl)) (hw _ (List.mem_of_getElem? (i := 52) rfl)) (hw _ (List.mem_of_getElem? (i := 13) rfl)) (hw _ (List.mem_of_getElem? (i := 54) rfl)) rfl (by decide) (mt_round l Z a0 hw a1218 (1 : Int32) aE1237 aL1238 aK1239 aS1240 aN1241 aP1242 aR1243 u2 4 4 h1273 ⟨A1281.1, A1281.2.1, A1281.2.2.1, A1281.2.2.2.1, A1281.2.2.2.2.1, A1281.2.2.2.2.2.1, A1281.2.2.2.2.2.2.1, A1281.2.2.2.2.2.2.2.1, A1281.2.2.2.2.2.2.2.2⟩ k2 (own_lit (a := 1) rfl (by decide))) pd__I_I rfl (argsL := [(.int (1 : Int32))]) (st := []) rfl rfl (W := 0) (Nat.le_of_eq rfl) (by decide) (by decide) (by decide) (by decide) (fun x q => nomatch q) at_206 (pc' := 209) rfl (pureG rfl rfl fun T1288 X1289 => ?_)
    refine giloadN B X1289 at_209 rfl (pc' := 210) rfl ?_
    have c210_1290 : (u2.rs.getD (1 : Int32).toNatClampNeg 0) = p2 := by rw [R2]; rfl
    refine gicY B X1289 (pc' := 215) at_210 (teq c210_1290).1 (by decide) ?_
    refine gaload B X1289 at_215 rfl rfl (pc' := 217) rfl ?_
    refine giconst B X1289 at_217 (v := (2 : Int32)) rfl (pc' := 218) rfl ?_
    refine gcallV B X1289 A1281.1.1 (hw _ (List.mem_of_getElem? (i := 45) rfl)) (hw _ (List.mem_of_getElem? (i := 46) rfl)) (hw _ (List.mem_of_getElem? (i := 48) rfl)) (hw _ (List.mem_of_getElem? (i := 47) rfl)) (hw _ (List.mem_of_getElem? (i := 13) rfl)) (hw _ (List.mem_of_getElem? (i := 49) rfl)) rfl (by decide) (mt_parent l Z a0 hw a1218 (2 : Int32) aE1237 aL1238 aK1239 aS1240 aN1241 aP1242 aR1243 u2 4 4 h1273 ⟨A1281.1, A1281.2.1, A1281.2.2.1, A1281.2.2.2.1, A1281.2.2.2.2.1, A1281.2.2.2.2.2.1, A1281.2.2.2.2.2.2.1, A1281.2.2.2.2.2.2.2.1, A1281.2.2.2.2.2.2.2.2⟩ k2 (own_lit (a := 2) rfl (by decide))) pd__I_I rfl (argsL := [(.int (2 : Int32))]) (st := []) rfl rfl (W := 0) (Nat.le_of_eq rfl) (by decide) (by decide) (by decide) (by decide) (fun x q => nomatch q) at_218 (pc' := 221) rfl (pureG rfl rfl fun T1291 X1292 => ?_)
    refine giload B X1292 at_221 rfl (pc' := 223) rfl ?_
    have c223_1293 : (u2.ps.getD (2 : Int32).toNatClampNeg 0) = (1 : Int32) := b2
    refine gicN B X1292 at_223 (teq c223_1293).2 (pc' := 226) rfl ?_
    refine gaload B X1292 at_226 rfl rfl (pc' := 228) rfl ?_
    refine giconst B X1292 at_228 (v := (2 : Int32)) rfl (pc' := 229) rfl ?_
    refine gcallV B X1292 A1281.1.1 (hw _ (List.mem_of_getElem? (i := 50) rfl)) (hw _ (List.mem_of_getElem? (i := 51) rfl)) (hw _ (List.mem_of_getElem? (i := 53) rfl)) (hw _ (List.mem_of_getElem? (i := 52) rfl)) (hw _ (List.mem_of_getElem? (i := 13) rfl)) (hw _ (List.mem_of_getElem? (i := 54) rfl)) rfl (by decide) (mt_round l Z a0 hw a1218 (2 : Int32) aE1237 aL1238 aK1239 aS1240 aN1241 aP1242 aR1243 u2 4 4 h1273 ⟨A1281.1, A1281.2.1, A1281.2.2.1, A1281.2.2.2.1, A1281.2.2.2.2.1, A1281.2.2.2.2.2.1, A1281.2.2.2.2.2.2.1, A1281.2.2.2.2.2.2.2.1, A1281.2.2.2.2.2.2.2.2⟩ k2 (own_lit (a := 2) rfl (by decide))) pd__I_I rfl (argsL := [(.int (2 : Int32))]) (st := []) rfl rfl (W := 0) (Nat.le_of_eq rfl) (by decide) (by decide) (by decide) (by decide) (fun x q => nomatch q) at_229 (pc' := 232) rfl (pureG rfl rfl fun T1294 X1295 => ?_)
    refine giloadN B X1295 at_232 rfl (pc' := 233) rfl ?_
    have c233_1296 : (u2.rs.getD (2 : Int32).toNatClampNeg 0) = p3 := by rw [R2]; rfl
    refine gicY B X1295 (pc' := 238) at_233 (teq c233_1296).1 (by decide) ?_
    refine gaload B X1295 at_238 rfl rfl (pc' := 240) rfl ?_
    refine giconst B X1295 at_240 (v := (0 : Int32)) rfl (pc' := 241) rfl ?_
    refine gcallV B X1295 A1281.1.1 (hw _ (List.mem_of_getElem? (i := 55) rfl)) (hw _ (List.mem_of_getElem? (i := 56) rfl)) (hw _ (List.mem_of_getElem? (i := 58) rfl)) (hw _ (List.mem_of_getElem? (i := 57) rfl)) (hw _ (List.mem_of_getElem? (i := 13) rfl)) (hw _ (List.mem_of_getElem? (i := 59) rfl)) rfl (by decide) (mt_classOf l Z a0 hw a1218 (0 : Int32) aE1237 aL1238 aK1239 aS1240 aN1241 aP1242 aR1243 u2 4 4 h1273 ⟨A1281.1, A1281.2.1, A1281.2.2.1, A1281.2.2.2.1, A1281.2.2.2.2.1, A1281.2.2.2.2.2.1, A1281.2.2.2.2.2.2.1, A1281.2.2.2.2.2.2.2.1, A1281.2.2.2.2.2.2.2.2⟩ k2 (own_lit (a := 0) rfl (by decide))) pd__I_I rfl (argsL := [(.int (0 : Int32))]) (st := []) rfl rfl (W := 0) (Nat.le_of_eq rfl) (by decide) (by decide) (by decide) (by decide) (fun x q => nomatch q) at_241 (pc' := 244) rfl (pureG rfl rfl fun T1297 X1298 => ?_)
    refine giconst B X1298 at_244 (v := (0 : Int32)) rfl (pc' := 245) rfl ?_
    refine giload B X1298 at_245 rfl (pc' := 247) rfl ?_
    refine giload B X1298 at_247 rfl (pc' := 249) rfl ?_
    refine gcallS B X1298 (hw _ (List.mem_of_getElem? (i := 60) rfl)) (hw _ (List.mem_of_getElem? (i := 61) rfl)) (hw _ (List.mem_of_getElem? (i := 3) rfl)) (hw _ (List.mem_of_getElem? (i := 62) rfl)) (by decide) (mtexp l Z a0 hw (0 : Int32) qa (qb &&& qa)  h1273 ) pd__III_I rfl (argsL := [(.int (0 : Int32)), (.int qa), (.int (qb &&& qa))]) (st := [(.int (u2.cs.getD (0 : Int32).toNatClampNeg 0))]) rfl rfl (W := 1) (Nat.le_of_eq rfl) (by decide) (by decide) (by decide) (by decide) (fun x q => nomatch q) at_249 (pc' := 252) rfl (pureG rfl rfl fun T1299 X1300 => ?_)
    have c252_1301 : (u2.cs.getD (0 : Int32).toNatClampNeg 0) = (oexp (0 : Int32) qa (qb &&& qa)) := b3
    refine gicY B X1300 (pc' := 257) at_252 (teq c252_1301).1 (by decide) ?_
    refine gaload B X1300 at_257 rfl rfl (pc' := 259) rfl ?_
    refine giconst B X1300 at_259 (v := (1 : Int32)) rfl (pc' := 260) rfl ?_
    refine gcallV B X1300 A1281.1.1 (hw _ (List.mem_of_getElem? (i := 55) rfl)) (hw _ (List.mem_of_getElem? (i := 56) rfl)) (hw _ (List.mem_of_getElem? (i := 58) rfl)) (hw _ (List.mem_of_getElem? (i := 57) rfl)) (hw _ (List.mem_of_getElem? (i := 13) rfl)) (hw _ (List.mem_of_getElem? (i := 59) rfl)) rfl (by decide) (mt_classOf l Z a0 hw a1218 (1 : Int32) aE1237 aL1238 aK1239 aS1240 aN1241 aP1242 aR1243 u2 4 4 h1273 ⟨A1281.1, A1281.2.1, A1281.2.2.1, A1281.2.2.2.1, A1281.2.2.2.2.1, A1281.2.2.2.2.2.1, A1281.2.2.2.2.2.2.1, A1281.2.2.2.2.2.2.2.1, A1281.2.2.2.2.2.2.2.2⟩ k2 (own_lit (a := 1) rfl (by decide))) pd__I_I rfl (argsL := [(.int (1 : Int32))]) (st := []) rfl rfl (W := 0) (Nat.le_of_eq rfl) (by decide) (by decide) (by decide) (by decide) (fun x q => nomatch q) at_260 (pc' := 263) rfl (pureG rfl rfl fun T1302 X1303 => ?_)
    refine giconst B X1303 at_263 (v := (1 : Int32)) rfl (pc' := 264) rfl ?_
    refine giload B X1303 at_264 rfl (pc' := 266) rfl ?_
    refine giload B X1303 at_266 rfl (pc' := 268) rfl ?_
    refine gcallS B X1303 (hw _ (List.mem_of_getElem? (i := 60) rfl)) (hw _ (List.mem_of_getElem? (i := 61) rfl)) (hw _ (List.mem_of_getElem? (i := 3) rfl)) (hw _ (List.mem_of_getElem? (i := 62) rfl)) (by decide) (mtexp l Z a0 hw (1 : Int32) qa (qb &&& qa)  h1273 ) pd__III_I rfl (argsL := [(.int (1 : Int32)), (.int qa), (.int (qb &&& qa))]) (st := [(.int (u2.cs.getD (1 : Int32).toNatClampNeg 0))]) rfl rfl (W := 1) (Nat.le_of_eq rfl) (by decide) (by decide) (by decide) (by decide) (fun x q => nomatch q) at_268 (pc' := 271) rfl (pureG rfl rfl fun T1304 X1305 => ?_)
    have c271_1306 : (u2.cs.getD (1 : Int32).toNatClampNeg 0) = (oexp (1 : Int32) qa (qb &&& qa)) := b4
    refine gicY B X1305 (pc' := 276) at_271 (teq c271_1306).1 (by decide) ?_
    refine gaload B X1305 at_276 rfl rfl (pc' := 278) rfl ?_
    refine giconst B X1305 at_278 (v := (2 : Int32)) rfl (pc' := 279) rfl ?_
    refine gcallV B X1305 A1281.1.1 (hw _ (List.mem_of_getElem? (i := 55) rfl)) (hw _ (List.mem_of_getElem? (i := 56) rfl)) (hw _ (List.mem_of_getElem? (i := 58) rfl)) (hw _ (List.mem_of_getElem? (i := 57) rfl)) (hw _ (List.mem_of_getElem? (i := 13) rfl)) (hw _ (List.mem_of_getElem? (i := 59) rfl)) rfl (by decide) (mt_classOf l Z a0 hw a1218 (2 : Int32) aE1237 aL1238 aK1239 aS1240 aN1241 aP1242 aR1243 u2 4 4 h1273 ⟨A1281.1, A1281.2.1, A1281.2.2.1, A1281.2.2.2.1, A1281.2.2.2.2.1, A1281.2.2.2.2.2.1, A1281.2.2.2.2.2.2.1, A1281.2.2.2.2.2.2.2.1, A1281.2.2.2.2.2.2.2.2⟩ k2 (own_lit (a := 2) rfl (by decide))) pd__I_I rfl (argsL := [(.int (2 : Int32))]) (st := []) rfl rfl (W := 0) (Nat.le_of_eq rfl) (by decide) (by decide) (by decide) (by decide) (fun x q => nomatch q) at_279 (pc' := 282) rfl (pureG rfl rfl fun T1307 X1308 => ?_)
    refine giconst B X1308 at_282 (v := (2 : Int32)) rfl (pc' := 283) rfl ?_
    refine giload B X1308 at_283 rfl (pc' := 285) rfl ?_
    refine giload B X1308 at_285 rfl (pc' := 287) rfl ?_
    refine gcallS B X1308 (hw _ (List.mem_of_getElem? (i := 60) rfl)) (hw _ (List.mem_of_getElem? (i := 61) rfl)) (hw _ (List.mem_of_getElem? (i := 3) rfl)) (hw _ (List.mem_of_getElem? (i := 62) rfl)) (by decide) (mtexp l Z a0 hw (2 : Int32) qa (qb &&& qa)  h1273 ) pd__III_I rfl (argsL := [(.int (2 : Int32)), (.int qa), (.int (qb &&& qa))]) (st := [(.int (u2.cs.getD (2 : Int32).toNatClampNeg 0))]) rfl rfl (W := 1) (Nat.le_of_eq rfl) (by decide) (by decide) (by decide) (by decide) (fun x q => nomatch q) at_287 (pc' := 290) rfl (pureG rfl rfl fun T1309 X1310 => ?_)
    have c290_1311 : (u2.cs.getD (2 : Int32).toNatClampNeg 0) = (oexp (2 : Int32) qa (qb &&& qa)) := b5
    refine gicY B X1310 (pc' := 295) at_290 (teq c290_1311).1 (by decide) ?_
    refine gaload B X1310 at_295 rfl rfl (pc' := 297) rfl ?_
    refine giconst B X1310 at_297 (v := (3 : Int32)) rfl (pc' := 298) rfl ?_
    refine gcallV B X1310 A1281.1.1 (hw _ (List.mem_of_getElem? (i := 55) rfl)) (hw _ (List.mem_of_getElem? (i := 56) rfl)) (hw _ (List.mem_of_getElem? (i := 58) rfl)) (hw _ (List.mem_of_getElem? (i := 57) rfl)) (hw _ (List.mem_of_getElem? (i := 13) rfl)) (hw _ (List.mem_of_getElem? (i := 59) rfl)) rfl (by decide) (mt_classOf l Z a0 hw a1218 (3 : Int32) aE1237 aL1238 aK1239 aS1240 aN1241 aP1242 aR1243 u2 4 4 h1273 ⟨A1281.1, A1281.2.1, A1281.2.2.1, A1281.2.2.2.1, A1281.2.2.2.2.1, A1281.2.2.2.2.2.1, A1281.2.2.2.2.2.2.1, A1281.2.2.2.2.2.2.2.1, A1281.2.2.2.2.2.2.2.2⟩ k2 (own_lit (a := 3) rfl (by decide))) pd__I_I rfl (argsL := [(.int (3 : Int32))]) (st := []) rfl rfl (W := 0) (Nat.le_of_eq rfl) (by decide) (by decide) (by decide) (by decide) (fun x q => nomatch q) at_298 (pc' := 301) rfl (pureG rfl rfl fun T1312 X1313 => ?_)
    refine giconst B X1313 at_301 (v := (3 : Int32)) rfl (pc' := 302) rfl ?_
    refine giload B X1313 at_302 rfl (pc' := 304) rfl ?_
    refine giload B X1313 at_304 rfl (pc' := 306) rfl ?_
    refine gcallS B X1313 (hw _ (List.mem_of_getElem? (i := 60) rfl)) (hw _ (List.mem_of_getElem? (i := 61) rfl)) (hw _ (List.mem_of_getElem? (i := 3) rfl)) (hw _ (List.mem_of_getElem? (i := 62) rfl)) (by decide) (mtexp l Z a0 hw (3 : Int32) qa (qb &&& qa)  h1273 ) pd__III_I rfl (argsL := [(.int (3 : Int32)), (.int qa), (.int (qb &&& qa))]) (st := [(.int (u2.cs.getD (3 : Int32).toNatClampNeg 0))]) rfl rfl (W := 1) (Nat.le_of_eq rfl) (by decide) (by decide) (by decide) (by decide) (fun x q => nomatch q) at_306 (pc' := 309) rfl (pureG rfl rfl fun T1314 X1315 => ?_)
    have c309_1316 : (u2.cs.getD (3 : Int32).toNatClampNeg 0) = (oexp (3 : Int32) qa (qb &&& qa)) := b6
    refine gicY B X1315 (pc' := 314) at_309 (teq c309_1316).1 (by decide) ?_
    refine gbipush B X1315 at_314 (v := (15 : Int32)) rfl (pc' := 316) rfl ?_
    refine giload B X1315 at_316 rfl (pc' := 318) rfl ?_
    refine giconst B X1315 at_318 (v := (-1 : Int32)) rfl (pc' := 319) rfl ?_
    refine gixor B X1315 at_319 rfl (pc' := 320) rfl ?_
    refine giand B X1315 at_320 rfl (pc' := 321) rfl ?_
    refine giload B X1315 at_321 rfl (pc' := 323) rfl ?_
    refine giconst B X1315 at_323 (v := (-1 : Int32)) rfl (pc' := 324) rfl ?_
    refine gixor B X1315 at_324 rfl (pc' := 325) rfl ?_
    refine giand B X1315 at_325 rfl (pc' := 326) rfl ?_
    refine gistore B X1315 at_326 (Ls' := #[.val (.int p0), .val (.int p1), .val (.int p2), .val (.int p3), .val (.int p4), .val (.int qa), .val (.int qq1), .val (.int qf1), .val (.int (1 : Int32)), .val (.int qa), .val (.int (qb &&& qa)), .val (.int qq2), .val (.int qf2), .val (.ref a1158), .val (.ref a1165), .val (.int r1199), .val (.int r1211), .val (.ref a1218), .val (.int (oS0 (4 : Int32) 4).cnt), .val (.int u1.cnt), .val (.int (((15 : Int32) &&& (qa ^^^ (-1 : Int32))) &&& ((qb &&& qa) ^^^ (-1 : Int32)))), .unset, .unset]) rfl (pc' := 328) rfl ?_
    refine giload B X1315 at_328 rfl (pc' := 330) rfl ?_
    refine giload B X1315 at_330 rfl (pc' := 332) rfl ?_
    refine giconst B X1315 at_332 (v := (-1 : Int32)) rfl (pc' := 333) rfl ?_
    refine gixor B X1315 at_333 rfl (pc' := 334) rfl ?_
    refine giand B X1315 at_334 rfl (pc' := 335) rfl ?_
    refine gistore B X1315 at_335 (Ls' := #[.val (.int p0), .val (.int p1), .val (.int p2), .val (.int p3), .val (.int p4), .val (.int qa), .val (.int qq1), .val (.int qf1), .val (.int (1 : Int32)), .val (.int qa), .val (.int (qb &&& qa)), .val (.int qq2), .val (.int qf2), .val (.ref a1158), .val (.ref a1165), .val (.int r1199), .val (.int r1211), .val (.ref a1218), .val (.int (oS0 (4 : Int32) 4).cnt), .val (.int u1.cnt), .val (.int (((15 : Int32) &&& (qa ^^^ (-1 : Int32))) &&& ((qb &&& qa) ^^^ (-1 : Int32)))), .val (.int (qa &&& ((qb &&& qa) ^^^ (-1 : Int32)))), .unset]) rfl (pc' := 337) rfl ?_
    refine giload B X1315 at_337 rfl (pc' := 339) rfl ?_
    refine gistore B X1315 at_339 (Ls' := #[.val (.int p0), .val (.int p1), .val (.int p2), .val (.int p3), .val (.int p4), .val (.int qa), .val (.int qq1), .val (.int qf1), .val (.int (1 : Int32)), .val (.int qa), .val (.int (qb &&& qa)), .val (.int qq2), .val (.int qf2), .val (.ref a1158), .val (.ref a1165), .val (.int r1199), .val (.int r1211), .val (.ref a1218), .val (.int (oS0 (4 : Int32) 4).cnt), .val (.int u1.cnt), .val (.int (((15 : Int32) &&& (qa ^^^ (-1 : Int32))) &&& ((qb &&& qa) ^^^ (-1 : Int32)))), .val (.int (qa &&& ((qb &&& qa) ^^^ (-1 : Int32)))), .val (.int (qb &&& qa))]) rfl (pc' := 341) rfl ?_
    refine gaload B X1315 at_341 rfl rfl (pc' := 343) rfl ?_
    refine giconst B X1315 at_343 (v := (0 : Int32)) rfl (pc' := 344) rfl ?_
    refine gcallV B X1315 A1281.1.1 (hw _ (List.mem_of_getElem? (i := 63) rfl)) (hw _ (List.mem_of_getElem? (i := 64) rfl)) (hw _ (List.mem_of_getElem? (i := 66) rfl)) (hw _ (List.mem_of_getElem? (i := 65) rfl)) (hw _ (List.mem_of_getElem? (i := 13) rfl)) (hw _ (List.mem_of_getElem? (i := 67) rfl)) rfl (by decide) (mt12 l Z a0 hw a1218 (0 : Int32) aE1237 aL1238 aK1239 aS1240 aN1241 aP1242 aR1243 u2 (u2.ss.getD 0 0).toNatClampNeg (u2.ns.getD 0 0).toNatClampNeg h1273 ⟨A1281.1, A1281.2.1, A1281.2.2.1, A1281.2.2.2.1, A1281.2.2.2.2.1, A1281.2.2.2.2.2.1, A1281.2.2.2.2.2.2.1, A1281.2.2.2.2.2.2.2.1, A1281.2.2.2.2.2.2.2.2⟩ k2 (own_lit (a := 0) rfl (by decide)) (own_cl0 m0.1) (own_cl0 (Int.le_trans m0.1 m0.2.1)) (own_cl4 m0.1 m0.2.1 m0.2.2.1).1 (own_cl4 m0.1 m0.2.1 m0.2.2.1).2) pd__I__I rfl (argsL := [(.int (0 : Int32))]) (st := []) rfl rfl (W := 0) (Nat.le_of_eq rfl) (by decide) (by decide) (by decide) (by decide) (fun x q => nomatch q) at_344 (pc' := 347) rfl fun T1317 h1318 v1319 X1320 K1321 Q1322 => ?_
    have F1323 := F1278.keep K1321 nin0
    have F1324 := F1279.keep K1321 nin0
    have F1325 := A1281.1.keep K1321 nin0
    have E1326 := A1281.2.2.2.2.2.2.2.2.keep K1321
    have F1327 := A1281.2.1.keep K1321 nin0
    have F1328 := A1281.2.2.1.keep K1321 nin0
    have F1329 := A1281.2.2.2.1.keep K1321 nin0
    have F1330 := A1281.2.2.2.2.1.keep K1321 nin0
    have F1331 := A1281.2.2.2.2.2.1.keep K1321 nin0
    have F1332 := A1281.2.2.2.2.2.2.1.keep K1321 nin0
    have F1333 := A1281.2.2.2.2.2.2.2.1.keep K1321 nin0
    obtain ⟨b1334, rfl, y1335, A1336⟩ := Q1322
    have z_b1334 : h0.size ≤ b1334 := Nat.le_trans X1315.kept.1 y1335
    have n1337 : a1158 ≠ b1334 := Nat.ne_of_lt (Nat.lt_of_lt_of_le F1278.lt y1335)
    have n1338 : a1165 ≠ b1334 := Nat.ne_of_lt (Nat.lt_of_lt_of_le F1279.lt y1335)
    have n1339 : a1218 ≠ b1334 := Nat.ne_of_lt (Nat.lt_of_lt_of_le A1281.1.lt y1335)
    have n1340 : aE1237 ≠ b1334 := Nat.ne_of_lt (Nat.lt_of_lt_of_le A1281.2.1.lt y1335)
    have n1341 : aL1238 ≠ b1334 := Nat.ne_of_lt (Nat.lt_of_lt_of_le A1281.2.2.1.lt y1335)
    have n1342 : aK1239 ≠ b1334 := Nat.ne_of_lt (Nat.lt_of_lt_of_le A1281.2.2.2.1.lt y1335)
    have n1343 : aS1240 ≠ b1334 := Nat.ne_of_lt (Nat.lt_of_lt_of_le A1281.2.2.2.2.1.lt y1335)
    have n1344 : aN1241 ≠ b1334 := Nat.ne_of_lt (Nat.lt_of_lt_of_le A1281.2.2.2.2.2.1.lt y1335)
    have n1345 : aP1242 ≠ b1334 := Nat.ne_of_lt (Nat.lt_of_lt_of_le A1281.2.2.2.2.2.2.1.lt y1335)
    have n1346 : aR1243 ≠ b1334 := Nat.ne_of_lt (Nat.lt_of_lt_of_le A1281.2.2.2.2.2.2.2.1.lt y1335)
    show Go p e below _ _ _ _ T1317 (mkF m 347 #[.val (.int p0), .val (.int p1), .val (.int p2), .val (.int p3), .val (.int p4), .val (.int qa), .val (.int qq1), .val (.int qf1), .val (.int (1 : Int32)), .val (.int qa), .val (.int (qb &&& qa)), .val (.int qq2), .val (.int qf2), .val (.ref a1158), .val (.ref a1165), .val (.int r1199), .val (.int r1211), .val (.ref a1218), .val (.int (oS0 (4 : Int32) 4).cnt), .val (.int u1.cnt), .val (.int (((15 : Int32) &&& (qa ^^^ (-1 : Int32))) &&& ((qb &&& qa) ^^^ (-1 : Int32)))), .val (.int (qa &&& ((qb &&& qa) ^^^ (-1 : Int32)))), .val (.int (qb &&& qa))] [(.ref b1334)])
    refine giload B X1320 at_347 rfl (pc' := 349) rfl ?_
    have ml0 := own_subL u2.es (u2.ss.getD 0 0).toNatClampNeg (u2.ns.getD 0 0).toNatClampNeg (own_cl4 m0.1 m0.2.1 m0.2.2.1).2
    refine gcallS B X1320 (hw _ (List.mem_of_getElem? (i := 85) rfl)) (hw _ (List.mem_of_getElem? (i := 86) rfl)) (hw _ (List.mem_of_getElem? (i := 3) rfl)) (hw _ (List.mem_of_getElem? (i := 87) rfl)) (by decide) (mtsame l Z a0 hw b1334 (((15 : Int32) &&& (qa ^^^ (-1 : Int32))) &&& ((qb &&& qa) ^^^ (-1 : Int32))) ((osub u2.es (u2.ss.getD 0 0).toNatClampNeg (u2.ns.getD 0 0).toNatClampNeg).map Value.int) (osub u2.es (u2.ss.getD 0 0).toNatClampNeg (u2.ns.getD 0 0).toNatClampNeg).length (Int32.ofNat (osub u2.es (u2.ss.getD 0 0).toNatClampNeg (u2.ns.getD 0 0).toNatClampNeg).length) ((osub u2.es (u2.ss.getD 0 0).toNatClampNeg (u2.ns.getD 0 0).toNatClampNeg).getD 0 0) ((osub u2.es (u2.ss.getD 0 0).toNatClampNeg (u2.ns.getD 0 0).toNatClampNeg).getD 1 0) ((osub u2.es (u2.ss.getD 0 0).toNatClampNeg (u2.ns.getD 0 0).toNatClampNeg).getD 2 0) ((osub u2.es (u2.ss.getD 0 0).toNatClampNeg (u2.ns.getD 0 0).toNatClampNeg).getD 3 0) h1318 A1336 (List.length_map ..) (own_ofl ml0) (own_n4 ml0) (own_vi ml0 0 rfl) (own_vi ml0 1 rfl) (own_vi ml0 2 rfl) (own_vi ml0 3 rfl)) pd___II_Z rfl (argsL := [(.ref b1334), (.int (((15 : Int32) &&& (qa ^^^ (-1 : Int32))) &&& ((qb &&& qa) ^^^ (-1 : Int32))))]) (st := []) rfl rfl (W := 0) (Nat.le_of_eq rfl) (by decide) (by decide) (by decide) (by decide) (fun x q => nomatch q) at_349 (pc' := 352) rfl (pureG rfl rfl fun T1347 X1348 => ?_)
    have c352_1349 : ¬ ((osame (Int32.ofNat (osub u2.es (u2.ss.getD 0 0).toNatClampNeg (u2.ns.getD 0 0).toNatClampNeg).length) ((osub u2.es (u2.ss.getD 0 0).toNatClampNeg (u2.ns.getD 0 0).toNatClampNeg).getD 0 0) ((osub u2.es (u2.ss.getD 0 0).toNatClampNeg (u2.ns.getD 0 0).toNatClampNeg).getD 1 0) ((osub u2.es (u2.ss.getD 0 0).toNatClampNeg (u2.ns.getD 0 0).toNatClampNeg).getD 2 0) ((osub u2.es (u2.ss.getD 0 0).toNatClampNeg (u2.ns.getD 0 0).toNatClampNeg).getD 3 0) (((15 : Int32) &&& (qa ^^^ (-1 : Int32))) &&& ((qb &&& qa) ^^^ (-1 : Int32)))) = (0 : Int32)) := fun q => absurd (m0.2.2.2.symm.trans q) (by decide)
    refine gifN B X1348 at_352 ((if0 _ _).trans (feq c352_1349).1) (pc' := 355) rfl ?_
    refine gaload B X1348 at_355 rfl rfl (pc' := 357) rfl ?_
    refine giconst B X1348 at_357 (v := (1 : Int32)) rfl (pc' := 358) rfl ?_
    refine gcallV B X1348 F1325.1 (hw _ (List.mem_of_getElem? (i := 63) rfl)) (hw _ (List.mem_of_getElem? (i := 64) rfl)) (hw _ (List.mem_of_getElem? (i := 66) rfl)) (hw _ (List.mem_of_getElem? (i := 65) rfl)) (hw _ (List.mem_of_getElem? (i := 13) rfl)) (hw _ (List.mem_of_getElem? (i := 67) rfl)) rfl (by decide) (mt12 l Z a0 hw a1218 (1 : Int32) aE1237 aL1238 aK1239 aS1240 aN1241 aP1242 aR1243 u2 (u2.ss.getD 1 0).toNatClampNeg (u2.ns.getD 1 0).toNatClampNeg h1318 ⟨F1325, F1327, F1328, F1329, F1330, F1331, F1332, F1333, E1326⟩ k2 (own_lit (a := 1) rfl (by decide)) (own_cl0 m1.1) (own_cl0 (Int.le_trans m1.1 m1.2.1)) (own_cl4 m1.1 m1.2.1 m1.2.2.1).1 (own_cl4 m1.1 m1.2.1 m1.2.2.1).2) pd__I__I rfl (argsL := [(.int (1 : Int32))]) (st := []) rfl rfl (W := 0) (Nat.le_of_eq rfl) (by decide) (by decide) (by decide) (by decide) (fun x q => nomatch q) at_358 (pc' := 361) rfl fun T1350 h1351 v1352 X1353 K1354 Q1355 => ?_
    have F1356 := F1323.keep K1354 nin0
    have F1357 := F1324.keep K1354 nin0
    have F1358 := F1325.keep K1354 nin0
    have E1359 := E1326.keep K1354
    have F1360 := F1327.keep K1354 nin0
    have F1361 := F1328.keep K1354 nin0
    have F1362 := F1329.keep K1354 nin0
    have F1363 := F1330.keep K1354 nin0
    have F1364 := F1331.keep K1354 nin0
    have F1365 := F1332.keep K1354 nin0
    have F1366 := F1333.keep K1354 nin0
    have F1367 := A1336.keep K1354 nin0
    obtain ⟨b1368, rfl, y1369, A1370⟩ := Q1355
    have z_b1368 : h0.size ≤ b1368 := Nat.le_trans X1348.kept.1 y1369
    have n1371 : a1158 ≠ b1368 := Nat.ne_of_lt (Nat.lt_of_lt_of_le F1323.lt y1369)
    have n1372 : a1165 ≠ b1368 := Nat.ne_of_lt (Nat.lt_of_lt_of_le F1324.lt y1369)
    have n1373 : a1218 ≠ b1368 := Nat.ne_of_lt (Nat.lt_of_lt_of_le F1325.lt y1369)
    have n1374 : aE1237 ≠ b1368 := Nat.ne_of_lt (Nat.lt_of_lt_of_le F1327.lt y1369)
    have n1375 : aL1238 ≠ b1368 := Nat.ne_of_lt (Nat.lt_of_lt_of_le F1328.lt y1369)
    have n1376 : aK1239 ≠ b1368 := Nat.ne_of_lt (Nat.lt_of_lt_of_le F1329.lt y1369)
    have n1377 : aS1240 ≠ b1368 := Nat.ne_of_lt (Nat.lt_of_lt_of_le F1330.lt y1369)
    have n1378 : aN1241 ≠ b1368 := Nat.ne_of_lt (Nat.lt_of_lt_of_le F1331.lt y1369)
    have n1379 : aP1242 ≠ b1368 := Nat.ne_of_lt (Nat.lt_of_lt_of_le F1332.lt y1369)
    have n1380 : aR1243 ≠ b1368 := Nat.ne_of_lt (Nat.lt_of_lt_of_le F1333.lt y1369)
    have n1381 : b1334 ≠ b1368 := Nat.ne_of_lt (Nat.lt_of_lt_of_le A1336.lt y1369)
    show Go p e below _ _ _ _ T1350 (mkF m 361 #[.val (.int p0), .val (.int p1), .val (.int p2), .val (.int p3), .val (.int p4), .val (.int qa), .val (.int qq1), .val (.int qf1), .val (.int (1 : Int32)), .val (.int qa), .val (.int (qb &&& qa)), .val (.int qq2), .val (.int qf2), .val (.ref a1158), .val (.ref a1165), .val (.int r1199), .val (.int r1211), .val (.ref a1218), .val (.int (oS0 (4 : Int32) 4).cnt), .val (.int u1.cnt), .val (.int (((15 : Int32) &&& (qa ^^^ (-1 : Int32))) &&& ((qb &&& qa) ^^^ (-1 : Int32)))), .val (.int (qa &&& ((qb &&& qa) ^^^ (-1 : Int32)))), .val (.int (qb &&& qa))] [(.ref b1368)])
    refine giload B X1353 at_361 rfl (pc' := 363) rfl ?_
    have ml1 := own_subL u2.es (u2.ss.getD 1 0).toNatClampNeg (u2.ns.getD 1 0).toNatClampNeg (own_cl4 m1.1 m1.2.1 m1.2.2.1).2
    refine gcallS B X1353 (hw _ (List.mem_of_getElem? (i := 85) rfl)) (hw _ (List.mem_of_getElem? (i := 86) rfl)) (hw _ (List.mem_of_getElem? (i := 3) rfl)) (hw _ (List.mem_of_getElem? (i := 87) rfl)) (by decide) (mtsame l Z a0 hw b1368 (qa &&& ((qb &&& qa) ^^^ (-1 : Int32))) ((osub u2.es (u2.ss.getD 1 0).toNatClampNeg (u2.ns.getD 1 0).toNatClampNeg).map Value.int) (osub u2.es (u2.ss.getD 1 0).toNatClampNeg (u2.ns.getD 1 0).toNatClampNeg).length (Int32.ofNat (osub u2.es (u2.ss.getD 1 0).toNatClampNeg (u2.ns.getD 1 0).toNatClampNeg).length) ((osub u2.es (u2.ss.getD 1 0).toNatClampNeg (u2.ns.getD 1 0).toNatClampNeg).getD 0 0) ((osub u2.es (u2.ss.getD 1 0).toNatClampNeg (u2.ns.getD 1 0).toNatClampNeg).getD 1 0) ((osub u2.es (u2.ss.getD 1 0).toNatClampNeg (u2.ns.getD 1 0).toNatClampNeg).getD 2 0) ((osub u2.es (u2.ss.getD 1 0).toNatClampNeg (u2.ns.getD 1 0).toNatClampNeg).getD 3 0) h1351 A1370 (List.length_map ..) (own_ofl ml1) (own_n4 ml1) (own_vi ml1 0 rfl) (own_vi ml1 1 rfl) (own_vi ml1 2 rfl) (own_vi ml1 3 rfl)) pd___II_Z rfl (argsL := [(.ref b1368), (.int (qa &&& ((qb &&& qa) ^^^ (-1 : Int32))))]) (st := []) rfl rfl (W := 0) (Nat.le_of_eq rfl) (by decide) (by decide) (by decide) (by decide) (fun x q => nomatch q) at_363 (pc' := 366) rfl (pureG rfl rfl fun T1382 X1383 => ?_)
    have c366_1384 : ¬ ((osame (Int32.ofNat (osub u2.es (u2.ss.getD 1 0).toNatClampNeg (u2.ns.getD 1 0).toNatClampNeg).length) ((osub u2.es (u2.ss.getD 1 0).toNatClampNeg (u2.ns.getD 1 0).toNatClampNeg).getD 0 0) ((osub u2.es (u2.ss.getD 1 0).toNatClampNeg (u2.ns.getD 1 0).toNatClampNeg).getD 1 0) ((osub u2.es (u2.ss.getD 1 0).toNatClampNeg (u2.ns.getD 1 0).toNatClampNeg).getD 2 0) ((osub u2.es (u2.ss.getD 1 0).toNatClampNeg (u2.ns.getD 1 0).toNatClampNeg).getD 3 0) (qa &&& ((qb &&& qa) ^^^ (-1 : Int32)))) = (0 : Int32)) := fun q => absurd (m1.2.2.2.symm.trans q) (by decide)
    refine gifN B X1383 at_366 ((if0 _ _).trans (feq c366_1384).1) (pc' := 369) rfl ?_
    refine gaload B X1383 at_369 rfl rfl (pc' := 371) rfl ?_
    refine giconst B X1383 at_371 (v := (2 : Int32)) rfl (pc' := 372) rfl ?_
    refine gcallV B X1383 F1358.1 (hw _ (List.mem_of_getElem? (i := 63) rfl)) (hw _ (List.mem_of_getElem? (i := 64) rfl)) (hw _ (List.mem_of_getElem? (i := 66) rfl)) (hw _ (List.mem_of_getElem? (i := 65) rfl)) (hw _ (List.mem_of_getElem? (i := 13) rfl)) (hw _ (List.mem_of_getElem? (i := 67) rfl)) rfl (by decide) (mt12 l Z a0 hw a1218 (2 : Int32) aE1237 aL1238 aK1239 aS1240 aN1241 aP1242 aR1243 u2 (u2.ss.getD 2 0).toNatClampNeg (u2.ns.getD 2 0).toNatClampNeg h1351 ⟨F1358, F1360, F1361, F1362, F1363, F1364, F1365, F1366, E1359⟩ k2 (own_lit (a := 2) rfl (by decide)) (own_cl0 m2.1) (own_cl0 (Int.le_trans m2.1 m2.2.1)) (own_cl4 m2.1 m2.2.1 m2.2.2.1).1 (own_cl4 m2.1 m2.2.1 m2.2.2.1).2) pd__I__I rfl (argsL := [(.int (2 : Int32))]) (st := []) rfl rfl (W := 0) (Nat.le_of_eq rfl) (by decide) (by decide) (by decide) (by decide) (fun x q => nomatch q) at_372 (pc' := 375) rfl fun T1385 h1386 v1387 X1388 K1389 Q1390 => ?_
    have F1391 := F1356.keep K1389 nin0
    have F1392 := F1357.keep K1389 nin0
    have F1393 := F1358.keep K1389 nin0
    have E1394 := E1359.keep K1389
    have F1395 := F1360.keep K1389 nin0
    have F1396 := F1361.keep K1389 nin0
    have F1397 := F1362.keep K1389 nin0
    have F1398 := F1363.keep K1389 nin0
    have F1399 := F1364.keep K1389 nin0
    have F1400 := F1365.keep K1389 nin0
    have F1401 := F1366.keep K1389 nin0
    have F1402 := F1367.keep K1389 nin0
    have F1403 := A1370.keep K1389 nin0
    obtain ⟨b1404, rfl, y1405, A1406⟩ := Q1390
    have z_b1404 : h0.size ≤ b1404 := Nat.le_trans X1383.kept.1 y1405
    have n1407 : a1158 ≠ b1404 := Nat.ne_of_lt (Nat.lt_of_lt_of_le F1356.lt y1405)
    have n1408 : a1165 ≠ b1404 := Nat.ne_of_lt (Nat.lt_of_lt_of_le F1357.lt y1405)
    have n1409 : a1218 ≠ b1404 := Nat.ne_of_lt (Nat.lt_of_lt_of_le F1358.lt y1405)
    have n1410 : aE1237 ≠ b1404 := Nat.ne_of_lt (Nat.lt_of_lt_of_le F1360.lt y1405)
    have n1411 : aL1238 ≠ b1404 := Nat.ne_of_lt (Nat.lt_of_lt_of_le F1361.lt y1405)
    have n1412 : aK1239 ≠ b1404 := Nat.ne_of_lt (Nat.lt_of_lt_of_le F1362.lt y1405)
    have n1413 : aS1240 ≠ b1404 := Nat.ne_of_lt (Nat.lt_of_lt_of_le F1363.lt y1405)
    have n1414 : aN1241 ≠ b1404 := Nat.ne_of_lt (Nat.lt_of_lt_of_le F1364.lt y1405)
    have n1415 : aP1242 ≠ b1404 := Nat.ne_of_lt (Nat.lt_of_lt_of_le F1365.lt y1405)
    have n1416 : aR1243 ≠ b1404 := Nat.ne_of_lt (Nat.lt_of_lt_of_le F1366.lt y1405)
    have n1417 : b1334 ≠ b1404 := Nat.ne_of_lt (Nat.lt_of_lt_of_le F1367.lt y1405)
    have n1418 : b1368 ≠ b1404 := Nat.ne_of_lt (Nat.lt_of_lt_of_le A1370.lt y1405)
    show Go p e below _ _ _ _ T1385 (mkF m 375 #[.val (.int p0), .val (.int p1), .val (.int p2), .val (.int p3), .val (.int p4), .val (.int qa), .val (.int qq1), .val (.int qf1), .val (.int (1 : Int32)), .val (.int qa), .val (.int (qb &&& qa)), .val (.int qq2), .val (.int qf2), .val (.ref a1158), .val (.ref a1165), .val (.int r1199), .val (.int r1211), .val (.ref a1218), .val (.int (oS0 (4 : Int32) 4).cnt), .val (.int u1.cnt), .val (.int (((15 : Int32) &&& (qa ^^^ (-1 : Int32))) &&& ((qb &&& qa) ^^^ (-1 : Int32)))), .val (.int (qa &&& ((qb &&& qa) ^^^ (-1 : Int32)))), .val (.int (qb &&& qa))] [(.ref b1404)])
    refine giload B X1388 at_375 rfl (pc' := 377) rfl ?_
    have ml2 := own_subL u2.es (u2.ss.getD 2 0).toNatClampNeg (u2.ns.getD 2 0).toNatClampNeg (own_cl4 m2.1 m2.2.1 m2.2.2.1).2
    refine gcallS B X1388 (hw _ (List.mem_of_getElem? (i := 85) rfl)) (hw _ (List.mem_of_getElem? (i := 86) rfl)) (hw _ (List.mem_of_getElem? (i := 3) rfl)) (hw _ (List.mem_of_getElem? (i := 87) rfl)) (by decide) (mtsame l Z a0 hw b1404 (qb &&& qa) ((osub u2.es (u2.ss.getD 2 0).toNatClampNeg (u2.ns.getD 2 0).toNatClampNeg).map Value.int) (osub u2.es (u2.ss.getD 2 0).toNatClampNeg (u2.ns.getD 2 0).toNatClampNeg).length (Int32.ofNat (osub u2.es (u2.ss.getD 2 0).toNatClampNeg (u2.ns.getD 2 0).toNatClampNeg).length) ((osub u2.es (u2.ss.getD 2 0).toNatClampNeg (u2.ns.getD 2 0).toNatClampNeg).getD 0 0) ((osub u2.es (u2.ss.getD 2 0).toNatClampNeg (u2.ns.getD 2 0).toNatClampNeg).getD 1 0) ((osub u2.es (u2.ss.getD 2 0).toNatClampNeg (u2.ns.getD 2 0).toNatClampNeg).getD 2 0) ((osub u2.es (u2.ss.getD 2 0).toNatClampNeg (u2.ns.getD 2 0).toNatClampNeg).getD 3 0) h1386 A1406 (List.length_map ..) (own_ofl ml2) (own_n4 ml2) (own_vi ml2 0 rfl) (own_vi ml2 1 rfl) (own_vi ml2 2 rfl) (own_vi ml2 3 rfl)) pd___II_Z rfl (argsL := [(.ref b1404), (.int (qb &&& qa))]) (st := []) rfl rfl (W := 0) (Nat.le_of_eq rfl) (by decide) (by decide) (by decide) (by decide) (fun x q => nomatch q) at_377 (pc' := 380) rfl (pureG rfl rfl fun T1419 X1420 => ?_)
    have c380_1421 : ¬ ((osame (Int32.ofNat (osub u2.es (u2.ss.getD 2 0).toNatClampNeg (u2.ns.getD 2 0).toNatClampNeg).length) ((osub u2.es (u2.ss.getD 2 0).toNatClampNeg (u2.ns.getD 2 0).toNatClampNeg).getD 0 0) ((osub u2.es (u2.ss.getD 2 0).toNatClampNeg (u2.ns.getD 2 0).toNatClampNeg).getD 1 0) ((osub u2.es (u2.ss.getD 2 0).toNatClampNeg (u2.ns.getD 2 0).toNatClampNeg).getD 2 0) ((osub u2.es (u2.ss.getD 2 0).toNatClampNeg (u2.ns.getD 2 0).toNatClampNeg).getD 3 0) (qb &&& qa)) = (0 : Int32)) := fun q => absurd (m2.2.2.2.symm.trans q) (by decide)
    refine gifN B X1420 at_380 ((if0 _ _).trans (feq c380_1421).1) (pc' := 383) rfl ?_
    refine giconst B X1420 at_383 (v := (1 : Int32)) rfl (pc' := 384) rfl ?_
    refine ggoto B X1420 (pc' := 388) at_384 (by decide) ?_
    exact gretN B X1420 (z' := (1 : Int32)) (by simp) (rfl) at_388 (by decide) (by decide) (rfl)
set_option maxRecDepth 65536 in
set_option maxHeartbeats 4000000 in
theorem comes_1 {Post : Tables → Env → Array Value → State → Outcome → State → Prop} (hpost : ∀ tb e args s v u, (limb_1_1.after args s (.returned v) u = true ∧ limb_1_2.after args s (.returned v) u = true ∧ True) → FrameEnd s (.returned v) u (Jvm.fieldLocs frame_1_writes args s ++ Jvm.arrayLocs frame_1_arrays args s ++ Jvm.staticLocs frame_1_statics s) 40 192 → Post tb e args s (.returned v) u) :
    ArmFor flags0 classFile x code maxLocals ret World_1 tables_1 room_1 Calls_1 rest_1 Pre_1 Post := by
  intro l hfl _ _ p e ha hc hk s m args below hf hA hF happ hP
  obtain ⟨hcalls, hrest, hpre⟩ := hP
  obtain ⟨-, -, -, hnamed, -, -, -, hat⟩ := (Spec.applies_iff hf).mp happ
  obtain ⟨hg, hn⟩ := and_e (Cond.before_iff.mp (show (Jvm.Cond.and given_1 narrow_1).before args s = true from hpre))
  obtain ⟨g2, g3⟩ := and_e hg
  obtain ⟨g4, g5⟩ := and_e g3
  obtain ⟨g6, g7⟩ := and_e g5
  obtain ⟨g8, g9⟩ := and_e g7
  obtain ⟨g10, g11⟩ := and_e g9
  obtain ⟨w0, w1, w2, w3, w4, rfl⟩ : ∃ w0 w1 w2 w3 w4 : Value, args = #[w0, w1, w2, w3, w4] := by
    have hs : args.size = 5 := by simpa [Cond.value, given_1] using g2
    obtain ⟨L⟩ := args
    match L, hs with
    | [w0, w1, w2, w3, w4], _ => exact ⟨w0, w1, w2, w3, w4, rfl⟩
  have hw := fun d (hd : d ∈ tables_1) => atoms_spec (ws := Jvm.Cond.code x code maxLocals ret :: tables_1) hat d (List.mem_cons_of_mem _ hd)
  obtain ⟨i0, ei0⟩ := is_v g4
  obtain rfl : w0 = (.int i0) := Option.some.inj ei0
  obtain ⟨i1, ei1⟩ := is_v g6
  obtain rfl : w1 = (.int i1) := Option.some.inj ei1
  obtain ⟨i2, ei2⟩ := is_v g8
  obtain rfl : w2 = (.int i2) := Option.some.inj ei2
  obtain ⟨i3, ei3⟩ := is_v g10
  obtain rfl : w3 = (.int i3) := Option.some.inj ei3
  obtain ⟨i4, ei4⟩ := is_v g11
  obtain rfl : w4 = (.int i4) := Option.some.inj ei4
  obtain ⟨n, o, h1, h2, h3, _, L, rfl, ⟨rfl, N, N2⟩, hq⟩ := mt0 l s _ hw i0 i1 i2 i3 i4 s.heap tables_1 p e ha hc hk s m _ below hf ((Spec.applies_iff_loose hf).mp happ).1 ⟨rfl, State.Warmed39.refl s, rfl⟩ trivial
  refine ⟨n, _, h1, h2, h3, hpost _ _ _ _ _ _ ⟨Cond.after_iff.mpr rfl, Cond.after_iff.mpr (eq_i res_at (Term.int_eval (1)) rfl), trivial⟩ ⟨hq.1, hq.2.1, (hq.2.2.sift fun y hy => Or.inr ((N2 y hy).elim (fun z => nomatch z) id)).mono (by decide) (by decide)⟩⟩
theorem main_1_1 : Claimed_1_1 := comes_1 fun _ _ _ _ _ _ h hF => ⟨h.1, hF⟩
theorem main_1_2 : Claimed_1_2 := comes_1 fun _ _ _ _ _ _ h hF => ⟨h.2.1, hF⟩
end Jvm.Pilot.@@N@@
namespace Jvm.Pilot.@@N@@
open Jvm Jvm.ClassFile Sem Op Lib Jvm.Free Jvm.Stand Jvm.Pilot.@@N@@.Jvm.D
/-! MADE BY PROGRAM (witnessworld.py) out of the Statement's table words and the real class files: 12 classes; the members and pool entries that the words name. The judged class is class 1, her method 1. -/
namespace start1
open Jvm.ClassFile
def u (s : String) : CpInfo := .utf8 (stringToUtf16 s)
/-- a pool by its gaps: so many unusable entries, then the entry; so many at the end -/
def gap : Nat → List CpInfo → List CpInfo
  | 0, r => r
  | n + 1, r => .unusable :: gap n r
def poolList (es : List (Nat × CpInfo)) (last : Nat) : List CpInfo := es.foldr (fun e r => gap e.1 (e.2 :: r)) (gap last [])
def pool (es : List (Nat × CpInfo)) (last : Nat) : Array CpInfo := ⟨poolList es last⟩
def fileOf (pool : Array CpInfo) (this : Nat) (attrs : Array Attribute := #[]) (ms : Array MethodInfo := #[]) (fl : Nat := 33) (sup : Nat := 0) (ifs : Array Nat := #[]) (fds : Array FieldInfo := #[]) : ClassFile where
  minorVersion := 0
  majorVersion := 65
  constantPool := pool
  accessFlags := fl
  thisClass := this
  superClass := sup
  interfaces := ifs
  fields := fds
  methods := ms
  attributes := attrs
def plain (name : String) (sup : Option ClassId) : Class where
  name := name
  kind := .ordinary
  loader := none
  accessFlags := 33
  super := sup
  interfaces := #[]
  cf := none
  fields := #[]
  methods := #[]
  instanceTypes := #[]
  staticTypes := #[]
  resolved := #[]
  callSites := []
  init := .initialized
  statics := none
  mirror := none

def pool0 : Array CpInfo := pool [(5, u "<init>"), (0, u "()V"), (1, .class_ 10), (1, u "java/lang/Object"), (85, u "clone"), (0, u "()Ljava/lang/Object;")] 26

def k0c0 : Code := { maxStack := 0, maxLocals := 1, code := object_method_1_code, exceptionTable := #[], attributes := #[] }
def k0m0 : Method := { name := "<init>", desc := "()V", sig := { parameters := [], returnType := none }, accessFlags := 1, code := some k0c0 }
def k0m1 : Method := { name := "clone", desc := "()Ljava/lang/Object;", sig := { parameters := [], returnType := some (.object "java/lang/Object") }, accessFlags := 260, code := none }
/-- java/lang/Object -/
def k0 : Class := { plain "java/lang/Object" none with
  accessFlags := 33
  interfaces := #[]
  cf := some (fileOf pool0 8 #[] #[{ accessFlags := 1, nameIndex := 5, descriptorIndex := 6, attributes := #[] }, { accessFlags := 260, nameIndex := 96, descriptorIndex := 97, attributes := #[] }] 33 0 #[] #[])
  fields := #[]
  methods := #[k0m0, k0m1]
  instanceTypes := #[]
  staticTypes := #[]
  resolved := Array.replicate 124 none
  statics := none }

def pool1 : Array CpInfo := pool [(2, .class_ 4), (1, u "java/lang/Object"), (0, u "<init>"), (0, u "()V"), (0, .methodref 8 9), (0, .class_ 10), (0, .nameAndType 11 12), (0, u "com/example/bisim_for_markov/bisimformarkov/analysis/PartitionSplitPinLaw"), (0, u "fillPads"), (0, u "([II)V"), (0, .methodref 8 14), (0, .nameAndType 15 16), (0, u "place"), (0, u "([IIII)I"), (0, .class_ 18), (0, u "com/example/bisim_for_markov/bisimformarkov/analysis/Partition"), (0, .methodref 17 20), (0, .nameAndType 5 21), (0, u "(I)V"), (0, .methodref 17 23), (0, .nameAndType 24 25), (0, u "split"), (0, u "(I[IIII)I"), (0, .methodref 17 27), (0, .nameAndType 28 29), (0, u "parent"), (0, u "(I)I"), (0, .methodref 17 31), (0, .nameAndType 32 29), (0, u "round"), (0, .methodref 17 34), (0, .nameAndType 35 29), (0, u "classOf"), (0, .methodref 8 37), (0, .nameAndType 38 39), (0, u "expected"), (0, u "(III)I"), (0, .methodref 17 41), (0, .nameAndType 42 43), (0, u "members"), (0, u "(I)[I"), (0, .methodref 8 45), (0, .nameAndType 46 47), (0, u "sameSet"), (0, u "([II)Z"), (0, .methodref 8 49), (0, .nameAndType 50 16), (0, u "put"), (0, .methodref 8 52), (0, .nameAndType 53 54), (0, u "addSeen"), (0, u "(II)I"), (2, u "law"), (0, u "(IIIII)Z")] 5

def k1m0 : Method := { name := "<init>", desc := "()V", sig := { parameters := [], returnType := none }, accessFlags := 1, code := none }
def k1c1 : Code := { maxStack := 6, maxLocals := 23, code := code, exceptionTable := #[], attributes := #[] }
def k1m1 : Method := { name := "law", desc := "(IIIII)Z", sig := { parameters := [.int, .int, .int, .int, .int], returnType := some .boolean }, accessFlags := 9, code := some k1c1 }
def k1c2 : Code := { maxStack := 2, maxLocals := 3, code := method_3_code, exceptionTable := #[], attributes := #[] }
def k1m2 : Method := { name := "expected", desc := "(III)I", sig := { parameters := [.int, .int, .int], returnType := some .int }, accessFlags := 10, code := some k1c2 }
def k1c3 : Code := { maxStack := 4, maxLocals := 2, code := method_4_code, exceptionTable := #[], attributes := #[] }
def k1m3 : Method := { name := "fillPads", desc := "([II)V", sig := { parameters := [(.array .int), .int], returnType := none }, accessFlags := 10, code := some k1c3 }
def k1c4 : Code := { maxStack := 3, maxLocals := 4, code := method_5_code, exceptionTable := #[], attributes := #[] }
def k1m4 : Method := { name := "put", desc := "([IIII)I", sig := { parameters := [(.array .int), .int, .int, .int], returnType := some .int }, accessFlags := 10, code := some k1c4 }
def k1c5 : Code := { maxStack := 5, maxLocals := 5, code := method_6_code, exceptionTable := #[], attributes := #[] }
def k1m5 : Method := { name := "place", desc := "([IIII)I", sig := { parameters := [(.array .int), .int, .int, .int], returnType := some .int }, accessFlags := 10, code := some k1c5 }
def k1c6 : Code := { maxStack := 2, maxLocals := 3, code := method_7_code, exceptionTable := #[], attributes := #[] }
def k1m6 : Method := { name := "addSeen", desc := "(II)I", sig := { parameters := [.int, .int], returnType := some .int }, accessFlags := 10, code := some k1c6 }
def k1c7 : Code := { maxStack := 3, maxLocals := 3, code := method_8_code, exceptionTable := #[], attributes := #[] }
def k1m7 : Method := { name := "sameSet", desc := "([II)Z", sig := { parameters := [(.array .int), .int], returnType := some .boolean }, accessFlags := 10, code := some k1c7 }
/-- com/example/bisim_for_markov/bisimformarkov/analysis/PartitionSplitPinLaw -/
def k1 : Class := { plain "com/example/bisim_for_markov/bisimformarkov/analysis/PartitionSplitPinLaw" (some 0) with
  accessFlags := 49
  interfaces := #[]
  cf := some (fileOf pool1 8 #[] #[{ accessFlags := 1, nameIndex := 5, descriptorIndex := 6, attributes := #[] }, { accessFlags := 9, nameIndex := 57, descriptorIndex := 58, attributes := #[] }, { accessFlags := 10, nameIndex := 38, descriptorIndex := 39, attributes := #[] }, { accessFlags := 10, nameIndex := 11, descriptorIndex := 12, attributes := #[] }, { accessFlags := 10, nameIndex := 50, descriptorIndex := 16, attributes := #[] }, { accessFlags := 10, nameIndex := 15, descriptorIndex := 16, attributes := #[] }, { accessFlags := 10, nameIndex := 53, descriptorIndex := 54, attributes := #[] }, { accessFlags := 10, nameIndex := 46, descriptorIndex := 47, attributes := #[] }] 49 2 #[] #[])
  fields := #[]
  methods := #[k1m0, k1m1, k1m2, k1m3, k1m4, k1m5, k1m6, k1m7]
  instanceTypes := #[]
  staticTypes := #[]
  resolved := Array.replicate 64 none
  statics := none }

def pool2 : Array CpInfo := pool [(1, .methodref 2 3), (0, .class_ 4), (0, .nameAndType 5 6), (0, u "java/lang/Object"), (0, u "<init>"), (0, u "()V"), (0, .fieldref 8 9), (0, .class_ 10), (0, .nameAndType 11 12), (0, u "com/example/bisim_for_markov/bisimformarkov/analysis/Partition"), (0, u "elements"), (0, u "[I"), (0, .fieldref 8 14), (0, .nameAndType 15 12), (0, u "location"), (0, .fieldref 8 17), (0, .nameAndType 18 12), (0, u "classes"), (0, .methodref 20 21), (0, .class_ 22), (0, .nameAndType 23 24), (0, u "java/lang/Math"), (0, u "max"), (0, u "(II)I"), (0, .fieldref 8 26), (0, .nameAndType 27 12), (0, u "start"), (0, .fieldref 8 29), (0, .nameAndType 30 12), (0, u "end"), (0, .fieldref 8 32), (0, .nameAndType 33 12), (0, u "parents"), (0, .fieldref 8 35), (0, .nameAndType 36 12), (0, u "rounds"), (0, .fieldref 8 38), (0, .nameAndType 39 40), (0, u "count"), (0, u "I"), (0, .methodref 42 43), (0, .class_ 44), (0, .nameAndType 45 46), (0, u "java/util/Arrays"), (0, u "copyOfRange"), (0, u "([III)[I"), (0, u "(I)V"), (3, u "classOf"), (0, u "(I)I"), (1, u "members"), (0, u "(I)[I"), (0, u "parent"), (0, u "round"), (0, u "split"), (0, u "(I[IIII)I")] 2

def k2c0 : Code := { maxStack := 3, maxLocals := 3, code := prog_61_method_1_code, exceptionTable := #[], attributes := #[] }
def k2m0 : Method := { name := "<init>", desc := "(I)V", sig := { parameters := [.int], returnType := none }, accessFlags := 0, code := some k2c0 }
def k2c1 : Code := { maxStack := 2, maxLocals := 2, code := prog_61_method_2_code, exceptionTable := #[], attributes := #[] }
def k2m1 : Method := { name := "classOf", desc := "(I)I", sig := { parameters := [.int], returnType := some .int }, accessFlags := 0, code := some k2c1 }
def k2c2 : Code := { maxStack := 4, maxLocals := 2, code := prog_61_method_4_code, exceptionTable := #[], attributes := #[] }
def k2m2 : Method := { name := "members", desc := "(I)[I", sig := { parameters := [.int], returnType := some (.array .int) }, accessFlags := 0, code := some k2c2 }
def k2c3 : Code := { maxStack := 2, maxLocals := 2, code := prog_61_method_5_code, exceptionTable := #[], attributes := #[] }
def k2m3 : Method := { name := "parent", desc := "(I)I", sig := { parameters := [.int], returnType := some .int }, accessFlags := 0, code := some k2c3 }
def k2c4 : Code := { maxStack := 2, maxLocals := 2, code := prog_61_method_6_code, exceptionTable := #[], attributes := #[] }
def k2m4 : Method := { name := "round", desc := "(I)I", sig := { parameters := [.int], returnType := some .int }, accessFlags := 0, code := some k2c4 }
def k2c5 : Code := { maxStack := 4, maxLocals := 11, code := prog_61_method_7_code, exceptionTable := #[], attributes := #[] }
def k2m5 : Method := { name := "split", desc := "(I[IIII)I", sig := { parameters := [.int, (.array .int), .int, .int, .int], returnType := some .int }, accessFlags := 0, code := some k2c5 }
/-- com/example/bisim_for_markov/bisimformarkov/analysis/Partition -/
def k2 : Class := { plain "com/example/bisim_for_markov/bisimformarkov/analysis/Partition" (some 0) with
  accessFlags := 32
  interfaces := #[]
  cf := some (fileOf pool2 8 #[] #[{ accessFlags := 0, nameIndex := 5, descriptorIndex := 47, attributes := #[] }, { accessFlags := 0, nameIndex := 51, descriptorIndex := 52, attributes := #[] }, { accessFlags := 0, nameIndex := 54, descriptorIndex := 55, attributes := #[] }, { accessFlags := 0, nameIndex := 56, descriptorIndex := 52, attributes := #[] }, { accessFlags := 0, nameIndex := 57, descriptorIndex := 52, attributes := #[] }, { accessFlags := 0, nameIndex := 58, descriptorIndex := 59, attributes := #[] }] 32 2 #[] #[{ accessFlags := 18, nameIndex := 11, descriptorIndex := 12, attributes := #[] }, { accessFlags := 18, nameIndex := 15, descriptorIndex := 12, attributes := #[] }, { accessFlags := 18, nameIndex := 18, descriptorIndex := 12, attributes := #[] }, { accessFlags := 18, nameIndex := 27, descriptorIndex := 12, attributes := #[] }, { accessFlags := 18, nameIndex := 30, descriptorIndex := 12, attributes := #[] }, { accessFlags := 18, nameIndex := 33, descriptorIndex := 12, attributes := #[] }, { accessFlags := 18, nameIndex := 36, descriptorIndex := 12, attributes := #[] }, { accessFlags := 2, nameIndex := 39, descriptorIndex := 40, attributes := #[] }])
  fields := #[{ name := "elements", type := (.array .int), accessFlags := 18, slot := 0, constantValue := 0 }, { name := "location", type := (.array .int), accessFlags := 18, slot := 1, constantValue := 0 }, { name := "classes", type := (.array .int), accessFlags := 18, slot := 2, constantValue := 0 }, { name := "start", type := (.array .int), accessFlags := 18, slot := 3, constantValue := 0 }, { name := "end", type := (.array .int), accessFlags := 18, slot := 4, constantValue := 0 }, { name := "parents", type := (.array .int), accessFlags := 18, slot := 5, constantValue := 0 }, { name := "rounds", type := (.array .int), accessFlags := 18, slot := 6, constantValue := 0 }, { name := "count", type := .int, accessFlags := 2, slot := 7, constantValue := 0 }]
  methods := #[k2m0, k2m1, k2m2, k2m3, k2m4, k2m5]
  instanceTypes := #[(.array .int), (.array .int), (.array .int), (.array .int), (.array .int), (.array .int), (.array .int), .int]
  staticTypes := #[]
  resolved := Array.replicate 62 none
  statics := none }

def pool3 : Array CpInfo := pool [(1, .class_ 2), (0, u "java/lang/Math"), (1, .class_ 6), (1, u "java/lang/Object"), (0, u "<init>"), (0, u "()V"), (89, .class_ 100), (1, u "java/lang/Math$RandomNumberGeneratorHolder"), (71, u "negativeZeroFloatBits"), (0, u "J"), (2, u "negativeZeroDoubleBits"), (21, u "max"), (2, u "min"), (43, u "$assertionsDisabled"), (0, u "Z"), (88, u "(II)I"), (2, u "twoToTheDoubleScaleDown"), (0, u "D"), (4, u "twoToTheDoubleScaleUp"), (9, u "E"), (3, u "PI"), (2, u "TAU"), (2, u "DEGREES_TO_RADIANS"), (0, u "RADIANS_TO_DEGREES")] 94

def k3m0 : Method := { name := "<init>", desc := "()V", sig := { parameters := [], returnType := none }, accessFlags := 2, code := none }
def k3c1 : Code := { maxStack := 2, maxLocals := 2, code := jdk_29_method_65_code, exceptionTable := #[], attributes := #[] }
def k3m1 : Method := { name := "max", desc := "(II)I", sig := { parameters := [.int, .int], returnType := some .int }, accessFlags := 9, code := some k3c1 }
def k3c2 : Code := { maxStack := 2, maxLocals := 2, code := jdk_29_method_69_code, exceptionTable := #[], attributes := #[] }
def k3m2 : Method := { name := "min", desc := "(II)I", sig := { parameters := [.int, .int], returnType := some .int }, accessFlags := 9, code := some k3c2 }
/-- java/lang/Math -/
def k3 : Class := { plain "java/lang/Math" (some 0) with
  accessFlags := 49
  interfaces := #[]
  cf := some (fileOf pool3 1 #[.nestMembers #[98]] #[{ accessFlags := 2, nameIndex := 7, descriptorIndex := 8, attributes := #[] }, { accessFlags := 9, nameIndex := 198, descriptorIndex := 335, attributes := #[] }, { accessFlags := 9, nameIndex := 201, descriptorIndex := 335, attributes := #[] }] 49 4 #[] #[{ accessFlags := 25, nameIndex := 354, descriptorIndex := 339, attributes := #[] }, { accessFlags := 25, nameIndex := 358, descriptorIndex := 339, attributes := #[] }, { accessFlags := 25, nameIndex := 361, descriptorIndex := 339, attributes := #[] }, { accessFlags := 26, nameIndex := 364, descriptorIndex := 339, attributes := #[] }, { accessFlags := 26, nameIndex := 365, descriptorIndex := 339, attributes := #[] }, { accessFlags := 26, nameIndex := 172, descriptorIndex := 173, attributes := #[] }, { accessFlags := 26, nameIndex := 176, descriptorIndex := 173, attributes := #[] }, { accessFlags := 8, nameIndex := 344, descriptorIndex := 339, attributes := #[] }, { accessFlags := 8, nameIndex := 338, descriptorIndex := 339, attributes := #[] }, { accessFlags := 4120, nameIndex := 245, descriptorIndex := 246, attributes := #[] }])
  fields := #[{ name := "E", type := .double, accessFlags := 25, slot := 0, constantValue := 0 }, { name := "PI", type := .double, accessFlags := 25, slot := 1, constantValue := 0 }, { name := "TAU", type := .double, accessFlags := 25, slot := 2, constantValue := 0 }, { name := "DEGREES_TO_RADIANS", type := .double, accessFlags := 26, slot := 3, constantValue := 0 }, { name := "RADIANS_TO_DEGREES", type := .double, accessFlags := 26, slot := 4, constantValue := 0 }, { name := "negativeZeroFloatBits", type := .long, accessFlags := 26, slot := 5, constantValue := 0 }, { name := "negativeZeroDoubleBits", type := .long, accessFlags := 26, slot := 6, constantValue := 0 }, { name := "twoToTheDoubleScaleUp", type := .double, accessFlags := 8, slot := 7, constantValue := 0 }, { name := "twoToTheDoubleScaleDown", type := .double, accessFlags := 8, slot := 8, constantValue := 0 }, { name := "$assertionsDisabled", type := .boolean, accessFlags := 4120, slot := 9, constantValue := 0 }]
  methods := #[k3m0, k3m1, k3m2]
  instanceTypes := #[]
  staticTypes := #[.double, .double, .double, .double, .double, .long, .long, .double, .double, .boolean]
  resolved := Array.replicate 460 none
  statics := none }

def pool4 : Array CpInfo := pool [(2, .class_ 4), (1, u "java/lang/Object"), (0, u "<init>"), (0, u "()V"), (7, .class_ 16), (1, u "java/util/Arrays"), (57, .class_ 76), (1, u "java/util/Arrays$NaturalOrder"), (32, u "()Ljava/lang/Object;"), (3, .class_ 115), (1, u "java/util/Arrays$LegacyMergeSort"), (1, u "Z"), (10, .nameAndType 129 109), (0, u "clone"), (9, u "copyOfRange"), (10, .methodref 151 152), (0, .class_ 153), (0, .nameAndType 154 155), (0, u "java/lang/System"), (0, u "arraycopy"), (0, u "(Ljava/lang/Object;ILjava/lang/Object;II)V"), (148, .methodref 305 306), (0, .class_ 307), (0, .nameAndType 308 309), (0, u "java/lang/Math"), (0, u "min"), (0, u "(II)I"), (6, .methodref 317 128), (0, .class_ 318), (0, u "[I"), (24, .methodref 14 344), (0, .nameAndType 345 346), (0, u "checkLength"), (0, u "(II)V"), (4, .methodref 14 352), (0, .nameAndType 353 354), (0, u "copyOfRangeInt"), (0, u "([III)[I"), (20, .class_ 376), (0, u "java/util/Arrays$ArrayList"), (68, u "$assertionsDisabled"), (269, u "MIN_ARRAY_SORT_GRAN"), (0, u "I"), (2, u "INSERTIONSORT_THRESHOLD"), (255, .class_ 976), (0, u "java/util/Arrays$ArrayItr")] 52

def k4m0 : Method := { name := "<init>", desc := "()V", sig := { parameters := [], returnType := none }, accessFlags := 2, code := none }
def k4c1 : Code := { maxStack := 4, maxLocals := 2, code := jdk_65_method_131_code, exceptionTable := #[], attributes := #[] }
def k4m1 : Method := { name := "checkLength", desc := "(II)V", sig := { parameters := [.int, .int], returnType := none }, accessFlags := 10, code := some k4c1 }
def k4c2 : Code := { maxStack := 3, maxLocals := 3, code := jdk_65_method_136_code, exceptionTable := #[], attributes := #[] }
def k4m2 : Method := { name := "copyOfRange", desc := "([III)[I", sig := { parameters := [(.array .int), .int, .int], returnType := some (.array .int) }, accessFlags := 9, code := some k4c2 }
def k4c3 : Code := { maxStack := 6, maxLocals := 5, code := jdk_65_method_137_code, exceptionTable := #[], attributes := #[] }
def k4m3 : Method := { name := "copyOfRangeInt", desc := "([III)[I", sig := { parameters := [(.array .int), .int, .int], returnType := some (.array .int) }, accessFlags := 10, code := some k4c3 }
/-- java/util/Arrays -/
def k4 : Class := { plain "java/util/Arrays" (some 0) with
  accessFlags := 49
  interfaces := #[]
  cf := some (fileOf pool4 14 #[.nestMembers #[975, 375, 113, 74]] #[{ accessFlags := 2, nameIndex := 5, descriptorIndex := 6, attributes := #[] }, { accessFlags := 10, nameIndex := 345, descriptorIndex := 346, attributes := #[] }, { accessFlags := 9, nameIndex := 139, descriptorIndex := 354, attributes := #[] }, { accessFlags := 10, nameIndex := 353, descriptorIndex := 354, attributes := #[] }] 49 2 #[] #[{ accessFlags := 26, nameIndex := 715, descriptorIndex := 716, attributes := #[] }, { accessFlags := 26, nameIndex := 719, descriptorIndex := 716, attributes := #[] }, { accessFlags := 4120, nameIndex := 445, descriptorIndex := 117, attributes := #[] }])
  fields := #[{ name := "MIN_ARRAY_SORT_GRAN", type := .int, accessFlags := 26, slot := 0, constantValue := 0 }, { name := "INSERTIONSORT_THRESHOLD", type := .int, accessFlags := 26, slot := 1, constantValue := 0 }, { name := "$assertionsDisabled", type := .boolean, accessFlags := 4120, slot := 2, constantValue := 0 }]
  methods := #[k4m0, k4m1, k4m2, k4m3]
  instanceTypes := #[]
  staticTypes := #[.int, .int, .boolean]
  resolved := Array.replicate 1029 none
  statics := none }

def pool5 : Array CpInfo := pool [(2, .class_ 4), (1, u "java/lang/Object"), (0, u "<init>"), (0, u "()V"), (1, .class_ 10), (1, u "java/lang/System"), (0, u "allowSecurityManager"), (0, u "I"), (16, u "cons"), (0, u "Ljava/io/Console;"), (77, .class_ 110), (1, u "java/lang/System$CallersHolder"), (43, u "initialErrStream"), (0, u "Ljava/io/PrintStream;"), (19, u "security"), (0, u "Ljava/lang/SecurityManager;"), (31, .class_ 209), (0, u "java/lang/System$1"), (7, u "props"), (0, u "Ljava/util/Properties;"), (2, u "lineSeparator"), (0, u "Ljava/lang/String;"), (96, .class_ 321), (1, u "java/lang/System$LoggerFinder"), (5, .class_ 328), (0, u "java/lang/System$Logger"), (67, u "err"), (2, u "out"), (91, u "notSupportedJnuEncoding"), (15, u "in"), (17, u "initialIn"), (0, u "Ljava/io/InputStream;"), (35, u "bootLayer"), (0, u "Ljava/lang/ModuleLayer;"), (99, .class_ 664), (0, u "java/lang/System$2"), (9, u "NEVER"), (2, u "MAYBE"), (49, u "arraycopy"), (0, u "(Ljava/lang/Object;ILjava/lang/Object;II)V"), (72, .class_ 802), (0, u "java/lang/System$Logger$Level")] 31

def k5m0 : Method := { name := "<init>", desc := "()V", sig := { parameters := [], returnType := none }, accessFlags := 2, code := none }
def k5m1 : Method := { name := "arraycopy", desc := "(Ljava/lang/Object;ILjava/lang/Object;II)V", sig := { parameters := [(.object "java/lang/Object"), .int, (.object "java/lang/Object"), .int, .int], returnType := none }, accessFlags := 265, code := none }
/-- java/lang/System -/
def k5 : Class := { plain "java/lang/System" (some 0) with
  accessFlags := 49
  interfaces := #[]
  cf := some (fileOf pool5 8 #[.nestMembers #[319, 327, 801, 108, 663, 208]] #[{ accessFlags := 2, nameIndex := 5, descriptorIndex := 6, attributes := #[] }, { accessFlags := 265, nameIndex := 727, descriptorIndex := 728, attributes := #[] }] 49 2 #[] #[{ accessFlags := 25, nameIndex := 507, descriptorIndex := 526, attributes := #[] }, { accessFlags := 25, nameIndex := 399, descriptorIndex := 155, attributes := #[] }, { accessFlags := 25, nameIndex := 396, descriptorIndex := 155, attributes := #[] }, { accessFlags := 10, nameIndex := 525, descriptorIndex := 526, attributes := #[] }, { accessFlags := 26, nameIndex := 674, descriptorIndex := 12, attributes := #[] }, { accessFlags := 26, nameIndex := 677, descriptorIndex := 12, attributes := #[] }, { accessFlags := 10, nameIndex := 11, descriptorIndex := 12, attributes := #[] }, { accessFlags := 74, nameIndex := 175, descriptorIndex := 176, attributes := #[] }, { accessFlags := 10, nameIndex := 491, descriptorIndex := 222, attributes := #[] }, { accessFlags := 74, nameIndex := 29, descriptorIndex := 30, attributes := #[] }, { accessFlags := 74, nameIndex := 154, descriptorIndex := 155, attributes := #[] }, { accessFlags := 10, nameIndex := 217, descriptorIndex := 218, attributes := #[] }, { accessFlags := 10, nameIndex := 221, descriptorIndex := 222, attributes := #[] }, { accessFlags := 8, nameIndex := 562, descriptorIndex := 563, attributes := #[] }])
  fields := #[{ name := "in", type := (.object "java/io/InputStream"), accessFlags := 25, slot := 0, constantValue := 0 }, { name := "out", type := (.object "java/io/PrintStream"), accessFlags := 25, slot := 1, constantValue := 0 }, { name := "err", type := (.object "java/io/PrintStream"), accessFlags := 25, slot := 2, constantValue := 0 }, { name := "initialIn", type := (.object "java/io/InputStream"), accessFlags := 10, slot := 3, constantValue := 0 }, { name := "NEVER", type := .int, accessFlags := 26, slot := 4, constantValue := 0 }, { name := "MAYBE", type := .int, accessFlags := 26, slot := 5, constantValue := 0 }, { name := "allowSecurityManager", type := .int, accessFlags := 10, slot := 6, constantValue := 0 }, { name := "security", type := (.object "java/lang/SecurityManager"), accessFlags := 74, slot := 7, constantValue := 0 }, { name := "notSupportedJnuEncoding", type := (.object "java/lang/String"), accessFlags := 10, slot := 8, constantValue := 0 }, { name := "cons", type := (.object "java/io/Console"), accessFlags := 74, slot := 9, constantValue := 0 }, { name := "initialErrStream", type := (.object "java/io/PrintStream"), accessFlags := 74, slot := 10, constantValue := 0 }, { name := "props", type := (.object "java/util/Properties"), accessFlags := 10, slot := 11, constantValue := 0 }, { name := "lineSeparator", type := (.object "java/lang/String"), accessFlags := 10, slot := 12, constantValue := 0 }, { name := "bootLayer", type := (.object "java/lang/ModuleLayer"), accessFlags := 8, slot := 13, constantValue := 0 }]
  methods := #[k5m0, k5m1]
  instanceTypes := #[]
  staticTypes := #[(.object "java/io/InputStream"), (.object "java/io/PrintStream"), (.object "java/io/PrintStream"), (.object "java/io/InputStream"), .int, .int, .int, (.object "java/lang/SecurityManager"), (.object "java/lang/String"), (.object "java/io/Console"), (.object "java/io/PrintStream"), (.object "java/util/Properties"), (.object "java/lang/String"), (.object "java/lang/ModuleLayer")]
  resolved := Array.replicate 834 none
  statics := none }

def pool6 : Array CpInfo := pool [(1, .class_ 2), (0, u "java/lang/Cloneable"), (0, .class_ 4), (0, u "java/lang/Object")] 2

/-- java/lang/Cloneable -/
def k6 : Class := { plain "java/lang/Cloneable" (some 0) with
  accessFlags := 1537
  interfaces := #[]
  cf := some (fileOf pool6 1 #[] #[] 1537 3 #[] #[])
  fields := #[]
  methods := #[]
  instanceTypes := #[]
  staticTypes := #[]
  resolved := Array.replicate 7 none
  statics := none }

def pool7 : Array CpInfo := pool [(1, u "java/io/Serializable"), (0, .class_ 1), (0, u "java/lang/Object"), (0, .class_ 3)] 3

/-- java/io/Serializable -/
def k7 : Class := { plain "java/io/Serializable" (some 0) with
  accessFlags := 1537
  interfaces := #[]
  cf := some (fileOf pool7 2 #[] #[] 1537 4 #[] #[])
  fields := #[]
  methods := #[]
  instanceTypes := #[]
  staticTypes := #[]
  resolved := Array.replicate 8 none
  statics := none }

/-- the primitive byte -/
def k8 : Class := { plain "byte" none with kind := .primitive 'B', accessFlags := 0x411 }
/-- [B -/
def k9 : Class := { plain "[B" (some 0) with kind := .array 8 .byte, interfaces := #[6, 7], accessFlags := 1041 }

/-- the primitive int -/
def k10 : Class := { plain "int" none with kind := .primitive 'I', accessFlags := 0x411 }
/-- [I -/
def k11 : Class := { plain "[I" (some 0) with kind := .array 10 .int, interfaces := #[6, 7], accessFlags := 1041 }

def heap : Heap := #[]
def classes : Array Class := #[k0, k1, k2, k3, k4, k5, k6, k7, k8, k9, k10, k11]
def interned : List (Array UInt16 × Addr) := []
def slotsUsed : Nat := 0
def theMethod : MethodId := ⟨1, 1⟩
def args0 : Array Value := #[.int 5, .int 300, .int 7, .int 13, .int 2]
def aboutOver (below : List Frame) : State where
  vm := { classes := classes, interned := interned.toArray }
  heap := heap
  slotsUsed := slotsUsed
  threads := #[{ frames := .invoking theMethod args0 :: below }]
def below0 : List Frame := [.native { method := ⟨0, 0⟩, args := #[] }]
def about1 : State := aboutOver below0
def p0 : Program := .bare "" "" ""
def e0 : Env := launch0.env 0 0 0
theorem w_frames : about1.frames = Frame.invoking theMethod args0 :: below0 := rfl
set_option maxRecDepth 65536 in
theorem w_args : argsFit about1.vm theMethod args0 = true := by decide +kernel
set_option maxRecDepth 65536 in
theorem w_heap : heapFits about1 = true := by decide +kernel
set_option maxRecDepth 65536 in
theorem w_runnable : about1.curStatus? = some .runnable := by decide +kernel
set_option maxRecDepth 65536 in
theorem w_alone : about1.alone = true := by decide +kernel
set_option maxRecDepth 65536 in
theorem w_named : about1.methodNamed? x = some theMethod := by decide +kernel
set_option maxRecDepth 65536 in
theorem w_hears : about1.hears theMethod below0 = true := by decide +kernel
set_option maxRecDepth 65536 in
theorem w_ripe : about1.ripe theMethod args0 below0 = true := by decide +kernel
theorem w_running : about1.status = .running := rfl
set_option maxRecDepth 65536 in
theorem w_room : about1.hasRoom e0.platform room_1 = true :=
  launch0.hasRoom_least _ room_1 (by decide +kernel) (by decide +kernel) (by decide +kernel) (by decide +kernel) (by decide +kernel) (by decide +kernel)
theorem allAtoms_all (ts : List Jvm.Cond) (a : Array Jvm.Value) (st : Jvm.State) : (allAtoms ts).before a st = ts.all (fun c => c.before a st) := by
  induction ts with
  | nil => rfl
  | cons c t ih =>
    show (Jvm.Cond.and c (allAtoms t)).before a st = _
    rw [Jvm.Cond.before_and, ih, List.all_cons]
def words1 : List Jvm.Cond := Jvm.Cond.code x code maxLocals ret :: tables_1
/-- a 'code' word, met by the world's own term for the bytes: nothing is compared byte by byte -/
theorem code_word {y : MethodName} {bytes : ByteArray} {mx : Nat} {rt : Option FieldType} {a : Array Value} {s : State} {m : MethodId} {meth : Method} {c : Code} (h1 : s.methodNamed? y = some m) (h2 : s.vm.method? m = some meth) (h3 : meth.code = some c) (h4 : c.code = bytes)
    (h5 : (c.maxLocals == mx && c.exceptionTable.isEmpty && decide (c.maxStack ≤ mostOperands) && decide (meth.sig.returnType = rt) && !meth.locks && decide (parseMethodDescriptor y.desc = some meth.sig)) = true) : (Jvm.Cond.code y bytes mx rt).before a s = true := by
  simp only [Bool.and_eq_true, beq_iff_eq, Bool.not_eq_true', decide_eq_true_eq] at h5
  obtain ⟨⟨⟨⟨⟨g1, g2⟩, g3⟩, g4⟩, g5⟩, g6⟩ := h5
  simp [Cond.before, Cond.holds, Cond.value, h1, h2, h3, h4, g1, g2, g3, g4, g5, g6]
def isCode : Jvm.Cond → Bool
  | .code _ _ _ _ => true
  | _ => false
theorem all_split {L : List Jvm.Cond} {P : Jvm.Cond → Bool} (h1 : L.all (fun c => isCode c || P c) = true) (h2 : ∀ c ∈ L.filter isCode, P c = true) : L.all P = true := by
  refine List.all_eq_true.mpr fun c hc => ?_
  have h := List.all_eq_true.mp h1 c hc
  rcases Bool.eq_false_or_eq_true (isCode c) with hi | hi
  · exact h2 c (List.mem_filter.mpr ⟨hc, hi⟩)
  · simpa [hi] using h
set_option maxRecDepth 65536 in
theorem w_c0 : (Jvm.Cond.code x code maxLocals ret).before args0 about1 = true := code_word (m := ⟨1, 1⟩) (meth := k1m1) (c := k1c1) (by decide +kernel) rfl rfl rfl (by decide +kernel)
set_option maxRecDepth 65536 in
theorem w_c1 : (Jvm.Cond.code ({ cls := "com/example/bisim_for_markov/bisimformarkov/analysis/PartitionSplitPinLaw", name := "fillPads", desc := "([II)V" } : Jvm.MethodName) method_4_code (2 : Nat) (Option.none : Option Jvm.ClassFile.FieldType)).before args0 about1 = true := code_word (m := ⟨1, 3⟩) (meth := k1m3) (c := k1c3) (by decide +kernel) rfl rfl rfl (by decide +kernel)
set_option maxRecDepth 65536 in
theorem w_c2 : (Jvm.Cond.code ({ cls := "com/example/bisim_for_markov/bisimformarkov/analysis/PartitionSplitPinLaw", name := "place", desc := "([IIII)I" } : Jvm.MethodName) method_6_code (5 : Nat) (Option.some Jvm.ClassFile.FieldType.int)).before args0 about1 = true := code_word (m := ⟨1, 5⟩) (meth := k1m5) (c := k1c5) (by decide +kernel) rfl rfl rfl (by decide +kernel)
set_option maxRecDepth 65536 in
theorem w_c3 : (Jvm.Cond.code ({ cls := "com/example/bisim_for_markov/bisimformarkov/analysis/PartitionSplitPinLaw", name := "put", desc := "([IIII)I" } : Jvm.MethodName) method_5_code (4 : Nat) (Option.some Jvm.ClassFile.FieldType.int)).before args0 about1 = true := code_word (m := ⟨1, 4⟩) (meth := k1m4) (c := k1c4) (by decide +kernel) rfl rfl rfl (by decide +kernel)
set_option maxRecDepth 65536 in
theorem w_c4 : (Jvm.Cond.code ({ cls := "com/example/bisim_for_markov/bisimformarkov/analysis/Partition", name := "<init>", desc := "(I)V" } : Jvm.MethodName) prog_61_method_1_code (3 : Nat) (Option.none : Option Jvm.ClassFile.FieldType)).before args0 about1 = true := code_word (m := ⟨2, 0⟩) (meth := k2m0) (c := k2c0) (by decide +kernel) rfl rfl rfl (by decide +kernel)
set_option maxRecDepth 65536 in
theorem w_c5 : (Jvm.Cond.code ({ cls := "java/lang/Object", name := "<init>", desc := "()V" } : Jvm.MethodName) object_method_1_code (1 : Nat) (Option.none : Option Jvm.ClassFile.FieldType)).before args0 about1 = true := code_word (m := ⟨0, 0⟩) (meth := k0m0) (c := k0c0) (by decide +kernel) rfl rfl rfl (by decide +kernel)
set_option maxRecDepth 65536 in
theorem w_c6 : (Jvm.Cond.code ({ cls := "java/lang/Math", name := "max", desc := "(II)I" } : Jvm.MethodName) jdk_29_method_65_code (2 : Nat) (Option.some Jvm.ClassFile.FieldType.int)).before args0 about1 = true := code_word (m := ⟨3, 1⟩) (meth := k3m1) (c := k3c1) (by decide +kernel) rfl rfl rfl (by decide +kernel)
set_option maxRecDepth 65536 in
theorem w_c7 : (Jvm.Cond.code ({ cls := "com/example/bisim_for_markov/bisimformarkov/analysis/Partition", name := "split", desc := "(I[IIII)I" } : Jvm.MethodName) prog_61_method_7_code (11 : Nat) (Option.some Jvm.ClassFile.FieldType.int)).before args0 about1 = true := code_word (m := ⟨2, 5⟩) (meth := k2m5) (c := k2c5) (by decide +kernel) rfl rfl rfl (by decide +kernel)
set_option maxRecDepth 65536 in
theorem w_c8 : (Jvm.Cond.code ({ cls := "com/example/bisim_for_markov/bisimformarkov/analysis/Partition", name := "parent", desc := "(I)I" } : Jvm.MethodName) prog_61_method_5_code (2 : Nat) (Option.some Jvm.ClassFile.FieldType.int)).before args0 about1 = true := code_word (m := ⟨2, 3⟩) (meth := k2m3) (c := k2c3) (by decide +kernel) rfl rfl rfl (by decide +kernel)
set_option maxRecDepth 65536 in
theorem w_c9 : (Jvm.Cond.code ({ cls := "com/example/bisim_for_markov/bisimformarkov/analysis/Partition", name := "round", desc := "(I)I" } : Jvm.MethodName) prog_61_method_6_code (2 : Nat) (Option.some Jvm.ClassFile.FieldType.int)).before args0 about1 = true := code_word (m := ⟨2, 4⟩) (meth := k2m4) (c := k2c4) (by decide +kernel) rfl rfl rfl (by decide +kernel)
set_option maxRecDepth 65536 in
theorem w_c10 : (Jvm.Cond.code ({ cls := "com/example/bisim_for_markov/bisimformarkov/analysis/Partition", name := "classOf", desc := "(I)I" } : Jvm.MethodName) prog_61_method_2_code (2 : Nat) (Option.some Jvm.ClassFile.FieldType.int)).before args0 about1 = true := code_word (m := ⟨2, 1⟩) (meth := k2m1) (c := k2c1) (by decide +kernel) rfl rfl rfl (by decide +kernel)
set_option maxRecDepth 65536 in
theorem w_c11 : (Jvm.Cond.code ({ cls := "com/example/bisim_for_markov/bisimformarkov/analysis/PartitionSplitPinLaw", name := "expected", desc := "(III)I" } : Jvm.MethodName) method_3_code (3 : Nat) (Option.some Jvm.ClassFile.FieldType.int)).before args0 about1 = true := code_word (m := ⟨1, 2⟩) (meth := k1m2) (c := k1c2) (by decide +kernel) rfl rfl rfl (by decide +kernel)
set_option maxRecDepth 65536 in
theorem w_c12 : (Jvm.Cond.code ({ cls := "com/example/bisim_for_markov/bisimformarkov/analysis/Partition", name := "members", desc := "(I)[I" } : Jvm.MethodName) prog_61_method_4_code (2 : Nat) (Option.some (Jvm.ClassFile.FieldType.array Jvm.ClassFile.FieldType.int))).before args0 about1 = true := code_word (m := ⟨2, 2⟩) (meth := k2m2) (c := k2c2) (by decide +kernel) rfl rfl rfl (by decide +kernel)
set_option maxRecDepth 65536 in
theorem w_c13 : (Jvm.Cond.code ({ cls := "java/util/Arrays", name := "copyOfRange", desc := "([III)[I" } : Jvm.MethodName) jdk_65_method_136_code (3 : Nat) (Option.some (Jvm.ClassFile.FieldType.array Jvm.ClassFile.FieldType.int))).before args0 about1 = true := code_word (m := ⟨4, 2⟩) (meth := k4m2) (c := k4c2) (by decide +kernel) rfl rfl rfl (by decide +kernel)
set_option maxRecDepth 65536 in
theorem w_c14 : (Jvm.Cond.code ({ cls := "java/util/Arrays", name := "copyOfRangeInt", desc := "([III)[I" } : Jvm.MethodName) jdk_65_method_137_code (5 : Nat) (Option.some (Jvm.ClassFile.FieldType.array Jvm.ClassFile.FieldType.int))).before args0 about1 = true := code_word (m := ⟨4, 3⟩) (meth := k4m3) (c := k4c3) (by decide +kernel) rfl rfl rfl (by decide +kernel)
set_option maxRecDepth 65536 in
theorem w_c15 : (Jvm.Cond.code ({ cls := "java/util/Arrays", name := "checkLength", desc := "(II)V" } : Jvm.MethodName) jdk_65_method_131_code (2 : Nat) (Option.none : Option Jvm.ClassFile.FieldType)).before args0 about1 = true := code_word (m := ⟨4, 1⟩) (meth := k4m1) (c := k4c1) (by decide +kernel) rfl rfl rfl (by decide +kernel)
set_option maxRecDepth 65536 in
theorem w_c16 : (Jvm.Cond.code ({ cls := "java/lang/Math", name := "min", desc := "(II)I" } : Jvm.MethodName) jdk_29_method_69_code (2 : Nat) (Option.some Jvm.ClassFile.FieldType.int)).before args0 about1 = true := code_word (m := ⟨3, 2⟩) (meth := k3m2) (c := k3c2) (by decide +kernel) rfl rfl rfl (by decide +kernel)
set_option maxRecDepth 65536 in
theorem w_c17 : (Jvm.Cond.code ({ cls := "com/example/bisim_for_markov/bisimformarkov/analysis/PartitionSplitPinLaw", name := "sameSet", desc := "([II)Z" } : Jvm.MethodName) method_8_code (3 : Nat) (Option.some Jvm.ClassFile.FieldType.boolean)).before args0 about1 = true := code_word (m := ⟨1, 7⟩) (meth := k1m7) (c := k1c7) (by decide +kernel) rfl rfl rfl (by decide +kernel)
set_option maxRecDepth 65536 in
theorem w_c18 : (Jvm.Cond.code ({ cls := "com/example/bisim_for_markov/bisimformarkov/analysis/PartitionSplitPinLaw", name := "addSeen", desc := "(II)I" } : Jvm.MethodName) method_7_code (3 : Nat) (Option.some Jvm.ClassFile.FieldType.int)).before args0 about1 = true := code_word (m := ⟨1, 6⟩) (meth := k1m6) (c := k1c6) (by decide +kernel) rfl rfl rfl (by decide +kernel)
def codes1 : List Jvm.Cond := [Jvm.Cond.code x code maxLocals ret, Jvm.Cond.code ({ cls := "com/example/bisim_for_markov/bisimformarkov/analysis/PartitionSplitPinLaw", name := "fillPads", desc := "([II)V" } : Jvm.MethodName) method_4_code (2 : Nat) (Option.none : Option Jvm.ClassFile.FieldType), Jvm.Cond.code ({ cls := "com/example/bisim_for_markov/bisimformarkov/analysis/PartitionSplitPinLaw", name := "place", desc := "([IIII)I" } : Jvm.MethodName) method_6_code (5 : Nat) (Option.some Jvm.ClassFile.FieldType.int), Jvm.Cond.code ({ cls := "com/example/bisim_for_markov/bisimformarkov/analysis/PartitionSplitPinLaw", name := "put", desc := "([IIII)I" } : Jvm.MethodName) method_5_code (4 : Nat) (Option.some Jvm.ClassFile.FieldType.int), Jvm.Cond.code ({ cls := "com/example/bisim_for_markov/bisimformarkov/analysis/Partition", name := "<init>", desc := "(I)V" } : Jvm.MethodName) prog_61_method_1_code (3 : Nat) (Option.none : Option Jvm.ClassFile.FieldType), Jvm.Cond.code ({ cls := "java/lang/Object", name := "<init>", desc := "()V" } : Jvm.MethodName) object_method_1_code (1 : Nat) (Option.none : Option Jvm.ClassFile.FieldType), Jvm.Cond.code ({ cls := "java/lang/Math", name := "max", desc := "(II)I" } : Jvm.MethodName) jdk_29_method_65_code (2 : Nat) (Option.some Jvm.ClassFile.FieldType.int), Jvm.Cond.code ({ cls := "com/example/bisim_for_markov/bisimformarkov/analysis/Partition", name := "split", desc := "(I[IIII)I" } : Jvm.MethodName) prog_61_method_7_code (11 : Nat) (Option.some Jvm.ClassFile.FieldType.int), Jvm.Cond.code ({ cls := "com/example/bisim_for_markov/bisimformarkov/analysis/Partition", name := "parent", desc := "(I)I" } : Jvm.MethodName) prog_61_method_5_code (2 : Nat) (Option.some Jvm.ClassFile.FieldType.int), Jvm.Cond.code ({ cls := "com/example/bisim_for_markov/bisimformarkov/analysis/Partition", name := "round", desc := "(I)I" } : Jvm.MethodName) prog_61_method_6_code (2 : Nat) (Option.some Jvm.ClassFile.FieldType.int), Jvm.Cond.code ({ cls := "com/example/bisim_for_markov/bisimformarkov/analysis/Partition", name := "classOf", desc := "(I)I" } : Jvm.MethodName) prog_61_method_2_code (2 : Nat) (Option.some Jvm.ClassFile.FieldType.int), Jvm.Cond.code ({ cls := "com/example/bisim_for_markov/bisimformarkov/analysis/PartitionSplitPinLaw", name := "expected", desc := "(III)I" } : Jvm.MethodName) method_3_code (3 : Nat) (Option.some Jvm.ClassFile.FieldType.int), Jvm.Cond.code ({ cls := "com/example/bisim_for_markov/bisimformarkov/analysis/Partition", name := "members", desc := "(I)[I" } : Jvm.MethodName) prog_61_method_4_code (2 : Nat) (Option.some (Jvm.ClassFile.FieldType.array Jvm.ClassFile.FieldType.int)), Jvm.Cond.code ({ cls := "java/util/Arrays", name := "copyOfRange", desc := "([III)[I" } : Jvm.MethodName) jdk_65_method_136_code (3 : Nat) (Option.some (Jvm.ClassFile.FieldType.array Jvm.ClassFile.FieldType.int)), Jvm.Cond.code ({ cls := "java/util/Arrays", name := "copyOfRangeInt", desc := "([III)[I" } : Jvm.MethodName) jdk_65_method_137_code (5 : Nat) (Option.some (Jvm.ClassFile.FieldType.array Jvm.ClassFile.FieldType.int)), Jvm.Cond.code ({ cls := "java/util/Arrays", name := "checkLength", desc := "(II)V" } : Jvm.MethodName) jdk_65_method_131_code (2 : Nat) (Option.none : Option Jvm.ClassFile.FieldType), Jvm.Cond.code ({ cls := "java/lang/Math", name := "min", desc := "(II)I" } : Jvm.MethodName) jdk_29_method_69_code (2 : Nat) (Option.some Jvm.ClassFile.FieldType.int), Jvm.Cond.code ({ cls := "com/example/bisim_for_markov/bisimformarkov/analysis/PartitionSplitPinLaw", name := "sameSet", desc := "([II)Z" } : Jvm.MethodName) method_8_code (3 : Nat) (Option.some Jvm.ClassFile.FieldType.boolean), Jvm.Cond.code ({ cls := "com/example/bisim_for_markov/bisimformarkov/analysis/PartitionSplitPinLaw", name := "addSeen", desc := "(II)I" } : Jvm.MethodName) method_7_code (3 : Nat) (Option.some Jvm.ClassFile.FieldType.int)]
set_option maxRecDepth 65536 in
theorem codes_eq : words1.filter isCode = codes1 := rfl
theorem w_codes : ∀ c ∈ words1.filter isCode, c.before args0 about1 = true := by
  rw [codes_eq]
  intro c hc
  simp only [codes1, List.mem_cons, List.not_mem_nil, or_false] at hc
  rcases hc with rfl | rfl | rfl | rfl | rfl | rfl | rfl | rfl | rfl | rfl | rfl | rfl | rfl | rfl | rfl | rfl | rfl | rfl | rfl
  · exact w_c0
  · exact w_c1
  · exact w_c2
  · exact w_c3
  · exact w_c4
  · exact w_c5
  · exact w_c6
  · exact w_c7
  · exact w_c8
  · exact w_c9
  · exact w_c10
  · exact w_c11
  · exact w_c12
  · exact w_c13
  · exact w_c14
  · exact w_c15
  · exact w_c16
  · exact w_c17
  · exact w_c18
set_option maxRecDepth 65536 in
theorem w_t1 : (words1.take 24).all (fun c => isCode c || c.before args0 about1) = true := by decide +kernel
set_option maxRecDepth 65536 in
theorem w_t2 : ((words1.drop 24).take 24).all (fun c => isCode c || c.before args0 about1) = true := by decide +kernel
set_option maxRecDepth 65536 in
theorem w_t3 : (((words1.drop 24).drop 24).take 24).all (fun c => isCode c || c.before args0 about1) = true := by decide +kernel
set_option maxRecDepth 65536 in
theorem w_t4 : ((((words1.drop 24).drop 24).drop 24).take 24).all (fun c => isCode c || c.before args0 about1) = true := by decide +kernel
set_option maxRecDepth 65536 in
theorem w_t5 : ((((words1.drop 24).drop 24).drop 24).drop 24).all (fun c => isCode c || c.before args0 about1) = true := by decide +kernel
theorem w_tables : (allAtoms (Jvm.Cond.code x code maxLocals ret :: tables_1)).before args0 about1 = true := by
  rw [allAtoms_all]
  show words1.all (fun c => c.before args0 about1) = true
  refine all_split ?_ w_codes
  rw [← List.take_append_drop 24 words1, List.all_append, w_t1, ← List.take_append_drop 24 (words1.drop 24), List.all_append, w_t2, ← List.take_append_drop 24 ((words1.drop 24).drop 24), List.all_append, w_t3, ← List.take_append_drop 24 (((words1.drop 24).drop 24).drop 24), List.all_append, w_t4, w_t5]
  rfl
set_option maxRecDepth 65536 in
theorem w_case : (Jvm.Cond.and given_1 narrow_1).before args0 about1 = true := by decide +kernel
theorem w_applies : (headSpec (Jvm.Cond.code x code maxLocals ret :: tables_1) room_1).applies x e0.platform about1 = true :=
  (Spec.applies_iff w_frames).mpr ⟨w_running, w_runnable, w_alone, w_named, w_hears, w_ripe, w_room, w_tables⟩
theorem atStart : AtStart classFile x code maxLocals ret World_1 tables_1 room_1 Calls_1 rest_1 Pre_1 launch0 p0 e0 about1 theMethod args0 below0 :=
  ⟨lists_1, trivial, launch0.admits_env _ _ _, launch0.least_env, fairChoices_fair.cas, fairChoices_fair.clock, w_frames, w_args, w_heap, w_applies, trivial, trivial, w_case⟩
end start1
theorem witness_1 : WitnessClaimed_1 := ⟨start1.p0, start1.e0, start1.about1, start1.theMethod, start1.args0, start1.below0, start1.atStart⟩
end Jvm.Pilot.@@N@@
