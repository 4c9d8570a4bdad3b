import JvmDerived
import JvmDerived.Pilot.@@N@@Statement
import JvmDerived.Pilot.@@N@@Code
set_option linter.unusedVariables false
set_option linter.unusedSimpArgs false
namespace Jvm.OwnKit
open Sem ClassFile Op Lib Jvm.Stand Jvm.Free Jvm.LawKit Jvm.RoadKit
/-- every written place is one of ws or new -/
def FrW (h0 : Heap) (ws : List Addr) (L : List Loc) : Prop := ∀ y ∈ L, y.base ∈ ws ∨ h0.size ≤ y.base
/-- what stays fixed while a body runs -/
def Fix (p : Program) (Z s : State) (m : MethodId) (meth : Method) (c : Code) (bytes : ByteArray) (maxL : Nat) (own nm : String) (ret : Option FieldType) : Prop :=
  p.tables.exec = Jvm.exec ∧ Z.Warmed39 s.vm ∧ c.code = bytes ∧ c.maxLocals = maxL ∧ s.vm.findClass own = some m.cls ∧ meth.name = nm ∧ meth.sig.returnType = ret ∧ meth.locks = false
/-- where the run stands: its heap h, what was kept since h0 -/
def St (p : Program) (l : Launch) (e : Env) (R : Room) (s : State) (m : MethodId) (args : Array Value) (below : List Frame) (meth : Method) (c : Code) (h0 : Heap) (ws : List Addr) (T : State) (h : Heap) (cells slots : Nat) : Prop :=
  ∃ locs, Stand p l e R s m args below meth c T locs cells slots ∧ T.heap = h ∧ Keep h0 h ws ∧ FrW h0 ws locs
/-- from T with the top frame f the body comes to its end, and Q holds there -/
def Go (p : Program) (e : Env) (below : List Frame) (F : State → Outcome → List Loc → Prop) (h0 : Heap) (ws : List Addr) (Q : Option Value → Heap → Prop) (T : State) (f : JFrame) : Prop :=
  ∃ t o, Steps p.tables e below (T.setTop f) t ∧ t.status = .running ∧ Ended t below o ∧ ∃ v L, o = .returned v ∧ (Q v t.heap ∧ Keep h0 t.heap ws ∧ FrW h0 ws L) ∧ F t o L
/-- the narrow end and the wide one (strings may have been interned) -/
abbrev EndN (s : State) (K N : Nat) : State → Outcome → List Loc → Prop := fun t o L => FrameEnd s o t L K N
abbrev EndW (s : State) (K N : Nat) : State → Outcome → List Loc → Prop := fun t o L => ReturnedEndW s o t L K N
/-- the wide contract -/
def MethW (l : Launch) (Z : State) (y : MethodName) (bytes : ByteArray) (maxL : Nat) (ret : Option FieldType) (rm : Room) (as' : Array Value) (h0 : Heap) (ws : List Addr) (Q : Option Value → Heap → Prop) : Prop :=
  ∀ wl, MetFree l y (head1 (Cond.code y bytes maxL ret :: wl) rm) (fun a U => a = as' ∧ Z.Warmed39 U.vm ∧ U.heap = h0) (fun _ _ _ _ _ => True) (fun _ U o U' => ∃ v L, o = .returned v ∧ (Q v U'.heap ∧ Keep h0 U'.heap ws ∧ FrW h0 ws L) ∧ ReturnedEndW U o U' L rm.cells rm.slots)
/-- the heap hasn't shrunk below n -/
def Sz (n : Nat) (h : Heap) : Prop := n ≤ h.size
theorem Sz.ext {n : Nat} {h h' : Heap} (F : Sz n h) (E : Ext h h') : Sz n h' := Nat.le_trans F E.1
theorem Sz.other {n : Nat} {h h' : Heap} {a : Addr} {sl : Nat} {v : Value} (F : Sz n h) (W : Wr h h' a sl v) (_ : True) : Sz n h' := by unfold Sz at *; rw [W.size]; exact F
theorem Sz.keep {n : Nat} {h h' : Heap} {ws : List Addr} (F : Sz n h) (K : Keep h h' ws) (_ : True) : Sz n h' := Nat.le_trans F K.1
/-- a method's contract: called with as' at the heap h0 it returns, writes ws and new cells alone, and Q holds -/
def Meth (l : Launch) (Z : State) (y : MethodName) (bytes : ByteArray) (maxL : Nat) (ret : Option FieldType) (rm : Room) (as' : Array Value) (h0 : Heap) (ws : List Addr) (Q : Option Value → Heap → Prop) : Prop :=
  ∀ wl, MetFree l y (head1 (Cond.code y bytes maxL ret :: wl) rm) (fun a U => a = as' ∧ Z.Warmed39 U.vm ∧ U.heap = h0) (fun _ _ _ _ _ => True) (fun _ U o U' => ∃ v L, o = .returned v ∧ (Q v U'.heap ∧ Keep h0 U'.heap ws ∧ FrW h0 ws L) ∧ FrameEnd U o U' L rm.cells rm.slots)
/-- an array of the kind ty that holds vs -/
def VA (Z : State) (h : Heap) (a : Addr) (ty : FieldType) (vs : List Value) : Prop := ∃ c : Cell, Arr Z h a c ty ∧ c.slots = vs.toArray ∧ vs.length < 2 ^ 31
section Arrays
variable {Z : State} {h h' : Heap} {a b : Addr} {ty : FieldType} {vs : List Value} {sl : Nat} {v : Value} {ws : List Addr}
theorem VA.lt (F : VA Z h a ty vs) : a < h.size := by obtain ⟨c, A, -⟩ := F; exact A.lt
theorem VA.ext (F : VA Z h a ty vs) (E : Ext h h') : VA Z h' a ty vs := by obtain ⟨c, A, r⟩ := F; exact ⟨c, A.ext E, r⟩
theorem VA.other (F : VA Z h b ty vs) (W : Wr h h' a sl v) (q : b ≠ a) : VA Z h' b ty vs := by obtain ⟨c, A, r⟩ := F; exact ⟨c, A.other W q, r⟩
theorem VA.keep (F : VA Z h a ty vs) (K : Keep h h' ws) (q : a ∉ ws) : VA Z h' a ty vs := by obtain ⟨c, A, r⟩ := F; exact ⟨c, ⟨K.2.1 a c A.1 q, A.2⟩, r⟩
theorem VA.set (F : VA Z h a ty vs) (W : Wr h h' a sl v) : VA Z h' a ty (vs.set sl v) := by
  obtain ⟨c, A, r, n⟩ := F
  refine ⟨_, A.same W, ?_, by simpa using n⟩
  show c.slots.setIfInBounds sl v = _
  rw [r]; simp
theorem VA.new {k : ClassId} {n : Int32} (A : Arr Z h a (newA k ty n) ty) (q : ¬ n < 0) : VA Z h a ty (List.replicate n.toNatClampNeg (defaultValue ty)) :=
  ⟨_, A, by simp [newA], by rw [List.length_replicate]; exact (back32 q).2⟩
theorem VA.len31 (F : VA Z h a ty vs) : vs.length < 2 ^ 31 := by obtain ⟨c, A, r, n⟩ := F; exact n
theorem inb {n : Nat} {j : Int32} (hj : 0 ≤ j.toInt ∧ j.toInt < n) : ¬ (j < 0 ∨ n ≤ j.toNatClampNeg) := by
  simp only [Int32.lt_iff_toInt_lt, Int32.toNatClampNeg, Int32.reduceToInt]; omega
theorem own_at {xs : List Int32} {j : Nat} (hj : j < xs.length) : (xs.map Value.int)[j]? = some (.int (xs.getD j 0)) := by
  simp [List.getElem?_eq_getElem hj]
theorem own_atL {xs : List Int64} {j : Nat} (hj : j < xs.length) : (xs.map Value.long)[j]? = some (.long (xs.getD j 0)) := by
  simp [List.getElem?_eq_getElem hj]
theorem own_set (xs : List Int32) (i : Nat) (v : Int32) : (xs.map Value.int).set i (.int v) = (xs.set i v).map Value.int := by simp [List.map_set]
theorem own_setL (xs : List Int64) (i : Nat) (v : Int64) : (xs.map Value.long).set i (.long v) = (xs.set i v).map Value.long := by simp [List.map_set]
theorem own_nat {j : Int32} {n : Nat} (h : 0 ≤ j.toInt ∧ j.toInt < n) : j.toNatClampNeg < n := by simp only [Int32.toNatClampNeg]; omega
end Arrays
section Go
variable {p : Program} {l : Launch} {e : Env} {R : Room} {s : State} {m : MethodId} {args : Array Value} {below : List Frame} {meth : Method} {c : Code} {Z : State} {bytes : ByteArray} {maxL : Nat} {own nm : String} {ret : Option FieldType} {h0 : Heap} {ws : List Addr} {T T' : State} {locs : List Loc} {h : Heap} {cells slots K N : Nat} {FE : State → Outcome → List Loc → Prop} {Q : Option Value → Heap → Prop} {pc pc' : Nat} {vm1 : Vm} {Ls Ls' : Array Slot} {st : List Value} {a0 : Array Value}
theorem Go.to {f f' : JFrame} (k : ∀ t, Steps p.tables e below (T'.setTop f') t → Steps p.tables e below (T.setTop f) t) (g : Go p e below FE h0 ws Q T' f') : Go p e below FE h0 ws Q T f := by
  obtain ⟨t, o, a, r⟩ := g; exact ⟨t, o, k t a, r⟩
theorem Go.mono {Q' : Option Value → Heap → Prop} {f : JFrame} (g : Go p e below FE h0 ws Q T f) (hq : ∀ v h, Q v h → Q' v h) : Go p e below FE h0 ws Q' T f := by
  obtain ⟨t, o, a, b, d, v, L, e1, ⟨q, r⟩, z⟩ := g; exact ⟨t, o, a, b, d, v, L, e1, ⟨hq _ _ q, r⟩, z⟩
theorem Go.entry {f f' : JFrame} (q : f = f') (g : Go p e below FE h0 ws Q T f') : Go p e below FE h0 ws Q T f := q ▸ g
theorem St.more (X : St p l e R s m args below meth c h0 ws T h cells slots) {cells' slots' : Nat} (h1 : cells ≤ cells') (h2 : slots ≤ slots') : St p l e R s m args below meth c h0 ws T h cells' slots' := by
  obtain ⟨L, X, r⟩ := X; exact ⟨L, X.more h1 h2, r⟩
theorem St.kept (X : St p l e R s m args below meth c h0 ws T h cells slots) : Keep h0 h ws := by obtain ⟨L, X, e1, k, f⟩ := X; exact k
theorem St.here (X : St p l e R s m args below meth c h0 ws T h cells slots) : At T m c below := by obtain ⟨L, X, r⟩ := X; exact X.here
theorem Meth.mono {y : MethodName} {rm : Room} {as' : Array Value} {Q' : Option Value → Heap → Prop} (M : Meth l Z y bytes maxL ret rm as' h0 ws Q) (hq : ∀ v h, Q v h → Q' v h) : Meth l Z y bytes maxL ret rm as' h0 ws Q' := by
  intro wl p e ha hc hk s m args below hf happ hP hK
  obtain ⟨n, o, a, b, d, v, L, e1, ⟨q, r⟩, z⟩ := M wl p e ha hc hk s m args below hf happ hP hK
  exact ⟨n, o, a, b, d, v, L, e1, ⟨hq _ _ q, r⟩, z⟩
theorem Meth.of {y : MethodName} {rm : Room} {as' : Array Value} (hpl : plainFor y = true)
    (body : ∀ (p : Program) (e : Env) (s : State) (m : MethodId) (below : List Frame) (meth : Method) (c : Code) (T : State), Fix p Z s m meth c bytes maxL y.cls y.name ret → St p l e rm s m as' below meth c h0 ws T h0 0 0 → Go p e below (EndN s rm.cells rm.slots) h0 ws Q T (entryFrame m as' maxL)) :
    Meth l Z y bytes maxL ret rm as' h0 ws Q := by
  intro wl
  refine MetFree.of_bodySF hpl hisR ?_
  intro p e s m args below meth c s₁ Bd hml0 hP hK
  obtain ⟨rfl, hZ, hh⟩ := hP
  have X0 : Stand p l e rm s m _ below meth c s₁ [] 0 0 := Stand.of_body Bd
  have e0 : s₁.heap = h0 := by rw [← hh, Bd.state]; rfl
  exact body p e s m below meth c s₁ ⟨Bd.exec, hZ, Bd.bytes, hml0, findClass_of_methodNamed Bd.named, (name_of_methodNamed Bd.named Bd.method).1, Bd.returns, Bd.notSynchronized⟩ ⟨[], X0, e0, Keep.refl _ _, fun y hy => nomatch hy⟩

theorem giload (B : Fix p Z s m meth c bytes maxL own nm ret) (X : St p l e R s m args below meth c h0 ws T h cells slots) {k : Nat} {v : Int32} (hd : decode bytes pc = .ok (.iload k, 2)) (hl : Ls[k]? = some (.val (.int v))) (hp : pc' = pc + 2) (g : Go p e below FE h0 ws Q T (mkF m pc' Ls (.int v :: st))) : Go p e below FE h0 ws Q T (mkF m pc Ls st) := by
  subst hp; obtain ⟨L, X, -⟩ := X; exact Go.to (fun t k => XS.iload X.here B.1 rfl (hb B.2.2.1 hd) hl k) g
theorem giloadN (B : Fix p Z s m meth c bytes maxL own nm ret) (X : St p l e R s m args below meth c h0 ws T h cells slots) {k : Fin 4} {v : Int32} (hd : decode bytes pc = .ok (.iload_n k, 1)) (hl : Ls[k.val]? = some (.val (.int v))) (hp : pc' = pc + 1) (g : Go p e below FE h0 ws Q T (mkF m pc' Ls (.int v :: st))) : Go p e below FE h0 ws Q T (mkF m pc Ls st) := by
  subst hp; obtain ⟨L, X, -⟩ := X; exact Go.to (fun t k => XS.iloadN X.here B.1 rfl (hb B.2.2.1 hd) hl k) g
theorem gistore (B : Fix p Z s m meth c bytes maxL own nm ret) (X : St p l e R s m args below meth c h0 ws T h cells slots) {k : Nat} {v : Int32} (hd : decode bytes pc = .ok (.istore k, 2)) (hl : storeLocals Ls k (.int v) = some Ls') (hp : pc' = pc + 2) (g : Go p e below FE h0 ws Q T (mkF m pc' Ls' st)) : Go p e below FE h0 ws Q T (mkF m pc Ls (.int v :: st)) := by
  subst hp; obtain ⟨L, X, -⟩ := X; exact Go.to (fun t k => XS.istore X.here B.1 rfl (hb B.2.2.1 hd) rfl hl k) g
theorem gistoreN (B : Fix p Z s m meth c bytes maxL own nm ret) (X : St p l e R s m args below meth c h0 ws T h cells slots) {k : Fin 4} {v : Int32} (hd : decode bytes pc = .ok (.istore_n k, 1)) (hl : storeLocals Ls k.val (.int v) = some Ls') (hp : pc' = pc + 1) (g : Go p e below FE h0 ws Q T (mkF m pc' Ls' st)) : Go p e below FE h0 ws Q T (mkF m pc Ls (.int v :: st)) := by
  subst hp; obtain ⟨L, X, -⟩ := X; exact Go.to (fun t k => XS.istoreN X.here B.1 rfl (hb B.2.2.1 hd) rfl hl k) g
theorem glload (B : Fix p Z s m meth c bytes maxL own nm ret) (X : St p l e R s m args below meth c h0 ws T h cells slots) {k : Nat} {v : Int64} (hd : decode bytes pc = .ok (.lload k, 2)) (hl : Ls[k]? = some (.val (.long v))) (hp : pc' = pc + 2) (g : Go p e below FE h0 ws Q T (mkF m pc' Ls (.long v :: st))) : Go p e below FE h0 ws Q T (mkF m pc Ls st) := by
  subst hp; obtain ⟨L, X, -⟩ := X; exact Go.to (fun t k => XS.lload X.here B.1 rfl (hb B.2.2.1 hd) hl k) g
theorem glloadN (B : Fix p Z s m meth c bytes maxL own nm ret) (X : St p l e R s m args below meth c h0 ws T h cells slots) {k : Fin 4} {v : Int64} (hd : decode bytes pc = .ok (.lload_n k, 1)) (hl : Ls[k.val]? = some (.val (.long v))) (hp : pc' = pc + 1) (g : Go p e below FE h0 ws Q T (mkF m pc' Ls (.long v :: st))) : Go p e below FE h0 ws Q T (mkF m pc Ls st) := by
  subst hp; obtain ⟨L, X, -⟩ := X; exact Go.to (fun t k => XS.lloadN X.here B.1 rfl (hb B.2.2.1 hd) hl k) g
theorem glstore (B : Fix p Z s m meth c bytes maxL own nm ret) (X : St p l e R s m args below meth c h0 ws T h cells slots) {k : Nat} {v : Int64} (hd : decode bytes pc = .ok (.lstore k, 2)) (hl : storeLocals Ls k (.long v) = some Ls') (hp : pc' = pc + 2) (g : Go p e below FE h0 ws Q T (mkF m pc' Ls' st)) : Go p e below FE h0 ws Q T (mkF m pc Ls (.long v :: st)) := by
  subst hp; obtain ⟨L, X, -⟩ := X; exact Go.to (fun t k => XS.lstore X.here B.1 rfl (hb B.2.2.1 hd) rfl hl k) g
theorem glstoreN (B : Fix p Z s m meth c bytes maxL own nm ret) (X : St p l e R s m args below meth c h0 ws T h cells slots) {k : Fin 4} {v : Int64} (hd : decode bytes pc = .ok (.lstore_n k, 1)) (hl : storeLocals Ls k.val (.long v) = some Ls') (hp : pc' = pc + 1) (g : Go p e below FE h0 ws Q T (mkF m pc' Ls' st)) : Go p e below FE h0 ws Q T (mkF m pc Ls (.long v :: st)) := by
  subst hp; obtain ⟨L, X, -⟩ := X; exact Go.to (fun t k => XS.lstoreN X.here B.1 rfl (hb B.2.2.1 hd) rfl hl k) g
theorem gaload (B : Fix p Z s m meth c bytes maxL own nm ret) (X : St p l e R s m args below meth c h0 ws T h cells slots) {k : Nat} {v : Value} (hd : decode bytes pc = .ok (.aload k, 2)) (hl : Ls[k]? = some (.val v)) (hv : v.isRef = true) (hp : pc' = pc + 2) (g : Go p e below FE h0 ws Q T (mkF m pc' Ls (v :: st))) : Go p e below FE h0 ws Q T (mkF m pc Ls st) := by
  subst hp; obtain ⟨L, X, -⟩ := X; exact Go.to (fun t k => XS.aload X.here B.1 rfl (hb B.2.2.1 hd) hl hv k) g
theorem galoadN (B : Fix p Z s m meth c bytes maxL own nm ret) (X : St p l e R s m args below meth c h0 ws T h cells slots) {k : Fin 4} {v : Value} (hd : decode bytes pc = .ok (.aload_n k, 1)) (hl : Ls[k.val]? = some (.val v)) (hv : v.isRef = true) (hp : pc' = pc + 1) (g : Go p e below FE h0 ws Q T (mkF m pc' Ls (v :: st))) : Go p e below FE h0 ws Q T (mkF m pc Ls st) := by
  subst hp; obtain ⟨L, X, -⟩ := X; exact Go.to (fun t k => XS.aloadN X.here B.1 rfl (hb B.2.2.1 hd) hl hv k) g
theorem gastore (B : Fix p Z s m meth c bytes maxL own nm ret) (X : St p l e R s m args below meth c h0 ws T h cells slots) {k : Nat} {v : Value} (hd : decode bytes pc = .ok (.astore k, 2)) (hv : v.isRef = true) (hl : storeLocals Ls k v = some Ls') (hp : pc' = pc + 2) (g : Go p e below FE h0 ws Q T (mkF m pc' Ls' st)) : Go p e below FE h0 ws Q T (mkF m pc Ls (v :: st)) := by
  subst hp; obtain ⟨L, X, -⟩ := X; exact Go.to (fun t k => XS.astore X.here B.1 rfl (hb B.2.2.1 hd) rfl hv hl k) g
theorem gastoreN (B : Fix p Z s m meth c bytes maxL own nm ret) (X : St p l e R s m args below meth c h0 ws T h cells slots) {k : Fin 4} {v : Value} (hd : decode bytes pc = .ok (.astore_n k, 1)) (hv : v.isRef = true) (hl : storeLocals Ls k.val v = some Ls') (hp : pc' = pc + 1) (g : Go p e below FE h0 ws Q T (mkF m pc' Ls' st)) : Go p e below FE h0 ws Q T (mkF m pc Ls (v :: st)) := by
  subst hp; obtain ⟨L, X, -⟩ := X; exact Go.to (fun t k => XS.astoreN X.here B.1 rfl (hb B.2.2.1 hd) rfl hv hl k) g
theorem giconst (B : Fix p Z s m meth c bytes maxL own nm ret) (X : St p l e R s m args below meth c h0 ws T h cells slots) {i : Int} {v : Int32} (hd : decode bytes pc = .ok (.iconst i, 1)) (hv : Int32.ofInt i = v) (hp : pc' = pc + 1) (g : Go p e below FE h0 ws Q T (mkF m pc' Ls (.int v :: st))) : Go p e below FE h0 ws Q T (mkF m pc Ls st) := by
  subst hp; subst hv; obtain ⟨L, X, -⟩ := X; exact Go.to (fun t k => XS.iconst X.here B.1 rfl (hb B.2.2.1 hd) k) g
theorem gbipush (B : Fix p Z s m meth c bytes maxL own nm ret) (X : St p l e R s m args below meth c h0 ws T h cells slots) {i : Int} {v : Int32} (hd : decode bytes pc = .ok (.bipush i, 2)) (hv : (Int8.ofInt i).toInt32 = v) (hp : pc' = pc + 2) (g : Go p e below FE h0 ws Q T (mkF m pc' Ls (.int v :: st))) : Go p e below FE h0 ws Q T (mkF m pc Ls st) := by
  subst hp; subst hv; obtain ⟨L, X, -⟩ := X; exact Go.to (fun t k => XS.bipush X.here B.1 rfl (hb B.2.2.1 hd) k) g
theorem gsipush (B : Fix p Z s m meth c bytes maxL own nm ret) (X : St p l e R s m args below meth c h0 ws T h cells slots) {i : Int} {v : Int32} (hd : decode bytes pc = .ok (.sipush i, 3)) (hv : (Int16.ofInt i).toInt32 = v) (hp : pc' = pc + 3) (g : Go p e below FE h0 ws Q T (mkF m pc' Ls (.int v :: st))) : Go p e below FE h0 ws Q T (mkF m pc Ls st) := by
  subst hp; subst hv; obtain ⟨L, X, -⟩ := X; exact Go.to (fun t k => XS.sipush X.here B.1 rfl (hb B.2.2.1 hd) k) g
theorem glconst (B : Fix p Z s m meth c bytes maxL own nm ret) (X : St p l e R s m args below meth c h0 ws T h cells slots) {k : Fin 2} {v : Int64} (hd : decode bytes pc = .ok (.lconst k, 1)) (hv : Int64.ofNat k = v) (hp : pc' = pc + 1) (g : Go p e below FE h0 ws Q T (mkF m pc' Ls (.long v :: st))) : Go p e below FE h0 ws Q T (mkF m pc Ls st) := by
  subst hp; subst hv; obtain ⟨L, X, -⟩ := X; exact Go.to (fun t k => XS.lconst X.here B.1 rfl (hb B.2.2.1 hd) k) g
theorem gnull (B : Fix p Z s m meth c bytes maxL own nm ret) (X : St p l e R s m args below meth c h0 ws T h cells slots)  (hd : decode bytes pc = .ok (.aconst_null, 1))  (hp : pc' = pc + 1) (g : Go p e below FE h0 ws Q T (mkF m pc' Ls (.null :: st))) : Go p e below FE h0 ws Q T (mkF m pc Ls st) := by
  subst hp; obtain ⟨L, X, -⟩ := X; exact Go.to (fun t k => XS.aconstNull X.here B.1 rfl (hb B.2.2.1 hd)  k) g
theorem giadd (B : Fix p Z s m meth c bytes maxL own nm ret) (X : St p l e R s m args below meth c h0 ws T h cells slots) {x y : Int32} {v : Int32} (hd : decode bytes pc = .ok (.iadd, 1))  (hv : x + y = v) (hp : pc' = pc + 1) (g : Go p e below FE h0 ws Q T (mkF m pc' Ls (.int v :: st))) : Go p e below FE h0 ws Q T (mkF m pc Ls (.int y :: .int x :: st)) := by
  subst hp; subst hv; obtain ⟨L, X, -⟩ := X; exact Go.to (fun t k => XS.iadd X.here B.1 rfl (hb B.2.2.1 hd) rfl k) g
theorem gladd (B : Fix p Z s m meth c bytes maxL own nm ret) (X : St p l e R s m args below meth c h0 ws T h cells slots) {x y : Int64} {v : Int64} (hd : decode bytes pc = .ok (.ladd, 1))  (hv : x + y = v) (hp : pc' = pc + 1) (g : Go p e below FE h0 ws Q T (mkF m pc' Ls (.long v :: st))) : Go p e below FE h0 ws Q T (mkF m pc Ls (.long y :: .long x :: st)) := by
  subst hp; subst hv; obtain ⟨L, X, -⟩ := X; exact Go.to (fun t k => XS.ladd X.here B.1 rfl (hb B.2.2.1 hd) rfl k) g
theorem gisub (B : Fix p Z s m meth c bytes maxL own nm ret) (X : St p l e R s m args below meth c h0 ws T h cells slots) {x y : Int32} {v : Int32} (hd : decode bytes pc = .ok (.isub, 1))  (hv : x - y = v) (hp : pc' = pc + 1) (g : Go p e below FE h0 ws Q T (mkF m pc' Ls (.int v :: st))) : Go p e below FE h0 ws Q T (mkF m pc Ls (.int y :: .int x :: st)) := by
  subst hp; subst hv; obtain ⟨L, X, -⟩ := X; exact Go.to (fun t k => XS.isub X.here B.1 rfl (hb B.2.2.1 hd) rfl k) g
theorem glsub (B : Fix p Z s m meth c bytes maxL own nm ret) (X : St p l e R s m args below meth c h0 ws T h cells slots) {x y : Int64} {v : Int64} (hd : decode bytes pc = .ok (.lsub, 1))  (hv : x - y = v) (hp : pc' = pc + 1) (g : Go p e below FE h0 ws Q T (mkF m pc' Ls (.long v :: st))) : Go p e below FE h0 ws Q T (mkF m pc Ls (.long y :: .long x :: st)) := by
  subst hp; subst hv; obtain ⟨L, X, -⟩ := X; exact Go.to (fun t k => XS.lsub X.here B.1 rfl (hb B.2.2.1 hd) rfl k) g
theorem gimul (B : Fix p Z s m meth c bytes maxL own nm ret) (X : St p l e R s m args below meth c h0 ws T h cells slots) {x y : Int32} {v : Int32} (hd : decode bytes pc = .ok (.imul, 1))  (hv : x * y = v) (hp : pc' = pc + 1) (g : Go p e below FE h0 ws Q T (mkF m pc' Ls (.int v :: st))) : Go p e below FE h0 ws Q T (mkF m pc Ls (.int y :: .int x :: st)) := by
  subst hp; subst hv; obtain ⟨L, X, -⟩ := X; exact Go.to (fun t k => XS.imul X.here B.1 rfl (hb B.2.2.1 hd) rfl k) g
theorem glmul (B : Fix p Z s m meth c bytes maxL own nm ret) (X : St p l e R s m args below meth c h0 ws T h cells slots) {x y : Int64} {v : Int64} (hd : decode bytes pc = .ok (.lmul, 1))  (hv : x * y = v) (hp : pc' = pc + 1) (g : Go p e below FE h0 ws Q T (mkF m pc' Ls (.long v :: st))) : Go p e below FE h0 ws Q T (mkF m pc Ls (.long y :: .long x :: st)) := by
  subst hp; subst hv; obtain ⟨L, X, -⟩ := X; exact Go.to (fun t k => XS.lmul X.here B.1 rfl (hb B.2.2.1 hd) rfl k) g
theorem giand (B : Fix p Z s m meth c bytes maxL own nm ret) (X : St p l e R s m args below meth c h0 ws T h cells slots) {x y : Int32} {v : Int32} (hd : decode bytes pc = .ok (.iand, 1))  (hv : x &&& y = v) (hp : pc' = pc + 1) (g : Go p e below FE h0 ws Q T (mkF m pc' Ls (.int v :: st))) : Go p e below FE h0 ws Q T (mkF m pc Ls (.int y :: .int x :: st)) := by
  subst hp; subst hv; obtain ⟨L, X, -⟩ := X; exact Go.to (fun t k => XS.iand X.here B.1 rfl (hb B.2.2.1 hd) rfl k) g
theorem gland (B : Fix p Z s m meth c bytes maxL own nm ret) (X : St p l e R s m args below meth c h0 ws T h cells slots) {x y : Int64} {v : Int64} (hd : decode bytes pc = .ok (.land, 1))  (hv : x &&& y = v) (hp : pc' = pc + 1) (g : Go p e below FE h0 ws Q T (mkF m pc' Ls (.long v :: st))) : Go p e below FE h0 ws Q T (mkF m pc Ls (.long y :: .long x :: st)) := by
  subst hp; subst hv; obtain ⟨L, X, -⟩ := X; exact Go.to (fun t k => XS.land X.here B.1 rfl (hb B.2.2.1 hd) rfl k) g
theorem gior (B : Fix p Z s m meth c bytes maxL own nm ret) (X : St p l e R s m args below meth c h0 ws T h cells slots) {x y : Int32} {v : Int32} (hd : decode bytes pc = .ok (.ior, 1))  (hv : x ||| y = v) (hp : pc' = pc + 1) (g : Go p e below FE h0 ws Q T (mkF m pc' Ls (.int v :: st))) : Go p e below FE h0 ws Q T (mkF m pc Ls (.int y :: .int x :: st)) := by
  subst hp; subst hv; obtain ⟨L, X, -⟩ := X; exact Go.to (fun t k => XS.ior X.here B.1 rfl (hb B.2.2.1 hd) rfl k) g
theorem glor (B : Fix p Z s m meth c bytes maxL own nm ret) (X : St p l e R s m args below meth c h0 ws T h cells slots) {x y : Int64} {v : Int64} (hd : decode bytes pc = .ok (.lor, 1))  (hv : x ||| y = v) (hp : pc' = pc + 1) (g : Go p e below FE h0 ws Q T (mkF m pc' Ls (.long v :: st))) : Go p e below FE h0 ws Q T (mkF m pc Ls (.long y :: .long x :: st)) := by
  subst hp; subst hv; obtain ⟨L, X, -⟩ := X; exact Go.to (fun t k => XS.lor X.here B.1 rfl (hb B.2.2.1 hd) rfl k) g
theorem gixor (B : Fix p Z s m meth c bytes maxL own nm ret) (X : St p l e R s m args below meth c h0 ws T h cells slots) {x y : Int32} {v : Int32} (hd : decode bytes pc = .ok (.ixor, 1))  (hv : x ^^^ y = v) (hp : pc' = pc + 1) (g : Go p e below FE h0 ws Q T (mkF m pc' Ls (.int v :: st))) : Go p e below FE h0 ws Q T (mkF m pc Ls (.int y :: .int x :: st)) := by
  subst hp; subst hv; obtain ⟨L, X, -⟩ := X; exact Go.to (fun t k => XS.ixor X.here B.1 rfl (hb B.2.2.1 hd) rfl k) g
theorem glxor (B : Fix p Z s m meth c bytes maxL own nm ret) (X : St p l e R s m args below meth c h0 ws T h cells slots) {x y : Int64} {v : Int64} (hd : decode bytes pc = .ok (.lxor, 1))  (hv : x ^^^ y = v) (hp : pc' = pc + 1) (g : Go p e below FE h0 ws Q T (mkF m pc' Ls (.long v :: st))) : Go p e below FE h0 ws Q T (mkF m pc Ls (.long y :: .long x :: st)) := by
  subst hp; subst hv; obtain ⟨L, X, -⟩ := X; exact Go.to (fun t k => XS.lxor X.here B.1 rfl (hb B.2.2.1 hd) rfl k) g
theorem gidiv (B : Fix p Z s m meth c bytes maxL own nm ret) (X : St p l e R s m args below meth c h0 ws T h cells slots) {x y : Int32} {v : Int32} (hd : decode bytes pc = .ok (.idiv, 1)) (hy : y ≠ 0) (hv : x / y = v) (hp : pc' = pc + 1) (g : Go p e below FE h0 ws Q T (mkF m pc' Ls (.int v :: st))) : Go p e below FE h0 ws Q T (mkF m pc Ls (.int y :: .int x :: st)) := by
  subst hp; subst hv; obtain ⟨L, X, -⟩ := X; exact Go.to (fun t k => XS.idiv X.here B.1 rfl (hb B.2.2.1 hd) rfl hy k) g
theorem gldiv (B : Fix p Z s m meth c bytes maxL own nm ret) (X : St p l e R s m args below meth c h0 ws T h cells slots) {x y : Int64} {v : Int64} (hd : decode bytes pc = .ok (.ldiv, 1)) (hy : y ≠ 0) (hv : x / y = v) (hp : pc' = pc + 1) (g : Go p e below FE h0 ws Q T (mkF m pc' Ls (.long v :: st))) : Go p e below FE h0 ws Q T (mkF m pc Ls (.long y :: .long x :: st)) := by
  subst hp; subst hv; obtain ⟨L, X, -⟩ := X; exact Go.to (fun t k => XS.ldiv X.here B.1 rfl (hb B.2.2.1 hd) rfl hy k) g
theorem girem (B : Fix p Z s m meth c bytes maxL own nm ret) (X : St p l e R s m args below meth c h0 ws T h cells slots) {x y v : Int32} (hd : decode bytes pc = .ok (.irem, 1)) (hy : y ≠ 0) (hv : x % y = v) (hp : pc' = pc + 1) (g : Go p e below FE h0 ws Q T (mkF m pc' Ls (.int v :: st))) : Go p e below FE h0 ws Q T (mkF m pc Ls (.int y :: .int x :: st)) := by
  subst hp; subst hv; obtain ⟨L, X, -⟩ := X; exact Go.to (fun t k => iremM X B.1 rfl (hb B.2.2.1 hd) rfl hy k) g
theorem glrem (B : Fix p Z s m meth c bytes maxL own nm ret) (X : St p l e R s m args below meth c h0 ws T h cells slots) {x y v : Int64} (hd : decode bytes pc = .ok (.lrem, 1)) (hy : y ≠ 0) (hv : x % y = v) (hp : pc' = pc + 1) (g : Go p e below FE h0 ws Q T (mkF m pc' Ls (.long v :: st))) : Go p e below FE h0 ws Q T (mkF m pc Ls (.long y :: .long x :: st)) := by
  subst hp; subst hv; obtain ⟨L, X, -⟩ := X; exact Go.to (fun t k => XS.lrem X.here B.1 rfl (hb B.2.2.1 hd) rfl hy (by rw [lrem_mod]; exact k)) g
theorem gishl (B : Fix p Z s m meth c bytes maxL own nm ret) (X : St p l e R s m args below meth c h0 ws T h cells slots) {x y : Int32} {v : Int32} (hd : decode bytes pc = .ok (.ishl, 1))  (hv : x <<< (y &&& 31) = v) (hp : pc' = pc + 1) (g : Go p e below FE h0 ws Q T (mkF m pc' Ls (.int v :: st))) : Go p e below FE h0 ws Q T (mkF m pc Ls (.int y :: .int x :: st)) := by
  subst hp; subst hv; obtain ⟨L, X, -⟩ := X; exact Go.to (fun t k => XS.ishl X.here B.1 rfl (hb B.2.2.1 hd) rfl k) g
theorem gishr (B : Fix p Z s m meth c bytes maxL own nm ret) (X : St p l e R s m args below meth c h0 ws T h cells slots) {x y : Int32} {v : Int32} (hd : decode bytes pc = .ok (.ishr, 1))  (hv : x >>> (y &&& 31) = v) (hp : pc' = pc + 1) (g : Go p e below FE h0 ws Q T (mkF m pc' Ls (.int v :: st))) : Go p e below FE h0 ws Q T (mkF m pc Ls (.int y :: .int x :: st)) := by
  subst hp; subst hv; obtain ⟨L, X, -⟩ := X; exact Go.to (fun t k => XS.ishr X.here B.1 rfl (hb B.2.2.1 hd) rfl k) g
theorem giushr (B : Fix p Z s m meth c bytes maxL own nm ret) (X : St p l e R s m args below meth c h0 ws T h cells slots) {x y : Int32} {v : Int32} (hd : decode bytes pc = .ok (.iushr, 1))  (hv : (x.toUInt32 >>> (y &&& 31).toUInt32).toInt32 = v) (hp : pc' = pc + 1) (g : Go p e below FE h0 ws Q T (mkF m pc' Ls (.int v :: st))) : Go p e below FE h0 ws Q T (mkF m pc Ls (.int y :: .int x :: st)) := by
  subst hp; subst hv; obtain ⟨L, X, -⟩ := X; exact Go.to (fun t k => XS.iushr X.here B.1 rfl (hb B.2.2.1 hd) rfl k) g
theorem glshl (B : Fix p Z s m meth c bytes maxL own nm ret) (X : St p l e R s m args below meth c h0 ws T h cells slots) {x : Int64} {y : Int32} {v : Int64} (hd : decode bytes pc = .ok (.lshl, 1))  (hv : x <<< (y &&& 0x3f).toInt64 = v) (hp : pc' = pc + 1) (g : Go p e below FE h0 ws Q T (mkF m pc' Ls (.long v :: st))) : Go p e below FE h0 ws Q T (mkF m pc Ls (.int y :: .long x :: st)) := by
  subst hp; subst hv; obtain ⟨L, X, -⟩ := X; exact Go.to (fun t k => XS.lshl X.here B.1 rfl (hb B.2.2.1 hd) rfl k) g
theorem glshr (B : Fix p Z s m meth c bytes maxL own nm ret) (X : St p l e R s m args below meth c h0 ws T h cells slots) {x : Int64} {y : Int32} {v : Int64} (hd : decode bytes pc = .ok (.lshr, 1))  (hv : x >>> (y &&& 0x3f).toInt64 = v) (hp : pc' = pc + 1) (g : Go p e below FE h0 ws Q T (mkF m pc' Ls (.long v :: st))) : Go p e below FE h0 ws Q T (mkF m pc Ls (.int y :: .long x :: st)) := by
  subst hp; subst hv; obtain ⟨L, X, -⟩ := X; exact Go.to (fun t k => XS.lshr X.here B.1 rfl (hb B.2.2.1 hd) rfl k) g
theorem glushr (B : Fix p Z s m meth c bytes maxL own nm ret) (X : St p l e R s m args below meth c h0 ws T h cells slots) {x : Int64} {y : Int32} {v : Int64} (hd : decode bytes pc = .ok (.lushr, 1))  (hv : (x.toUInt64 >>> (y &&& 0x3f).toInt64.toUInt64).toInt64 = v) (hp : pc' = pc + 1) (g : Go p e below FE h0 ws Q T (mkF m pc' Ls (.long v :: st))) : Go p e below FE h0 ws Q T (mkF m pc Ls (.int y :: .long x :: st)) := by
  subst hp; subst hv; obtain ⟨L, X, -⟩ := X; exact Go.to (fun t k => XS.lushr X.here B.1 rfl (hb B.2.2.1 hd) rfl k) g
theorem gineg (B : Fix p Z s m meth c bytes maxL own nm ret) (X : St p l e R s m args below meth c h0 ws T h cells slots) {x : Int32} {v : Int32} (hd : decode bytes pc = .ok (.ineg, 1))  (hv : -x = v) (hp : pc' = pc + 1) (g : Go p e below FE h0 ws Q T (mkF m pc' Ls (.int v :: st))) : Go p e below FE h0 ws Q T (mkF m pc Ls (.int x :: st)) := by
  subst hp; subst hv; obtain ⟨L, X, -⟩ := X; exact Go.to (fun t k => XS.ineg X.here B.1 rfl (hb B.2.2.1 hd) rfl k) g
theorem glneg (B : Fix p Z s m meth c bytes maxL own nm ret) (X : St p l e R s m args below meth c h0 ws T h cells slots) {x : Int64} {v : Int64} (hd : decode bytes pc = .ok (.lneg, 1))  (hv : -x = v) (hp : pc' = pc + 1) (g : Go p e below FE h0 ws Q T (mkF m pc' Ls (.long v :: st))) : Go p e below FE h0 ws Q T (mkF m pc Ls (.long x :: st)) := by
  subst hp; subst hv; obtain ⟨L, X, -⟩ := X; exact Go.to (fun t k => XS.lneg X.here B.1 rfl (hb B.2.2.1 hd) rfl k) g
theorem gi2l (B : Fix p Z s m meth c bytes maxL own nm ret) (X : St p l e R s m args below meth c h0 ws T h cells slots) {x : Int32} {v : Int64} (hd : decode bytes pc = .ok (.i2l, 1))  (hv : x.toInt64 = v) (hp : pc' = pc + 1) (g : Go p e below FE h0 ws Q T (mkF m pc' Ls (.long v :: st))) : Go p e below FE h0 ws Q T (mkF m pc Ls (.int x :: st)) := by
  subst hp; subst hv; obtain ⟨L, X, -⟩ := X; exact Go.to (fun t k => XS.i2l X.here B.1 rfl (hb B.2.2.1 hd) rfl k) g
theorem gl2i (B : Fix p Z s m meth c bytes maxL own nm ret) (X : St p l e R s m args below meth c h0 ws T h cells slots) {x : Int64} {v : Int32} (hd : decode bytes pc = .ok (.l2i, 1))  (hv : x.toInt32 = v) (hp : pc' = pc + 1) (g : Go p e below FE h0 ws Q T (mkF m pc' Ls (.int v :: st))) : Go p e below FE h0 ws Q T (mkF m pc Ls (.long x :: st)) := by
  subst hp; subst hv; obtain ⟨L, X, -⟩ := X; exact Go.to (fun t k => XS.l2i X.here B.1 rfl (hb B.2.2.1 hd) rfl k) g
theorem gi2b (B : Fix p Z s m meth c bytes maxL own nm ret) (X : St p l e R s m args below meth c h0 ws T h cells slots) {x : Int32} {v : Int32} (hd : decode bytes pc = .ok (.i2b, 1))  (hv : x.toInt8.toInt32 = v) (hp : pc' = pc + 1) (g : Go p e below FE h0 ws Q T (mkF m pc' Ls (.int v :: st))) : Go p e below FE h0 ws Q T (mkF m pc Ls (.int x :: st)) := by
  subst hp; subst hv; obtain ⟨L, X, -⟩ := X; exact Go.to (fun t k => XS.i2b X.here B.1 rfl (hb B.2.2.1 hd) rfl k) g
theorem gi2s (B : Fix p Z s m meth c bytes maxL own nm ret) (X : St p l e R s m args below meth c h0 ws T h cells slots) {x : Int32} {v : Int32} (hd : decode bytes pc = .ok (.i2s, 1))  (hv : x.toInt16.toInt32 = v) (hp : pc' = pc + 1) (g : Go p e below FE h0 ws Q T (mkF m pc' Ls (.int v :: st))) : Go p e below FE h0 ws Q T (mkF m pc Ls (.int x :: st)) := by
  subst hp; subst hv; obtain ⟨L, X, -⟩ := X; exact Go.to (fun t k => XS.i2s X.here B.1 rfl (hb B.2.2.1 hd) rfl k) g
theorem gi2c (B : Fix p Z s m meth c bytes maxL own nm ret) (X : St p l e R s m args below meth c h0 ws T h cells slots) {x : Int32} {v : Int32} (hd : decode bytes pc = .ok (.i2c, 1))  (hv : x.toUInt32.toUInt16.toUInt32.toInt32 = v) (hp : pc' = pc + 1) (g : Go p e below FE h0 ws Q T (mkF m pc' Ls (.int v :: st))) : Go p e below FE h0 ws Q T (mkF m pc Ls (.int x :: st)) := by
  subst hp; subst hv; obtain ⟨L, X, -⟩ := X; exact Go.to (fun t k => XS.i2c X.here B.1 rfl (hb B.2.2.1 hd) rfl k) g
theorem glcmp (B : Fix p Z s m meth c bytes maxL own nm ret) (X : St p l e R s m args below meth c h0 ws T h cells slots) {x y : Int64} (hd : decode bytes pc = .ok (.lcmp, 1))  (hp : pc' = pc + 1) (g : Go p e below FE h0 ws Q T (mkF m pc' Ls (.int (lcmpW x y) :: st))) : Go p e below FE h0 ws Q T (mkF m pc Ls (.long y :: .long x :: st)) := by
  subst hp; obtain ⟨L, X, -⟩ := X; exact Go.to (fun t k => XS.lcmp X.here B.1 rfl (hb B.2.2.1 hd) rfl k) g
theorem gdup (B : Fix p Z s m meth c bytes maxL own nm ret) (X : St p l e R s m args below meth c h0 ws T h cells slots) {x : Value} (hd : decode bytes pc = .ok (.dup, 1)) (hc : x.category = 1) (hp : pc' = pc + 1) (g : Go p e below FE h0 ws Q T (mkF m pc' Ls (x :: x :: st))) : Go p e below FE h0 ws Q T (mkF m pc Ls (x :: st)) := by
  subst hp; obtain ⟨L, X, -⟩ := X; exact Go.to (fun t k => XS.dup X.here B.1 rfl (hb B.2.2.1 hd) rfl hc k) g
theorem gpop (B : Fix p Z s m meth c bytes maxL own nm ret) (X : St p l e R s m args below meth c h0 ws T h cells slots) {x : Value} (hd : decode bytes pc = .ok (.pop, 1)) (hc : x.category = 1) (hp : pc' = pc + 1) (g : Go p e below FE h0 ws Q T (mkF m pc' Ls st)) : Go p e below FE h0 ws Q T (mkF m pc Ls (x :: st)) := by
  subst hp; obtain ⟨L, X, -⟩ := X; exact Go.to (fun t k => XS.pop X.here B.1 rfl (hb B.2.2.1 hd) rfl hc k) g
theorem gdup_x1 (B : Fix p Z s m meth c bytes maxL own nm ret) (X : St p l e R s m args below meth c h0 ws T h cells slots) {x y : Value} (hd : decode bytes pc = .ok (.dup_x1, 1)) (hc : x.category = 1) (hc2 : y.category = 1) (hp : pc' = pc + 1) (g : Go p e below FE h0 ws Q T (mkF m pc' Ls (x :: y :: x :: st))) : Go p e below FE h0 ws Q T (mkF m pc Ls (x :: y :: st)) := by
  subst hp; obtain ⟨L, X, -⟩ := X; exact Go.to (fun t k => XS.dupX1 X.here B.1 rfl (hb B.2.2.1 hd) rfl hc hc2 k) g
theorem gdup2 (B : Fix p Z s m meth c bytes maxL own nm ret) (X : St p l e R s m args below meth c h0 ws T h cells slots) {x y : Value} (hd : decode bytes pc = .ok (.dup2, 1)) (hc : x.category = 1) (hc2 : y.category = 1) (hp : pc' = pc + 1) (g : Go p e below FE h0 ws Q T (mkF m pc' Ls (x :: y :: x :: y :: st))) : Go p e below FE h0 ws Q T (mkF m pc Ls (x :: y :: st)) := by
  subst hp; obtain ⟨L, X, -⟩ := X; exact Go.to (fun t k => Jvm.Free.XT.dup2 X.here B.1 rfl (hb B.2.2.1 hd) rfl hc hc2 k) g
theorem xdup_x2 {tb : Tables} [Ours tb] {target : State} {g : JFrame} (h : At T m c below) (hx : tb.exec = Jvm.exec) (hg : g.method = m) {x y z : Value} {rest : List Value} (hd : decode c.code g.pc = .ok (.dup_x2, 1)) (hs : g.stack = x :: y :: z :: rest) (hc : x.category = 1) (hc' : y.category = 1) (hc2 : z.category = 1)
    (hr : Steps tb e below (T.setTop { g with pc := g.pc + 1, stack := x :: y :: z :: x :: rest }) target) : Steps tb e below (T.setTop g) target := by
  subst hg
  jvm_step h [h.top, hx, hd, hs, hc, hc', hc2]
  exact hr
theorem gdup_x2 (B : Fix p Z s m meth c bytes maxL own nm ret) (X : St p l e R s m args below meth c h0 ws T h cells slots) {x y z : Value} (hd : decode bytes pc = .ok (.dup_x2, 1)) (hc : x.category = 1) (hc2 : y.category = 1) (hc3 : z.category = 1) (hp : pc' = pc + 1) (g : Go p e below FE h0 ws Q T (mkF m pc' Ls (x :: y :: z :: x :: st))) : Go p e below FE h0 ws Q T (mkF m pc Ls (x :: y :: z :: st)) := by
  subst hp; obtain ⟨L, X, -⟩ := X; exact Go.to (fun t k => xdup_x2 X.here B.1 rfl (hb B.2.2.1 hd) rfl hc hc2 hc3 k) g
theorem giinc (B : Fix p Z s m meth c bytes maxL own nm ret) (X : St p l e R s m args below meth c h0 ws T h cells slots) {k : Nat} {cst : Int} {x v : Int32} (hd : decode bytes pc = .ok (.iinc k cst, 3)) (hl : Ls[k]? = some (.val (.int x))) (hv : x + Int32.ofInt cst = v) (hl' : storeLocals Ls k (.int v) = some Ls') (hp : pc' = pc + 3) (g : Go p e below FE h0 ws Q T (mkF m pc' Ls' st)) : Go p e below FE h0 ws Q T (mkF m pc Ls st) := by
  subst hp; subst hv; obtain ⟨L, X, -⟩ := X; exact Go.to (fun t k => XS.iinc X.here B.1 rfl (hb B.2.2.1 hd) hl hl' k) g
theorem ggoto (B : Fix p Z s m meth c bytes maxL own nm ret) (X : St p l e R s m args below meth c h0 ws T h cells slots) {o : Int} (hd : decode bytes pc = .ok (.goto o, 3)) (ho : 0 ≤ (pc : Int) + o ∧ ((pc : Int) + o).toNat = pc') (g : Go p e below FE h0 ws Q T (mkF m pc' Ls st)) : Go p e below FE h0 ws Q T (mkF m pc Ls st) := by
  obtain ⟨L, X, -⟩ := X; exact Go.to (fun t k => XS.goto X.here B.1 rfl (pc0 := pc) rfl (hb B.2.2.1 hd) ho.1 ho.2 k) g
theorem gifY (B : Fix p Z s m meth c bytes maxL own nm ret) (X : St p l e R s m args below meth c h0 ws T h cells slots) {cd : ClassFile.Cond} {o : Int} {x : Int32} (hd : decode bytes pc = .ok (.ifCond cd o, 3)) (hc : ifCond.holds cd x = true) (ho : 0 ≤ (pc : Int) + o ∧ ((pc : Int) + o).toNat = pc') (g : Go p e below FE h0 ws Q T (mkF m pc' Ls st)) : Go p e below FE h0 ws Q T (mkF m pc Ls (.int x :: st)) := by
  obtain ⟨L, X, -⟩ := X; exact Go.to (fun t k => XS.ifYes X.here B.1 rfl (pc0 := pc) rfl (hb B.2.2.1 hd) rfl hc ho.1 ho.2 k) g
theorem gifN (B : Fix p Z s m meth c bytes maxL own nm ret) (X : St p l e R s m args below meth c h0 ws T h cells slots) {cd : ClassFile.Cond} {o : Int} {x : Int32} (hd : decode bytes pc = .ok (.ifCond cd o, 3)) (hc : ifCond.holds cd x = false) (hp : pc' = pc + 3) (g : Go p e below FE h0 ws Q T (mkF m pc' Ls st)) : Go p e below FE h0 ws Q T (mkF m pc Ls (.int x :: st)) := by
  subst hp; obtain ⟨L, X, -⟩ := X; exact Go.to (fun t k => XS.ifNo X.here B.1 rfl (hb B.2.2.1 hd) rfl hc k) g
theorem gicY (B : Fix p Z s m meth c bytes maxL own nm ret) (X : St p l e R s m args below meth c h0 ws T h cells slots) {cd : ClassFile.Cond} {o : Int} {x y : Int32} (hd : decode bytes pc = .ok (.if_icmp cd o, 3)) (hc : if_icmp.holds cd x y = true) (ho : 0 ≤ (pc : Int) + o ∧ ((pc : Int) + o).toNat = pc') (g : Go p e below FE h0 ws Q T (mkF m pc' Ls st)) : Go p e below FE h0 ws Q T (mkF m pc Ls (.int y :: .int x :: st)) := by
  obtain ⟨L, X, -⟩ := X; exact Go.to (fun t k => XS.icmpYes X.here B.1 rfl (pc0 := pc) rfl (hb B.2.2.1 hd) rfl hc ho.1 ho.2 k) g
theorem gicN (B : Fix p Z s m meth c bytes maxL own nm ret) (X : St p l e R s m args below meth c h0 ws T h cells slots) {cd : ClassFile.Cond} {o : Int} {x y : Int32} (hd : decode bytes pc = .ok (.if_icmp cd o, 3)) (hc : if_icmp.holds cd x y = false) (hp : pc' = pc + 3) (g : Go p e below FE h0 ws Q T (mkF m pc' Ls st)) : Go p e below FE h0 ws Q T (mkF m pc Ls (.int y :: .int x :: st)) := by
  subst hp; obtain ⟨L, X, -⟩ := X; exact Go.to (fun t k => XS.icmpNo X.here B.1 rfl (hb B.2.2.1 hd) rfl hc k) g
theorem gnullN (B : Fix p Z s m meth c bytes maxL own nm ret) (X : St p l e R s m args below meth c h0 ws T h cells slots) {a : Addr} {o : Int} (hd : decode bytes pc = .ok (.ifnull o, 3)) (hp : pc' = pc + 3) (g : Go p e below FE h0 ws Q T (mkF m pc' Ls st)) : Go p e below FE h0 ws Q T (mkF m pc Ls (.ref a :: st)) := by
  subst hp; obtain ⟨L, X, -⟩ := X; exact Go.to (fun t k => XS.ifnullNo X.here B.1 rfl (hb B.2.2.1 hd) rfl k) g
theorem gldc (B : Fix p Z s m meth c bytes maxL own nm ret) (X : St p l e R s m args below meth c h0 ws T h cells slots) {i : Nat} {v : Int32} (w : (Cond.constant own i v).before a0 Z = true) (hd : decode bytes pc = .ok (.ldc i, 2)) (hp : pc' = pc + 2) (g : Go p e below FE h0 ws Q T (mkF m pc' Ls (.int v :: st))) : Go p e below FE h0 ws Q T (mkF m pc Ls st) := by
  subst hp; obtain ⟨L, X, -⟩ := X; exact Go.to (fun t k => X.ldcInt B.1 B.2.2.2.2.1 (mvT B.2.1 w) (g := mkF m pc Ls st) rfl (hb B.2.2.1 hd) t k) g
theorem gldcw (B : Fix p Z s m meth c bytes maxL own nm ret) (X : St p l e R s m args below meth c h0 ws T h cells slots) {i : Nat} {v : Int32} (w : (Cond.constant own i v).before a0 Z = true) (hd : decode bytes pc = .ok (.ldc_w i, 3)) (hp : pc' = pc + 3) (g : Go p e below FE h0 ws Q T (mkF m pc' Ls (.int v :: st))) : Go p e below FE h0 ws Q T (mkF m pc Ls st) := by
  subst hp; obtain ⟨L, X, -⟩ := X; exact Go.to (fun t k => X.ldcwInt B.1 B.2.2.2.2.1 (mvT B.2.1 w) (g := mkF m pc Ls st) rfl (hb B.2.2.1 hd) t k) g
theorem gldc2 (B : Fix p Z s m meth c bytes maxL own nm ret) (X : St p l e R s m args below meth c h0 ws T h cells slots) {i : Nat} {v : Int64} (w : (Cond.constantLong own i v).before a0 Z = true) (hd : decode bytes pc = .ok (.ldc2_w i, 3)) (hp : pc' = pc + 3) (g : Go p e below FE h0 ws Q T (mkF m pc' Ls (.long v :: st))) : Go p e below FE h0 ws Q T (mkF m pc Ls st) := by
  subst hp; obtain ⟨L, X, -⟩ := X; exact Go.to (fun t k => X.ldc2Long B.1 B.2.2.2.2.1 (mvT B.2.1 w) (g := mkF m pc Ls st) rfl (hb B.2.2.1 hd) t k) g
theorem giaload (B : Fix p Z s m meth c bytes maxL own nm ret) (X : St p l e R s m args below meth c h0 ws T h cells slots) {a : Addr} {vs : List Value} {j : Int32} {v : Value} {n : Nat} (A : VA Z h a .int vs) (hn : vs.length = n) (hj : 0 ≤ j.toInt ∧ j.toInt < n) (hv : vs[j.toNatClampNeg]? = some v) (hd : decode bytes pc = .ok (.iaload, 1)) (hp : pc' = pc + 1) (g : Go p e below FE h0 ws Q T (mkF m pc' Ls (v :: st))) : Go p e below FE h0 ws Q T (mkF m pc Ls (.int j :: .ref a :: st)) := by
  subst hp; subst hn; obtain ⟨L, X, eT, -⟩ := X; obtain ⟨cl, A, r, n⟩ := A
  exact Go.to (fun t k => X.iaload B.1 (by rw [eT]; exact A.1) (State.isArrayOf_alike B.2.1.alike A.2.1) A.2.2 (by rw [r]; exact inb (by simpa using hj)) (by rw [r]; simpa using hv) (g := mkF m pc Ls (.int j :: .ref a :: st)) rfl rfl (hb B.2.2.1 hd) t k) g
theorem glaload (B : Fix p Z s m meth c bytes maxL own nm ret) (X : St p l e R s m args below meth c h0 ws T h cells slots) {a : Addr} {vs : List Value} {j : Int32} {v : Value} {n : Nat} (A : VA Z h a .long vs) (hn : vs.length = n) (hj : 0 ≤ j.toInt ∧ j.toInt < n) (hv : vs[j.toNatClampNeg]? = some v) (hd : decode bytes pc = .ok (.laload, 1)) (hp : pc' = pc + 1) (g : Go p e below FE h0 ws Q T (mkF m pc' Ls (v :: st))) : Go p e below FE h0 ws Q T (mkF m pc Ls (.int j :: .ref a :: st)) := by
  subst hp; subst hn; obtain ⟨L, X, eT, -⟩ := X; obtain ⟨cl, A, r, n⟩ := A
  exact Go.to (fun t k => X.laload B.1 (by rw [eT]; exact A.1) (State.isArrayOf_alike B.2.1.alike A.2.1) A.2.2 (by rw [r]; exact inb (by simpa using hj)) (by rw [r]; simpa using hv) (g := mkF m pc Ls (.int j :: .ref a :: st)) rfl rfl (hb B.2.2.1 hd) t k) g
theorem gbaload (B : Fix p Z s m meth c bytes maxL own nm ret) (X : St p l e R s m args below meth c h0 ws T h cells slots) {a : Addr} {vs : List Value} {j : Int32} {v : Value} {n : Nat} (A : VA Z h a .byte vs) (hn : vs.length = n) (hj : 0 ≤ j.toInt ∧ j.toInt < n) (hv : vs[j.toNatClampNeg]? = some v) (hd : decode bytes pc = .ok (.baload, 1)) (hp : pc' = pc + 1) (g : Go p e below FE h0 ws Q T (mkF m pc' Ls (v :: st))) : Go p e below FE h0 ws Q T (mkF m pc Ls (.int j :: .ref a :: st)) := by
  subst hp; subst hn; obtain ⟨L, X, eT, -⟩ := X; obtain ⟨cl, A, r, n⟩ := A
  exact Go.to (fun t k => X.baloadBytes B.1 (by rw [eT]; exact A.1) (State.isArrayOf_alike B.2.1.alike A.2.1) A.2.2 (by rw [r]; exact inb (by simpa using hj)) (by rw [r]; simpa using hv) (g := mkF m pc Ls (.int j :: .ref a :: st)) rfl rfl (hb B.2.2.1 hd) t k) g
theorem gzaload (B : Fix p Z s m meth c bytes maxL own nm ret) (X : St p l e R s m args below meth c h0 ws T h cells slots) {a : Addr} {vs : List Value} {j : Int32} {v : Value} {n : Nat} (A : VA Z h a .boolean vs) (hn : vs.length = n) (hj : 0 ≤ j.toInt ∧ j.toInt < n) (hv : vs[j.toNatClampNeg]? = some v) (hd : decode bytes pc = .ok (.baload, 1)) (hp : pc' = pc + 1) (g : Go p e below FE h0 ws Q T (mkF m pc' Ls (v :: st))) : Go p e below FE h0 ws Q T (mkF m pc Ls (.int j :: .ref a :: st)) := by
  subst hp; subst hn; obtain ⟨L, X, eT, -⟩ := X; obtain ⟨cl, A, r, n⟩ := A
  exact Go.to (fun t k => X.baloadBooleans B.1 (by rw [eT]; exact A.1) (State.isArrayOf_alike B.2.1.alike A.2.1) A.2.2 (by rw [r]; exact inb (by simpa using hj)) (by rw [r]; simpa using hv) (g := mkF m pc Ls (.int j :: .ref a :: st)) rfl rfl (hb B.2.2.1 hd) t k) g
theorem glength (B : Fix p Z s m meth c bytes maxL own nm ret) (X : St p l e R s m args below meth c h0 ws T h cells slots) {a : Addr} {ty : FieldType} {vs : List Value} {n : Int32} {k : Nat} (A : VA Z h a ty vs) (hk : vs.length = k) (hn : n.toInt = k) (hd : decode bytes pc = .ok (.arraylength, 1)) (hp : pc' = pc + 1) (g : Go p e below FE h0 ws Q T (mkF m pc' Ls (.int n :: st))) : Go p e below FE h0 ws Q T (mkF m pc Ls (.ref a :: st)) := by
  subst hp; subst hk; obtain ⟨L, X, eT, -⟩ := X; obtain ⟨cl, A, r, q⟩ := A
  have e1 : cl.slots.size.toInt32 = n := by rw [r]; apply Int32.toInt_inj.mp; rw [len_toInt (by simpa using q), hn]; simp
  exact Go.to (fun t k => X.arraylength B.1 (by rw [eT]; exact A.1) (State.isArrayOf_alike B.2.1.alike A.2.1) (g := mkF m pc Ls (.ref a :: st)) rfl rfl (hb B.2.2.1 hd) t (by rw [e1]; exact k)) g
theorem giastore (B : Fix p Z s m meth c bytes maxL own nm ret) (X : St p l e R s m args below meth c h0 ws T h cells slots) {a : Addr} {vs vs' : List Value} {j : Int32} {x : Int32} {i n : Nat} (A : VA Z h a .int vs) (hn : vs.length = n) (hj : 0 ≤ j.toInt ∧ j.toInt < n) (hi : j.toNatClampNeg = i) (hvs : vs.set i (.int x) = vs') (ha : a ∈ ws ∨ h0.size ≤ a) (hd : decode bytes pc = .ok (.iastore, 1)) (hp : pc' = pc + 1) (g : ∀ T' h', St p l e R s m args below meth c h0 ws T' h' cells slots → Wr h h' a i (.int x) → VA Z h' a .int vs' → Go p e below FE h0 ws Q T' (mkF m pc' Ls st)) : Go p e below FE h0 ws Q T (mkF m pc Ls (.int x :: .int j :: .ref a :: st)) := by
  subst hp; subst hi; subst hvs; subst hn; obtain ⟨L, X, eT, KK, FF⟩ := X; have A0 := A; obtain ⟨cl, A, r, n⟩ := A
  obtain ⟨T', h', X', e', W, k⟩ := stI X B.1 B.2.1 eT A (by rw [r]; exact inb (by simpa using hj)) (g := mkF m pc Ls (.int x :: .int j :: .ref a :: st)) rfl rfl (hb B.2.2.1 hd)
  exact Go.to k (g T' h' ⟨_, X', e', KK.wr W ha, fun y hy => (List.mem_append.mp hy).elim (FF y) fun q => by cases List.mem_singleton.mp q; exact ha⟩ W (A0.set W))
theorem glastore (B : Fix p Z s m meth c bytes maxL own nm ret) (X : St p l e R s m args below meth c h0 ws T h cells slots) {a : Addr} {vs vs' : List Value} {j : Int32} {x : Int64} {i n : Nat} (A : VA Z h a .long vs) (hn : vs.length = n) (hj : 0 ≤ j.toInt ∧ j.toInt < n) (hi : j.toNatClampNeg = i) (hvs : vs.set i (.long x) = vs') (ha : a ∈ ws ∨ h0.size ≤ a) (hd : decode bytes pc = .ok (.lastore, 1)) (hp : pc' = pc + 1) (g : ∀ T' h', St p l e R s m args below meth c h0 ws T' h' cells slots → Wr h h' a i (.long x) → VA Z h' a .long vs' → Go p e below FE h0 ws Q T' (mkF m pc' Ls st)) : Go p e below FE h0 ws Q T (mkF m pc Ls (.long x :: .int j :: .ref a :: st)) := by
  subst hp; subst hi; subst hvs; subst hn; obtain ⟨L, X, eT, KK, FF⟩ := X; have A0 := A; obtain ⟨cl, A, r, n⟩ := A
  obtain ⟨T', h', X', e', W, k⟩ := stJ X B.1 B.2.1 eT A (by rw [r]; exact inb (by simpa using hj)) (g := mkF m pc Ls (.long x :: .int j :: .ref a :: st)) rfl rfl (hb B.2.2.1 hd)
  exact Go.to k (g T' h' ⟨_, X', e', KK.wr W ha, fun y hy => (List.mem_append.mp hy).elim (FF y) fun q => by cases List.mem_singleton.mp q; exact ha⟩ W (A0.set W))
theorem gbastore (B : Fix p Z s m meth c bytes maxL own nm ret) (X : St p l e R s m args below meth c h0 ws T h cells slots) {a : Addr} {vs vs' : List Value} {j : Int32} {x : Int32} {i n : Nat} (A : VA Z h a .byte vs) (hn : vs.length = n) (hj : 0 ≤ j.toInt ∧ j.toInt < n) (hi : j.toNatClampNeg = i) (hvs : vs.set i (.int x.toInt8.toInt32) = vs') (ha : a ∈ ws ∨ h0.size ≤ a) (hd : decode bytes pc = .ok (.bastore, 1)) (hp : pc' = pc + 1) (g : ∀ T' h', St p l e R s m args below meth c h0 ws T' h' cells slots → Wr h h' a i (.int x.toInt8.toInt32) → VA Z h' a .byte vs' → Go p e below FE h0 ws Q T' (mkF m pc' Ls st)) : Go p e below FE h0 ws Q T (mkF m pc Ls (.int x :: .int j :: .ref a :: st)) := by
  subst hp; subst hi; subst hvs; subst hn; obtain ⟨L, X, eT, KK, FF⟩ := X; have A0 := A; obtain ⟨cl, A, r, n⟩ := A
  obtain ⟨T', h', X', e', W, k⟩ := stB X B.1 B.2.1 eT A (by rw [r]; exact inb (by simpa using hj)) (g := mkF m pc Ls (.int x :: .int j :: .ref a :: st)) rfl rfl (hb B.2.2.1 hd)
  exact Go.to k (g T' h' ⟨_, X', e', KK.wr W ha, fun y hy => (List.mem_append.mp hy).elim (FF y) fun q => by cases List.mem_singleton.mp q; exact ha⟩ W (A0.set W))
theorem gzastore (B : Fix p Z s m meth c bytes maxL own nm ret) (X : St p l e R s m args below meth c h0 ws T h cells slots) {a : Addr} {vs vs' : List Value} {j : Int32} {x : Int32} {i n : Nat} (A : VA Z h a .boolean vs) (hn : vs.length = n) (hj : 0 ≤ j.toInt ∧ j.toInt < n) (hi : j.toNatClampNeg = i) (hvs : vs.set i (.int (x &&& 1)) = vs') (ha : a ∈ ws ∨ h0.size ≤ a) (hd : decode bytes pc = .ok (.bastore, 1)) (hp : pc' = pc + 1) (g : ∀ T' h', St p l e R s m args below meth c h0 ws T' h' cells slots → Wr h h' a i (.int (x &&& 1)) → VA Z h' a .boolean vs' → Go p e below FE h0 ws Q T' (mkF m pc' Ls st)) : Go p e below FE h0 ws Q T (mkF m pc Ls (.int x :: .int j :: .ref a :: st)) := by
  subst hp; subst hi; subst hvs; subst hn; obtain ⟨L, X, eT, KK, FF⟩ := X; have A0 := A; obtain ⟨cl, A, r, n⟩ := A
  obtain ⟨T', h', X', e', W, k⟩ := stZ X B.1 B.2.1 eT A (by rw [r]; exact inb (by simpa using hj)) (g := mkF m pc Ls (.int x :: .int j :: .ref a :: st)) rfl rfl (hb B.2.2.1 hd)
  exact Go.to k (g T' h' ⟨_, X', e', KK.wr W ha, fun y hy => (List.mem_append.mp hy).elim (FF y) fun q => by cases List.mem_singleton.mp q; exact ha⟩ W (A0.set W))
theorem gnewarray (B : Fix p Z s m meth c bytes maxL own nm ret) (X : St p l e R s m args below meth c h0 ws T h cells slots) {aty : ArrayType} {n : Int32} {cap : Nat} {vs : List Value} {ty : FieldType} (hty : newarray.typeOf aty = ty) (hvs : List.replicate n.toNatClampNeg (defaultValue ty) = vs) (w : (Cond.arrayClass ty).before a0 Z = true) (hn : 0 ≤ n.toInt) (hcap : n.toInt ≤ cap) (hb8 : cap * 8 ≤ 536870912) (hc : cells + 1 ≤ R.cells) (hl : slots + cap ≤ R.slots) (hd : decode bytes pc = .ok (.newarray aty, 2)) (hp : pc' = pc + 2) (g : ∀ T' h' a, St p l e R s m args below meth c h0 ws T' h' (cells + 1) (slots + cap) → a = h.size → Ext h h' → h0.size ≤ a → VA Z h' a ty vs → Go p e below FE h0 ws Q T' (mkF m pc' Ls (.ref a :: st))) : Go p e below FE h0 ws Q T (mkF m pc Ls (.int n :: st)) := by
  subst hp; subst hty; subst hvs; obtain ⟨L, X, eT, KK, FF⟩ := X
  have hn' : ¬ n < 0 := by rw [Int32.lt_iff_toInt_lt, show (0 : Int32).toInt = 0 from rfl]; omega
  obtain ⟨T', h', cA, X', e', E, A, k⟩ := newP X B.1 B.2.1 w eT (g := mkF m pc Ls (.int n :: st)) rfl (hb B.2.2.1 hd) rfl hn' (cap := cap) (by simp only [Int32.toNatClampNeg]; omega) hb8 hc hl
  exact Go.to k (g T' h' _ ⟨_, X', e', KK.ext E, FF⟩ rfl E KK.1 (VA.new A hn'))
theorem gnewarrayE (B : Fix p Z s m meth c bytes maxL own nm ret) (X : St p l e R s m args below meth c h0 ws T h cells slots) {aty : ArrayType} {n : Int32} {cap : Nat} {vs : List Value} {ty : FieldType} {ad : String} (had : "[" ++ ty.toString = ad) (hty : newarray.typeOf aty = ty) (hvs : List.replicate n.toNatClampNeg (defaultValue ty) = vs) (w : (Cond.arrayClass ty).before a0 Z = true) (hn : 0 ≤ n.toInt) (hcap : n.toInt ≤ cap) (hb8 : cap * 8 ≤ 536870912) (hc : cells + 1 ≤ R.cells) (hl : slots + cap ≤ R.slots) (hd : decode bytes pc = .ok (.newarray aty, 2)) (hp : pc' = pc + 2) (g : ∀ T' h' a, St p l e R s m args below meth c h0 ws T' h' (cells + 1) (slots + cap) → a = h.size → Ext h h' → h0.size ≤ a → VA Z h' a ty vs → Exa Z h' a ad → Go p e below FE h0 ws Q T' (mkF m pc' Ls (.ref a :: st))) : Go p e below FE h0 ws Q T (mkF m pc Ls (.int n :: st)) := by
  subst hp; subst hty; subst hvs; obtain ⟨L, X, eT, KK, FF⟩ := X
  have hn' : ¬ n < 0 := by rw [Int32.lt_iff_toInt_lt, show (0 : Int32).toInt = 0 from rfl]; omega
  obtain ⟨T', h', cA, X', e', E, A, EA, k⟩ := newPE X B.1 B.2.1 w eT (g := mkF m pc Ls (.int n :: st)) rfl (hb B.2.2.1 hd) rfl hn' (cap := cap) (by simp only [Int32.toNatClampNeg]; omega) hb8 hc hl had
  exact Go.to k (g T' h' _ ⟨_, X', e', KK.ext E, FF⟩ rfl E KK.1 (VA.new A hn') EA)
theorem gclone (B : Fix p Z s m meth c bytes maxL own nm ret) (X : St p l e R s m args below meth c h0 ws T h cells slots) {a : Addr} {i W cap n : Nat} {vs : List Value} {ty : FieldType} {ad : String} (w1 : (Cond.methodLink own i ⟨ad, "clone", "()Ljava/lang/Object;"⟩).before a0 Z = true) (w2 : (Cond.sameMethod ad "java/lang/Object" "clone" "()Ljava/lang/Object;").before a0 Z = true) (w3 : (Cond.native ⟨"java/lang/Object", "clone", "()Ljava/lang/Object;"⟩).before a0 Z = true) (w4 : (Cond.instanceMethod ⟨"java/lang/Object", "clone", "()Ljava/lang/Object;"⟩).before a0 Z = true) (w5 : (Cond.selects ad ⟨ad, "clone", "()Ljava/lang/Object;"⟩ ⟨"java/lang/Object", "clone", "()Ljava/lang/Object;"⟩).before a0 Z = true) (w6 : (Cond.castable ad "java/lang/Cloneable").before a0 Z = true) (A : VA Z h a ty vs) (E : Exa Z h a ad) (hf : ∀ v ∈ vs, fits ty v = true) (hn : vs.length = n) (hcap : n ≤ cap) (hsz : Ls.size = maxL) (hfr : 1 ≤ R.frames) (hW : (st.map fun v => v.category).sum ≤ W) (hl : W + 14 ≤ R.locals) (hc : cells + 1 ≤ R.cells) (hs : slots + cap ≤ R.slots) (hd : decode bytes pc = .ok (.invokevirtual i, 3)) (hp : pc' = pc + 3) (g : ∀ T' h' a', St p l e R s m args below meth c h0 ws T' h' (cells + 1) (slots + cap) → a' = h.size → Ext h h' → h0.size ≤ a' → VA Z h' a' ty vs → Exa Z h' a' ad → Go p e below FE h0 ws Q T' (mkF m pc' Ls (.ref a' :: st))) : Go p e below FE h0 ws Q T (mkF m pc Ls (.ref a :: st)) := by
  subst hp; subst hn; obtain ⟨L0, X, eT, KK, FF⟩ := X; obtain ⟨cl, A, r, q⟩ := A
  have FC : FitC Z cl := fitC_of A fun i hi v hv => hf v (by rw [r] at hv; simp at hv; exact List.mem_of_getElem? hv)
  obtain ⟨T', h', X', e', E1, A', EA, k⟩ := cloneA X B.1 B.2.1 B.2.2.2.2.1 w1 w2 w3 w4 w5 w6 eT A E FC (g := mkF m pc Ls (.ref a :: st)) rfl (hsz.trans B.2.2.2.1.symm) rfl (hb B.2.2.1 hd) hfr (W := W) (cap := cap) (by show 2 * 0 + _ ≤ _; rw [Nat.mul_zero, Nat.zero_add]; exact hW) hl (by rw [r]; simpa using hcap) hc hs
  exact Go.to k (g T' h' _ ⟨_, X', e', KK.ext E1, FF⟩ rfl E1 KK.1 ⟨_, A', r, q⟩ EA)
theorem gcast (B : Fix p Z s m meth c bytes maxL own nm ret) (X : St p l e R s m args below meth c h0 ws T h cells slots) {a : Addr} {i : Nat} {K0 : String} (w : (Cond.classLink own i K0).before a0 Z = true) (F : Ins Z h a K0 true) (hd : decode bytes pc = .ok (.checkcast i, 3)) (hp : pc' = pc + 3) (g : ∀ T', St p l e R s m args below meth c h0 ws T' h cells slots → Go p e below FE h0 ws Q T' (mkF m pc' Ls (.ref a :: st))) : Go p e below FE h0 ws Q T (mkF m pc Ls (.ref a :: st)) := by
  subst hp; obtain ⟨L0, X, eT, r⟩ := X
  obtain ⟨T', X', e', k⟩ := castY X B.1 B.2.1 B.2.2.2.2.1 w eT F (g := mkF m pc Ls (.ref a :: st)) rfl rfl (hb B.2.2.1 hd)
  exact Go.to k (g T' ⟨L0, X', e', r⟩)
theorem gget (B : Fix p Z s m meth c bytes maxL own nm ret) (X : St p l e R s m args below meth c h0 ws T h cells slots) {a : Addr} {i : Nat} {C n d : String} {v : Value} (w : (Cond.fieldLink own i C n d).before a0 Z = true) (F : Fld Z h a C n d v) (hd : decode bytes pc = .ok (.getfield i, 3)) (hp : pc' = pc + 3) (g : ∀ T', St p l e R s m args below meth c h0 ws T' h cells slots → Go p e below FE h0 ws Q T' (mkF m pc' Ls (v :: st))) : Go p e below FE h0 ws Q T (mkF m pc Ls (.ref a :: st)) := by
  subst hp; obtain ⟨L, X, eT, r⟩ := X
  obtain ⟨T', X', e', k⟩ := getF X B.1 B.2.1 B.2.2.2.2.1 (host := "") (Or.inl w) Via.refl eT F (g := mkF m pc Ls (.ref a :: st)) rfl rfl (hb B.2.2.1 hd)
  exact Go.to k (g T' ⟨L, X', e', r⟩)
theorem gput (B : Fix p Z s m meth c bytes maxL own nm ret) (X : St p l e R s m args below meth c h0 ws T h cells slots) {a : Addr} {i kk : Nat} {C O n d : String} {ty : FieldType} {v old : Value} (w : (Cond.fieldLink own i O n d).before a0 Z = true) (F : Fld Z h a O n d old) (E : Exa Z h a C) (L : (Cond.lays C O n d).before a0 Z = true ∨ ((Cond.laysFinal C O n d).before a0 Z = true ∧ own = O ∧ nm = "<init>")) (wi : (Cond.instantiable C kk).before a0 Z = true) (hty : parseFieldDescriptor d = some ty) (hn : narrow ty v = v) (hf : fits ty v = true) (ha : a ∈ ws ∨ h0.size ≤ a) (hd : decode bytes pc = .ok (.putfield i, 3)) (hp : pc' = pc + 3) (g : ∀ T' h', St p l e R s m args below meth c h0 ws T' h' cells slots → Wr h h' a (Jvm.RoadKit.slotOf Z O n d) v → Go p e below FE h0 ws Q T' (mkF m pc' Ls st)) : Go p e below FE h0 ws Q T (mkF m pc Ls (v :: .ref a :: st)) := by
  subst hp; obtain ⟨L0, X, eT, KK, FF⟩ := X
  obtain ⟨T', h', X', e', W, k⟩ := putF X B.1 B.2.1 B.2.2.2.2.1 (host := "") (Or.inl w) Via.refl eT F E (L.imp id fun q => ⟨q.1, q.2.1, B.2.2.2.2.2.1.trans q.2.2⟩) wi hty hn hf (g := mkF m pc Ls (v :: .ref a :: st)) rfl rfl (hb B.2.2.1 hd)
  exact Go.to k (g T' h' ⟨_, X', e', KK.wr W ha, fun y hy => (List.mem_append.mp hy).elim (FF y) fun q => by cases List.mem_singleton.mp q; exact ha⟩ W)
theorem gnew (B : Fix p Z s m meth c bytes maxL own nm ret) (X : St p l e R s m args below meth c h0 ws T h cells slots) {i n : Nat} {C : String} (w : (Cond.classLink own i C).before a0 Z = true) (wi : (Cond.instantiable C n).before a0 Z = true) (wz : (Cond.initialized C).before a0 Z = true) (hc : cells + 1 ≤ R.cells) (hl : slots + n ≤ R.slots) (hd : decode bytes pc = .ok (.new i, 3)) (hp : pc' = pc + 3) (g : ∀ T' h' a, St p l e R s m args below meth c h0 ws T' h' (cells + 1) (slots + n) → a = h.size → Ext h h' → h0.size ≤ a → Exa Z h' a C → (∀ {O nm d : String} {ty : FieldType}, Laid Z a0 C O nm d → parseFieldDescriptor d = some ty → Fld Z h' a O nm d (defaultValue ty)) → Go p e below FE h0 ws Q T' (mkF m pc' Ls (.ref a :: st))) : Go p e below FE h0 ws Q T (mkF m pc Ls st) := by
  subst hp; obtain ⟨L0, X, eT, KK, FF⟩ := X
  obtain ⟨T', h', X', e', E, A, D, -, k⟩ := newO X B.1 B.2.1 B.2.2.2.2.1 w wi wz eT (g := mkF m pc Ls st) rfl (hb B.2.2.1 hd) hc hl
  exact Go.to k (g T' h' _ ⟨_, X', e', KK.ext E, FF⟩ rfl E KK.1 A D)
theorem ginitO (B : Fix p Z s m meth c bytes maxL own nm ret) (X : St p l e R s m args below meth c h0 ws T h cells slots) {a : Addr} {i W : Nat} (w1 : (Cond.methodLink own i Lib.objectInit).before a0 Z = true) (w2 : (Cond.instanceMethod Lib.objectInit).before a0 Z = true) (w3 : (Cond.code Lib.objectInit ⟨#[0xb1]⟩ 1 none).before a0 Z = true) (hsz : Ls.size = maxL) (hf : 1 ≤ R.frames) (hW : (st.map fun v => v.category).sum ≤ W) (hl : W + 12 ≤ R.locals) (hd : decode bytes pc = .ok (.invokespecial i, 3)) (hp : pc' = pc + 3) (g : ∀ T', St p l e R s m args below meth c h0 ws T' h cells slots → Go p e below FE h0 ws Q T' (mkF m pc' Ls st)) : Go p e below FE h0 ws Q T (mkF m pc Ls (.ref a :: st)) := by
  subst hp; obtain ⟨L0, X, eT, r⟩ := X
  obtain ⟨T', X', e', k⟩ := initO X B.1 B.2.1 B.2.2.2.2.1 w1 w2 w3 eT (g := mkF m pc Ls (.ref a :: st)) rfl (hsz.trans B.2.2.2.1.symm) rfl (hb B.2.2.1 hd) hf (W := W) (by show 2 * 0 + _ ≤ _; rw [Nat.mul_zero, Nat.zero_add]; exact hW) hl
  exact Go.to k (g T' ⟨L0, X', e', r⟩)
theorem gcallS (B : Fix p Z s m meth c bytes maxL own nm ret) (X : St p l e R s m args below meth c h0 ws T h cells slots) {y : MethodName} {bytes' : ByteArray} {maxL' : Nat} {ret' : Option FieldType} {rm : Room} {ws' : List Addr} {Q' : Option Value → Heap → Prop} {stk argsL : List Value} {i W : Nat} {ps : List FieldType} {rr : Option FieldType}  (w1 : (Cond.methodLink own i y).before a0 Z = true) (w2 : (Cond.static y).before a0 Z = true) (w3 : (Cond.initialized y.cls).before a0 Z = true) (w4 : (Cond.code y bytes' maxL' ret').before a0 Z = true) (hy : y.cls ≠ "java/lang/invoke/MethodHandle" ∧ y.cls ≠ "java/lang/invoke/VarHandle") (M : Meth l Z y bytes' maxL' ret' rm argsL.toArray h ws' Q') (hpd : parseMethodDescriptor y.desc = some ⟨ps, rr⟩) (hlen : argsL.length = ps.length) (hstk : stk = argsL.reverse ++ st) (hsz : Ls.size = maxL) (hW : (st.map fun v => v.category).sum ≤ W) (hfr : rm.frames + 1 ≤ R.frames) (hlo : W + (maxL' + 11) + rm.locals ≤ R.locals) (hcs : cells + rm.cells ≤ R.cells) (hss : slots + rm.slots ≤ R.slots) (hws : ∀ x ∈ ws', x ∈ ws ∨ h0.size ≤ x) (hd : decode bytes pc = .ok (.invokestatic i, 3)) (hp : pc' = pc + 3)
    (g : ∀ T' h' v, St p l e R s m args below meth c h0 ws T' h' (cells + rm.cells) (slots + rm.slots) → Keep h h' ws' → Q' v h' → Go p e below FE h0 ws Q T' (mkF m pc' Ls (v.toList ++ st))) : Go p e below FE h0 ws Q T (mkF m pc Ls stk) := by
  subst hp; subst hstk; obtain ⟨L0, X, eT, KK, FF⟩ := X
  obtain ⟨v2, _, ⟨T2, L2, c2, n2⟩, -, X2, ⟨Lc2, hq, l2, y2, z2⟩, k2⟩ := Jvm.LawKit.callS X B.1 (y := y) B.2.2.2.2.1 (mvT B.2.1 w1) (mvT B.2.1 w2) (mvT B.2.1 w3) (mvT B.2.1 w4) hy (backOf (W := W) (Q := fun v h' L => Q' v h' ∧ Keep h h' ws' ∧ FrW h ws' L) (M []) B.2.1 w4 w3 hfr hlo) (g := mkF m pc Ls (argsL.reverse ++ st)) rfl (hsz.trans B.2.2.2.1.symm) (argsL := argsL) (rest := st) (lenOf hpd hlen) rfl (by show 2 * 0 + _ ≤ _; rw [Nat.mul_zero, Nat.zero_add]; exact hW) (hb B.2.2.1 hd) (fun _ _ => ⟨rfl, eT, hcs, hss⟩)
  dsimp only [Pt.U, Pt.locs, Pt.cells, Pt.slots] at X2 l2 y2 z2 k2 hq
  subst l2 y2 z2
  refine Go.to k2 (g T2 T2.heap v2 ⟨_, X2, rfl, KK.trans hq.2.1 hws, fun y hy => (List.mem_append.mp hy).elim (FF y) fun q => ?_⟩ hq.2.1 hq.1)
  exact (hq.2.2 y q).elim (fun z => hws _ z) fun z => Or.inr (Nat.le_trans KK.1 z)
theorem gcallI (B : Fix p Z s m meth c bytes maxL own nm ret) (X : St p l e R s m args below meth c h0 ws T h cells slots) {y : MethodName} {bytes' : ByteArray} {maxL' : Nat} {ret' : Option FieldType} {rm : Room} {ws' : List Addr} {Q' : Option Value → Heap → Prop} {stk argsL : List Value} {i W : Nat} {ps : List FieldType} {rr : Option FieldType} {a : Addr} (hni : y.name = "<init>") (hret : ret' = none) (w1 : (Cond.methodLink own i y).before a0 Z = true) (w2 : (Cond.instanceMethod y).before a0 Z = true) (w3 : (Cond.initialized y.cls).before a0 Z = true) (w4 : (Cond.code y bytes' maxL' ret').before a0 Z = true) (hy : y.cls ≠ "java/lang/invoke/MethodHandle" ∧ y.cls ≠ "java/lang/invoke/VarHandle") (M : Meth l Z y bytes' maxL' ret' rm (.ref a :: argsL).toArray h ws' Q') (hpd : parseMethodDescriptor y.desc = some ⟨ps, rr⟩) (hlen : argsL.length = ps.length) (hstk : stk = argsL.reverse ++ .ref a :: st) (hsz : Ls.size = maxL) (hW : (st.map fun v => v.category).sum ≤ W) (hfr : rm.frames + 1 ≤ R.frames) (hlo : W + (maxL' + 11) + rm.locals ≤ R.locals) (hcs : cells + rm.cells ≤ R.cells) (hss : slots + rm.slots ≤ R.slots) (hws : ∀ x ∈ ws', x ∈ ws ∨ h0.size ≤ x) (hd : decode bytes pc = .ok (.invokespecial i, 3)) (hp : pc' = pc + 3)
    (g : ∀ T' h' v, St p l e R s m args below meth c h0 ws T' h' (cells + rm.cells) (slots + rm.slots) → Keep h h' ws' → Q' v h' → Go p e below FE h0 ws Q T' (mkF m pc' Ls (v.toList ++ st))) : Go p e below FE h0 ws Q T (mkF m pc Ls stk) := by
  subst hp; subst hstk; obtain ⟨L0, X, eT, KK, FF⟩ := X
  subst hret
  obtain ⟨v2, _, ⟨T2, L2, c2, n2⟩, -, X2, ⟨Lc2, hq, l2, y2, z2⟩, k2⟩ := X.specialBack B.1 (y := y) hni B.2.2.2.2.1 (mvT B.2.1 w1) (mvT B.2.1 w2) (mvT B.2.1 w4) hy (backOf (W := W) (Q := fun v h' L => Q' v h' ∧ Keep h h' ws' ∧ FrW h ws' L) (M []) B.2.1 w4 w3 hfr hlo) (g := mkF m pc Ls (argsL.reverse ++ .ref a :: st)) rfl (hsz.trans B.2.2.2.1.symm) (Steps.refl _) (a := a) (argsL := argsL) (rest := st) (lenOf hpd hlen) rfl (by show 2 * 0 + _ ≤ _; rw [Nat.mul_zero, Nat.zero_add]; exact hW) (hb B.2.2.1 hd) (fun _ _ => ⟨rfl, eT, hcs, hss⟩)
  dsimp only [Pt.U, Pt.locs, Pt.cells, Pt.slots] at X2 l2 y2 z2 k2 hq
  subst l2 y2 z2
  refine Go.to (fun t kt => k2.trans kt) (g T2 T2.heap v2 ⟨_, X2, rfl, KK.trans hq.2.1 hws, fun y hy => (List.mem_append.mp hy).elim (FF y) fun q => ?_⟩ hq.2.1 hq.1)
  exact (hq.2.2 y q).elim (fun z => hws _ z) fun z => Or.inr (Nat.le_trans KK.1 z)
theorem gcallV (B : Fix p Z s m meth c bytes maxL own nm ret) (X : St p l e R s m args below meth c h0 ws T h cells slots) {y : MethodName} {bytes' : ByteArray} {maxL' : Nat} {ret' : Option FieldType} {rm : Room} {ws' : List Addr} {Q' : Option Value → Heap → Prop} {stk argsL : List Value} {i W : Nat} {ps : List FieldType} {rr : Option FieldType} {a : Addr} {z : MethodName} {C : String} (E : Exa Z h a C) (w1 : (Cond.methodLink own i y).before a0 Z = true) (w2 : (Cond.declares y).before a0 Z = true) (w5 : (Cond.selects C y z).before a0 Z = true) (w6 : (Cond.instanceMethod z).before a0 Z = true) (w3 : (Cond.initialized z.cls).before a0 Z = true) (w4 : (Cond.code z bytes' maxL' ret').before a0 Z = true) (hyz : y = z) (hy : y.cls ≠ "java/lang/invoke/MethodHandle" ∧ y.cls ≠ "java/lang/invoke/VarHandle") (M : Meth l Z z bytes' maxL' ret' rm (.ref a :: argsL).toArray h ws' Q') (hpd : parseMethodDescriptor y.desc = some ⟨ps, rr⟩) (hlen : argsL.length = ps.length) (hstk : stk = argsL.reverse ++ .ref a :: st) (hsz : Ls.size = maxL) (hW : (st.map fun v => v.category).sum ≤ W) (hfr : rm.frames + 1 ≤ R.frames) (hlo : W + (maxL' + 11) + rm.locals ≤ R.locals) (hcs : cells + rm.cells ≤ R.cells) (hss : slots + rm.slots ≤ R.slots) (hws : ∀ x ∈ ws', x ∈ ws ∨ h0.size ≤ x) (hd : decode bytes pc = .ok (.invokevirtual i, 3)) (hp : pc' = pc + 3)
    (g : ∀ T' h' v, St p l e R s m args below meth c h0 ws T' h' (cells + rm.cells) (slots + rm.slots) → Keep h h' ws' → Q' v h' → Go p e below FE h0 ws Q T' (mkF m pc' Ls (v.toList ++ st))) : Go p e below FE h0 ws Q T (mkF m pc Ls stk) := by
  subst hp; subst hstk; obtain ⟨L0, X, eT, KK, FF⟩ := X
  subst hyz
  obtain ⟨cq, kq, qa, qb, qc⟩ := isOf B.2.1 eT E
  obtain ⟨v2, _, ⟨T2, L2, c2, n2⟩, -, X2, ⟨Lc2, hq, l2, y2, z2⟩, k2⟩ := X.virtualBack B.1 (y := y) (z := y) B.2.2.2.2.1 (mvT B.2.1 w1) (mvT B.2.1 w2) (notFace_of_selects (args := #[]) (mvT B.2.1 w5)) (mvT B.2.1 w5) (mvT B.2.1 w6) hy (backOf (W := W) (Q := fun v h' L => Q' v h' ∧ Keep h h' ws' ∧ FrW h ws' L) (M []) B.2.1 w4 w3 hfr hlo) qa qc (g := mkF m pc Ls (argsL.reverse ++ .ref a :: st)) rfl (hsz.trans B.2.2.2.1.symm) (Steps.refl _) (argsL := argsL) (rest := st) (lenOf hpd hlen) rfl (by show 2 * 0 + _ ≤ _; rw [Nat.mul_zero, Nat.zero_add]; exact hW) (hb B.2.2.1 hd) (fun _ _ => ⟨rfl, eT, hcs, hss⟩)
  dsimp only [Pt.U, Pt.locs, Pt.cells, Pt.slots] at X2 l2 y2 z2 k2 hq
  subst l2 y2 z2
  refine Go.to (fun t kt => k2.trans kt) (g T2 T2.heap v2 ⟨_, X2, rfl, KK.trans hq.2.1 hws, fun y hy => (List.mem_append.mp hy).elim (FF y) fun q => ?_⟩ hq.2.1 hq.1)
  exact (hq.2.2 y q).elim (fun z => hws _ z) fun z => Or.inr (Nat.le_trans KK.1 z)
theorem gcallP (B : Fix p Z s m meth c bytes maxL own nm ret) (X : St p l e R s m args below meth c h0 ws T h cells slots) {y : MethodName} {bytes' : ByteArray} {maxL' : Nat} {ret' : Option FieldType} {rm : Room} {ws' : List Addr} {Q' : Option Value → Heap → Prop} {stk argsL : List Value} {i W : Nat} {ps : List FieldType} {rr : Option FieldType} {a : Addr} {C : String} (E : Exa Z h a C) (w1 : (Cond.methodLink own i y).before a0 Z = true) (w2 : (Cond.instanceMethod y).before a0 Z = true) {nn : Nat} (w5 : (Cond.instantiable y.cls nn).before a0 Z = true) (w6 : (Cond.privateMethod y).before a0 Z = true) (w3 : (Cond.initialized y.cls).before a0 Z = true) (w4 : (Cond.code y bytes' maxL' ret').before a0 Z = true) (hy : y.cls ≠ "java/lang/invoke/MethodHandle" ∧ y.cls ≠ "java/lang/invoke/VarHandle") (M : Meth l Z y bytes' maxL' ret' rm (.ref a :: argsL).toArray h ws' Q') (hpd : parseMethodDescriptor y.desc = some ⟨ps, rr⟩) (hlen : argsL.length = ps.length) (hstk : stk = argsL.reverse ++ .ref a :: st) (hsz : Ls.size = maxL) (hW : (st.map fun v => v.category).sum ≤ W) (hfr : rm.frames + 1 ≤ R.frames) (hlo : W + (maxL' + 11) + rm.locals ≤ R.locals) (hcs : cells + rm.cells ≤ R.cells) (hss : slots + rm.slots ≤ R.slots) (hws : ∀ x ∈ ws', x ∈ ws ∨ h0.size ≤ x) (hd : decode bytes pc = .ok (.invokevirtual i, 3)) (hp : pc' = pc + 3)
    (g : ∀ T' h' v, St p l e R s m args below meth c h0 ws T' h' (cells + rm.cells) (slots + rm.slots) → Keep h h' ws' → Q' v h' → Go p e below FE h0 ws Q T' (mkF m pc' Ls (v.toList ++ st))) : Go p e below FE h0 ws Q T (mkF m pc Ls stk) := by
  subst hp; subst hstk; obtain ⟨L0, X, eT, KK, FF⟩ := X
  obtain ⟨cq, q, q'⟩ := E.cell
  obtain ⟨ci, ki, i1, i2, -, i4, -⟩ := Cond.instantiable_spec (mvT (args := args) B.2.1 w5)
  have w5' : (Cond.selects y.cls y y).before args s = true := selects_self_of_private i1 i2 (by simp only [Bool.or_eq_false_iff] at i4; exact i4.1) (Cond.privateMethod_at (mvP B.2.1 w6 (args := #[]))) (mvT B.2.1 w2) hy
  obtain ⟨v2, _, ⟨T2, L2, c2, n2⟩, -, X2, ⟨Lc2, hq, l2, y2, z2⟩, k2⟩ := X.privateBack B.1 (y := y) B.2.2.2.2.1 (mvT B.2.1 w1) (mvT B.2.1 w2) w5' (Cond.privateMethod_at (mvP B.2.1 w6 (args := #[]))) (mvT B.2.1 w4) hy (backOf (W := W) (Q := fun v h' L => Q' v h' ∧ Keep h h' ws' ∧ FrW h ws' L) (M []) B.2.1 w4 w3 hfr hlo) (g := mkF m pc Ls (argsL.reverse ++ .ref a :: st)) rfl (hsz.trans B.2.2.2.1.symm) (Steps.refl _) (a := a) (by rw [eT]; exact q) q' (argsL := argsL) (rest := st) (lenOf hpd hlen) rfl (by show 2 * 0 + _ ≤ _; rw [Nat.mul_zero, Nat.zero_add]; exact hW) (hb B.2.2.1 hd) (fun _ _ => ⟨rfl, eT, hcs, hss⟩)
  dsimp only [Pt.U, Pt.locs, Pt.cells, Pt.slots] at X2 l2 y2 z2 k2 hq
  subst l2 y2 z2
  refine Go.to (fun t kt => k2.trans kt) (g T2 T2.heap v2 ⟨_, X2, rfl, KK.trans hq.2.1 hws, fun y hy => (List.mem_append.mp hy).elim (FF y) fun q => ?_⟩ hq.2.1 hq.1)
  exact (hq.2.2 y q).elim (fun z => hws _ z) fun z => Or.inr (Nat.le_trans KK.1 z)
theorem pureG {rm : Room} {r : Value} {ws' : List Addr} (hc : rm.cells = 0) (hs : rm.slots = 0) (g : ∀ T', St p l e R s m args below meth c h0 ws T' h cells slots → Go p e below FE h0 ws Q T' (mkF m pc' Ls (r :: st))) : ∀ T' h' v, St p l e R s m args below meth c h0 ws T' h' (cells + rm.cells) (slots + rm.slots) → Keep h h' ws' → (v = some r ∧ h' = h) → Go p e below FE h0 ws Q T' (mkF m pc' Ls (v.toList ++ st)) := by
  rintro T' h' v X k ⟨rfl, rfl⟩
  rw [hc, hs] at X; exact g T' X
theorem pureV {rm : Room} {ws' : List Addr} (hc : rm.cells = 0) (hs : rm.slots = 0) (g : ∀ T', St p l e R s m args below meth c h0 ws T' h cells slots → Go p e below FE h0 ws Q T' (mkF m pc' Ls st)) : ∀ T' h' v, St p l e R s m args below meth c h0 ws T' h' (cells + rm.cells) (slots + rm.slots) → Keep h h' ws' → (v = none ∧ h' = h) → Go p e below FE h0 ws Q T' (mkF m pc' Ls (v.toList ++ st)) := by
  rintro T' h' v X k ⟨rfl, rfl⟩
  rw [hc, hs] at X; exact g T' X
theorem joinH (X : St p l e R s m args below meth c h0 ws T h cells slots) {J : JFrame} {P : Heap → Prop} {cells' slots' : Nat} (b : (∀ T' h', St p l e R s m args below meth c h0 ws T' h' cells' slots' → P h' → Go p e below FE h0 ws Q T' J) → Go p e below FE h0 ws Q T (mkF m pc Ls st)) (k : ∀ T' h', St p l e R s m args below meth c h0 ws T' h' cells' slots' → P h' → Go p e below FE h0 ws Q T' J) : Go p e below FE h0 ws Q T (mkF m pc Ls st) := b k
theorem joinG {α : Type} (B : Fix p Z s m meth c bytes maxL own nm ret) (X : St p l e R s m args below meth c h0 ws T h cells slots) {J : α → JFrame} {r : α} {f : JFrame} (b : (∀ T', St p l e R s m args below meth c h0 ws T' h cells slots → Go p e below FE h0 ws Q T' (J r)) → Go p e below FE h0 ws Q T f) (k : ∀ T', St p l e R s m args below meth c h0 ws T' h cells slots → Go p e below FE h0 ws Q T' (J r)) : Go p e below FE h0 ws Q T f := b k
theorem nbb (x : Int32) : x.toInt8.toInt32.toInt8.toInt32 = x.toInt8.toInt32 := by simp
theorem nb (x : Int32) : nar .byte x.toInt8.toInt32 = x.toInt8.toInt32 := by simp [nar]
theorem retI (X : Stand p l e R s m args below meth c T locs cells slots) (hx : p.tables.exec = Jvm.exec) {z : Int32} {rest : List Value} (hret : meth.sig.returnType = some .int) (hd : decode c.code pc = .ok (.ireturn, 1)) {fs : List Frame}
    (hl : ∀ (f : JFrame) (acts : List Action), f.method = m → f.locked = none → f.entered = [] → (doReturn e (T.setTop f) acts (some (.int z))).1 = T.setFrames fs) : Steps p.tables e below (T.setTop (mkF m pc Ls (.int z :: rest))) (T.setFrames fs) := by
  have hm' : T.vm.method? m = some meth := X.method'
  have hn : narrow .int (.int z) = .int z := rfl
  show Steps p.tables e below (T.setTop { method := m, pc := pc, locals := Ls, stack := _ :: rest, locked := none }) _
  jvm_step X.here [X.here.top, hx, hd, hm', hret, hn]
  first | (intro acts; rw [hl _ acts rfl rfl rfl]) | rw [hl _ _ rfl rfl rfl]
  exact Steps.refl _
theorem gretI (B : Fix p Z s m meth c bytes maxL own nm (some .int)) (X : St p l e R s m args below meth c h0 ws T h cells slots)  {z : Int32} (hd : decode bytes pc = .ok (.ireturn, 1)) (hk : cells ≤ K) (hn : slots ≤ N) (hQ : Q (some (.int z)) h) : Go p e below (EndN s K N) h0 ws Q T (mkF m pc Ls (.int z :: st)) := by
  obtain ⟨L0, X, eT, KK, FF⟩ := X; have hlk := B.2.2.2.2.2.2.2; have hrt := B.2.2.2.2.2.2.1
  obtain ⟨fs, hr, hrun, hended, hW, hsame⟩ := X.leave (v := some (.int z)) (fun h => by rw [hrt] at h; cases h) hlk
  exact ⟨_, _, retI X B.1 hrt (hb B.2.2.1 hd) hr, hrun, hended, _, _, rfl, ⟨by show Q _ T.heap; rw [eT]; exact hQ, by show Keep h0 T.heap ws; rw [eT]; exact KK, FF⟩, ⟨_, rfl⟩, hW, hsame.mono hk hn⟩
theorem gretIW (B : Fix p Z (s.setVm vm1) m meth c bytes maxL own nm (some .int)) (X : St p l e R (s.setVm vm1) m args below meth c h0 ws T h cells slots) {n1 : Nat} (hS : s.Since vm1 n1) (hz : Sz n1 h) {z : Int32} (hd : decode bytes pc = .ok (.ireturn, 1)) (hk : cells ≤ K) (hn : slots ≤ N) (hQ : Q (some (.int z)) h) : Go p e below (EndW s K N) h0 ws Q T (mkF m pc Ls (.int z :: st)) := by
  obtain ⟨L0, X, eT, KK, FF⟩ := X; have hlk := B.2.2.2.2.2.2.2; have hrt := B.2.2.2.2.2.2.1
  obtain ⟨fs, hr, hrun, hended, hend⟩ := X.leaveW hS (by rw [eT]; exact hz) (v := some (.int z)) (fun h => by rw [hrt] at h; cases h) hlk
  exact ⟨_, _, retI X B.1 hrt (hb B.2.2.1 hd) hr, hrun, hended, _, _, rfl, ⟨by show Q _ T.heap; rw [eT]; exact hQ, by show Keep h0 T.heap ws; rw [eT]; exact KK, FF⟩, hend.1, hend.2.1, hend.2.2.1, hend.2.2.2.mono hk hn⟩
theorem gretN {t : FieldType} (B : Fix p Z s m meth c bytes maxL own nm (some t)) (X : St p l e R s m args below meth c h0 ws T h cells slots)  {z z' : Int32} (ht : t = .boolean ∨ t = .byte ∨ t = .char ∨ t = .short) (hz' : nar t z = z') (hd : decode bytes pc = .ok (.ireturn, 1)) (hk : cells ≤ K) (hn : slots ≤ N) (hQ : Q (some (.int z')) h) : Go p e below (EndN s K N) h0 ws Q T (mkF m pc Ls (.int z :: st)) := by
  subst hz'; obtain ⟨L0, X, eT, KK, FF⟩ := X; have hlk := B.2.2.2.2.2.2.2; have hrt := B.2.2.2.2.2.2.1
  obtain ⟨fs, hr, hrun, hended, hW, hsame⟩ := X.leave (v := some (.int (nar t z))) (fun h => by rw [hrt] at h; cases h) hlk
  exact ⟨_, _, retN X B.1 hrt ht (hb B.2.2.1 hd) hr, hrun, hended, _, _, rfl, ⟨by show Q _ T.heap; rw [eT]; exact hQ, by show Keep h0 T.heap ws; rw [eT]; exact KK, FF⟩, ⟨_, rfl⟩, hW, hsame.mono hk hn⟩
theorem gretNW {t : FieldType} (B : Fix p Z (s.setVm vm1) m meth c bytes maxL own nm (some t)) (X : St p l e R (s.setVm vm1) m args below meth c h0 ws T h cells slots) {n1 : Nat} (hS : s.Since vm1 n1) (hz : Sz n1 h) {z z' : Int32} (ht : t = .boolean ∨ t = .byte ∨ t = .char ∨ t = .short) (hz' : nar t z = z') (hd : decode bytes pc = .ok (.ireturn, 1)) (hk : cells ≤ K) (hn : slots ≤ N) (hQ : Q (some (.int z')) h) : Go p e below (EndW s K N) h0 ws Q T (mkF m pc Ls (.int z :: st)) := by
  subst hz'; obtain ⟨L0, X, eT, KK, FF⟩ := X; have hlk := B.2.2.2.2.2.2.2; have hrt := B.2.2.2.2.2.2.1
  obtain ⟨fs, hr, hrun, hended, hend⟩ := X.leaveW hS (by rw [eT]; exact hz) (v := some (.int (nar t z))) (fun h => by rw [hrt] at h; cases h) hlk
  exact ⟨_, _, retN X B.1 hrt ht (hb B.2.2.1 hd) hr, hrun, hended, _, _, rfl, ⟨by show Q _ T.heap; rw [eT]; exact hQ, by show Keep h0 T.heap ws; rw [eT]; exact KK, FF⟩, hend.1, hend.2.1, hend.2.2.1, hend.2.2.2.mono hk hn⟩
theorem gretL (B : Fix p Z s m meth c bytes maxL own nm (some .long)) (X : St p l e R s m args below meth c h0 ws T h cells slots)  {z : Int64} (hd : decode bytes pc = .ok (.lreturn, 1)) (hk : cells ≤ K) (hn : slots ≤ N) (hQ : Q (some (.long z)) h) : Go p e below (EndN s K N) h0 ws Q T (mkF m pc Ls (.long z :: st)) := by
  obtain ⟨L0, X, eT, KK, FF⟩ := X; have hlk := B.2.2.2.2.2.2.2; have hrt := B.2.2.2.2.2.2.1
  obtain ⟨fs, hr, hrun, hended, hW, hsame⟩ := X.leave (v := some (.long z)) (fun h => by rw [hrt] at h; cases h) hlk
  exact ⟨_, _, retOut X B.1 hrt rfl (Or.inr (Or.inl ⟨rfl, rfl, _, rfl⟩)) (hb B.2.2.1 hd) hr, hrun, hended, _, _, rfl, ⟨by show Q _ T.heap; rw [eT]; exact hQ, by show Keep h0 T.heap ws; rw [eT]; exact KK, FF⟩, ⟨_, rfl⟩, hW, hsame.mono hk hn⟩
theorem gretLW (B : Fix p Z (s.setVm vm1) m meth c bytes maxL own nm (some .long)) (X : St p l e R (s.setVm vm1) m args below meth c h0 ws T h cells slots) {n1 : Nat} (hS : s.Since vm1 n1) (hz : Sz n1 h) {z : Int64} (hd : decode bytes pc = .ok (.lreturn, 1)) (hk : cells ≤ K) (hn : slots ≤ N) (hQ : Q (some (.long z)) h) : Go p e below (EndW s K N) h0 ws Q T (mkF m pc Ls (.long z :: st)) := by
  obtain ⟨L0, X, eT, KK, FF⟩ := X; have hlk := B.2.2.2.2.2.2.2; have hrt := B.2.2.2.2.2.2.1
  obtain ⟨fs, hr, hrun, hended, hend⟩ := X.leaveW hS (by rw [eT]; exact hz) (v := some (.long z)) (fun h => by rw [hrt] at h; cases h) hlk
  exact ⟨_, _, retOut X B.1 hrt rfl (Or.inr (Or.inl ⟨rfl, rfl, _, rfl⟩)) (hb B.2.2.1 hd) hr, hrun, hended, _, _, rfl, ⟨by show Q _ T.heap; rw [eT]; exact hQ, by show Keep h0 T.heap ws; rw [eT]; exact KK, FF⟩, hend.1, hend.2.1, hend.2.2.1, hend.2.2.2.mono hk hn⟩
theorem gretA {t : FieldType} (B : Fix p Z s m meth c bytes maxL own nm (some t)) (X : St p l e R s m args below meth c h0 ws T h cells slots)  {a : Addr} (ht : t.isReference = true) (hnn : narrow t (.ref a) = .ref a) (hd : decode bytes pc = .ok (.areturn, 1)) (hk : cells ≤ K) (hn : slots ≤ N) (hQ : Q (some (.ref a)) h) : Go p e below (EndN s K N) h0 ws Q T (mkF m pc Ls (.ref a :: st)) := by
  obtain ⟨L0, X, eT, KK, FF⟩ := X; have hlk := B.2.2.2.2.2.2.2; have hrt := B.2.2.2.2.2.2.1
  obtain ⟨fs, hr, hrun, hended, hW, hsame⟩ := X.leave (v := some (.ref a)) (fun h => by rw [hrt] at h; cases h) hlk
  exact ⟨_, _, retOut X B.1 hrt hnn (Or.inr (Or.inr (Or.inr (Or.inr ⟨rfl, ht, rfl⟩)))) (hb B.2.2.1 hd) hr, hrun, hended, _, _, rfl, ⟨by show Q _ T.heap; rw [eT]; exact hQ, by show Keep h0 T.heap ws; rw [eT]; exact KK, FF⟩, ⟨_, rfl⟩, hW, hsame.mono hk hn⟩
theorem gretAW {t : FieldType} (B : Fix p Z (s.setVm vm1) m meth c bytes maxL own nm (some t)) (X : St p l e R (s.setVm vm1) m args below meth c h0 ws T h cells slots) {n1 : Nat} (hS : s.Since vm1 n1) (hz : Sz n1 h) {a : Addr} (ht : t.isReference = true) (hnn : narrow t (.ref a) = .ref a) (hd : decode bytes pc = .ok (.areturn, 1)) (hk : cells ≤ K) (hn : slots ≤ N) (hQ : Q (some (.ref a)) h) : Go p e below (EndW s K N) h0 ws Q T (mkF m pc Ls (.ref a :: st)) := by
  obtain ⟨L0, X, eT, KK, FF⟩ := X; have hlk := B.2.2.2.2.2.2.2; have hrt := B.2.2.2.2.2.2.1
  obtain ⟨fs, hr, hrun, hended, hend⟩ := X.leaveW hS (by rw [eT]; exact hz) (v := some (.ref a)) (fun h => by rw [hrt] at h; cases h) hlk
  exact ⟨_, _, retOut X B.1 hrt hnn (Or.inr (Or.inr (Or.inr (Or.inr ⟨rfl, ht, rfl⟩)))) (hb B.2.2.1 hd) hr, hrun, hended, _, _, rfl, ⟨by show Q _ T.heap; rw [eT]; exact hQ, by show Keep h0 T.heap ws; rw [eT]; exact KK, FF⟩, hend.1, hend.2.1, hend.2.2.1, hend.2.2.2.mono hk hn⟩
theorem gretV (B : Fix p Z s m meth c bytes maxL own nm none) (X : St p l e R s m args below meth c h0 ws T h cells slots)   (hd : decode bytes pc = .ok (.return_, 1)) (hk : cells ≤ K) (hn : slots ≤ N) (hQ : Q (none) h) : Go p e below (EndN s K N) h0 ws Q T (mkF m pc Ls []) := by
  obtain ⟨L0, X, eT, KK, FF⟩ := X; have hlk := B.2.2.2.2.2.2.2; have hrt := B.2.2.2.2.2.2.1
  obtain ⟨fs, hr, hrun, hended, hW, hsame⟩ := X.leave (v := none) (fun h => rfl) hlk
  exact ⟨_, _, X.returnOut B.1 hrt (hb B.2.2.1 hd) hr, hrun, hended, _, _, rfl, ⟨by show Q _ T.heap; rw [eT]; exact hQ, by show Keep h0 T.heap ws; rw [eT]; exact KK, FF⟩, ⟨_, rfl⟩, hW, hsame.mono hk hn⟩
theorem gretVW (B : Fix p Z (s.setVm vm1) m meth c bytes maxL own nm none) (X : St p l e R (s.setVm vm1) m args below meth c h0 ws T h cells slots) {n1 : Nat} (hS : s.Since vm1 n1) (hz : Sz n1 h)  (hd : decode bytes pc = .ok (.return_, 1)) (hk : cells ≤ K) (hn : slots ≤ N) (hQ : Q (none) h) : Go p e below (EndW s K N) h0 ws Q T (mkF m pc Ls []) := by
  obtain ⟨L0, X, eT, KK, FF⟩ := X; have hlk := B.2.2.2.2.2.2.2; have hrt := B.2.2.2.2.2.2.1
  obtain ⟨fs, hr, hrun, hended, hend⟩ := X.leaveW hS (by rw [eT]; exact hz) (v := none) (fun h => rfl) hlk
  exact ⟨_, _, X.returnOut B.1 hrt (hb B.2.2.1 hd) hr, hrun, hended, _, _, rfl, ⟨by show Q _ T.heap; rw [eT]; exact hQ, by show Keep h0 T.heap ws; rw [eT]; exact KK, FF⟩, hend.1, hend.2.1, hend.2.2.1, hend.2.2.2.mono hk hn⟩
theorem MethW.of {y : MethodName} {rm : Room} {as' : Array Value} (hpl : plainFor y = true)
    (body : ∀ (p : Program) (e : Env) (s : State) (m : MethodId) (below : List Frame) (meth : Method) (c : Code) (T : State), Fix p Z (s.setVm s.vm) m meth c bytes maxL y.cls y.name ret → St p l e rm (s.setVm s.vm) m as' below meth c h0 ws T h0 0 0 → s.Since s.vm 0 → Go p e below (EndW s rm.cells rm.slots) h0 ws Q T (entryFrame m as' maxL)) :
    MethW l Z y bytes maxL ret rm as' h0 ws Q := by
  intro wl
  refine MetFree.of_bodySF hpl hisR ?_
  intro p e s m args below meth c s₁ Bd hml0 hP hK
  obtain ⟨rfl, hZ, hh⟩ := hP
  have X0 : Stand p l e rm s m _ below meth c s₁ [] 0 0 := Stand.of_body Bd
  have e0 : s₁.heap = h0 := by rw [← hh, Bd.state]; rfl
  exact body p e s m below meth c s₁ ⟨Bd.exec, hZ, Bd.bytes, hml0, findClass_of_methodNamed Bd.named, (name_of_methodNamed Bd.named Bd.method).1, Bd.returns, Bd.notSynchronized⟩ ⟨[], X0, e0, Keep.refl _ _, fun y hy => nomatch hy⟩ ((State.WarmedH.refl s).since 0)
theorem gldcS (B : Fix p Z (s.setVm vm1) m meth c bytes maxL own nm ret) (X : St p l e R (s.setVm vm1) m args below meth c h0 ws T h cells slots) {n1 : Nat} (hS : s.Since vm1 n1) (hz : Sz n1 h) {i n : Nat} {text : String} (w : (Cond.stringLink own i text).before a0 Z = true) (wS : ∀ a ∈ Bundle.stringAtoms, a.before a0 Z = true) (hn : 4 * text.toList.length ≤ n) (hbig : n ≤ 536870912) (hc : cells + 2 ≤ R.cells) (hl : slots + (n + 4) ≤ R.slots) (hd : decode bytes pc = .ok (.ldc i, 2)) (hp : pc' = pc + 2) (g : ∀ (a : Addr) T' h' vm2, Fix p Z (s.setVm vm2) m meth c bytes maxL own nm ret → St p l e R (s.setVm vm2) m args below meth c h0 ws T' h' (cells + 2) (slots + (n + 4)) → s.Since vm2 h'.size → Ext h h' → Go p e below FE h0 ws Q T' (mkF m pc' Ls (.ref a :: st))) : Go p e below FE h0 ws Q T (mkF m pc Ls st) := by
  subst hp; obtain ⟨L0, X, eT, KK, FF⟩ := X
  obtain ⟨a, T', h', k1, X', e', E, S', hk1, hZ', ho', k⟩ := ldcS X B.1 B.2.1 B.2.2.2.2.1 w wS eT hS hz (g := mkF m pc Ls st) rfl (hb B.2.2.1 hd) hn hbig hc hl
  exact Go.to k (g a T' h' T'.vm ⟨B.1, hZ', B.2.2.1, B.2.2.2.1, ho', B.2.2.2.2.2.1, B.2.2.2.2.2.2.1, B.2.2.2.2.2.2.2⟩ ⟨L0, X', e', KK.ext E, FF⟩ ⟨S'.1, fun j q hj hq => ⟨(S'.2 j q hj hq).1, Nat.lt_of_lt_of_le (S'.2 j q hj hq).2 hk1⟩⟩ E)
theorem gcallIW (B : Fix p Z (s.setVm vm1) m meth c bytes maxL own nm ret) (X : St p l e R (s.setVm vm1) m args below meth c h0 ws T h cells slots) {n1 : Nat} (hS : s.Since vm1 n1) (hz : Sz n1 h) {y : MethodName} {bytes' : ByteArray} {maxL' : Nat} {ret' : Option FieldType} {rm : Room} {ws' : List Addr} {Q' : Option Value → Heap → Prop} {stk argsL : List Value} {i W : Nat} {ps : List FieldType} {rr : Option FieldType} {a : Addr} (hni : y.name = "<init>") (hret : ret' = none) (w1 : (Cond.methodLink own i y).before a0 Z = true) (w2 : (Cond.instanceMethod y).before a0 Z = true) (w3 : (Cond.initialized y.cls).before a0 Z = true) (w4 : (Cond.code y bytes' maxL' ret').before a0 Z = true) (hy : y.cls ≠ "java/lang/invoke/MethodHandle" ∧ y.cls ≠ "java/lang/invoke/VarHandle") (M : MethW l Z y bytes' maxL' ret' rm (.ref a :: argsL).toArray h ws' Q') (hpd : parseMethodDescriptor y.desc = some ⟨ps, rr⟩) (hlen : argsL.length = ps.length) (hstk : stk = argsL.reverse ++ .ref a :: st) (hsz : Ls.size = maxL) (hW : (st.map fun v => v.category).sum ≤ W) (hfr : rm.frames + 1 ≤ R.frames) (hlo : W + (maxL' + 11) + rm.locals ≤ R.locals) (hcs : cells + rm.cells ≤ R.cells) (hss : slots + rm.slots ≤ R.slots) (hws : ∀ x ∈ ws', x ∈ ws ∨ h0.size ≤ x) (hd : decode bytes pc = .ok (.invokespecial i, 3)) (hp : pc' = pc + 3)
    (g : ∀ T' h' v vm2, Fix p Z (s.setVm vm2) m meth c bytes maxL own nm ret → St p l e R (s.setVm vm2) m args below meth c h0 ws T' h' (cells + rm.cells) (slots + rm.slots) → s.Since vm2 h'.size → Keep h h' ws' → Q' v h' → Go p e below FE h0 ws Q T' (mkF m pc' Ls (v.toList ++ st))) : Go p e below FE h0 ws Q T (mkF m pc Ls stk) := by
  subst hp; subst hstk; obtain ⟨L0, X, eT, KK, FF⟩ := X
  subst hret
  obtain ⟨v2, _, ⟨T2, L2, c2, n2⟩, -, X2, S2, G2, ⟨Lc2, hq, l2, y2, z2⟩, k2⟩ := X.specialBackS B.1 (y := y) hni B.2.2.2.2.1 (mvT B.2.1 w1) (mvT B.2.1 w2) (mvT B.2.1 w4) hy (backOfS (W := W) (Q := fun v h' L => Q' v h' ∧ Keep h h' ws' ∧ FrW h ws' L) (M []) B.2.1 w4 w3 hfr hlo) (g := mkF m pc Ls (argsL.reverse ++ .ref a :: st)) rfl (hsz.trans B.2.2.2.1.symm) (Steps.refl _) (a := a) (argsL := argsL) (rest := st) (lenOf hpd hlen) rfl (by show 2 * 0 + _ ≤ _; rw [Nat.mul_zero, Nat.zero_add]; exact hW) (hb B.2.2.1 hd) (fun _ _ => ⟨rfl, eT, hcs, hss⟩)
  dsimp only [Pt.U, Pt.locs, Pt.cells, Pt.slots] at X2 S2 G2 l2 y2 z2 k2 hq
  subst l2 y2 z2
  obtain ⟨X3, S3, hZ3, ho3⟩ := rebS hS (Nat.le_trans hz (Nat.le_of_eq (congrArg Array.size eT.symm))) X2 S2 G2 B.2.1 B.2.2.2.2.1
  refine Go.to (fun t kt => k2.trans kt) (g T2 T2.heap v2 T2.vm ⟨B.1, hZ3, B.2.2.1, B.2.2.2.1, ho3, B.2.2.2.2.2.1, B.2.2.2.2.2.2.1, B.2.2.2.2.2.2.2⟩ ⟨_, X3, rfl, KK.trans hq.2.1 hws, fun y hy => (List.mem_append.mp hy).elim (FF y) fun q => ?_⟩ S3 hq.2.1 hq.1)
  exact (hq.2.2 y q).elim (fun z => hws _ z) fun z => Or.inr (Nat.le_trans KK.1 z)
end Go
end Jvm.OwnKit
namespace Jvm.Pilot.@@N@@
open Jvm Jvm.ClassFile Sem Op Lib Jvm.Free Jvm.Stand Jvm.LawKit Jvm.RoadKit Jvm.OwnKit Bundle Jvm.Pilot.@@N@@.Jvm.D
def Pt (Z : State) (h : Heap) (a : Addr) (v0 v1 v2 v3 v4 v5 v6 v7 : Value) : Prop := Exa Z h a "com/example/bisim_for_markov/bisimformarkov/analysis/Partition" ∧ Fld Z h a "com/example/bisim_for_markov/bisimformarkov/analysis/Partition" "elements" "[I" v0 ∧ Fld Z h a "com/example/bisim_for_markov/bisimformarkov/analysis/Partition" "location" "[I" v1 ∧ Fld Z h a "com/example/bisim_for_markov/bisimformarkov/analysis/Partition" "classes" "[I" v2 ∧ Fld Z h a "com/example/bisim_for_markov/bisimformarkov/analysis/Partition" "start" "[I" v3 ∧ Fld Z h a "com/example/bisim_for_markov/bisimformarkov/analysis/Partition" "end" "[I" v4 ∧ Fld Z h a "com/example/bisim_for_markov/bisimformarkov/analysis/Partition" "parents" "[I" v5 ∧ Fld Z h a "com/example/bisim_for_markov/bisimformarkov/analysis/Partition" "rounds" "[I" v6 ∧ Fld Z h a "com/example/bisim_for_markov/bisimformarkov/analysis/Partition" "count" "I" v7
theorem Pt.lt {Z : State} {h : Heap} {a : Addr} {v0 v1 v2 v3 v4 v5 v6 v7 : Value} (F : Pt Z h a v0 v1 v2 v3 v4 v5 v6 v7) : a < h.size := F.1.lt
theorem Pt.ext {Z : State} {h h' : Heap} {a : Addr} {v0 v1 v2 v3 v4 v5 v6 v7 : Value} (F : Pt Z h a v0 v1 v2 v3 v4 v5 v6 v7) (E0 : Ext h h') : Pt Z h' a v0 v1 v2 v3 v4 v5 v6 v7 := by obtain ⟨E, f0, f1, f2, f3, f4, f5, f6, f7⟩ := F; exact ⟨E.ext E0, f0.ext E0, f1.ext E0, f2.ext E0, f3.ext E0, f4.ext E0, f5.ext E0, f6.ext E0, f7.ext E0⟩
theorem Pt.keep {Z : State} {h h' : Heap} {a : Addr} {v0 v1 v2 v3 v4 v5 v6 v7 : Value} {ws : List Addr} (F : Pt Z h a v0 v1 v2 v3 v4 v5 v6 v7) (K : Keep h h' ws) (q : a ∉ ws) : Pt Z h' a v0 v1 v2 v3 v4 v5 v6 v7 := by obtain ⟨E, f0, f1, f2, f3, f4, f5, f6, f7⟩ := F; exact ⟨E.keep K, f0.keep K q, f1.keep K q, f2.keep K q, f3.keep K q, f4.keep K q, f5.keep K q, f6.keep K q, f7.keep K q⟩
theorem Pt.other {Z : State} {h h' : Heap} {a : Addr} {v0 v1 v2 v3 v4 v5 v6 v7 : Value} {b : Addr} {v : Value} {sl : Nat} (F : Pt Z h b v0 v1 v2 v3 v4 v5 v6 v7) (W : Wr h h' a sl v) (q : b ≠ a) : Pt Z h' b v0 v1 v2 v3 v4 v5 v6 v7 := by obtain ⟨E, f0, f1, f2, f3, f4, f5, f6, f7⟩ := F; exact ⟨E.wr W, f0.other W (Or.inl q), f1.other W (Or.inl q), f2.other W (Or.inl q), f3.other W (Or.inl q), f4.other W (Or.inl q), f5.other W (Or.inl q), f6.other W (Or.inl q), f7.other W (Or.inl q)⟩
theorem Pt.set0 {Z : State} {h h' : Heap} {a : Addr} {v0 v1 v2 v3 v4 v5 v6 v7 : Value} {v : Value} {a0 : Array Value} (hw : ∀ d ∈ tables_1, d.before a0 Z = true) (F : Pt Z h a v0 v1 v2 v3 v4 v5 v6 v7) (W : Wr h h' a (Jvm.RoadKit.slotOf Z "com/example/bisim_for_markov/bisimformarkov/analysis/Partition" "elements" "[I") v) : Pt Z h' a v v1 v2 v3 v4 v5 v6 v7 := by obtain ⟨E, f0, f1, f2, f3, f4, f5, f6, f7⟩ := F; exact ⟨E.wr W, f0.same W, f1.other W (Or.inr (slot_ne (Or.inr (hw _ (List.mem_of_getElem? (i := 13) rfl))) (Or.inr (hw _ (List.mem_of_getElem? (i := 11) rfl))) (by decide) (t := (.array .int)) (t' := (.array .int)) (by decide) (by decide))), f2.other W (Or.inr (slot_ne (Or.inr (hw _ (List.mem_of_getElem? (i := 15) rfl))) (Or.inr (hw _ (List.mem_of_getElem? (i := 11) rfl))) (by decide) (t := (.array .int)) (t' := (.array .int)) (by decide) (by decide))), f3.other W (Or.inr (slot_ne (Or.inr (hw _ (List.mem_of_getElem? (i := 21) rfl))) (Or.inr (hw _ (List.mem_of_getElem? (i := 11) rfl))) (by decide) (t := (.array .int)) (t' := (.array .int)) (by decide) (by decide))), f4.other W (Or.inr (slot_ne (Or.inr (hw _ (List.mem_of_getElem? (i := 23) rfl))) (Or.inr (hw _ (List.mem_of_getElem? (i := 11) rfl))) (by decide) (t := (.array .int)) (t' := (.array .int)) (by decide) (by decide))), f5.other W (Or.inr (slot_ne (Or.inr (hw _ (List.mem_of_getElem? (i := 25) rfl))) (Or.inr (hw _ (List.mem_of_getElem? (i := 11) rfl))) (by decide) (t := (.array .int)) (t' := (.array .int)) (by decide) (by decide))), f6.other W (Or.inr (slot_ne (Or.inr (hw _ (List.mem_of_getElem? (i := 27) rfl))) (Or.inr (hw _ (List.mem_of_getElem? (i := 11) rfl))) (by decide) (t := (.array .int)) (t' := (.array .int)) (by decide) (by decide))), f7.other W (Or.inr (slot_ne (Or.inl (hw _ (List.mem_of_getElem? (i := 29) rfl))) (Or.inr (hw _ (List.mem_of_getElem? (i := 11) rfl))) (by decide) (t := .int) (t' := (.array .int)) (by decide) (by decide)))⟩
theorem Pt.set1 {Z : State} {h h' : Heap} {a : Addr} {v0 v1 v2 v3 v4 v5 v6 v7 : Value} {v : Value} {a0 : Array Value} (hw : ∀ d ∈ tables_1, d.before a0 Z = true) (F : Pt Z h a v0 v1 v2 v3 v4 v5 v6 v7) (W : Wr h h' a (Jvm.RoadKit.slotOf Z "com/example/bisim_for_markov/bisimformarkov/analysis/Partition" "location" "[I") v) : Pt Z h' a v0 v v2 v3 v4 v5 v6 v7 := by obtain ⟨E, f0, f1, f2, f3, f4, f5, f6, f7⟩ := F; exact ⟨E.wr W, f0.other W (Or.inr (slot_ne (Or.inr (hw _ (List.mem_of_getElem? (i := 11) rfl))) (Or.inr (hw _ (List.mem_of_getElem? (i := 13) rfl))) (by decide) (t := (.array .int)) (t' := (.array .int)) (by decide) (by decide))), f1.same W, f2.other W (Or.inr (slot_ne (Or.inr (hw _ (List.mem_of_getElem? (i := 15) rfl))) (Or.inr (hw _ (List.mem_of_getElem? (i := 13) rfl))) (by decide) (t := (.array .int)) (t' := (.array .int)) (by decide) (by decide))), f3.other W (Or.inr (slot_ne (Or.inr (hw _ (List.mem_of_getElem? (i := 21) rfl))) (Or.inr (hw _ (List.mem_of_getElem? (i := 13) rfl))) (by decide) (t := (.array .int)) (t' := (.array .int)) (by decide) (by decide))), f4.other W (Or.inr (slot_ne (Or.inr (hw _ (List.mem_of_getElem? (i := 23) rfl))) (Or.inr (hw _ (List.mem_of_getElem? (i := 13) rfl))) (by decide) (t := (.array .int)) (t' := (.array .int)) (by decide) (by decide))), f5.other W (Or.inr (slot_ne (Or.inr (hw _ (List.mem_of_getElem? (i := 25) rfl))) (Or.inr (hw _ (List.mem_of_getElem? (i := 13) rfl))) (by decide) (t := (.array .int)) (t' := (.array .int)) (by decide) (by decide))), f6.other W (Or.inr (slot_ne (Or.inr (hw _ (List.mem_of_getElem? (i := 27) rfl))) (Or.inr (hw _ (List.mem_of_getElem? (i := 13) rfl))) (by decide) (t := (.array .int)) (t' := (.array .int)) (by decide) (by decide))), f7.other W (Or.inr (slot_ne (Or.inl (hw _ (List.mem_of_getElem? (i := 29) rfl))) (Or.inr (hw _ (List.mem_of_getElem? (i := 13) rfl))) (by decide) (t := .int) (t' := (.array .int)) (by decide) (by decide)))⟩
theorem Pt.set2 {Z : State} {h h' : Heap} {a : Addr} {v0 v1 v2 v3 v4 v5 v6 v7 : Value} {v : Value} {a0 : Array Value} (hw : ∀ d ∈ tables_1, d.before a0 Z = true) (F : Pt Z h a v0 v1 v2 v3 v4 v5 v6 v7) (W : Wr h h' a (Jvm.RoadKit.slotOf Z "com/example/bisim_for_markov/bisimformarkov/analysis/Partition" "classes" "[I") v) : Pt Z h' a v0 v1 v v3 v4 v5 v6 v7 := by obtain ⟨E, f0, f1, f2, f3, f4, f5, f6, f7⟩ := F; exact ⟨E.wr W, f0.other W (Or.inr (slot_ne (Or.inr (hw _ (List.mem_of_getElem? (i := 11) rfl))) (Or.inr (hw _ (List.mem_of_getElem? (i := 15) rfl))) (by decide) (t := (.array .int)) (t' := (.array .int)) (by decide) (by decide))), f1.other W (Or.inr (slot_ne (Or.inr (hw _ (List.mem_of_getElem? (i := 13) rfl))) (Or.inr (hw _ (List.mem_of_getElem? (i := 15) rfl))) (by decide) (t := (.array .int)) (t' := (.array .int)) (by decide) (by decide))), f2.same W, f3.other W (Or.inr (slot_ne (Or.inr (hw _ (List.mem_of_getElem? (i := 21) rfl))) (Or.inr (hw _ (List.mem_of_getElem? (i := 15) rfl))) (by decide) (t := (.array .int)) (t' := (.array .int)) (by decide) (by decide))), f4.other W (Or.inr (slot_ne (Or.inr (hw _ (List.mem_of_getElem? (i := 23) rfl))) (Or.inr (hw _ (List.mem_of_getElem? (i := 15) rfl))) (by decide) (t := (.array .int)) (t' := (.array .int)) (by decide) (by decide))), f5.other W (Or.inr (slot_ne (Or.inr (hw _ (List.mem_of_getElem? (i := 25) rfl))) (Or.inr (hw _ (List.mem_of_getElem? (i := 15) rfl))) (by decide) (t := (.array .int)) (t' := (.array .int)) (by decide) (by decide))), f6.other W (Or.inr (slot_ne (Or.inr (hw _ (List.mem_of_getElem? (i := 27) rfl))) (Or.inr (hw _ (List.mem_of_getElem? (i := 15) rfl))) (by decide) (t := (.array .int)) (t' := (.array .int)) (by decide) (by decide))), f7.other W (Or.inr (slot_ne (Or.inl (hw _ (List.mem_of_getElem? (i := 29) rfl))) (Or.inr (hw _ (List.mem_of_getElem? (i := 15) rfl))) (by decide) (t := .int) (t' := (.array .int)) (by decide) (by decide)))⟩
theorem Pt.set3 {Z : State} {h h' : Heap} {a : Addr} {v0 v1 v2 v3 v4 v5 v6 v7 : Value} {v : Value} {a0 : Array Value} (hw : ∀ d ∈ tables_1, d.before a0 Z = true) (F : Pt Z h a v0 v1 v2 v3 v4 v5 v6 v7) (W : Wr h h' a (Jvm.RoadKit.slotOf Z "com/example/bisim_for_markov/bisimformarkov/analysis/Partition" "start" "[I") v) : Pt Z h' a v0 v1 v2 v v4 v5 v6 v7 := by obtain ⟨E, f0, f1, f2, f3, f4, f5, f6, f7⟩ := F; exact ⟨E.wr W, f0.other W (Or.inr (slot_ne (Or.inr (hw _ (List.mem_of_getElem? (i := 11) rfl))) (Or.inr (hw _ (List.mem_of_getElem? (i := 21) rfl))) (by decide) (t := (.array .int)) (t' := (.array .int)) (by decide) (by decide))), f1.other W (Or.inr (slot_ne (Or.inr (hw _ (List.mem_of_getElem? (i := 13) rfl))) (Or.inr (hw _ (List.mem_of_getElem? (i := 21) rfl))) (by decide) (t := (.array .int)) (t' := (.array .int)) (by decide) (by decide))), f2.other W (Or.inr (slot_ne (Or.inr (hw _ (List.mem_of_getElem? (i := 15) rfl))) (Or.inr (hw _ (List.mem_of_getElem? (i := 21) rfl))) (by decide) (t := (.array .int)) (t' := (.array .int)) (by decide) (by decide))), f3.same W, f4.other W (Or.inr (slot_ne (Or.inr (hw _ (List.mem_of_getElem? (i := 23) rfl))) (Or.inr (hw _ (List.mem_of_getElem? (i := 21) rfl))) (by decide) (t := (.array .int)) (t' := (.array .int)) (by decide) (by decide))), f5.other W (Or.inr (slot_ne (Or.inr (hw _ (List.mem_of_getElem? (i := 25) rfl))) (Or.inr (hw _ (List.mem_of_getElem? (i := 21) rfl))) (by decide) (t := (.array .int)) (t' := (.array .int)) (by decide) (by decide))), f6.other W (Or.inr (slot_ne (Or.inr (hw _ (List.mem_of_getElem? (i := 27) rfl))) (Or.inr (hw _ (List.mem_of_getElem? (i := 21) rfl))) (by decide) (t := (.array .int)) (t' := (.array .int)) (by decide) (by decide))), f7.other W (Or.inr (slot_ne (Or.inl (hw _ (List.mem_of_getElem? (i := 29) rfl))) (Or.inr (hw _ (List.mem_of_getElem? (i := 21) rfl))) (by decide) (t := .int) (t' := (.array .int)) (by decide) (by decide)))⟩
theorem Pt.set4 {Z : State} {h h' : Heap} {a : Addr} {v0 v1 v2 v3 v4 v5 v6 v7 : Value} {v : Value} {a0 : Array Value} (hw : ∀ d ∈ tables_1, d.before a0 Z = true) (F : Pt Z h a v0 v1 v2 v3 v4 v5 v6 v7) (W : Wr h h' a (Jvm.RoadKit.slotOf Z "com/example/bisim_for_markov/bisimformarkov/analysis/Partition" "end" "[I") v) : Pt Z h' a v0 v1 v2 v3 v v5 v6 v7 := by obtain ⟨E, f0, f1, f2, f3, f4, f5, f6, f7⟩ := F; exact ⟨E.wr W, f0.other W (Or.inr (slot_ne (Or.inr (hw _ (List.mem_of_getElem? (i := 11) rfl))) (Or.inr (hw _ (List.mem_of_getElem? (i := 23) rfl))) (by decide) (t := (.array .int)) (t' := (.array .int)) (by decide) (by decide))), f1.other W (Or.inr (slot_ne (Or.inr (hw _ (List.mem_of_getElem? (i := 13) rfl))) (Or.inr (hw _ (List.mem_of_getElem? (i := 23) rfl))) (by decide) (t := (.array .int)) (t' := (.array .int)) (by decide) (by decide))), f2.other W (Or.inr (slot_ne (Or.inr (hw _ (List.mem_of_getElem? (i := 15) rfl))) (Or.inr (hw _ (List.mem_of_getElem? (i := 23) rfl))) (by decide) (t := (.array .int)) (t' := (.array .int)) (by decide) (by decide))), f3.other W (Or.inr (slot_ne (Or.inr (hw _ (List.mem_of_getElem? (i := 21) rfl))) (Or.inr (hw _ (List.mem_of_getElem? (i := 23) rfl))) (by decide) (t := (.array .int)) (t' := (.array .int)) (by decide) (by decide))), f4.same W, f5.other W (Or.inr (slot_ne (Or.inr (hw _ (List.mem_of_getElem? (i := 25) rfl))) (Or.inr (hw _ (List.mem_of_getElem? (i := 23) rfl))) (by decide) (t := (.array .int)) (t' := (.array .int)) (by decide) (by decide))), f6.other W (Or.inr (slot_ne (Or.inr (hw _ (List.mem_of_getElem? (i := 27) rfl))) (Or.inr (hw _ (List.mem_of_getElem? (i := 23) rfl))) (by decide) (t := (.array .int)) (t' := (.array .int)) (by decide) (by decide))), f7.other W (Or.inr (slot_ne (Or.inl (hw _ (List.mem_of_getElem? (i := 29) rfl))) (Or.inr (hw _ (List.mem_of_getElem? (i := 23) rfl))) (by decide) (t := .int) (t' := (.array .int)) (by decide) (by decide)))⟩
theorem Pt.set5 {Z : State} {h h' : Heap} {a : Addr} {v0 v1 v2 v3 v4 v5 v6 v7 : Value} {v : Value} {a0 : Array Value} (hw : ∀ d ∈ tables_1, d.before a0 Z = true) (F : Pt Z h a v0 v1 v2 v3 v4 v5 v6 v7) (W : Wr h h' a (Jvm.RoadKit.slotOf Z "com/example/bisim_for_markov/bisimformarkov/analysis/Partition" "parents" "[I") v) : Pt Z h' a v0 v1 v2 v3 v4 v v6 v7 := by obtain ⟨E, f0, f1, f2, f3, f4, f5, f6, f7⟩ := F; exact ⟨E.wr W, f0.other W (Or.inr (slot_ne (Or.inr (hw _ (List.mem_of_getElem? (i := 11) rfl))) (Or.inr (hw _ (List.mem_of_getElem? (i := 25) rfl))) (by decide) (t := (.array .int)) (t' := (.array .int)) (by decide) (by decide))), f1.other W (Or.inr (slot_ne (Or.inr (hw _ (List.mem_of_getElem? (i := 13) rfl))) (Or.inr (hw _ (List.mem_of_getElem? (i := 25) rfl))) (by decide) (t := (.array .int)) (t' := (.array .int)) (by decide) (by decide))), f2.other W (Or.inr (slot_ne (Or.inr (hw _ (List.mem_of_getElem? (i := 15) rfl))) (Or.inr (hw _ (List.mem_of_getElem? (i := 25) rfl))) (by decide) (t := (.array .int)) (t' := (.array .int)) (by decide) (by decide))), f3.other W (Or.inr (slot_ne (Or.inr (hw _ (List.mem_of_getElem? (i := 21) rfl))) (Or.inr (hw _ (List.mem_of_getElem? (i := 25) rfl))) (by decide) (t := (.array .int)) (t' := (.array .int)) (by decide) (by decide))), f4.other W (Or.inr (slot_ne (Or.inr (hw _ (List.mem_of_getElem? (i := 23) rfl))) (Or.inr (hw _ (List.mem_of_getElem? (i := 25) rfl))) (by decide) (t := (.array .int)) (t' := (.array .int)) (by decide) (by decide))), f5.same W, f6.other W (Or.inr (slot_ne (Or.inr (hw _ (List.mem_of_getElem? (i := 27) rfl))) (Or.inr (hw _ (List.mem_of_getElem? (i := 25) rfl))) (by decide) (t := (.array .int)) (t' := (.array .int)) (by decide) (by decide))), f7.other W (Or.inr (slot_ne (Or.inl (hw _ (List.mem_of_getElem? (i := 29) rfl))) (Or.inr (hw _ (List.mem_of_getElem? (i := 25) rfl))) (by decide) (t := .int) (t' := (.array .int)) (by decide) (by decide)))⟩
theorem Pt.set6 {Z : State} {h h' : Heap} {a : Addr} {v0 v1 v2 v3 v4 v5 v6 v7 : Value} {v : Value} {a0 : Array Value} (hw : ∀ d ∈ tables_1, d.before a0 Z = true) (F : Pt Z h a v0 v1 v2 v3 v4 v5 v6 v7) (W : Wr h h' a (Jvm.RoadKit.slotOf Z "com/example/bisim_for_markov/bisimformarkov/analysis/Partition" "rounds" "[I") v) : Pt Z h' a v0 v1 v2 v3 v4 v5 v v7 := by obtain ⟨E, f0, f1, f2, f3, f4, f5, f6, f7⟩ := F; exact ⟨E.wr W, f0.other W (Or.inr (slot_ne (Or.inr (hw _ (List.mem_of_getElem? (i := 11) rfl))) (Or.inr (hw _ (List.mem_of_getElem? (i := 27) rfl))) (by decide) (t := (.array .int)) (t' := (.array .int)) (by decide) (by decide))), f1.other W (Or.inr (slot_ne (Or.inr (hw _ (List.mem_of_getElem? (i := 13) rfl))) (Or.inr (hw _ (List.mem_of_getElem? (i := 27) rfl))) (by decide) (t := (.array .int)) (t' := (.array .int)) (by decide) (by decide))), f2.other W (Or.inr (slot_ne (Or.inr (hw _ (List.mem_of_getElem? (i := 15) rfl))) (Or.inr (hw _ (List.mem_of_getElem? (i := 27) rfl))) (by decide) (t := (.array .int)) (t' := (.array .int)) (by decide) (by decide))), f3.other W (Or.inr (slot_ne (Or.inr (hw _ (List.mem_of_getElem? (i := 21) rfl))) (Or.inr (hw _ (List.mem_of_getElem? (i := 27) rfl))) (by decide) (t := (.array .int)) (t' := (.array .int)) (by decide) (by decide))), f4.other W (Or.inr (slot_ne (Or.inr (hw _ (List.mem_of_getElem? (i := 23) rfl))) (Or.inr (hw _ (List.mem_of_getElem? (i := 27) rfl))) (by decide) (t := (.array .int)) (t' := (.array .int)) (by decide) (by decide))), f5.other W (Or.inr (slot_ne (Or.inr (hw _ (List.mem_of_getElem? (i := 25) rfl))) (Or.inr (hw _ (List.mem_of_getElem? (i := 27) rfl))) (by decide) (t := (.array .int)) (t' := (.array .int)) (by decide) (by decide))), f6.same W, f7.other W (Or.inr (slot_ne (Or.inl (hw _ (List.mem_of_getElem? (i := 29) rfl))) (Or.inr (hw _ (List.mem_of_getElem? (i := 27) rfl))) (by decide) (t := .int) (t' := (.array .int)) (by decide) (by decide)))⟩
theorem Pt.set7 {Z : State} {h h' : Heap} {a : Addr} {v0 v1 v2 v3 v4 v5 v6 v7 : Value} {v : Value} {a0 : Array Value} (hw : ∀ d ∈ tables_1, d.before a0 Z = true) (F : Pt Z h a v0 v1 v2 v3 v4 v5 v6 v7) (W : Wr h h' a (Jvm.RoadKit.slotOf Z "com/example/bisim_for_markov/bisimformarkov/analysis/Partition" "count" "I") v) : Pt Z h' a v0 v1 v2 v3 v4 v5 v6 v := by obtain ⟨E, f0, f1, f2, f3, f4, f5, f6, f7⟩ := F; exact ⟨E.wr W, f0.other W (Or.inr (slot_ne (Or.inr (hw _ (List.mem_of_getElem? (i := 11) rfl))) (Or.inl (hw _ (List.mem_of_getElem? (i := 29) rfl))) (by decide) (t := (.array .int)) (t' := .int) (by decide) (by decide))), f1.other W (Or.inr (slot_ne (Or.inr (hw _ (List.mem_of_getElem? (i := 13) rfl))) (Or.inl (hw _ (List.mem_of_getElem? (i := 29) rfl))) (by decide) (t := (.array .int)) (t' := .int) (by decide) (by decide))), f2.other W (Or.inr (slot_ne (Or.inr (hw _ (List.mem_of_getElem? (i := 15) rfl))) (Or.inl (hw _ (List.mem_of_getElem? (i := 29) rfl))) (by decide) (t := (.array .int)) (t' := .int) (by decide) (by decide))), f3.other W (Or.inr (slot_ne (Or.inr (hw _ (List.mem_of_getElem? (i := 21) rfl))) (Or.inl (hw _ (List.mem_of_getElem? (i := 29) rfl))) (by decide) (t := (.array .int)) (t' := .int) (by decide) (by decide))), f4.other W (Or.inr (slot_ne (Or.inr (hw _ (List.mem_of_getElem? (i := 23) rfl))) (Or.inl (hw _ (List.mem_of_getElem? (i := 29) rfl))) (by decide) (t := (.array .int)) (t' := .int) (by decide) (by decide))), f5.other W (Or.inr (slot_ne (Or.inr (hw _ (List.mem_of_getElem? (i := 25) rfl))) (Or.inl (hw _ (List.mem_of_getElem? (i := 29) rfl))) (by decide) (t := (.array .int)) (t' := .int) (by decide) (by decide))), f6.other W (Or.inr (slot_ne (Or.inr (hw _ (List.mem_of_getElem? (i := 27) rfl))) (Or.inl (hw _ (List.mem_of_getElem? (i := 29) rfl))) (by decide) (t := (.array .int)) (t' := .int) (by decide) (by decide))), f7.same W⟩
abbrev PS := List Int32 × List Int32 × List Int32 × List Int32 × List Int32 × List Int32 × List Int32 × Int32
def PS.es (u : PS) : List Int32 := u.1
def PS.ls (u : PS) : List Int32 := u.2.1
def PS.cs (u : PS) : List Int32 := u.2.2.1
def PS.ss (u : PS) : List Int32 := u.2.2.2.1
def PS.ns (u : PS) : List Int32 := u.2.2.2.2.1
def PS.ps (u : PS) : List Int32 := u.2.2.2.2.2.1
def PS.rs (u : PS) : List Int32 := u.2.2.2.2.2.2.1
def PS.cnt (u : PS) : Int32 := u.2.2.2.2.2.2.2
def PS.wcs (u : PS) (x : List Int32) : PS := (u.es, u.ls, x, u.ss, u.ns, u.ps, u.rs, u.cnt)
def PS.wel (u : PS) (x y : List Int32) : PS := (x, y, u.cs, u.ss, u.ns, u.ps, u.rs, u.cnt)
def ob (cl : Int32) (u : PS) : Int32 := u.ns.getD cl.toNatClampNeg 0 - (1 : Int32)
def oy (cl : Int32) (u : PS) : Int32 := u.es.getD (ob cl u).toNatClampNeg 0
def ol (x : Int32) (u : PS) : Int32 := u.ls.getD x.toNatClampNeg 0
def oMove (cl x : Int32) (u : PS) : PS := ((u.es.set (ol x u).toNatClampNeg (oy cl u)).set (ob cl u).toNatClampNeg x, (u.ls.set (oy cl u).toNatClampNeg (ol x u)).set x.toNatClampNeg (ob cl u), u.cs, u.ss, u.ns.set cl.toNatClampNeg (ob cl u), u.ps, u.rs, u.cnt)
def oRun (cl : Int32) (fs : List Int32) : Nat → Nat → PS → PS
  | _, 0, u => u
  | i, f + 1, u => oRun cl fs (i + 1) f (oMove cl (fs.getD i 0) u)
def oCls (k : Int32) (fs : List Int32) : Nat → Nat → List Int32 → List Int32
  | _, 0, xs => xs
  | i, f + 1, xs => oCls k fs (i + 1) f (xs.set (fs.getD i 0).toNatClampNeg k)
def oFill : Nat → Nat → List Int32 → List Int32
  | _, 0, xs => xs
  | i, f + 1, xs => oFill (i + 1) f (xs.set i (Int32.ofNat i))
def oNew (cl fr to rd : Int32) (u : PS) : PS := (u.es, u.ls, u.cs, u.ss.set u.cnt.toNatClampNeg (u.ns.getD cl.toNatClampNeg 0), u.ns.set u.cnt.toNatClampNeg (u.ns.getD cl.toNatClampNeg 0 + to - fr), u.ps.set u.cnt.toNatClampNeg cl, u.rs.set u.cnt.toNatClampNeg rd, u.cnt + (1 : Int32))
def oSplit (cl : Int32) (fs : List Int32) (fr to rd : Int32) (fN tN : Nat) (u : PS) : PS := (oNew cl fr to rd (oRun cl fs fN (tN - fN) u)).wcs (oCls u.cnt fs fN (tN - fN) u.cs)
def inR (n : Nat) (x : Int32) : Prop := 0 ≤ x.toInt ∧ x.toInt < n
def Ok (n NN : Nat) (u : PS) : Prop := u.es.length = n ∧ u.ls.length = n ∧ u.cs.length = n ∧ u.ss.length = NN ∧ u.ns.length = NN ∧ u.ps.length = NN ∧ u.rs.length = NN ∧ (∀ j, j < n → inR n (u.es.getD j 0)) ∧ (∀ j, j < n → inR n (u.ls.getD j 0))
theorem own_clamp {x : Int32} {n : Nat} (h : x.toInt = n) : x.toNatClampNeg = n := by simp only [Int32.toNatClampNeg]; omega
theorem own_getset (bs : List Int32) (i j : Nat) (x : Int32) (hi : i < bs.length) : (bs.set i x).getD j 0 = if i = j then x else bs.getD j 0 := by
  rw [List.getD_eq_getElem?_getD, List.getElem?_set, List.getD_eq_getElem?_getD]
  by_cases h : i = j
  · subst h; rw [if_pos rfl, if_pos hi, if_pos rfl]; rfl
  · rw [if_neg h, if_neg h]
theorem own_setR {n : Nat} {xs : List Int32} {i : Nat} {x : Int32} (h : ∀ j, j < n → inR n (xs.getD j 0)) (hi : i < xs.length) (hx : inR n x) : ∀ j, j < n → inR n ((xs.set i x).getD j 0) := by
  intro j hj
  rw [own_getset _ _ _ _ hi]
  split
  · exact hx
  · exact h j hj
section move
variable {n NN : Nat} {u : PS} {cl x : Int32}
theorem Ok.y (k : Ok n NN u) (hb : inR n (ob cl u)) : inR n (oy cl u) := k.2.2.2.2.2.2.2.1 _ (own_nat hb)
theorem Ok.l (k : Ok n NN u) (hx : inR n x) : inR n (ol x u) := k.2.2.2.2.2.2.2.2 _ (own_nat hx)
theorem Ok.move (k : Ok n NN u) (hb : inR n (ob cl u)) (hx : inR n x) : Ok n NN (oMove cl x u) := by
  have hy := k.y hb; have hl := k.l hx
  obtain ⟨k1, k2, k3, k4, k5, k6, k7, k8, k9⟩ := k
  refine ⟨by show ((u.es.set _ _).set _ _).length = n; rw [List.length_set, List.length_set]; exact k1, by show ((u.ls.set _ _).set _ _).length = n; rw [List.length_set, List.length_set]; exact k2, k3, k4, by show (u.ns.set _ _).length = NN; rw [List.length_set]; exact k5, k6, k7, ?_, ?_⟩
  · exact own_setR (own_setR k8 (by rw [k1]; exact own_nat hl) hy) (by rw [List.length_set, k1]; exact own_nat hb) hx
  · exact own_setR (own_setR k9 (by rw [k2]; exact own_nat hy) hl) (by rw [List.length_set, k2]; exact own_nat hx) hb
/-- the end of class cl leaves room for r moves -/
def Can (n : Nat) (cl : Int32) (r : Nat) (u : PS) : Prop := (r : Int) ≤ (u.ns.getD cl.toNatClampNeg 0).toInt ∧ (u.ns.getD cl.toNatClampNeg 0).toInt ≤ n
theorem Can.b {r : Nat} (h : Can n cl (r + 1) u) : inR n (ob cl u) ∧ (ob cl u).toInt = (u.ns.getD cl.toNatClampNeg 0).toInt - 1 := by
  obtain ⟨h1, h2⟩ := h
  have a := c_isub (u.ns.getD cl.toNatClampNeg 0) 1; have b := rng32 (u.ns.getD cl.toNatClampNeg 0 - 1); have d := rng32 (u.ns.getD cl.toNatClampNeg 0)
  have z : (1 : Int32).toInt = 1 := rfl
  have e : (ob cl u).toInt = (u.ns.getD cl.toNatClampNeg 0).toInt - 1 := by unfold ob; omega
  exact ⟨⟨by omega, by omega⟩, e⟩
theorem Can.move {r : Nat} (h : Can n cl (r + 1) u) (k : Ok n NN u) (hc : inR NN cl) : Can n cl r (oMove cl x u) := by
  have b := h.b
  have e : (oMove cl x u).ns.getD cl.toNatClampNeg 0 = ob cl u := by
    show (u.ns.set _ _).getD _ 0 = _
    rw [own_getset _ _ _ _ (by rw [k.2.2.2.2.1]; exact own_nat hc), if_pos rfl]
  unfold Can
  obtain ⟨h1, h2⟩ := h
  rw [e, b.2]
  omega
theorem own_ir {n : Nat} {xs : List Value} (h : xs.length = n) : xs.length = n := h
end move
theorem own_nd {xs : List Addr} {a b : Addr} (h : xs.Nodup) (i j : Nat) (hi : xs[i]? = some a) (hj : xs[j]? = some b) (hij : i ≠ j) : a ≠ b := by
  rintro rfl
  obtain ⟨hi', e1⟩ := List.getElem?_eq_some_iff.mp hi
  obtain ⟨hj', e2⟩ := List.getElem?_eq_some_iff.mp hj
  have P := List.pairwise_iff_getElem.mp h
  rcases Nat.lt_or_gt_of_ne hij with q | q
  · exact P i j hi' hj' q (e1.trans e2.symm)
  · exact P j i hj' hi' q (e2.trans e1.symm)
theorem own_nf {xs : List Addr} {a f : Addr} (h : ∀ x ∈ xs, x ≠ f) (i : Nat) (hi : xs[i]? = some a) : a ≠ f := h _ (List.mem_of_getElem? hi)
theorem own_inc {i to : Int32} {iN tN : Nat} (hi : i.toInt = iN) (hto : to.toInt = tN) (h : iN < tN) : (i + (1 : Int32)).toInt = ((iN + 1 : Nat) : Int) := by
  have a := c_iadd i 1; have b := rng32 (i + 1); have d := rng32 to
  have z : (1 : Int32).toInt = 1 := rfl
  omega
theorem own_ofNat {i : Int32} {iN : Nat} (hi : i.toInt = iN) : i = Int32.ofNat iN := by
  have r := rng32 i
  apply Int32.toInt_inj.mp
  rw [Int32.toInt_ofNat_of_lt (by omega), hi]
theorem own_rep {x : Int32} {nN : Nat} (h : x.toInt = nN) : List.replicate x.toNatClampNeg (defaultValue .int) = (List.replicate nN (0 : Int32)).map Value.int := by
  rw [own_clamp h, List.map_replicate]; rfl
theorem own_eqsub {a b x : Int32} (h : a.toInt - b.toInt = x.toInt) : a - b = x := by
  have h1 := c_isub a b; have h2 := rng32 (a - b); have h3 := rng32 x
  apply Int32.toInt_inj.mp; omega
theorem own_addN {x y : Int32} {a b : Nat} (hx : x.toInt = a) (hy : y.toInt = b) (h : a + b < 1000) : (x + y).toInt = ((a + b : Nat) : Int) := by
  have h1 := c_iadd x y; have h2 := rng32 (x + y); omega
theorem own_subN {x y : Int32} {a b : Nat} (hx : x.toInt = a) (hy : y.toInt = b) (ha : a < 1000) (h : b ≤ a) : (x - y).toInt = ((a - b : Nat) : Int) := by
  have h1 := c_isub x y; have h2 := rng32 (x - y); omega
section run
variable {n NN : Nat} {cl : Int32} {fs : List Int32}
theorem own_run (f : Nat) : ∀ (i : Nat) (u : PS), Ok n NN u → inR NN cl → Can n cl f u → (∀ j, i ≤ j → j < i + f → inR n (fs.getD j 0)) → Ok n NN (oRun cl fs i f u) ∧ (oRun cl fs i f u).cnt = u.cnt ∧ (oRun cl fs i f u).cs = u.cs ∧ (oRun cl fs i f u).ss = u.ss ∧ (oRun cl fs i f u).ps = u.ps ∧ (oRun cl fs i f u).rs = u.rs ∧ ((oRun cl fs i f u).ns.getD cl.toNatClampNeg 0).toInt = (u.ns.getD cl.toNatClampNeg 0).toInt - f ∧ ∀ j, j ≠ cl.toNatClampNeg → (oRun cl fs i f u).ns.getD j 0 = u.ns.getD j 0 := by
  induction f with
  | zero => intro i u k _ _ _; exact ⟨k, rfl, rfl, rfl, rfl, rfl, by show _ = _ - ((0 : Nat) : Int); rw [Int.natCast_zero, Int.sub_zero]; rfl, fun _ _ => rfl⟩
  | succ f ih =>
    intro i u k hc can hx
    have b := can.b
    have hl : cl.toNatClampNeg < u.ns.length := by rw [k.2.2.2.2.1]; exact own_nat hc
    obtain ⟨r1, r2, r3, r4, r5, r6, r7, r8⟩ := ih (i + 1) (oMove cl (fs.getD i 0) u) (k.move b.1 (hx i (Nat.le_refl _) (by omega))) hc (can.move k hc) (fun j a d => hx j (by omega) (by omega))
    have e : (oMove cl (fs.getD i 0) u).ns.getD cl.toNatClampNeg 0 = ob cl u := by
      show (u.ns.set _ _).getD _ 0 = _
      rw [own_getset _ _ _ _ hl, if_pos rfl]
    refine ⟨r1, r2, r3, r4, r5, r6, ?_, fun j hj => ?_⟩
    · show ((oRun cl fs (i + 1) f (oMove cl (fs.getD i 0) u)).ns.getD cl.toNatClampNeg 0).toInt = _
      rw [r7, e, b.2]; omega
    · show (oRun cl fs (i + 1) f (oMove cl (fs.getD i 0) u)).ns.getD j 0 = _
      rw [r8 j hj]
      show (u.ns.set _ _).getD _ 0 = _
      rw [own_getset _ _ _ _ hl, if_neg (Ne.symm hj)]
theorem own_clsLen (kk : Int32) (f : Nat) : ∀ (i : Nat) (xs : List Int32), (oCls kk fs i f xs).length = xs.length := by
  induction f with
  | zero => intro i xs; rfl
  | succ f ih => intro i xs; show (oCls kk fs (i + 1) f _).length = _; rw [ih, List.length_set]
end run
theorem own_fillLen (f : Nat) : ∀ (i : Nat) (xs : List Int32), (oFill i f xs).length = xs.length := by
  induction f with
  | zero => intro i xs; rfl
  | succ f ih => intro i xs; show (oFill (i + 1) f _).length = _; rw [ih, List.length_set]
def oU0 (nN : Nat) : PS := (List.replicate nN 0, List.replicate nN 0, List.replicate nN 0, List.replicate (max nN 1) 0, List.replicate (max nN 1) 0, List.replicate (max nN 1) 0, List.replicate (max nN 1) 0, 0)
def oU1 (nN : Nat) : PS := (oU0 nN).wel (oFill 0 nN (oU0 nN).es) (oFill 0 nN (oU0 nN).ls)
def oS0 (k : Int32) (nN : Nat) : PS := ((oU1 nN).es, (oU1 nN).ls, (oU1 nN).cs, (oU1 nN).ss, (oU1 nN).ns.set 0 k, (oU1 nN).ps.set 0 (-1), (oU1 nN).rs, 1)
def Sl (a b c d : Slot) : Prop := (a = .unset ∧ b = .unset ∧ c = .unset ∧ d = .unset) ∨ ∃ x y z w, a = .val (.int x) ∧ b = .val (.int y) ∧ c = .val (.int z) ∧ d = .val (.int w)
theorem own_hw {xs : List Addr} {P : Addr → Prop} {a : Addr} (h : ∀ x ∈ xs, P x) (i : Nat) (hi : xs[i]? = some a) : P a := h _ (List.mem_of_getElem? hi)

def PA (Z : State) (h : Heap) (q aE aL aK aS aN aP aR : Addr) (u : PS) : Prop := Pt Z h q (.ref aE) (.ref aL) (.ref aK) (.ref aS) (.ref aN) (.ref aP) (.ref aR) (.int u.cnt) ∧ VA Z h aE .int (u.es.map Value.int) ∧ VA Z h aL .int (u.ls.map Value.int) ∧ VA Z h aK .int (u.cs.map Value.int) ∧ VA Z h aS .int (u.ss.map Value.int) ∧ VA Z h aN .int (u.ns.map Value.int) ∧ VA Z h aP .int (u.ps.map Value.int) ∧ VA Z h aR .int (u.rs.map Value.int)
theorem d3_0 : decode jdk_29_method_65_code 0 = .ok (.iload_n 0, 1) := by decide +kernel
theorem d3_1 : decode jdk_29_method_65_code 1 = .ok (.iload_n 1, 1) := by decide +kernel
theorem d3_2 : decode jdk_29_method_65_code 2 = .ok (.if_icmp .lt 7, 3) := by decide +kernel
theorem d3_5 : decode jdk_29_method_65_code 5 = .ok (.iload_n 0, 1) := by decide +kernel
theorem d3_6 : decode jdk_29_method_65_code 6 = .ok (.goto 4, 3) := by decide +kernel
theorem d3_9 : decode jdk_29_method_65_code 9 = .ok (.iload_n 1, 1) := by decide +kernel
theorem d3_10 : decode jdk_29_method_65_code 10 = .ok (.ireturn, 1) := by decide +kernel
theorem ef3_II (m : MethodId) (x0 : Int32) (x1 : Int32) : entryFrame m #[(.int x0), (.int x1)] 2 = mkF m 0 #[.val (.int x0), .val (.int x1)] [] := by first | (simp [entryFrame, mkF, argsToLocals, Value.category]; done) | rfl
def omax (x : Int32) (y : Int32) : Int32 := if x < y then y else (x)
def rmr3 : Room := { frames := 0, cells := 0, slots := 0, locals := 0 }
set_option maxRecDepth 65536 in
set_option maxHeartbeats 4000000 in
theorem mtmax (l : Launch) (Z : State) (a0 : Array Value) (hw : ∀ d ∈ tables_1, d.before a0 Z = true) (x : Int32) (y : Int32)  (h0 : Heap) : Meth l Z (⟨"java/lang/Math", "max", "(II)I"⟩ : MethodName) jdk_29_method_65_code 2 (some .int) rmr3 #[(.int x), (.int y)] h0 [] (fun vr h' => vr = some (.int (omax x y)) ∧ h' = h0) := by
  refine Meth.of (Jvm.Free.JP.mathPlain rfl (by decide +kernel)) ?_
  intro p e s m below meth c T B X
  refine Go.entry (ef3_II m x y) ?_
  refine giloadN B X d3_0 rfl (pc' := 1) rfl ?_
  refine giloadN B X d3_1 rfl (pc' := 2) rfl ?_
  by_cases c2_1 : x < y
  · refine gicY B X (pc' := 9) d3_2 (tlt c2_1).1 (by decide) ?_
    refine giloadN B X d3_9 rfl (pc' := 10) rfl ?_
    exact gretI B X d3_10 (by decide) (by decide) (⟨by rw [omax, if_pos c2_1], rfl⟩)
  · refine gicN B X d3_2 (flt c2_1).1 (pc' := 5) rfl ?_
    refine giloadN B X d3_5 rfl (pc' := 6) rfl ?_
    refine ggoto B X (pc' := 10) d3_6 (by decide) ?_
    exact gretI B X d3_10 (by decide) (by decide) (⟨by rw [omax, if_neg c2_1], rfl⟩)
theorem own_max {k : Int32} {nN : Nat} (h : k.toInt = nN) : (omax k (1 : Int32)).toInt = ((max nN 1 : Nat) : Int) := by
  unfold omax
  have z : (1 : Int32).toInt = 1 := rfl
  split
  · rename_i q; rw [Int32.lt_iff_toInt_lt] at q; omega
  · rename_i q; rw [Int32.lt_iff_toInt_lt] at q; omega
theorem d1_0 : decode prog_61_method_1_code 0 = .ok (.aload_n 0, 1) := by decide +kernel
theorem d1_1 : decode prog_61_method_1_code 1 = .ok (.invokespecial 1, 3) := by decide +kernel
theorem d1_4 : decode prog_61_method_1_code 4 = .ok (.aload_n 0, 1) := by decide +kernel
theorem d1_5 : decode prog_61_method_1_code 5 = .ok (.iload_n 1, 1) := by decide +kernel
theorem d1_6 : decode prog_61_method_1_code 6 = .ok (.newarray .int, 2) := by decide +kernel
theorem d1_8 : decode prog_61_method_1_code 8 = .ok (.putfield 7, 3) := by decide +kernel
theorem d1_11 : decode prog_61_method_1_code 11 = .ok (.aload_n 0, 1) := by decide +kernel
theorem d1_12 : decode prog_61_method_1_code 12 = .ok (.iload_n 1, 1) := by decide +kernel
theorem d1_13 : decode prog_61_method_1_code 13 = .ok (.newarray .int, 2) := by decide +kernel
theorem d1_15 : decode prog_61_method_1_code 15 = .ok (.putfield 13, 3) := by decide +kernel
theorem d1_18 : decode prog_61_method_1_code 18 = .ok (.aload_n 0, 1) := by decide +kernel
theorem d1_19 : decode prog_61_method_1_code 19 = .ok (.iload_n 1, 1) := by decide +kernel
theorem d1_20 : decode prog_61_method_1_code 20 = .ok (.newarray .int, 2) := by decide +kernel
theorem d1_22 : decode prog_61_method_1_code 22 = .ok (.putfield 16, 3) := by decide +kernel
theorem d1_25 : decode prog_61_method_1_code 25 = .ok (.aload_n 0, 1) := by decide +kernel
theorem d1_26 : decode prog_61_method_1_code 26 = .ok (.iload_n 1, 1) := by decide +kernel
theorem d1_27 : decode prog_61_method_1_code 27 = .ok (.iconst 1, 1) := by decide +kernel
theorem d1_28 : decode prog_61_method_1_code 28 = .ok (.invokestatic 19, 3) := by decide +kernel
theorem d1_31 : decode prog_61_method_1_code 31 = .ok (.newarray .int, 2) := by decide +kernel
theorem d1_33 : decode prog_61_method_1_code 33 = .ok (.putfield 25, 3) := by decide +kernel
theorem d1_36 : decode prog_61_method_1_code 36 = .ok (.aload_n 0, 1) := by decide +kernel
theorem d1_37 : decode prog_61_method_1_code 37 = .ok (.iload_n 1, 1) := by decide +kernel
theorem d1_38 : decode prog_61_method_1_code 38 = .ok (.iconst 1, 1) := by decide +kernel
theorem d1_39 : decode prog_61_method_1_code 39 = .ok (.invokestatic 19, 3) := by decide +kernel
theorem d1_42 : decode prog_61_method_1_code 42 = .ok (.newarray .int, 2) := by decide +kernel
theorem d1_44 : decode prog_61_method_1_code 44 = .ok (.putfield 28, 3) := by decide +kernel
theorem d1_47 : decode prog_61_method_1_code 47 = .ok (.aload_n 0, 1) := by decide +kernel
theorem d1_48 : decode prog_61_method_1_code 48 = .ok (.iload_n 1, 1) := by decide +kernel
theorem d1_49 : decode prog_61_method_1_code 49 = .ok (.iconst 1, 1) := by decide +kernel
theorem d1_50 : decode prog_61_method_1_code 50 = .ok (.invokestatic 19, 3) := by decide +kernel
theorem d1_53 : decode prog_61_method_1_code 53 = .ok (.newarray .int, 2) := by decide +kernel
theorem d1_55 : decode prog_61_method_1_code 55 = .ok (.putfield 31, 3) := by decide +kernel
theorem d1_58 : decode prog_61_method_1_code 58 = .ok (.aload_n 0, 1) := by decide +kernel
theorem d1_59 : decode prog_61_method_1_code 59 = .ok (.iload_n 1, 1) := by decide +kernel
theorem d1_60 : decode prog_61_method_1_code 60 = .ok (.iconst 1, 1) := by decide +kernel
theorem d1_61 : decode prog_61_method_1_code 61 = .ok (.invokestatic 19, 3) := by decide +kernel
theorem d1_64 : decode prog_61_method_1_code 64 = .ok (.newarray .int, 2) := by decide +kernel
theorem d1_66 : decode prog_61_method_1_code 66 = .ok (.putfield 34, 3) := by decide +kernel
theorem d1_69 : decode prog_61_method_1_code 69 = .ok (.iconst 0, 1) := by decide +kernel
theorem d1_70 : decode prog_61_method_1_code 70 = .ok (.istore_n 2, 1) := by decide +kernel
theorem d1_71 : decode prog_61_method_1_code 71 = .ok (.iload_n 2, 1) := by decide +kernel
theorem d1_72 : decode prog_61_method_1_code 72 = .ok (.iload_n 1, 1) := by decide +kernel
theorem d1_73 : decode prog_61_method_1_code 73 = .ok (.if_icmp .ge 23, 3) := by decide +kernel
theorem d1_76 : decode prog_61_method_1_code 76 = .ok (.aload_n 0, 1) := by decide +kernel
theorem d1_77 : decode prog_61_method_1_code 77 = .ok (.getfield 7, 3) := by decide +kernel
theorem d1_80 : decode prog_61_method_1_code 80 = .ok (.iload_n 2, 1) := by decide +kernel
theorem d1_81 : decode prog_61_method_1_code 81 = .ok (.iload_n 2, 1) := by decide +kernel
theorem d1_82 : decode prog_61_method_1_code 82 = .ok (.iastore, 1) := by decide +kernel
theorem d1_83 : decode prog_61_method_1_code 83 = .ok (.aload_n 0, 1) := by decide +kernel
theorem d1_84 : decode prog_61_method_1_code 84 = .ok (.getfield 13, 3) := by decide +kernel
theorem d1_87 : decode prog_61_method_1_code 87 = .ok (.iload_n 2, 1) := by decide +kernel
theorem d1_88 : decode prog_61_method_1_code 88 = .ok (.iload_n 2, 1) := by decide +kernel
theorem d1_89 : decode prog_61_method_1_code 89 = .ok (.iastore, 1) := by decide +kernel
theorem d1_90 : decode prog_61_method_1_code 90 = .ok (.iinc 2 1, 3) := by decide +kernel
theorem d1_93 : decode prog_61_method_1_code 93 = .ok (.goto (-22), 3) := by decide +kernel
theorem d1_96 : decode prog_61_method_1_code 96 = .ok (.aload_n 0, 1) := by decide +kernel
theorem d1_97 : decode prog_61_method_1_code 97 = .ok (.getfield 28, 3) := by decide +kernel
theorem d1_100 : decode prog_61_method_1_code 100 = .ok (.iconst 0, 1) := by decide +kernel
theorem d1_101 : decode prog_61_method_1_code 101 = .ok (.iload_n 1, 1) := by decide +kernel
theorem d1_102 : decode prog_61_method_1_code 102 = .ok (.iastore, 1) := by decide +kernel
theorem d1_103 : decode prog_61_method_1_code 103 = .ok (.aload_n 0, 1) := by decide +kernel
theorem d1_104 : decode prog_61_method_1_code 104 = .ok (.getfield 31, 3) := by decide +kernel
theorem d1_107 : decode prog_61_method_1_code 107 = .ok (.iconst 0, 1) := by decide +kernel
theorem d1_108 : decode prog_61_method_1_code 108 = .ok (.iconst (-1), 1) := by decide +kernel
theorem d1_109 : decode prog_61_method_1_code 109 = .ok (.iastore, 1) := by decide +kernel
theorem d1_110 : decode prog_61_method_1_code 110 = .ok (.aload_n 0, 1) := by decide +kernel
theorem d1_111 : decode prog_61_method_1_code 111 = .ok (.iconst 1, 1) := by decide +kernel
theorem d1_112 : decode prog_61_method_1_code 112 = .ok (.putfield 37, 3) := by decide +kernel
theorem d1_115 : decode prog_61_method_1_code 115 = .ok (.return_, 1) := by decide +kernel
theorem pn1 : plainFor (⟨"com/example/bisim_for_markov/bisimformarkov/analysis/Partition", "<init>", "(I)V"⟩ : MethodName) = true := plainFor_of_name (by first | (simp [plainName, overriddenIn]; done) | decide +kernel)
set_option maxRecDepth 65536 in
set_option maxHeartbeats 4000000 in
theorem lpC (l : Launch) (Z : State) (a0 : Array Value) (hw : ∀ d ∈ tables_1, d.before a0 Z = true) (q aE aL aK aS aN aP aR : Addr) (kz : Int32) (nN : Nat) (ND : [q, aE, aL, aK, aS, aN, aP, aR].Nodup) (hkz : kz.toInt = nN) {p : Program} {e : Env} {s : State} {m : MethodId} {below : List Frame} {meth : Method} {c : Code} {as' : Array Value} {R : Room} {h0 : Heap} {FE : State → Outcome → List Loc → Prop} {Q : Option Value → Heap → Prop} {cells slots : Nat} {ws : List Addr} (hws : ∀ x ∈ [q, aE, aL, aK, aS, aN, aP, aR], x ∈ ws ∨ h0.size ≤ x) (B : Fix p Z s m meth c prog_61_method_1_code 3 "com/example/bisim_for_markov/bisimformarkov/analysis/Partition" "<init>" none) (fuel : Nat) : ∀ (iN : Nat) (u : PS) (T : State) (h : Heap) (i : Int32), iN + fuel = nN → i.toInt = iN → u.es.length = nN → u.ls.length = nN → PA Z h q aE aL aK aS aN aP aR u → St p l e R s m as' below meth c h0 ws T h cells slots → (∀ T' h' i', St p l e R s m as' below meth c h0 ws T' h' cells slots → PA Z h' q aE aL aK aS aN aP aR (u.wel (oFill iN fuel u.es) (oFill iN fuel u.ls)) → Go p e below FE h0 ws Q T' (mkF m 96 #[.val (.ref q), .val (.int kz), .val (.int i')] [])) → Go p e below FE h0 ws Q T (mkF m 71 #[.val (.ref q), .val (.int kz), .val (.int i)] []) := by
  induction fuel with
  | zero =>
    intro iN u T h i hf hi k1 k2 A X K
    refine giloadN B X d1_71 rfl (pc' := 72) rfl ?_
    refine giloadN B X d1_72 rfl (pc' := 73) rfl ?_
    have c73_2 : ¬ (i < kz) := by rw [Int32.lt_iff_toInt_lt]; omega
    refine gicY B X (pc' := 96) d1_73 (flt c73_2).2.1 (by decide) ?_
    exact K _ _ i X A
  | succ fuel ih =>
    intro iN u T h i hf hi k1 k2 A X K
    refine giloadN B X d1_71 rfl (pc' := 72) rfl ?_
    refine giloadN B X d1_72 rfl (pc' := 73) rfl ?_
    have c73_3 : i < kz := by rw [Int32.lt_iff_toInt_lt]; omega
    refine gicN B X d1_73 (tlt c73_3).2.1 (pc' := 76) rfl ?_
    refine galoadN B X d1_76 rfl rfl (pc' := 77) rfl ?_
    refine gget B X (hw _ (List.mem_of_getElem? (i := 10) rfl)) A.1.2.1 d1_77 (pc' := 80) rfl fun T4 X5 => ?_
    refine giloadN B X5 d1_80 rfl (pc' := 81) rfl ?_
    refine giloadN B X5 d1_81 rfl (pc' := 82) rfl ?_
    refine giastore B X5 (i := iN) A.2.1 (n := nN) (by rw [List.length_map]; exact k1) (by omega) (own_clamp hi) (vs' := ((u.es.set iN (Int32.ofNat iN)).map Value.int)) (by rw [← own_ofNat hi]; exact own_set _ _ _) (own_hw hws 1 rfl) d1_82 (pc' := 83) rfl fun T6 h7 X8 W9 A10 => ?_
    have F11 := A.1.other W9 (own_nd ND 0 1 rfl rfl (by decide))
    have F12 := A.2.2.1.other W9 (Ne.symm (own_nd ND 1 2 rfl rfl (by decide)))
    have F13 := A.2.2.2.1.other W9 (Ne.symm (own_nd ND 1 3 rfl rfl (by decide)))
    have F14 := A.2.2.2.2.1.other W9 (Ne.symm (own_nd ND 1 4 rfl rfl (by decide)))
    have F15 := A.2.2.2.2.2.1.other W9 (Ne.symm (own_nd ND 1 5 rfl rfl (by decide)))
    have F16 := A.2.2.2.2.2.2.1.other W9 (Ne.symm (own_nd ND 1 6 rfl rfl (by decide)))
    have F17 := A.2.2.2.2.2.2.2.other W9 (Ne.symm (own_nd ND 1 7 rfl rfl (by decide)))
    refine galoadN B X8 d1_83 rfl rfl (pc' := 84) rfl ?_
    refine gget B X8 (hw _ (List.mem_of_getElem? (i := 12) rfl)) F11.2.2.1 d1_84 (pc' := 87) rfl fun T18 X19 => ?_
    refine giloadN B X19 d1_87 rfl (pc' := 88) rfl ?_
    refine giloadN B X19 d1_88 rfl (pc' := 89) rfl ?_
    refine giastore B X19 (i := iN) F12 (n := nN) (by rw [List.length_map]; exact k2) (by omega) (own_clamp hi) (vs' := ((u.ls.set iN (Int32.ofNat iN)).map Value.int)) (by rw [← own_ofNat hi]; exact own_set _ _ _) (own_hw hws 2 rfl) d1_89 (pc' := 90) rfl fun T20 h21 X22 W23 A24 => ?_
    have F25 := F11.other W23 (own_nd ND 0 2 rfl rfl (by decide))
    have F26 := A10.other W23 (own_nd ND 1 2 rfl rfl (by decide))
    have F27 := F13.other W23 (Ne.symm (own_nd ND 2 3 rfl rfl (by decide)))
    have F28 := F14.other W23 (Ne.symm (own_nd ND 2 4 rfl rfl (by decide)))
    have F29 := F15.other W23 (Ne.symm (own_nd ND 2 5 rfl rfl (by decide)))
    have F30 := F16.other W23 (Ne.symm (own_nd ND 2 6 rfl rfl (by decide)))
    have F31 := F17.other W23 (Ne.symm (own_nd ND 2 7 rfl rfl (by decide)))
    refine giinc B X22 d1_90 rfl (v := (i + (1 : Int32))) rfl (Ls' := #[.val (.ref q), .val (.int kz), .val (.int (i + (1 : Int32)))]) rfl (pc' := 93) rfl ?_
    refine ggoto B X22 (pc' := 71) d1_93 (by decide) ?_
    exact ih (iN + 1) (u.wel (u.es.set iN (Int32.ofNat iN)) (u.ls.set iN (Int32.ofNat iN))) _ _ (i + (1 : Int32)) (by omega) (own_inc hi hkz (by omega)) ((List.length_set ..).trans k1) ((List.length_set ..).trans k2) ⟨F25, F26, A24, F27, F28, F29, F30, F31⟩ X22 K
theorem ef1_RI (m : MethodId) (x0 : Addr) (x1 : Int32) : entryFrame m #[(.ref x0), (.int x1)] 3 = mkF m 0 #[.val (.ref x0), .val (.int x1), .unset] [] := by first | (simp [entryFrame, mkF, argsToLocals, Value.category]; done) | rfl
theorem pd__II_I : parseMethodDescriptor "(II)I" = some ⟨[.int, .int], some .int⟩ := by decide +kernel
def rmr1 : Room := { frames := 1, cells := 7, slots := 105, locals := 14 }
set_option maxRecDepth 65536 in
set_option maxHeartbeats 4000000 in
theorem mt1 (l : Launch) (Z : State) (a0 : Array Value) (hw : ∀ d ∈ tables_1, d.before a0 Z = true) (q : Addr) (kz : Int32) (nN : Nat) (h0 : Heap) (O : Pt Z h0 q .null .null .null .null .null .null .null (.int 0)) (hkz : kz.toInt = nN) (hk15 : nN ≤ 15) : Meth l Z (⟨"com/example/bisim_for_markov/bisimformarkov/analysis/Partition", "<init>", "(I)V"⟩ : MethodName) prog_61_method_1_code 3 none rmr1 #[(.ref q), (.int kz)] h0 [q] (fun v h' => v = none ∧ ∃ aE aL aK aS aN aP aR, [q, aE, aL, aK, aS, aN, aP, aR].Nodup ∧ (∀ x ∈ [aE, aL, aK, aS, aN, aP, aR], h0.size ≤ x) ∧ PA Z h' q aE aL aK aS aN aP aR (oS0 kz nN)) := by
  refine Meth.of pn1 ?_
  intro p e s m below meth c T B X
  refine Go.entry (ef1_RI m q kz) ?_
  refine galoadN B X d1_0 rfl rfl (pc' := 1) rfl ?_
  refine ginitO B X (W := 0) (hw _ (List.mem_of_getElem? (i := 6) rfl)) (hw _ (List.mem_of_getElem? (i := 7) rfl)) (hw _ (List.mem_of_getElem? (i := 8) rfl)) rfl (by decide) (Nat.le_of_eq rfl) (by decide) d1_1 (pc' := 4) rfl fun T32 X33 => ?_
  refine galoadN B X33 d1_4 rfl rfl (pc' := 5) rfl ?_
  refine giloadN B X33 d1_5 rfl (pc' := 6) rfl ?_
  refine gnewarray B X33 (cap := 15) (vs := ((List.replicate nN (0 : Int32)).map Value.int)) (ty := .int) rfl (own_rep hkz) (hw _ (List.mem_of_getElem? (i := 9) rfl)) (by have a := hkz; omega) (by have a := hkz; omega) (by decide) (by decide) (by decide) d1_6 (pc' := 8) rfl fun T34 h35 a36 X37 q38 E39 z_a36 A40 => ?_
  have n41 : q ≠ a36 := by rw [q38]; exact Nat.ne_of_lt O.lt
  have F42 := O.ext E39
  refine gput B X37 (ty := (.array .int)) (hw _ (List.mem_of_getElem? (i := 10) rfl)) F42.2.1 F42.1 (Or.inr ⟨(hw _ (List.mem_of_getElem? (i := 11) rfl)), rfl, rfl⟩) (hw _ (List.mem_of_getElem? (i := 1) rfl)) (by decide) rfl rfl (Or.inl (List.mem_of_getElem? (i := 0) rfl)) d1_8 (pc' := 11) rfl fun T43 h44 X45 W46 => ?_
  have O47 := Pt.set0 hw F42 W46
  have F48 := A40.other W46 (Ne.symm n41)
  refine galoadN B X45 d1_11 rfl rfl (pc' := 12) rfl ?_
  refine giloadN B X45 d1_12 rfl (pc' := 13) rfl ?_
  refine gnewarray B X45 (cap := 15) (vs := ((List.replicate nN (0 : Int32)).map Value.int)) (ty := .int) rfl (own_rep hkz) (hw _ (List.mem_of_getElem? (i := 9) rfl)) (by have a := hkz; omega) (by have a := hkz; omega) (by decide) (by decide) (by decide) d1_13 (pc' := 15) rfl fun T49 h50 a51 X52 q53 E54 z_a51 A55 => ?_
  have n56 : q ≠ a51 := by rw [q53]; exact Nat.ne_of_lt O47.lt
  have n57 : a36 ≠ a51 := by rw [q53]; exact Nat.ne_of_lt F48.lt
  have F58 := O47.ext E54
  have F59 := F48.ext E54
  refine gput B X52 (ty := (.array .int)) (hw _ (List.mem_of_getElem? (i := 12) rfl)) F58.2.2.1 F58.1 (Or.inr ⟨(hw _ (List.mem_of_getElem? (i := 13) rfl)), rfl, rfl⟩) (hw _ (List.mem_of_getElem? (i := 1) rfl)) (by decide) rfl rfl (Or.inl (List.mem_of_getElem? (i := 0) rfl)) d1_15 (pc' := 18) rfl fun T60 h61 X62 W63 => ?_
  have O64 := Pt.set1 hw F58 W63
  have F65 := F59.other W63 (Ne.symm n41)
  have F66 := A55.other W63 (Ne.symm n56)
  refine galoadN B X62 d1_18 rfl rfl (pc' := 19) rfl ?_
  refine giloadN B X62 d1_19 rfl (pc' := 20) rfl ?_
  refine gnewarray B X62 (cap := 15) (vs := ((List.replicate nN (0 : Int32)).map Value.int)) (ty := .int) rfl (own_rep hkz) (hw _ (List.mem_of_getElem? (i := 9) rfl)) (by have a := hkz; omega) (by have a := hkz; omega) (by decide) (by decide) (by decide) d1_20 (pc' := 22) rfl fun T67 h68 a69 X70 q71 E72 z_a69 A73 => ?_
  have n74 : q ≠ a69 := by rw [q71]; exact Nat.ne_of_lt O64.lt
  have n75 : a36 ≠ a69 := by rw [q71]; exact Nat.ne_of_lt F65.lt
  have n76 : a51 ≠ a69 := by rw [q71]; exact Nat.ne_of_lt F66.lt
  have F77 := O64.ext E72
  have F78 := F65.ext E72
  have F79 := F66.ext E72
  refine gput B X70 (ty := (.array .int)) (hw _ (List.mem_of_getElem? (i := 14) rfl)) F77.2.2.2.1 F77.1 (Or.inr ⟨(hw _ (List.mem_of_getElem? (i := 15) rfl)), rfl, rfl⟩) (hw _ (List.mem_of_getElem? (i := 1) rfl)) (by decide) rfl rfl (Or.inl (List.mem_of_getElem? (i := 0) rfl)) d1_22 (pc' := 25) rfl fun T80 h81 X82 W83 => ?_
  have O84 := Pt.set2 hw F77 W83
  have F85 := F78.other W83 (Ne.symm n41)
  have F86 := F79.other W83 (Ne.symm n56)
  have F87 := A73.other W83 (Ne.symm n74)
  refine galoadN B X82 d1_25 rfl rfl (pc' := 26) rfl ?_
  refine giloadN B X82 d1_26 rfl (pc' := 27) rfl ?_
  refine giconst B X82 d1_27 (v := (1 : Int32)) rfl (pc' := 28) rfl ?_
  refine gcallS B X82 (hw _ (List.mem_of_getElem? (i := 16) rfl)) (hw _ (List.mem_of_getElem? (i := 17) rfl)) (hw _ (List.mem_of_getElem? (i := 18) rfl)) (hw _ (List.mem_of_getElem? (i := 19) rfl)) (by decide) (mtmax l Z a0 hw kz (1 : Int32)  h81 ) pd__II_I rfl (argsL := [(.int kz), (.int (1 : Int32))]) (st := [(.ref q)]) rfl rfl (W := 1) (Nat.le_of_eq rfl) (by decide) (by decide) (by decide) (by decide) (fun x q => nomatch q) d1_28 (pc' := 31) rfl (pureG rfl rfl fun T88 X89 => ?_)
  refine gnewarray B X89 (cap := 15) (vs := ((List.replicate (max nN 1) (0 : Int32)).map Value.int)) (ty := .int) rfl (own_rep (own_max hkz)) (hw _ (List.mem_of_getElem? (i := 9) rfl)) (by have a := (own_max hkz); omega) (by have a := (own_max hkz); omega) (by decide) (by decide) (by decide) d1_31 (pc' := 33) rfl fun T90 h91 a92 X93 q94 E95 z_a92 A96 => ?_
  have n97 : q ≠ a92 := by rw [q94]; exact Nat.ne_of_lt O84.lt
  have n98 : a36 ≠ a92 := by rw [q94]; exact Nat.ne_of_lt F85.lt
  have n99 : a51 ≠ a92 := by rw [q94]; exact Nat.ne_of_lt F86.lt
  have n100 : a69 ≠ a92 := by rw [q94]; exact Nat.ne_of_lt F87.lt
  have F101 := O84.ext E95
  have F102 := F85.ext E95
  have F103 := F86.ext E95
  have F104 := F87.ext E95
  refine gput B X93 (ty := (.array .int)) (hw _ (List.mem_of_getElem? (i := 20) rfl)) F101.2.2.2.2.1 F101.1 (Or.inr ⟨(hw _ (List.mem_of_getElem? (i := 21) rfl)), rfl, rfl⟩) (hw _ (List.mem_of_getElem? (i := 1) rfl)) (by decide) rfl rfl (Or.inl (List.mem_of_getElem? (i := 0) rfl)) d1_33 (pc' := 36) rfl fun T105 h106 X107 W108 => ?_
  have O109 := Pt.set3 hw F101 W108
  have F110 := F102.other W108 (Ne.symm n41)
  have F111 := F103.other W108 (Ne.symm n56)
  have F112 := F104.other W108 (Ne.symm n74)
  have F113 := A96.other W108 (Ne.symm n97)
  refine galoadN B X107 d1_36 rfl rfl (pc' := 37) rfl ?_
  refine giloadN B X107 d1_37 rfl (pc' := 38) rfl ?_
  refine giconst B X107 d1_38 (v := (1 : Int32)) rfl (pc' := 39) rfl ?_
  refine gcallS B X107 (hw _ (List.mem_of_getElem? (i := 16) rfl)) (hw _ (List.mem_of_getElem? (i := 17) rfl)) (hw _ (List.mem_of_getElem? (i := 18) rfl)) (hw _ (List.mem_of_getElem? (i := 19) rfl)) (by decide) (mtmax l Z a0 hw kz (1 : Int32)  h106 ) pd__II_I rfl (argsL := [(.int kz), (.int (1 : Int32))]) (st := [(.ref q)]) rfl rfl (W := 1) (Nat.le_of_eq rfl) (by decide) (by decide) (by decide) (by decide) (fun x q => nomatch q) d1_39 (pc' := 42) rfl (pureG rfl rfl fun T114 X115 => ?_)
  refine gnewarray B X115 (cap := 15) (vs := ((List.replicate (max nN 1) (0 : Int32)).map Value.int)) (ty := .int) rfl (own_rep (own_max hkz)) (hw _ (List.mem_of_getElem? (i := 9) rfl)) (by have a := (own_max hkz); omega) (by have a := (own_max hkz); omega) (by decide) (by decide) (by decide) d1_42 (pc' := 44) rfl fun T116 h117 a118 X119 q120 E121 z_a118 A122 => ?_
  have n123 : q ≠ a118 := by rw [q120]; exact Nat.ne_of_lt O109.lt
  have n124 : a36 ≠ a118 := by rw [q120]; exact Nat.ne_of_lt F110.lt
  have n125 : a51 ≠ a118 := by rw [q120]; exact Nat.ne_of_lt F111.lt
  have n126 : a69 ≠ a118 := by rw [q120]; exact Nat.ne_of_lt F112.lt
  have n127 : a92 ≠ a118 := by rw [q120]; exact Nat.ne_of_lt F113.lt
  have F128 := O109.ext E121
  have F129 := F110.ext E121
  have F130 := F111.ext E121
  have F131 := F112.ext E121
  have F132 := F113.ext E121
  refine gput B X119 (ty := (.array .int)) (hw _ (List.mem_of_getElem? (i := 22) rfl)) F128.2.2.2.2.2.1 F128.1 (Or.inr ⟨(hw _ (List.mem_of_getElem? (i := 23) rfl)), rfl, rfl⟩) (hw _ (List.mem_of_getElem? (i := 1) rfl)) (by decide) rfl rfl (Or.inl (List.mem_of_getElem? (i := 0) rfl)) d1_44 (pc' := 47) rfl fun T133 h134 X135 W136 => ?_
  have O137 := Pt.set4 hw F128 W136
  have F138 := F129.other W136 (Ne.symm n41)
  have F139 := F130.other W136 (Ne.symm n56)
  have F140 := F131.other W136 (Ne.symm n74)
  have F141 := F132.other W136 (Ne.symm n97)
  have F142 := A122.other W136 (Ne.symm n123)
  refine galoadN B X135 d1_47 rfl rfl (pc' := 48) rfl ?_
  refine giloadN B X135 d1_48 rfl (pc' := 49) rfl ?_
  refine giconst B X135 d1_49 (v := (1 : Int32)) rfl (pc' := 50) rfl ?_
  refine gcallS B X135 (hw _ (List.mem_of_getElem? (i := 16) rfl)) (hw _ (List.mem_of_getElem? (i := 17) rfl)) (hw _ (List.mem_of_getElem? (i := 18) rfl)) (hw _ (List.mem_of_getElem? (i := 19) rfl)) (by decide) (mtmax l Z a0 hw kz (1 : Int32)  h134 ) pd__II_I rfl (argsL := [(.int kz), (.int (1 : Int32))]) (st := [(.ref q)]) rfl rfl (W := 1) (Nat.le_of_eq rfl) (by decide) (by decide) (by decide) (by decide) (fun x q => nomatch q) d1_50 (pc' := 53) rfl (pureG rfl rfl fun T143 X144 => ?_)
  refine gnewarray B X144 (cap := 15) (vs := ((List.replicate (max nN 1) (0 : Int32)).map Value.int)) (ty := .int) rfl (own_rep (own_max hkz)) (hw _ (List.mem_of_getElem? (i := 9) rfl)) (by have a := (own_max hkz); omega) (by have a := (own_max hkz); omega) (by decide) (by decide) (by decide) d1_53 (pc' := 55) rfl fun T145 h146 a147 X148 q149 E150 z_a147 A151 => ?_
  have n152 : q ≠ a147 := by rw [q149]; exact Nat.ne_of_lt O137.lt
  have n153 : a36 ≠ a147 := by rw [q149]; exact Nat.ne_of_lt F138.lt
  have n154 : a51 ≠ a147 := by rw [q149]; exact Nat.ne_of_lt F139.lt
  have n155 : a69 ≠ a147 := by rw [q149]; exact Nat.ne_of_lt F140.lt
  have n156 : a92 ≠ a147 := by rw [q149]; exact Nat.ne_of_lt F141.lt
  have n157 : a118 ≠ a147 := by rw [q149]; exact Nat.ne_of_lt F142.lt
  have F158 := O137.ext E150
  have F159 := F138.ext E150
  have F160 := F139.ext E150
  have F161 := F140.ext E150
  have F162 := F141.ext E150
  have F163 := F142.ext E150
  refine gput B X148 (ty := (.array .int)) (hw _ (List.mem_of_getElem? (i := 24) rfl)) F158.2.2.2.2.2.2.1 F158.1 (Or.inr ⟨(hw _ (List.mem_of_getElem? (i := 25) rfl)), rfl, rfl⟩) (hw _ (List.mem_of_getElem? (i := 1) rfl)) (by decide) rfl rfl (Or.inl (List.mem_of_getElem? (i := 0) rfl)) d1_55 (pc' := 58) rfl fun T164 h165 X166 W167 => ?_
  have O168 := Pt.set5 hw F158 W167
  have F169 := F159.other W167 (Ne.symm n41)
  have F170 := F160.other W167 (Ne.symm n56)
  have F171 := F161.other W167 (Ne.symm n74)
  have F172 := F162.other W167 (Ne.symm n97)
  have F173 := F163.other W167 (Ne.symm n123)
  have F174 := A151.other W167 (Ne.symm n152)
  refine galoadN B X166 d1_58 rfl rfl (pc' := 59) rfl ?_
  refine giloadN B X166 d1_59 rfl (pc' := 60) rfl ?_
  refine giconst B X166 d1_60 (v := (1 : Int32)) rfl (pc' := 61) rfl ?_
  refine gcallS B X166 (hw _ (List.mem_of_getElem? (i := 16) rfl)) (hw _ (List.mem_of_getElem? (i := 17) rfl)) (hw _ (List.mem_of_getElem? (i := 18) rfl)) (hw _ (List.mem_of_getElem? (i := 19) rfl)) (by decide) (mtmax l Z a0 hw kz (1 : Int32)  h165 ) pd__II_I rfl (argsL := [(.int kz), (.int (1 : Int32))]) (st := [(.ref q)]) rfl rfl (W := 1) (Nat.le_of_eq rfl) (by decide) (by decide) (by decide) (by decide) (fun x q => nomatch q) d1_61 (pc' := 64) rfl (pureG rfl rfl fun T175 X176 => ?_)
  refine gnewarray B X176 (cap := 15) (vs := ((List.replicate (max nN 1) (0 : Int32)).map Value.int)) (ty := .int) rfl (own_rep (own_max hkz)) (hw _ (List.mem_of_getElem? (i := 9) rfl)) (by have a := (own_max hkz); omega) (by have a := (own_max hkz); omega) (by decide) (by decide) (by decide) d1_64 (pc' := 66) rfl fun T177 h178 a179 X180 q181 E182 z_a179 A183 => ?_
  have n184 : q ≠ a179 := by rw [q181]; exact Nat.ne_of_lt O168.lt
  have n185 : a36 ≠ a179 := by rw [q181]; exact Nat.ne_of_lt F169.lt
  have n186 : a51 ≠ a179 := by rw [q181]; exact Nat.ne_of_lt F170.lt
  have n187 : a69 ≠ a179 := by rw [q181]; exact Nat.ne_of_lt F171.lt
  have n188 : a92 ≠ a179 := by rw [q181]; exact Nat.ne_of_lt F172.lt
  have n189 : a118 ≠ a179 := by rw [q181]; exact Nat.ne_of_lt F173.lt
  have n190 : a147 ≠ a179 := by rw [q181]; exact Nat.ne_of_lt F174.lt
  have F191 := O168.ext E182
  have F192 := F169.ext E182
  have F193 := F170.ext E182
  have F194 := F171.ext E182
  have F195 := F172.ext E182
  have F196 := F173.ext E182
  have F197 := F174.ext E182
  refine gput B X180 (ty := (.array .int)) (hw _ (List.mem_of_getElem? (i := 26) rfl)) F191.2.2.2.2.2.2.2.1 F191.1 (Or.inr ⟨(hw _ (List.mem_of_getElem? (i := 27) rfl)), rfl, rfl⟩) (hw _ (List.mem_of_getElem? (i := 1) rfl)) (by decide) rfl rfl (Or.inl (List.mem_of_getElem? (i := 0) rfl)) d1_66 (pc' := 69) rfl fun T198 h199 X200 W201 => ?_
  have O202 := Pt.set6 hw F191 W201
  have F203 := F192.other W201 (Ne.symm n41)
  have F204 := F193.other W201 (Ne.symm n56)
  have F205 := F194.other W201 (Ne.symm n74)
  have F206 := F195.other W201 (Ne.symm n97)
  have F207 := F196.other W201 (Ne.symm n123)
  have F208 := F197.other W201 (Ne.symm n152)
  have F209 := A183.other W201 (Ne.symm n184)
  refine giconst B X200 d1_69 (v := (0 : Int32)) rfl (pc' := 70) rfl ?_
  refine gistoreN B X200 d1_70 (Ls' := #[.val (.ref q), .val (.int kz), .val (.int (0 : Int32))]) rfl (pc' := 71) rfl ?_
  have ND : [q, a36, a51, a69, a92, a118, a147, a179].Nodup := (List.nodup_cons.mpr ⟨(ninS n41 (ninS n56 (ninS n74 (ninS n97 (ninS n123 (ninS n152 (ninS n184 nin0))))))), (List.nodup_cons.mpr ⟨(ninS n57 (ninS n75 (ninS n98 (ninS n124 (ninS n153 (ninS n185 nin0)))))), (List.nodup_cons.mpr ⟨(ninS n76 (ninS n99 (ninS n125 (ninS n154 (ninS n186 nin0))))), (List.nodup_cons.mpr ⟨(ninS n100 (ninS n126 (ninS n155 (ninS n187 nin0)))), (List.nodup_cons.mpr ⟨(ninS n127 (ninS n156 (ninS n188 nin0))), (List.nodup_cons.mpr ⟨(ninS n157 (ninS n189 nin0)), (List.nodup_cons.mpr ⟨(ninS n190 nin0), (List.nodup_cons.mpr ⟨nin0, List.nodup_nil⟩)⟩)⟩)⟩)⟩)⟩)⟩)⟩)
  have A1 : PA Z h199 q a36 a51 a69 a92 a118 a147 a179 (oU0 nN) := ⟨O202, F203, F204, F205, F206, F207, F208, F209⟩
  have hws : ∀ x ∈ [q, a36, a51, a69, a92, a118, a147, a179], x ∈ [q] ∨ h0.size ≤ x := (allS (Or.inl (List.mem_of_getElem? (i := 0) rfl)) (allS (Or.inr z_a36) (allS (Or.inr z_a51) (allS (Or.inr z_a69) (allS (Or.inr z_a92) (allS (Or.inr z_a118) (allS (Or.inr z_a147) (allS (Or.inr z_a179) all0))))))))
  refine lpC l Z a0 hw q a36 a51 a69 a92 a118 a147 a179 kz nN ND hkz hws B nN 0 (oU0 nN) _ _ (0 : Int32) (Nat.zero_add _) rfl (List.length_replicate ..) (List.length_replicate ..) A1 X200 fun T210 h211 i212 X213 A214 => ?_
  have A214' : PA Z h211 q a36 a51 a69 a92 a118 a147 a179 (oU1 nN) := A214
  show Go p e below _ _ _ _ T210 (mkF m 96 #[.val (.ref q), .val (.int kz), .val (.int i212)] [])
  refine galoadN B X213 d1_96 rfl rfl (pc' := 97) rfl ?_
  refine gget B X213 (hw _ (List.mem_of_getElem? (i := 22) rfl)) A214'.1.2.2.2.2.2.1 d1_97 (pc' := 100) rfl fun T215 X216 => ?_
  refine giconst B X216 d1_100 (v := (0 : Int32)) rfl (pc' := 101) rfl ?_
  refine giloadN B X216 d1_101 rfl (pc' := 102) rfl ?_
  refine giastore B X216 (i := 0) A214'.2.2.2.2.2.1 (n := max nN 1) (by rw [List.length_map]; exact List.length_replicate ..) ⟨by decide, by have z : (0 : Int32).toInt = 0 := rfl; omega⟩ rfl (vs' := (((oU1 nN).ns.set 0 kz).map Value.int)) (own_set _ _ _) (Or.inr z_a118) d1_102 (pc' := 103) rfl fun T217 h218 X219 W220 A221 => ?_
  have F222 := A214'.1.other W220 n123
  have F223 := A214'.2.1.other W220 n124
  have F224 := A214'.2.2.1.other W220 n125
  have F225 := A214'.2.2.2.1.other W220 n126
  have F226 := A214'.2.2.2.2.1.other W220 n127
  have F227 := A214'.2.2.2.2.2.2.1.other W220 (Ne.symm n157)
  have F228 := A214'.2.2.2.2.2.2.2.other W220 (Ne.symm n189)
  refine galoadN B X219 d1_103 rfl rfl (pc' := 104) rfl ?_
  refine gget B X219 (hw _ (List.mem_of_getElem? (i := 24) rfl)) F222.2.2.2.2.2.2.1 d1_104 (pc' := 107) rfl fun T229 X230 => ?_
  refine giconst B X230 d1_107 (v := (0 : Int32)) rfl (pc' := 108) rfl ?_
  refine giconst B X230 d1_108 (v := (-1 : Int32)) rfl (pc' := 109) rfl ?_
  refine giastore B X230 (i := 0) F227 (n := max nN 1) (by rw [List.length_map]; exact List.length_replicate ..) ⟨by decide, by have z : (0 : Int32).toInt = 0 := rfl; omega⟩ rfl (vs' := (((oU1 nN).ps.set 0 (-1 : Int32)).map Value.int)) (own_set _ _ _) (Or.inr z_a147) d1_109 (pc' := 110) rfl fun T231 h232 X233 W234 A235 => ?_
  have F236 := F222.other W234 n152
  have F237 := F223.other W234 n153
  have F238 := F224.other W234 n154
  have F239 := F225.other W234 n155
  have F240 := F226.other W234 n156
  have F241 := A221.other W234 n157
  have F242 := F228.other W234 (Ne.symm n190)
  refine galoadN B X233 d1_110 rfl rfl (pc' := 111) rfl ?_
  refine giconst B X233 d1_111 (v := (1 : Int32)) rfl (pc' := 112) rfl ?_
  refine gput B X233 (ty := .int) (hw _ (List.mem_of_getElem? (i := 28) rfl)) F236.2.2.2.2.2.2.2.2 F236.1 (Or.inl (hw _ (List.mem_of_getElem? (i := 29) rfl))) (hw _ (List.mem_of_getElem? (i := 1) rfl)) (by decide) rfl rfl (Or.inl (List.mem_of_getElem? (i := 0) rfl)) d1_112 (pc' := 115) rfl fun T243 h244 X245 W246 => ?_
  have O247 := Pt.set7 hw F236 W246
  have F248 := F237.other W246 (Ne.symm n41)
  have F249 := F238.other W246 (Ne.symm n56)
  have F250 := F239.other W246 (Ne.symm n74)
  have F251 := F240.other W246 (Ne.symm n97)
  have F252 := F241.other W246 (Ne.symm n123)
  have F253 := A235.other W246 (Ne.symm n152)
  have F254 := F242.other W246 (Ne.symm n184)
  exact gretV B X245 d1_115 (by decide) (by decide) (⟨rfl, a36, a51, a69, a92, a118, a147, a179, ND, (allS z_a36 (allS z_a51 (allS z_a69 (allS z_a92 (allS z_a118 (allS z_a147 (allS z_a179 all0))))))), ⟨O247, F248, F249, F250, F251, F252, F253, F254⟩⟩)
theorem d5_0 : decode prog_61_method_7_code 0 = .ok (.iload_n 3, 1) := by decide +kernel
theorem d5_1 : decode prog_61_method_7_code 1 = .ok (.istore 6, 2) := by decide +kernel
theorem d5_3 : decode prog_61_method_7_code 3 = .ok (.iload 6, 2) := by decide +kernel
theorem d5_5 : decode prog_61_method_7_code 5 = .ok (.iload 4, 2) := by decide +kernel
theorem d5_7 : decode prog_61_method_7_code 7 = .ok (.if_icmp .ge 82, 3) := by decide +kernel
theorem d5_10 : decode prog_61_method_7_code 10 = .ok (.aload_n 2, 1) := by decide +kernel
theorem d5_11 : decode prog_61_method_7_code 11 = .ok (.iload 6, 2) := by decide +kernel
theorem d5_13 : decode prog_61_method_7_code 13 = .ok (.iaload, 1) := by decide +kernel
theorem d5_14 : decode prog_61_method_7_code 14 = .ok (.istore 7, 2) := by decide +kernel
theorem d5_16 : decode prog_61_method_7_code 16 = .ok (.aload_n 0, 1) := by decide +kernel
theorem d5_17 : decode prog_61_method_7_code 17 = .ok (.getfield 28, 3) := by decide +kernel
theorem d5_20 : decode prog_61_method_7_code 20 = .ok (.iload_n 1, 1) := by decide +kernel
theorem d5_21 : decode prog_61_method_7_code 21 = .ok (.dup2, 1) := by decide +kernel
theorem d5_22 : decode prog_61_method_7_code 22 = .ok (.iaload, 1) := by decide +kernel
theorem d5_23 : decode prog_61_method_7_code 23 = .ok (.iconst 1, 1) := by decide +kernel
theorem d5_24 : decode prog_61_method_7_code 24 = .ok (.isub, 1) := by decide +kernel
theorem d5_25 : decode prog_61_method_7_code 25 = .ok (.dup_x2, 1) := by decide +kernel
theorem d5_26 : decode prog_61_method_7_code 26 = .ok (.iastore, 1) := by decide +kernel
theorem d5_27 : decode prog_61_method_7_code 27 = .ok (.istore 8, 2) := by decide +kernel
theorem d5_29 : decode prog_61_method_7_code 29 = .ok (.aload_n 0, 1) := by decide +kernel
theorem d5_30 : decode prog_61_method_7_code 30 = .ok (.getfield 7, 3) := by decide +kernel
theorem d5_33 : decode prog_61_method_7_code 33 = .ok (.iload 8, 2) := by decide +kernel
theorem d5_35 : decode prog_61_method_7_code 35 = .ok (.iaload, 1) := by decide +kernel
theorem d5_36 : decode prog_61_method_7_code 36 = .ok (.istore 9, 2) := by decide +kernel
theorem d5_38 : decode prog_61_method_7_code 38 = .ok (.aload_n 0, 1) := by decide +kernel
theorem d5_39 : decode prog_61_method_7_code 39 = .ok (.getfield 13, 3) := by decide +kernel
theorem d5_42 : decode prog_61_method_7_code 42 = .ok (.iload 7, 2) := by decide +kernel
theorem d5_44 : decode prog_61_method_7_code 44 = .ok (.iaload, 1) := by decide +kernel
theorem d5_45 : decode prog_61_method_7_code 45 = .ok (.istore 10, 2) := by decide +kernel
theorem d5_47 : decode prog_61_method_7_code 47 = .ok (.aload_n 0, 1) := by decide +kernel
theorem d5_48 : decode prog_61_method_7_code 48 = .ok (.getfield 7, 3) := by decide +kernel
theorem d5_51 : decode prog_61_method_7_code 51 = .ok (.iload 10, 2) := by decide +kernel
theorem d5_53 : decode prog_61_method_7_code 53 = .ok (.iload 9, 2) := by decide +kernel
theorem d5_55 : decode prog_61_method_7_code 55 = .ok (.iastore, 1) := by decide +kernel
theorem d5_56 : decode prog_61_method_7_code 56 = .ok (.aload_n 0, 1) := by decide +kernel
theorem d5_57 : decode prog_61_method_7_code 57 = .ok (.getfield 13, 3) := by decide +kernel
theorem d5_60 : decode prog_61_method_7_code 60 = .ok (.iload 9, 2) := by decide +kernel
theorem d5_62 : decode prog_61_method_7_code 62 = .ok (.iload 10, 2) := by decide +kernel
theorem d5_64 : decode prog_61_method_7_code 64 = .ok (.iastore, 1) := by decide +kernel
theorem d5_65 : decode prog_61_method_7_code 65 = .ok (.aload_n 0, 1) := by decide +kernel
theorem d5_66 : decode prog_61_method_7_code 66 = .ok (.getfield 7, 3) := by decide +kernel
theorem d5_69 : decode prog_61_method_7_code 69 = .ok (.iload 8, 2) := by decide +kernel
theorem d5_71 : decode prog_61_method_7_code 71 = .ok (.iload 7, 2) := by decide +kernel
theorem d5_73 : decode prog_61_method_7_code 73 = .ok (.iastore, 1) := by decide +kernel
theorem d5_74 : decode prog_61_method_7_code 74 = .ok (.aload_n 0, 1) := by decide +kernel
theorem d5_75 : decode prog_61_method_7_code 75 = .ok (.getfield 13, 3) := by decide +kernel
theorem d5_78 : decode prog_61_method_7_code 78 = .ok (.iload 7, 2) := by decide +kernel
theorem d5_80 : decode prog_61_method_7_code 80 = .ok (.iload 8, 2) := by decide +kernel
theorem d5_82 : decode prog_61_method_7_code 82 = .ok (.iastore, 1) := by decide +kernel
theorem d5_83 : decode prog_61_method_7_code 83 = .ok (.iinc 6 1, 3) := by decide +kernel
theorem d5_86 : decode prog_61_method_7_code 86 = .ok (.goto (-83), 3) := by decide +kernel
theorem d5_89 : decode prog_61_method_7_code 89 = .ok (.aload_n 0, 1) := by decide +kernel
theorem d5_90 : decode prog_61_method_7_code 90 = .ok (.dup, 1) := by decide +kernel
theorem d5_91 : decode prog_61_method_7_code 91 = .ok (.getfield 37, 3) := by decide +kernel
theorem d5_94 : decode prog_61_method_7_code 94 = .ok (.dup_x1, 1) := by decide +kernel
theorem d5_95 : decode prog_61_method_7_code 95 = .ok (.iconst 1, 1) := by decide +kernel
theorem d5_96 : decode prog_61_method_7_code 96 = .ok (.iadd, 1) := by decide +kernel
theorem d5_97 : decode prog_61_method_7_code 97 = .ok (.putfield 37, 3) := by decide +kernel
theorem d5_100 : decode prog_61_method_7_code 100 = .ok (.istore 6, 2) := by decide +kernel
theorem d5_102 : decode prog_61_method_7_code 102 = .ok (.aload_n 0, 1) := by decide +kernel
theorem d5_103 : decode prog_61_method_7_code 103 = .ok (.getfield 25, 3) := by decide +kernel
theorem d5_106 : decode prog_61_method_7_code 106 = .ok (.iload 6, 2) := by decide +kernel
theorem d5_108 : decode prog_61_method_7_code 108 = .ok (.aload_n 0, 1) := by decide +kernel
theorem d5_109 : decode prog_61_method_7_code 109 = .ok (.getfield 28, 3) := by decide +kernel
theorem d5_112 : decode prog_61_method_7_code 112 = .ok (.iload_n 1, 1) := by decide +kernel
theorem d5_113 : decode prog_61_method_7_code 113 = .ok (.iaload, 1) := by decide +kernel
theorem d5_114 : decode prog_61_method_7_code 114 = .ok (.iastore, 1) := by decide +kernel
theorem d5_115 : decode prog_61_method_7_code 115 = .ok (.aload_n 0, 1) := by decide +kernel
theorem d5_116 : decode prog_61_method_7_code 116 = .ok (.getfield 28, 3) := by decide +kernel
theorem d5_119 : decode prog_61_method_7_code 119 = .ok (.iload 6, 2) := by decide +kernel
theorem d5_121 : decode prog_61_method_7_code 121 = .ok (.aload_n 0, 1) := by decide +kernel
theorem d5_122 : decode prog_61_method_7_code 122 = .ok (.getfield 28, 3) := by decide +kernel
theorem d5_125 : decode prog_61_method_7_code 125 = .ok (.iload_n 1, 1) := by decide +kernel
theorem d5_126 : decode prog_61_method_7_code 126 = .ok (.iaload, 1) := by decide +kernel
theorem d5_127 : decode prog_61_method_7_code 127 = .ok (.iload 4, 2) := by decide +kernel
theorem d5_129 : decode prog_61_method_7_code 129 = .ok (.iadd, 1) := by decide +kernel
theorem d5_130 : decode prog_61_method_7_code 130 = .ok (.iload_n 3, 1) := by decide +kernel
theorem d5_131 : decode prog_61_method_7_code 131 = .ok (.isub, 1) := by decide +kernel
theorem d5_132 : decode prog_61_method_7_code 132 = .ok (.iastore, 1) := by decide +kernel
theorem d5_133 : decode prog_61_method_7_code 133 = .ok (.aload_n 0, 1) := by decide +kernel
theorem d5_134 : decode prog_61_method_7_code 134 = .ok (.getfield 31, 3) := by decide +kernel
theorem d5_137 : decode prog_61_method_7_code 137 = .ok (.iload 6, 2) := by decide +kernel
theorem d5_139 : decode prog_61_method_7_code 139 = .ok (.iload_n 1, 1) := by decide +kernel
theorem d5_140 : decode prog_61_method_7_code 140 = .ok (.iastore, 1) := by decide +kernel
theorem d5_141 : decode prog_61_method_7_code 141 = .ok (.aload_n 0, 1) := by decide +kernel
theorem d5_142 : decode prog_61_method_7_code 142 = .ok (.getfield 34, 3) := by decide +kernel
theorem d5_145 : decode prog_61_method_7_code 145 = .ok (.iload 6, 2) := by decide +kernel
theorem d5_147 : decode prog_61_method_7_code 147 = .ok (.iload 5, 2) := by decide +kernel
theorem d5_149 : decode prog_61_method_7_code 149 = .ok (.iastore, 1) := by decide +kernel
theorem d5_150 : decode prog_61_method_7_code 150 = .ok (.iload_n 3, 1) := by decide +kernel
theorem d5_151 : decode prog_61_method_7_code 151 = .ok (.istore 7, 2) := by decide +kernel
theorem d5_153 : decode prog_61_method_7_code 153 = .ok (.iload 7, 2) := by decide +kernel
theorem d5_155 : decode prog_61_method_7_code 155 = .ok (.iload 4, 2) := by decide +kernel
theorem d5_157 : decode prog_61_method_7_code 157 = .ok (.if_icmp .ge 20, 3) := by decide +kernel
theorem d5_160 : decode prog_61_method_7_code 160 = .ok (.aload_n 0, 1) := by decide +kernel
theorem d5_161 : decode prog_61_method_7_code 161 = .ok (.getfield 16, 3) := by decide +kernel
theorem d5_164 : decode prog_61_method_7_code 164 = .ok (.aload_n 2, 1) := by decide +kernel
theorem d5_165 : decode prog_61_method_7_code 165 = .ok (.iload 7, 2) := by decide +kernel
theorem d5_167 : decode prog_61_method_7_code 167 = .ok (.iaload, 1) := by decide +kernel
theorem d5_168 : decode prog_61_method_7_code 168 = .ok (.iload 6, 2) := by decide +kernel
theorem d5_170 : decode prog_61_method_7_code 170 = .ok (.iastore, 1) := by decide +kernel
theorem d5_171 : decode prog_61_method_7_code 171 = .ok (.iinc 7 1, 3) := by decide +kernel
theorem d5_174 : decode prog_61_method_7_code 174 = .ok (.goto (-21), 3) := by decide +kernel
theorem d5_177 : decode prog_61_method_7_code 177 = .ok (.iload 6, 2) := by decide +kernel
theorem d5_179 : decode prog_61_method_7_code 179 = .ok (.ireturn, 1) := by decide +kernel
theorem pn5 : plainFor (⟨"com/example/bisim_for_markov/bisimformarkov/analysis/Partition", "split", "(I[IIII)I"⟩ : MethodName) = true := plainFor_of_name (by first | (simp [plainName, overriddenIn]; done) | decide +kernel)
set_option maxRecDepth 65536 in
set_option maxHeartbeats 4000000 in
theorem lp1 (l : Launch) (Z : State) (a0 : Array Value) (hw : ∀ d ∈ tables_1, d.before a0 Z = true) (q aE aL aK aS aN aP aR f : Addr) (cl fr to rd : Int32) (fs : List Int32) (n NN tN : Nat) (ND : [q, aE, aL, aK, aS, aN, aP, aR].Nodup) (hf : ∀ x ∈ [q, aE, aL, aK, aS, aN, aP, aR], x ≠ f) (hto : to.toInt = tN) (hfs : tN ≤ fs.length) (hcl : inR NN cl) {p : Program} {e : Env} {s : State} {m : MethodId} {below : List Frame} {meth : Method} {c : Code} {as' : Array Value} {R : Room} {h0 : Heap} {FE : State → Outcome → List Loc → Prop} {Q : Option Value → Heap → Prop} {cells slots : Nat} {ws : List Addr} (hws : ∀ x ∈ [q, aE, aL, aK, aS, aN, aP, aR], x ∈ ws ∨ h0.size ≤ x) (B : Fix p Z s m meth c prog_61_method_7_code 11 "com/example/bisim_for_markov/bisimformarkov/analysis/Partition" "split" (some .int)) (fuel : Nat) : ∀ (iN : Nat) (u : PS) (T : State) (h : Heap) (i : Int32) (sa sb sc sd : Slot), iN + fuel = tN → i.toInt = iN → Ok n NN u → Can n cl fuel u → (∀ j, iN ≤ j → j < tN → inR n (fs.getD j 0)) → Sl sa sb sc sd → PA Z h q aE aL aK aS aN aP aR u → VA Z h f .int (fs.map Value.int) → St p l e R s m as' below meth c h0 ws T h cells slots → (∀ T' h' i' sa sb sc sd, Sl sa sb sc sd → St p l e R s m as' below meth c h0 ws T' h' cells slots → PA Z h' q aE aL aK aS aN aP aR (oRun cl fs iN fuel u) → VA Z h' f .int (fs.map Value.int) → Go p e below FE h0 ws Q T' (mkF m 89 #[.val (.ref q), .val (.int cl), .val (.ref f), .val (.int fr), .val (.int to), .val (.int rd), .val (.int i'), sa, sb, sc, sd] [])) → Go p e below FE h0 ws Q T (mkF m 3 #[.val (.ref q), .val (.int cl), .val (.ref f), .val (.int fr), .val (.int to), .val (.int rd), .val (.int i), sa, sb, sc, sd] []) := by
  induction fuel with
  | zero =>
    intro iN u T h i sa sb sc sd hfu hi k can hx hsl A FF X K
    refine giload B X d5_3 rfl (pc' := 5) rfl ?_
    refine giload B X d5_5 rfl (pc' := 7) rfl ?_
    have c7_255 : ¬ (i < to) := by rw [Int32.lt_iff_toInt_lt]; omega
    refine gicY B X (pc' := 89) d5_7 (flt c7_255).2.1 (by decide) ?_
    exact K _ _ i _ _ _ _ hsl X A FF
  | succ fuel ih =>
    intro iN u T h i sa sb sc sd hfu hi k can hx hsl A FF X K
    have hb := can.b.1
    have hx0 := hx iN (Nat.le_refl _) (by omega)
    rcases hsl with ⟨rfl, rfl, rfl, rfl⟩ | ⟨x7, x8, x9, x10, rfl, rfl, rfl, rfl⟩
    · refine giload B X d5_3 rfl (pc' := 5) rfl ?_
      refine giload B X d5_5 rfl (pc' := 7) rfl ?_
      have c7_256 : i < to := by rw [Int32.lt_iff_toInt_lt]; omega
      refine gicN B X d5_7 (tlt c7_256).2.1 (pc' := 10) rfl ?_
      refine galoadN B X d5_10 rfl rfl (pc' := 11) rfl ?_
      refine giload B X d5_11 rfl (pc' := 13) rfl ?_
      refine giaload B X FF (List.length_map ..) (by omega) (v := (.int (fs.getD iN 0))) (by rw [own_clamp hi]; exact own_at (by omega)) d5_13 (pc' := 14) rfl ?_
      refine gistore B X d5_14 (Ls' := #[.val (.ref q), .val (.int cl), .val (.ref f), .val (.int fr), .val (.int to), .val (.int rd), .val (.int i), .val (.int (fs.getD iN 0)), .unset, .unset, .unset]) rfl (pc' := 16) rfl ?_
      refine galoadN B X d5_16 rfl rfl (pc' := 17) rfl ?_
      refine gget B X (hw _ (List.mem_of_getElem? (i := 22) rfl)) A.1.2.2.2.2.2.1 d5_17 (pc' := 20) rfl fun T257 X258 => ?_
      refine giloadN B X258 d5_20 rfl (pc' := 21) rfl ?_
      refine gdup2 B X258 d5_21 rfl rfl (pc' := 22) rfl ?_
      refine giaload B X258 A.2.2.2.2.2.1 (n := NN) (by rw [List.length_map]; exact k.2.2.2.2.1) hcl (v := (.int (u.ns.getD cl.toNatClampNeg 0))) (own_at (by rw [k.2.2.2.2.1]; exact own_nat hcl)) d5_22 (pc' := 23) rfl ?_
      refine giconst B X258 d5_23 (v := (1 : Int32)) rfl (pc' := 24) rfl ?_
      refine gisub B X258 d5_24 (v := (ob cl u)) (rfl) (pc' := 25) rfl ?_
      refine gdup_x2 B X258 d5_25 rfl rfl rfl (pc' := 26) rfl ?_
      refine giastore B X258 (i := cl.toNatClampNeg) A.2.2.2.2.2.1 (n := NN) (by rw [List.length_map]; exact k.2.2.2.2.1) hcl rfl (vs' := ((u.ns.set cl.toNatClampNeg (ob cl u)).map Value.int)) (own_set _ _ _) (own_hw hws 5 rfl) d5_26 (pc' := 27) rfl fun T259 h260 X261 W262 A263 => ?_
      have F264 := A.1.other W262 (own_nd ND 0 5 rfl rfl (by decide))
      have F265 := A.2.1.other W262 (own_nd ND 1 5 rfl rfl (by decide))
      have F266 := A.2.2.1.other W262 (own_nd ND 2 5 rfl rfl (by decide))
      have F267 := A.2.2.2.1.other W262 (own_nd ND 3 5 rfl rfl (by decide))
      have F268 := A.2.2.2.2.1.other W262 (own_nd ND 4 5 rfl rfl (by decide))
      have F269 := A.2.2.2.2.2.2.1.other W262 (Ne.symm (own_nd ND 5 6 rfl rfl (by decide)))
      have F270 := A.2.2.2.2.2.2.2.other W262 (Ne.symm (own_nd ND 5 7 rfl rfl (by decide)))
      have F271 := FF.other W262 (Ne.symm (own_nf hf 5 rfl))
      refine gistore B X261 d5_27 (Ls' := #[.val (.ref q), .val (.int cl), .val (.ref f), .val (.int fr), .val (.int to), .val (.int rd), .val (.int i), .val (.int (fs.getD iN 0)), .val (.int (ob cl u)), .unset, .unset]) rfl (pc' := 29) rfl ?_
      refine galoadN B X261 d5_29 rfl rfl (pc' := 30) rfl ?_
      refine gget B X261 (hw _ (List.mem_of_getElem? (i := 10) rfl)) F264.2.1 d5_30 (pc' := 33) rfl fun T272 X273 => ?_
      refine giload B X273 d5_33 rfl (pc' := 35) rfl ?_
      refine giaload B X273 F265 (n := n) (by rw [List.length_map]; exact k.1) hb (v := (.int (oy cl u))) (own_at (by rw [k.1]; exact own_nat hb)) d5_35 (pc' := 36) rfl ?_
      refine gistore B X273 d5_36 (Ls' := #[.val (.ref q), .val (.int cl), .val (.ref f), .val (.int fr), .val (.int to), .val (.int rd), .val (.int i), .val (.int (fs.getD iN 0)), .val (.int (ob cl u)), .val (.int (oy cl u)), .unset]) rfl (pc' := 38) rfl ?_
      refine galoadN B X273 d5_38 rfl rfl (pc' := 39) rfl ?_
      refine gget B X273 (hw _ (List.mem_of_getElem? (i := 12) rfl)) F264.2.2.1 d5_39 (pc' := 42) rfl fun T274 X275 => ?_
      refine giload B X275 d5_42 rfl (pc' := 44) rfl ?_
      refine giaload B X275 F266 (n := n) (by rw [List.length_map]; exact k.2.1) hx0 (v := (.int (ol (fs.getD iN 0) u))) (own_at (by rw [k.2.1]; exact own_nat hx0)) d5_44 (pc' := 45) rfl ?_
      refine gistore B X275 d5_45 (Ls' := #[.val (.ref q), .val (.int cl), .val (.ref f), .val (.int fr), .val (.int to), .val (.int rd), .val (.int i), .val (.int (fs.getD iN 0)), .val (.int (ob cl u)), .val (.int (oy cl u)), .val (.int (ol (fs.getD iN 0) u))]) rfl (pc' := 47) rfl ?_
      refine galoadN B X275 d5_47 rfl rfl (pc' := 48) rfl ?_
      refine gget B X275 (hw _ (List.mem_of_getElem? (i := 10) rfl)) F264.2.1 d5_48 (pc' := 51) rfl fun T276 X277 => ?_
      refine giload B X277 d5_51 rfl (pc' := 53) rfl ?_
      refine giload B X277 d5_53 rfl (pc' := 55) rfl ?_
      refine giastore B X277 (i := (ol (fs.getD iN 0) u).toNatClampNeg) F265 (n := n) (by rw [List.length_map]; exact k.1) (k.l hx0) rfl (vs' := ((u.es.set (ol (fs.getD iN 0) u).toNatClampNeg (oy cl u)).map Value.int)) (own_set _ _ _) (own_hw hws 1 rfl) d5_55 (pc' := 56) rfl fun T278 h279 X280 W281 A282 => ?_
      have F283 := F264.other W281 (own_nd ND 0 1 rfl rfl (by decide))
      have F284 := F266.other W281 (Ne.symm (own_nd ND 1 2 rfl rfl (by decide)))
      have F285 := F267.other W281 (Ne.symm (own_nd ND 1 3 rfl rfl (by decide)))
      have F286 := F268.other W281 (Ne.symm (own_nd ND 1 4 rfl rfl (by decide)))
      have F287 := A263.other W281 (Ne.symm (own_nd ND 1 5 rfl rfl (by decide)))
      have F288 := F269.other W281 (Ne.symm (own_nd ND 1 6 rfl rfl (by decide)))
      have F289 := F270.other W281 (Ne.symm (own_nd ND 1 7 rfl rfl (by decide)))
      have F290 := F271.other W281 (Ne.symm (own_nf hf 1 rfl))
      refine galoadN B X280 d5_56 rfl rfl (pc' := 57) rfl ?_
      refine gget B X280 (hw _ (List.mem_of_getElem? (i := 12) rfl)) F283.2.2.1 d5_57 (pc' := 60) rfl fun T291 X292 => ?_
      refine giload B X292 d5_60 rfl (pc' := 62) rfl ?_
      refine giload B X292 d5_62 rfl (pc' := 64) rfl ?_
      refine giastore B X292 (i := (oy cl u).toNatClampNeg) F284 (n := n) (by rw [List.length_map]; exact k.2.1) (k.y hb) rfl (vs' := ((u.ls.set (oy cl u).toNatClampNeg (ol (fs.getD iN 0) u)).map Value.int)) (own_set _ _ _) (own_hw hws 2 rfl) d5_64 (pc' := 65) rfl fun T293 h294 X295 W296 A297 => ?_
      have F298 := F283.other W296 (own_nd ND 0 2 rfl rfl (by decide))
      have F299 := A282.other W296 (own_nd ND 1 2 rfl rfl (by decide))
      have F300 := F285.other W296 (Ne.symm (own_nd ND 2 3 rfl rfl (by decide)))
      have F301 := F286.other W296 (Ne.symm (own_nd ND 2 4 rfl rfl (by decide)))
      have F302 := F287.other W296 (Ne.symm (own_nd ND 2 5 rfl rfl (by decide)))
      have F303 := F288.other W296 (Ne.symm (own_nd ND 2 6 rfl rfl (by decide)))
      have F304 := F289.other W296 (Ne.symm (own_nd ND 2 7 rfl rfl (by decide)))
      have F305 := F290.other W296 (Ne.symm (own_nf hf 2 rfl))
      refine galoadN B X295 d5_65 rfl rfl (pc' := 66) rfl ?_
      refine gget B X295 (hw _ (List.mem_of_getElem? (i := 10) rfl)) F298.2.1 d5_66 (pc' := 69) rfl fun T306 X307 => ?_
      refine giload B X307 d5_69 rfl (pc' := 71) rfl ?_
      refine giload B X307 d5_71 rfl (pc' := 73) rfl ?_
      refine giastore B X307 (i := (ob cl u).toNatClampNeg) F299 (n := n) (by rw [List.length_map, List.length_set]; exact k.1) hb rfl (vs' := (((u.es.set (ol (fs.getD iN 0) u).toNatClampNeg (oy cl u)).set (ob cl u).toNatClampNeg (fs.getD iN 0)).map Value.int)) (own_set _ _ _) (own_hw hws 1 rfl) d5_73 (pc' := 74) rfl fun T308 h309 X310 W311 A312 => ?_
      have F313 := F298.other W311 (own_nd ND 0 1 rfl rfl (by decide))
      have F314 := A297.other W311 (Ne.symm (own_nd ND 1 2 rfl rfl (by decide)))
      have F315 := F300.other W311 (Ne.symm (own_nd ND 1 3 rfl rfl (by decide)))
      have F316 := F301.other W311 (Ne.symm (own_nd ND 1 4 rfl rfl (by decide)))
      have F317 := F302.other W311 (Ne.symm (own_nd ND 1 5 rfl rfl (by decide)))
      have F318 := F303.other W311 (Ne.symm (own_nd ND 1 6 rfl rfl (by decide)))
      have F319 := F304.other W311 (Ne.symm (own_nd ND 1 7 rfl rfl (by decide)))
      have F320 := F305.other W311 (Ne.symm (own_nf hf 1 rfl))
      refine galoadN B X310 d5_74 rfl rfl (pc' := 75) rfl ?_
      refine gget B X310 (hw _ (List.mem_of_getElem? (i := 12) rfl)) F313.2.2.1 d5_75 (pc' := 78) rfl fun T321 X322 => ?_
      refine giload B X322 d5_78 rfl (pc' := 80) rfl ?_
      refine giload B X322 d5_80 rfl (pc' := 82) rfl ?_
      refine giastore B X322 (i := (fs.getD iN 0).toNatClampNeg) F314 (n := n) (by rw [List.length_map, List.length_set]; exact k.2.1) hx0 rfl (vs' := (((u.ls.set (oy cl u).toNatClampNeg (ol (fs.getD iN 0) u)).set (fs.getD iN 0).toNatClampNeg (ob cl u)).map Value.int)) (own_set _ _ _) (own_hw hws 2 rfl) d5_82 (pc' := 83) rfl fun T323 h324 X325 W326 A327 => ?_
      have F328 := F313.other W326 (own_nd ND 0 2 rfl rfl (by decide))
      have F329 := A312.other W326 (own_nd ND 1 2 rfl rfl (by decide))
      have F330 := F315.other W326 (Ne.symm (own_nd ND 2 3 rfl rfl (by decide)))
      have F331 := F316.other W326 (Ne.symm (own_nd ND 2 4 rfl rfl (by decide)))
      have F332 := F317.other W326 (Ne.symm (own_nd ND 2 5 rfl rfl (by decide)))
      have F333 := F318.other W326 (Ne.symm (own_nd ND 2 6 rfl rfl (by decide)))
      have F334 := F319.other W326 (Ne.symm (own_nd ND 2 7 rfl rfl (by decide)))
      have F335 := F320.other W326 (Ne.symm (own_nf hf 2 rfl))
      refine giinc B X325 d5_83 rfl (v := (i + (1 : Int32))) rfl (Ls' := #[.val (.ref q), .val (.int cl), .val (.ref f), .val (.int fr), .val (.int to), .val (.int rd), .val (.int (i + (1 : Int32))), .val (.int (fs.getD iN 0)), .val (.int (ob cl u)), .val (.int (oy cl u)), .val (.int (ol (fs.getD iN 0) u))]) rfl (pc' := 86) rfl ?_
      refine ggoto B X325 (pc' := 3) d5_86 (by decide) ?_
      exact ih (iN + 1) (oMove cl (fs.getD iN 0) u) _ _ (i + (1 : Int32)) _ _ _ _ (by omega) (own_inc hi hto (by omega)) (k.move hb hx0) (can.move k hcl) (fun j a b => hx j (by omega) b) (Or.inr ⟨_, _, _, _, rfl, rfl, rfl, rfl⟩) ⟨F328, F329, A327, F330, F331, F332, F333, F334⟩ F335 X325 K
    · refine giload B X d5_3 rfl (pc' := 5) rfl ?_
      refine giload B X d5_5 rfl (pc' := 7) rfl ?_
      have c7_336 : i < to := by rw [Int32.lt_iff_toInt_lt]; omega
      refine gicN B X d5_7 (tlt c7_336).2.1 (pc' := 10) rfl ?_
      refine galoadN B X d5_10 rfl rfl (pc' := 11) rfl ?_
      refine giload B X d5_11 rfl (pc' := 13) rfl ?_
      refine giaload B X FF (List.length_map ..) (by omega) (v := (.int (fs.getD iN 0))) (by rw [own_clamp hi]; exact own_at (by omega)) d5_13 (pc' := 14) rfl ?_
      refine gistore B X d5_14 (Ls' := #[.val (.ref q), .val (.int cl), .val (.ref f), .val (.int fr), .val (.int to), .val (.int rd), .val (.int i), .val (.int (fs.getD iN 0)), .val (.int x8), .val (.int x9), .val (.int x10)]) rfl (pc' := 16) rfl ?_
      refine galoadN B X d5_16 rfl rfl (pc' := 17) rfl ?_
      refine gget B X (hw _ (List.mem_of_getElem? (i := 22) rfl)) A.1.2.2.2.2.2.1 d5_17 (pc' := 20) rfl fun T337 X338 => ?_
      refine giloadN B X338 d5_20 rfl (pc' := 21) rfl ?_
      refine gdup2 B X338 d5_21 rfl rfl (pc' := 22) rfl ?_
      refine giaload B X338 A.2.2.2.2.2.1 (n := NN) (by rw [List.length_map]; exact k.2.2.2.2.1) hcl (v := (.int (u.ns.getD cl.toNatClampNeg 0))) (own_at (by rw [k.2.2.2.2.1]; exact own_nat hcl)) d5_22 (pc' := 23) rfl ?_
      refine giconst B X338 d5_23 (v := (1 : Int32)) rfl (pc' := 24) rfl ?_
      refine gisub B X338 d5_24 (v := (ob cl u)) (rfl) (pc' := 25) rfl ?_
      refine gdup_x2 B X338 d5_25 rfl rfl rfl (pc' := 26) rfl ?_
      refine giastore B X338 (i := cl.toNatClampNeg) A.2.2.2.2.2.1 (n := NN) (by rw [List.length_map]; exact k.2.2.2.2.1) hcl rfl (vs' := ((u.ns.set cl.toNatClampNeg (ob cl u)).map Value.int)) (own_set _ _ _) (own_hw hws 5 rfl) d5_26 (pc' := 27) rfl fun T339 h340 X341 W342 A343 => ?_
      have F344 := A.1.other W342 (own_nd ND 0 5 rfl rfl (by decide))
      have F345 := A.2.1.other W342 (own_nd ND 1 5 rfl rfl (by decide))
      have F346 := A.2.2.1.other W342 (own_nd ND 2 5 rfl rfl (by decide))
      have F347 := A.2.2.2.1.other W342 (own_nd ND 3 5 rfl rfl (by decide))
      have F348 := A.2.2.2.2.1.other W342 (own_nd ND 4 5 rfl rfl (by decide))
      have F349 := A.2.2.2.2.2.2.1.other W342 (Ne.symm (own_nd ND 5 6 rfl rfl (by decide)))
      have F350 := A.2.2.2.2.2.2.2.other W342 (Ne.symm (own_nd ND 5 7 rfl rfl (by decide)))
      have F351 := FF.other W342 (Ne.symm (own_nf hf 5 rfl))
      refine gistore B X341 d5_27 (Ls' := #[.val (.ref q), .val (.int cl), .val (.ref f), .val (.int fr), .val (.int to), .val (.int rd), .val (.int i), .val (.int (fs.getD iN 0)), .val (.int (ob cl u)), .val (.int x9), .val (.int x10)]) rfl (pc' := 29) rfl ?_
      refine galoadN B X341 d5_29 rfl rfl (pc' := 30) rfl ?_
      refine gget B X341 (hw _ (List.mem_of_getElem? (i := 10) rfl)) F344.2.1 d5_30 (pc' := 33) rfl fun T352 X353 => ?_
      refine giload B X353 d5_33 rfl (pc' := 35) rfl ?_
      refine giaload B X353 F345 (n := n) (by rw [List.length_map]; exact k.1) hb (v := (.int (oy cl u))) (own_at (by rw [k.1]; exact own_nat hb)) d5_35 (pc' := 36) rfl ?_
      refine gistore B X353 d5_36 (Ls' := #[.val (.ref q), .val (.int cl), .val (.ref f), .val (.int fr), .val (.int to), .val (.int rd), .val (.int i), .val (.int (fs.getD iN 0)), .val (.int (ob cl u)), .val (.int (oy cl u)), .val (.int x10)]) rfl (pc' := 38) rfl ?_
      refine galoadN B X353 d5_38 rfl rfl (pc' := 39) rfl ?_
      refine gget B X353 (hw _ (List.mem_of_getElem? (i := 12) rfl)) F344.2.2.1 d5_39 (pc' := 42) rfl fun T354 X355 => ?_
      refine giload B X355 d5_42 rfl (pc' := 44) rfl ?_
      refine giaload B X355 F346 (n := n) (by rw [List.length_map]; exact k.2.1) hx0 (v := (.int (ol (fs.getD iN 0) u))) (own_at (by rw [k.2.1]; exact own_nat hx0)) d5_44 (pc' := 45) rfl ?_
      refine gistore B X355 d5_45 (Ls' := #[.val (.ref q), .val (.int cl), .val (.ref f), .val (.int fr), .val (.int to), .val (.int rd), .val (.int i), .val (.int (fs.getD iN 0)), .val (.int (ob cl u)), .val (.int (oy cl u)), .val (.int (ol (fs.getD iN 0) u))]) rfl (pc' := 47) rfl ?_
      refine galoadN B X355 d5_47 rfl rfl (pc' := 48) rfl ?_
      refine gget B X355 (hw _ (List.mem_of_getElem? (i := 10) rfl)) F344.2.1 d5_48 (pc' := 51) rfl fun T356 X357 => ?_
      refine giload B X357 d5_51 rfl (pc' := 53) rfl ?_
      refine giload B X357 d5_53 rfl (pc' := 55) rfl ?_
      refine giastore B X357 (i := (ol (fs.getD iN 0) u).toNatClampNeg) F345 (n := n) (by rw [List.length_map]; exact k.1) (k.l hx0) rfl (vs' := ((u.es.set (ol (fs.getD iN 0) u).toNatClampNeg (oy cl u)).map Value.int)) (own_set _ _ _) (own_hw hws 1 rfl) d5_55 (pc' := 56) rfl fun T358 h359 X360 W361 A362 => ?_
      have F363 := F344.other W361 (own_nd ND 0 1 rfl rfl (by decide))
      have F364 := F346.other W361 (Ne.symm (own_nd ND 1 2 rfl rfl (by decide)))
      have F365 := F347.other W361 (Ne.symm (own_nd ND 1 3 rfl rfl (by decide)))
      have F366 := F348.other W361 (Ne.symm (own_nd ND 1 4 rfl rfl (by decide)))
      have F367 := A343.other W361 (Ne.symm (own_nd ND 1 5 rfl rfl (by decide)))
      have F368 := F349.other W361 (Ne.symm (own_nd ND 1 6 rfl rfl (by decide)))
      have F369 := F350.other W361 (Ne.symm (own_nd ND 1 7 rfl rfl (by decide)))
      have F370 := F351.other W361 (Ne.symm (own_nf hf 1 rfl))
      refine galoadN B X360 d5_56 rfl rfl (pc' := 57) rfl ?_
      refine gget B X360 (hw _ (List.mem_of_getElem? (i := 12) rfl)) F363.2.2.1 d5_57 (pc' := 60) rfl fun T371 X372 => ?_
      refine giload B X372 d5_60 rfl (pc' := 62) rfl ?_
      refine giload B X372 d5_62 rfl (pc' := 64) rfl ?_
      refine giastore B X372 (i := (oy cl u).toNatClampNeg) F364 (n := n) (by rw [List.length_map]; exact k.2.1) (k.y hb) rfl (vs' := ((u.ls.set (oy cl u).toNatClampNeg (ol (fs.getD iN 0) u)).map Value.int)) (own_set _ _ _) (own_hw hws 2 rfl) d5_64 (pc' := 65) rfl fun T373 h374 X375 W376 A377 => ?_
      have F378 := F363.other W376 (own_nd ND 0 2 rfl rfl (by decide))
      have F379 := A362.other W376 (own_nd ND 1 2 rfl rfl (by decide))
      have F380 := F365.other W376 (Ne.symm (own_nd ND 2 3 rfl rfl (by decide)))
      have F381 := F366.other W376 (Ne.symm (own_nd ND 2 4 rfl rfl (by decide)))
      have F382 := F367.other W376 (Ne.symm (own_nd ND 2 5 rfl rfl (by decide)))
      have F383 := F368.other W376 (Ne.symm (own_nd ND 2 6 rfl rfl (by decide)))
      have F384 := F369.other W376 (Ne.symm (own_nd ND 2 7 rfl rfl (by decide)))
      have F385 := F370.other W376 (Ne.symm (own_nf hf 2 rfl))
      refine galoadN B X375 d5_65 rfl rfl (pc' := 66) rfl ?_
      refine gget B X375 (hw _ (List.mem_of_getElem? (i := 10) rfl)) F378.2.1 d5_66 (pc' := 69) rfl fun T386 X387 => ?_
      refine giload B X387 d5_69 rfl (pc' := 71) rfl ?_
      refine giload B X387 d5_71 rfl (pc' := 73) rfl ?_
      refine giastore B X387 (i := (ob cl u).toNatClampNeg) F379 (n := n) (by rw [List.length_map, List.length_set]; exact k.1) hb rfl (vs' := (((u.es.set (ol (fs.getD iN 0) u).toNatClampNeg (oy cl u)).set (ob cl u).toNatClampNeg (fs.getD iN 0)).map Value.int)) (own_set _ _ _) (own_hw hws 1 rfl) d5_73 (pc' := 74) rfl fun T388 h389 X390 W391 A392 => ?_
      have F393 := F378.other W391 (own_nd ND 0 1 rfl rfl (by decide))
      have F394 := A377.other W391 (Ne.symm (own_nd ND 1 2 rfl rfl (by decide)))
      have F395 := F380.other W391 (Ne.symm (own_nd ND 1 3 rfl rfl (by decide)))
      have F396 := F381.other W391 (Ne.symm (own_nd ND 1 4 rfl rfl (by decide)))
      have F397 := F382.other W391 (Ne.symm (own_nd ND 1 5 rfl rfl (by decide)))
      have F398 := F383.other W391 (Ne.symm (own_nd ND 1 6 rfl rfl (by decide)))
      have F399 := F384.other W391 (Ne.symm (own_nd ND 1 7 rfl rfl (by decide)))
      have F400 := F385.other W391 (Ne.symm (own_nf hf 1 rfl))
      refine galoadN B X390 d5_74 rfl rfl (pc' := 75) rfl ?_
      refine gget B X390 (hw _ (List.mem_of_getElem? (i := 12) rfl)) F393.2.2.1 d5_75 (pc' := 78) rfl fun T401 X402 => ?_
      refine giload B X402 d5_78 rfl (pc' := 80) rfl ?_
      refine giload B X402 d5_80 rfl (pc' := 82) rfl ?_
      refine giastore B X402 (i := (fs.getD iN 0).toNatClampNeg) F394 (n := n) (by rw [List.length_map, List.length_set]; exact k.2.1) hx0 rfl (vs' := (((u.ls.set (oy cl u).toNatClampNeg (ol (fs.getD iN 0) u)).set (fs.getD iN 0).toNatClampNeg (ob cl u)).map Value.int)) (own_set _ _ _) (own_hw hws 2 rfl) d5_82 (pc' := 83) rfl fun T403 h404 X405 W406 A407 => ?_
      have F408 := F393.other W406 (own_nd ND 0 2 rfl rfl (by decide))
      have F409 := A392.other W406 (own_nd ND 1 2 rfl rfl (by decide))
      have F410 := F395.other W406 (Ne.symm (own_nd ND 2 3 rfl rfl (by decide)))
      have F411 := F396.other W406 (Ne.symm (own_nd ND 2 4 rfl rfl (by decide)))
      have F412 := F397.other W406 (Ne.symm (own_nd ND 2 5 rfl rfl (by decide)))
      have F413 := F398.other W406 (Ne.symm (own_nd ND 2 6 rfl rfl (by decide)))
      have F414 := F399.other W406 (Ne.symm (own_nd ND 2 7 rfl rfl (by decide)))
      have F415 := F400.other W406 (Ne.symm (own_nf hf 2 rfl))
      refine giinc B X405 d5_83 rfl (v := (i + (1 : Int32))) rfl (Ls' := #[.val (.ref q), .val (.int cl), .val (.ref f), .val (.int fr), .val (.int to), .val (.int rd), .val (.int (i + (1 : Int32))), .val (.int (fs.getD iN 0)), .val (.int (ob cl u)), .val (.int (oy cl u)), .val (.int (ol (fs.getD iN 0) u))]) rfl (pc' := 86) rfl ?_
      refine ggoto B X405 (pc' := 3) d5_86 (by decide) ?_
      exact ih (iN + 1) (oMove cl (fs.getD iN 0) u) _ _ (i + (1 : Int32)) _ _ _ _ (by omega) (own_inc hi hto (by omega)) (k.move hb hx0) (can.move k hcl) (fun j a b => hx j (by omega) b) (Or.inr ⟨_, _, _, _, rfl, rfl, rfl, rfl⟩) ⟨F408, F409, A407, F410, F411, F412, F413, F414⟩ F415 X405 K
set_option maxRecDepth 65536 in
set_option maxHeartbeats 4000000 in
theorem lp2 (l : Launch) (Z : State) (a0 : Array Value) (hw : ∀ d ∈ tables_1, d.before a0 Z = true) (q aE aL aK aS aN aP aR f : Addr) (cl fr to rd : Int32) (fs : List Int32) (n NN tN : Nat) (ND : [q, aE, aL, aK, aS, aN, aP, aR].Nodup) (hf : ∀ x ∈ [q, aE, aL, aK, aS, aN, aP, aR], x ≠ f) (hto : to.toInt = tN) (hfs : tN ≤ fs.length) (kc : Int32) {p : Program} {e : Env} {s : State} {m : MethodId} {below : List Frame} {meth : Method} {c : Code} {as' : Array Value} {R : Room} {h0 : Heap} {FE : State → Outcome → List Loc → Prop} {Q : Option Value → Heap → Prop} {cells slots : Nat} {ws : List Addr} (hws : ∀ x ∈ [q, aE, aL, aK, aS, aN, aP, aR], x ∈ ws ∨ h0.size ≤ x) (B : Fix p Z s m meth c prog_61_method_7_code 11 "com/example/bisim_for_markov/bisimformarkov/analysis/Partition" "split" (some .int)) (fuel : Nat) : ∀ (iN : Nat) (u : PS) (T : State) (h : Heap) (i : Int32) (sb sc sd : Slot), iN + fuel = tN → i.toInt = iN → u.cs.length = n → (∀ j, iN ≤ j → j < tN → inR n (fs.getD j 0)) → PA Z h q aE aL aK aS aN aP aR u → VA Z h f .int (fs.map Value.int) → St p l e R s m as' below meth c h0 ws T h cells slots → (∀ T' h' i', St p l e R s m as' below meth c h0 ws T' h' cells slots → PA Z h' q aE aL aK aS aN aP aR (u.wcs (oCls kc fs iN fuel u.cs)) → VA Z h' f .int (fs.map Value.int) → Go p e below FE h0 ws Q T' (mkF m 177 #[.val (.ref q), .val (.int cl), .val (.ref f), .val (.int fr), .val (.int to), .val (.int rd), .val (.int kc), .val (.int i'), sb, sc, sd] [])) → Go p e below FE h0 ws Q T (mkF m 153 #[.val (.ref q), .val (.int cl), .val (.ref f), .val (.int fr), .val (.int to), .val (.int rd), .val (.int kc), .val (.int i), sb, sc, sd] []) := by
  induction fuel with
  | zero =>
    intro iN u T h i sb sc sd hfu hi k hx A FF X K
    refine giload B X d5_153 rfl (pc' := 155) rfl ?_
    refine giload B X d5_155 rfl (pc' := 157) rfl ?_
    have c157_416 : ¬ (i < to) := by rw [Int32.lt_iff_toInt_lt]; omega
    refine gicY B X (pc' := 177) d5_157 (flt c157_416).2.1 (by decide) ?_
    exact K _ _ i X A FF
  | succ fuel ih =>
    intro iN u T h i sb sc sd hfu hi k hx A FF X K
    have hx0 := hx iN (Nat.le_refl _) (by omega)
    refine giload B X d5_153 rfl (pc' := 155) rfl ?_
    refine giload B X d5_155 rfl (pc' := 157) rfl ?_
    have c157_417 : i < to := by rw [Int32.lt_iff_toInt_lt]; omega
    refine gicN B X d5_157 (tlt c157_417).2.1 (pc' := 160) rfl ?_
    refine galoadN B X d5_160 rfl rfl (pc' := 161) rfl ?_
    refine gget B X (hw _ (List.mem_of_getElem? (i := 14) rfl)) A.1.2.2.2.1 d5_161 (pc' := 164) rfl fun T418 X419 => ?_
    refine galoadN B X419 d5_164 rfl rfl (pc' := 165) rfl ?_
    refine giload B X419 d5_165 rfl (pc' := 167) rfl ?_
    refine giaload B X419 FF (List.length_map ..) (by omega) (v := (.int (fs.getD iN 0))) (by rw [own_clamp hi]; exact own_at (by omega)) d5_167 (pc' := 168) rfl ?_
    refine giload B X419 d5_168 rfl (pc' := 170) rfl ?_
    refine giastore B X419 (i := (fs.getD iN 0).toNatClampNeg) A.2.2.2.1 (n := n) (by rw [List.length_map]; exact k) hx0 rfl (vs' := ((u.cs.set (fs.getD iN 0).toNatClampNeg kc).map Value.int)) (own_set _ _ _) (own_hw hws 3 rfl) d5_170 (pc' := 171) rfl fun T420 h421 X422 W423 A424 => ?_
    have F425 := A.1.other W423 (own_nd ND 0 3 rfl rfl (by decide))
    have F426 := A.2.1.other W423 (own_nd ND 1 3 rfl rfl (by decide))
    have F427 := A.2.2.1.other W423 (own_nd ND 2 3 rfl rfl (by decide))
    have F428 := A.2.2.2.2.1.other W423 (Ne.symm (own_nd ND 3 4 rfl rfl (by decide)))
    have F429 := A.2.2.2.2.2.1.other W423 (Ne.symm (own_nd ND 3 5 rfl rfl (by decide)))
    have F430 := A.2.2.2.2.2.2.1.other W423 (Ne.symm (own_nd ND 3 6 rfl rfl (by decide)))
    have F431 := A.2.2.2.2.2.2.2.other W423 (Ne.symm (own_nd ND 3 7 rfl rfl (by decide)))
    have F432 := FF.other W423 (Ne.symm (own_nf hf 3 rfl))
    refine giinc B X422 d5_171 rfl (v := (i + (1 : Int32))) rfl (Ls' := #[.val (.ref q), .val (.int cl), .val (.ref f), .val (.int fr), .val (.int to), .val (.int rd), .val (.int kc), .val (.int (i + (1 : Int32))), sb, sc, sd]) rfl (pc' := 174) rfl ?_
    refine ggoto B X422 (pc' := 153) d5_174 (by decide) ?_
    exact ih (iN + 1) (u.wcs (u.cs.set (fs.getD iN 0).toNatClampNeg kc)) _ _ (i + (1 : Int32)) sb sc sd (by omega) (own_inc hi hto (by omega)) ((List.length_set ..).trans k) (fun j a b => hx j (by omega) b) ⟨F425, F426, F427, A424, F428, F429, F430, F431⟩ F432 X422 K
theorem ef5_RIRIII (m : MethodId) (x0 : Addr) (x1 : Int32) (x2 : Addr) (x3 : Int32) (x4 : Int32) (x5 : Int32) : entryFrame m #[(.ref x0), (.int x1), (.ref x2), (.int x3), (.int x4), (.int x5)] 11 = mkF m 0 #[.val (.ref x0), .val (.int x1), .val (.ref x2), .val (.int x3), .val (.int x4), .val (.int x5), .unset, .unset, .unset, .unset, .unset] [] := by first | (simp [entryFrame, mkF, argsToLocals, Value.category]; done) | rfl
def rmr5 : Room := { frames := 0, cells := 0, slots := 0, locals := 0 }
set_option maxRecDepth 65536 in
set_option maxHeartbeats 4000000 in
theorem mt5 (l : Launch) (Z : State) (a0 : Array Value) (hw : ∀ d ∈ tables_1, d.before a0 Z = true) (q : Addr) (cl : Int32) (f : Addr) (fr : Int32) (to : Int32) (rd : Int32) (aE aL aK aS aN aP aR : Addr) (u : PS) (fs : List Int32) (n NN fN tN : Nat) (h0 : Heap) (A : PA Z h0 q aE aL aK aS aN aP aR u) (FF : VA Z h0 f .int (fs.map Value.int)) (ND : [q, aE, aL, aK, aS, aN, aP, aR].Nodup) (hf : ∀ x ∈ [q, aE, aL, aK, aS, aN, aP, aR], x ≠ f) (k : Ok n NN u) (can : Can n cl (tN - fN) u) (hx : ∀ j, fN ≤ j → j < tN → inR n (fs.getD j 0)) (hcl : inR NN cl) (hfr : fr.toInt = fN) (hto : to.toInt = tN) (hft : fN ≤ tN) (hfs : tN ≤ fs.length) (hcnt : inR NN u.cnt) : Meth l Z (⟨"com/example/bisim_for_markov/bisimformarkov/analysis/Partition", "split", "(I[IIII)I"⟩ : MethodName) prog_61_method_7_code 11 (some .int) rmr5 #[(.ref q), (.int cl), (.ref f), (.int fr), (.int to), (.int rd)] h0 [q, aE, aL, aK, aS, aN, aP, aR] (fun v h' => v = some (.int u.cnt) ∧ PA Z h' q aE aL aK aS aN aP aR (oSplit cl fs fr to rd fN tN u)) := by
  refine Meth.of pn5 ?_
  intro p e s m below meth c T B X
  refine Go.entry (ef5_RIRIII m q cl f fr to rd) ?_
  refine giloadN B X d5_0 rfl (pc' := 1) rfl ?_
  refine gistore B X d5_1 (Ls' := #[.val (.ref q), .val (.int cl), .val (.ref f), .val (.int fr), .val (.int to), .val (.int rd), .val (.int fr), .unset, .unset, .unset, .unset]) rfl (pc' := 3) rfl ?_
  refine lp1 l Z a0 hw q aE aL aK aS aN aP aR f cl fr to rd fs n NN tN ND hf hto hfs hcl (fun x hx => Or.inl hx) B (tN - fN) fN u _ _ fr .unset .unset .unset .unset (by omega) hfr k can hx (Or.inl ⟨rfl, rfl, rfl, rfl⟩) A FF X fun T2 h2 i2 sa sb sc sd hsl X2 A2 F2 => ?_
  have R1 := own_run (tN - fN) fN u k hcl can (fun j a b => hx j a (by omega))
  generalize e_u1 : oRun cl fs fN (tN - fN) u = u1 at A2 R1
  obtain ⟨k1, hc1, hs1, -⟩ := R1
  have hcn : inR NN u1.cnt := by rw [hc1]; exact hcnt
  show Go p e below _ _ _ _ T2 (mkF m 89 #[.val (.ref q), .val (.int cl), .val (.ref f), .val (.int fr), .val (.int to), .val (.int rd), .val (.int i2), sa, sb, sc, sd] [])
  rcases hsl with ⟨rfl, rfl, rfl, rfl⟩ | ⟨x7, x8, x9, x10, rfl, rfl, rfl, rfl⟩
  · skip
    refine galoadN B X2 d5_89 rfl rfl (pc' := 90) rfl ?_
    refine gdup B X2 d5_90 rfl (pc' := 91) rfl ?_
    refine gget B X2 (hw _ (List.mem_of_getElem? (i := 28) rfl)) A2.1.2.2.2.2.2.2.2.2 d5_91 (pc' := 94) rfl fun T433 X434 => ?_
    refine gdup_x1 B X434 d5_94 rfl rfl (pc' := 95) rfl ?_
    refine giconst B X434 d5_95 (v := (1 : Int32)) rfl (pc' := 96) rfl ?_
    refine giadd B X434 d5_96 rfl (pc' := 97) rfl ?_
    refine gput B X434 (ty := .int) (hw _ (List.mem_of_getElem? (i := 28) rfl)) A2.1.2.2.2.2.2.2.2.2 A2.1.1 (Or.inl (hw _ (List.mem_of_getElem? (i := 29) rfl))) (hw _ (List.mem_of_getElem? (i := 1) rfl)) (by decide) rfl rfl (Or.inl (List.mem_of_getElem? (i := 0) rfl)) d5_97 (pc' := 100) rfl fun T435 h436 X437 W438 => ?_
    have O439 := Pt.set7 hw A2.1 W438
    have F440 := A2.2.1.other W438 (Ne.symm (own_nd ND 0 1 rfl rfl (by decide)))
    have F441 := A2.2.2.1.other W438 (Ne.symm (own_nd ND 0 2 rfl rfl (by decide)))
    have F442 := A2.2.2.2.1.other W438 (Ne.symm (own_nd ND 0 3 rfl rfl (by decide)))
    have F443 := A2.2.2.2.2.1.other W438 (Ne.symm (own_nd ND 0 4 rfl rfl (by decide)))
    have F444 := A2.2.2.2.2.2.1.other W438 (Ne.symm (own_nd ND 0 5 rfl rfl (by decide)))
    have F445 := A2.2.2.2.2.2.2.1.other W438 (Ne.symm (own_nd ND 0 6 rfl rfl (by decide)))
    have F446 := A2.2.2.2.2.2.2.2.other W438 (Ne.symm (own_nd ND 0 7 rfl rfl (by decide)))
    have F447 := F2.other W438 (Ne.symm (own_nf hf 0 rfl))
    refine gistore B X437 d5_100 (Ls' := #[.val (.ref q), .val (.int cl), .val (.ref f), .val (.int fr), .val (.int to), .val (.int rd), .val (.int u1.cnt), .unset, .unset, .unset, .unset]) rfl (pc' := 102) rfl ?_
    refine galoadN B X437 d5_102 rfl rfl (pc' := 103) rfl ?_
    refine gget B X437 (hw _ (List.mem_of_getElem? (i := 20) rfl)) O439.2.2.2.2.1 d5_103 (pc' := 106) rfl fun T448 X449 => ?_
    refine giload B X449 d5_106 rfl (pc' := 108) rfl ?_
    refine galoadN B X449 d5_108 rfl rfl (pc' := 109) rfl ?_
    refine gget B X449 (hw _ (List.mem_of_getElem? (i := 22) rfl)) O439.2.2.2.2.2.1 d5_109 (pc' := 112) rfl fun T450 X451 => ?_
    refine giloadN B X451 d5_112 rfl (pc' := 113) rfl ?_
    refine giaload B X451 F444 (n := NN) (by rw [List.length_map]; exact k1.2.2.2.2.1) hcl (v := (.int (u1.ns.getD cl.toNatClampNeg 0))) (own_at (by rw [k1.2.2.2.2.1]; exact own_nat hcl)) d5_113 (pc' := 114) rfl ?_
    refine giastore B X451 (i := u1.cnt.toNatClampNeg) F443 (n := NN) (by rw [List.length_map]; exact k1.2.2.2.1) hcn rfl (vs' := ((u1.ss.set u1.cnt.toNatClampNeg (u1.ns.getD cl.toNatClampNeg 0)).map Value.int)) (own_set _ _ _) (Or.inl (List.mem_of_getElem? (i := 4) rfl)) d5_114 (pc' := 115) rfl fun T452 h453 X454 W455 A456 => ?_
    have F457 := O439.other W455 (own_nd ND 0 4 rfl rfl (by decide))
    have F458 := F440.other W455 (own_nd ND 1 4 rfl rfl (by decide))
    have F459 := F441.other W455 (own_nd ND 2 4 rfl rfl (by decide))
    have F460 := F442.other W455 (own_nd ND 3 4 rfl rfl (by decide))
    have F461 := F444.other W455 (Ne.symm (own_nd ND 4 5 rfl rfl (by decide)))
    have F462 := F445.other W455 (Ne.symm (own_nd ND 4 6 rfl rfl (by decide)))
    have F463 := F446.other W455 (Ne.symm (own_nd ND 4 7 rfl rfl (by decide)))
    have F464 := F447.other W455 (Ne.symm (own_nf hf 4 rfl))
    refine galoadN B X454 d5_115 rfl rfl (pc' := 116) rfl ?_
    refine gget B X454 (hw _ (List.mem_of_getElem? (i := 22) rfl)) F457.2.2.2.2.2.1 d5_116 (pc' := 119) rfl fun T465 X466 => ?_
    refine giload B X466 d5_119 rfl (pc' := 121) rfl ?_
    refine galoadN B X466 d5_121 rfl rfl (pc' := 122) rfl ?_
    refine gget B X466 (hw _ (List.mem_of_getElem? (i := 22) rfl)) F457.2.2.2.2.2.1 d5_122 (pc' := 125) rfl fun T467 X468 => ?_
    refine giloadN B X468 d5_125 rfl (pc' := 126) rfl ?_
    refine giaload B X468 F461 (n := NN) (by rw [List.length_map]; exact k1.2.2.2.2.1) hcl (v := (.int (u1.ns.getD cl.toNatClampNeg 0))) (own_at (by rw [k1.2.2.2.2.1]; exact own_nat hcl)) d5_126 (pc' := 127) rfl ?_
    refine giload B X468 d5_127 rfl (pc' := 129) rfl ?_
    refine giadd B X468 d5_129 rfl (pc' := 130) rfl ?_
    refine giloadN B X468 d5_130 rfl (pc' := 131) rfl ?_
    refine gisub B X468 d5_131 rfl (pc' := 132) rfl ?_
    refine giastore B X468 (i := u1.cnt.toNatClampNeg) F461 (n := NN) (by rw [List.length_map]; exact k1.2.2.2.2.1) hcn rfl (vs' := ((u1.ns.set u1.cnt.toNatClampNeg ((u1.ns.getD cl.toNatClampNeg 0) + to - fr)).map Value.int)) (own_set _ _ _) (Or.inl (List.mem_of_getElem? (i := 5) rfl)) d5_132 (pc' := 133) rfl fun T469 h470 X471 W472 A473 => ?_
    have F474 := F457.other W472 (own_nd ND 0 5 rfl rfl (by decide))
    have F475 := F458.other W472 (own_nd ND 1 5 rfl rfl (by decide))
    have F476 := F459.other W472 (own_nd ND 2 5 rfl rfl (by decide))
    have F477 := F460.other W472 (own_nd ND 3 5 rfl rfl (by decide))
    have F478 := A456.other W472 (own_nd ND 4 5 rfl rfl (by decide))
    have F479 := F462.other W472 (Ne.symm (own_nd ND 5 6 rfl rfl (by decide)))
    have F480 := F463.other W472 (Ne.symm (own_nd ND 5 7 rfl rfl (by decide)))
    have F481 := F464.other W472 (Ne.symm (own_nf hf 5 rfl))
    refine galoadN B X471 d5_133 rfl rfl (pc' := 134) rfl ?_
    refine gget B X471 (hw _ (List.mem_of_getElem? (i := 24) rfl)) F474.2.2.2.2.2.2.1 d5_134 (pc' := 137) rfl fun T482 X483 => ?_
    refine giload B X483 d5_137 rfl (pc' := 139) rfl ?_
    refine giloadN B X483 d5_139 rfl (pc' := 140) rfl ?_
    refine giastore B X483 (i := u1.cnt.toNatClampNeg) F479 (n := NN) (by rw [List.length_map]; exact k1.2.2.2.2.2.1) hcn rfl (vs' := ((u1.ps.set u1.cnt.toNatClampNeg cl).map Value.int)) (own_set _ _ _) (Or.inl (List.mem_of_getElem? (i := 6) rfl)) d5_140 (pc' := 141) rfl fun T484 h485 X486 W487 A488 => ?_
    have F489 := F474.other W487 (own_nd ND 0 6 rfl rfl (by decide))
    have F490 := F475.other W487 (own_nd ND 1 6 rfl rfl (by decide))
    have F491 := F476.other W487 (own_nd ND 2 6 rfl rfl (by decide))
    have F492 := F477.other W487 (own_nd ND 3 6 rfl rfl (by decide))
    have F493 := F478.other W487 (own_nd ND 4 6 rfl rfl (by decide))
    have F494 := A473.other W487 (own_nd ND 5 6 rfl rfl (by decide))
    have F495 := F480.other W487 (Ne.symm (own_nd ND 6 7 rfl rfl (by decide)))
    have F496 := F481.other W487 (Ne.symm (own_nf hf 6 rfl))
    refine galoadN B X486 d5_141 rfl rfl (pc' := 142) rfl ?_
    refine gget B X486 (hw _ (List.mem_of_getElem? (i := 26) rfl)) F489.2.2.2.2.2.2.2.1 d5_142 (pc' := 145) rfl fun T497 X498 => ?_
    refine giload B X498 d5_145 rfl (pc' := 147) rfl ?_
    refine giload B X498 d5_147 rfl (pc' := 149) rfl ?_
    refine giastore B X498 (i := u1.cnt.toNatClampNeg) F495 (n := NN) (by rw [List.length_map]; exact k1.2.2.2.2.2.2.1) hcn rfl (vs' := ((u1.rs.set u1.cnt.toNatClampNeg rd).map Value.int)) (own_set _ _ _) (Or.inl (List.mem_of_getElem? (i := 7) rfl)) d5_149 (pc' := 150) rfl fun T499 h500 X501 W502 A503 => ?_
    have F504 := F489.other W502 (own_nd ND 0 7 rfl rfl (by decide))
    have F505 := F490.other W502 (own_nd ND 1 7 rfl rfl (by decide))
    have F506 := F491.other W502 (own_nd ND 2 7 rfl rfl (by decide))
    have F507 := F492.other W502 (own_nd ND 3 7 rfl rfl (by decide))
    have F508 := F493.other W502 (own_nd ND 4 7 rfl rfl (by decide))
    have F509 := F494.other W502 (own_nd ND 5 7 rfl rfl (by decide))
    have F510 := A488.other W502 (own_nd ND 6 7 rfl rfl (by decide))
    have F511 := F496.other W502 (Ne.symm (own_nf hf 7 rfl))
    refine giloadN B X501 d5_150 rfl (pc' := 151) rfl ?_
    refine gistore B X501 d5_151 (Ls' := #[.val (.ref q), .val (.int cl), .val (.ref f), .val (.int fr), .val (.int to), .val (.int rd), .val (.int u1.cnt), .val (.int fr), .unset, .unset, .unset]) rfl (pc' := 153) rfl ?_
    have A518 : PA Z h500 q aE aL aK aS aN aP aR (oNew cl fr to rd u1) := ⟨F504, F505, F506, F507, F508, F509, F510, A503⟩
    refine lp2 l Z a0 hw q aE aL aK aS aN aP aR f cl fr to rd fs n NN tN ND hf hto hfs u1.cnt (fun x hx => Or.inl hx) B (tN - fN) fN (oNew cl fr to rd u1) _ _ fr _ _ _ (by omega) hfr k1.2.2.1 hx A518 F511 X501 fun T512 h513 i514 X515 A516 F517 => ?_
    show Go p e below _ _ _ _ T512 (mkF m 177 #[.val (.ref q), .val (.int cl), .val (.ref f), .val (.int fr), .val (.int to), .val (.int rd), .val (.int u1.cnt), .val (.int i514), .unset, .unset, .unset] [])
    refine giload B X515 d5_177 rfl (pc' := 179) rfl ?_
    exact gretI B X515 d5_179 (by decide) (by decide) (⟨by rw [hc1], by rw [oSplit, e_u1, ← hc1, ← hs1]; exact A516⟩)
  · skip
    refine galoadN B X2 d5_89 rfl rfl (pc' := 90) rfl ?_
    refine gdup B X2 d5_90 rfl (pc' := 91) rfl ?_
    refine gget B X2 (hw _ (List.mem_of_getElem? (i := 28) rfl)) A2.1.2.2.2.2.2.2.2.2 d5_91 (pc' := 94) rfl fun T519 X520 => ?_
    refine gdup_x1 B X520 d5_94 rfl rfl (pc' := 95) rfl ?_
    refine giconst B X520 d5_95 (v := (1 : Int32)) rfl (pc' := 96) rfl ?_
    refine giadd B X520 d5_96 rfl (pc' := 97) rfl ?_
    refine gput B X520 (ty := .int) (hw _ (List.mem_of_getElem? (i := 28) rfl)) A2.1.2.2.2.2.2.2.2.2 A2.1.1 (Or.inl (hw _ (List.mem_of_getElem? (i := 29) rfl))) (hw _ (List.mem_of_getElem? (i := 1) rfl)) (by decide) rfl rfl (Or.inl (List.mem_of_getElem? (i := 0) rfl)) d5_97 (pc' := 100) rfl fun T521 h522 X523 W524 => ?_
    have O525 := Pt.set7 hw A2.1 W524
    have F526 := A2.2.1.other W524 (Ne.symm (own_nd ND 0 1 rfl rfl (by decide)))
    have F527 := A2.2.2.1.other W524 (Ne.symm (own_nd ND 0 2 rfl rfl (by decide)))
    have F528 := A2.2.2.2.1.other W524 (Ne.symm (own_nd ND 0 3 rfl rfl (by decide)))
    have F529 := A2.2.2.2.2.1.other W524 (Ne.symm (own_nd ND 0 4 rfl rfl (by decide)))
    have F530 := A2.2.2.2.2.2.1.other W524 (Ne.symm (own_nd ND 0 5 rfl rfl (by decide)))
    have F531 := A2.2.2.2.2.2.2.1.other W524 (Ne.symm (own_nd ND 0 6 rfl rfl (by decide)))
    have F532 := A2.2.2.2.2.2.2.2.other W524 (Ne.symm (own_nd ND 0 7 rfl rfl (by decide)))
    have F533 := F2.other W524 (Ne.symm (own_nf hf 0 rfl))
    refine gistore B X523 d5_100 (Ls' := #[.val (.ref q), .val (.int cl), .val (.ref f), .val (.int fr), .val (.int to), .val (.int rd), .val (.int u1.cnt), .val (.int x7), .val (.int x8), .val (.int x9), .val (.int x10)]) rfl (pc' := 102) rfl ?_
    refine galoadN B X523 d5_102 rfl rfl (pc' := 103) rfl ?_
    refine gget B X523 (hw _ (List.mem_of_getElem? (i := 20) rfl)) O525.2.2.2.2.1 d5_103 (pc' := 106) rfl fun T534 X535 => ?_
    refine giload B X535 d5_106 rfl (pc' := 108) rfl ?_
    refine galoadN B X535 d5_108 rfl rfl (pc' := 109) rfl ?_
    refine gget B X535 (hw _ (List.mem_of_getElem? (i := 22) rfl)) O525.2.2.2.2.2.1 d5_109 (pc' := 112) rfl fun T536 X537 => ?_
    refine giloadN B X537 d5_112 rfl (pc' := 113) rfl ?_
    refine giaload B X537 F530 (n := NN) (by rw [List.length_map]; exact k1.2.2.2.2.1) hcl (v := (.int (u1.ns.getD cl.toNatClampNeg 0))) (own_at (by rw [k1.2.2.2.2.1]; exact own_nat hcl)) d5_113 (pc' := 114) rfl ?_
    refine giastore B X537 (i := u1.cnt.toNatClampNeg) F529 (n := NN) (by rw [List.length_map]; exact k1.2.2.2.1) hcn rfl (vs' := ((u1.ss.set u1.cnt.toNatClampNeg (u1.ns.getD cl.toNatClampNeg 0)).map Value.int)) (own_set _ _ _) (Or.inl (List.mem_of_getElem? (i := 4) rfl)) d5_114 (pc' := 115) rfl fun T538 h539 X540 W541 A542 => ?_
    have F543 := O525.other W541 (own_nd ND 0 4 rfl rfl (by decide))
    have F544 := F526.other W541 (own_nd ND 1 4 rfl rfl (by decide))
    have F545 := F527.other W541 (own_nd ND 2 4 rfl rfl (by decide))
    have F546 := F528.other W541 (own_nd ND 3 4 rfl rfl (by decide))
    have F547 := F530.other W541 (Ne.symm (own_nd ND 4 5 rfl rfl (by decide)))
    have F548 := F531.other W541 (Ne.symm (own_nd ND 4 6 rfl rfl (by decide)))
    have F549 := F532.other W541 (Ne.symm (own_nd ND 4 7 rfl rfl (by decide)))
    have F550 := F533.other W541 (Ne.symm (own_nf hf 4 rfl))
    refine galoadN B X540 d5_115 rfl rfl (pc' := 116) rfl ?_
    refine gget B X540 (hw _ (List.mem_of_getElem? (i := 22) rfl)) F543.2.2.2.2.2.1 d5_116 (pc' := 119) rfl fun T551 X552 => ?_
    refine giload B X552 d5_119 rfl (pc' := 121) rfl ?_
    refine galoadN B X552 d5_121 rfl rfl (pc' := 122) rfl ?_
    refine gget B X552 (hw _ (List.mem_of_getElem? (i := 22) rfl)) F543.2.2.2.2.2.1 d5_122 (pc' := 125) rfl fun T553 X554 => ?_
    refine giloadN B X554 d5_125 rfl (pc' := 126) rfl ?_
    refine giaload B X554 F547 (n := NN) (by rw [List.length_map]; exact k1.2.2.2.2.1) hcl (v := (.int (u1.ns.getD cl.toNatClampNeg 0))) (own_at (by rw [k1.2.2.2.2.1]; exact own_nat hcl)) d5_126 (pc' := 127) rfl ?_
    refine giload B X554 d5_127 rfl (pc' := 129) rfl ?_
    refine giadd B X554 d5_129 rfl (pc' := 130) rfl ?_
    refine giloadN B X554 d5_130 rfl (pc' := 131) rfl ?_
    refine gisub B X554 d5_131 rfl (pc' := 132) rfl ?_
    refine giastore B X554 (i := u1.cnt.toNatClampNeg) F547 (n := NN) (by rw [List.length_map]; exact k1.2.2.2.2.1) hcn rfl (vs' := ((u1.ns.set u1.cnt.toNatClampNeg ((u1.ns.getD cl.toNatClampNeg 0) + to - fr)).map Value.int)) (own_set _ _ _) (Or.inl (List.mem_of_getElem? (i := 5) rfl)) d5_132 (pc' := 133) rfl fun T555 h556 X557 W558 A559 => ?_
    have F560 := F543.other W558 (own_nd ND 0 5 rfl rfl (by decide))
    have F561 := F544.other W558 (own_nd ND 1 5 rfl rfl (by decide))
    have F562 := F545.other W558 (own_nd ND 2 5 rfl rfl (by decide))
    have F563 := F546.other W558 (own_nd ND 3 5 rfl rfl (by decide))
    have F564 := A542.other W558 (own_nd ND 4 5 rfl rfl (by decide))
    have F565 := F548.other W558 (Ne.symm (own_nd ND 5 6 rfl rfl (by decide)))
    have F566 := F549.other W558 (Ne.symm (own_nd ND 5 7 rfl rfl (by decide)))
    have F567 := F550.other W558 (Ne.symm (own_nf hf 5 rfl))
    refine galoadN B X557 d5_133 rfl rfl (pc' := 134) rfl ?_
    refine gget B X557 (hw _ (List.mem_of_getElem? (i := 24) rfl)) F560.2.2.2.2.2.2.1 d5_134 (pc' := 137) rfl fun T568 X569 => ?_
    refine giload B X569 d5_137 rfl (pc' := 139) rfl ?_
    refine giloadN B X569 d5_139 rfl (pc' := 140) rfl ?_
    refine giastore B X569 (i := u1.cnt.toNatClampNeg) F565 (n := NN) (by rw [List.length_map]; exact k1.2.2.2.2.2.1) hcn rfl (vs' := ((u1.ps.set u1.cnt.toNatClampNeg cl).map Value.int)) (own_set _ _ _) (Or.inl (List.mem_of_getElem? (i := 6) rfl)) d5_140 (pc' := 141) rfl fun T570 h571 X572 W573 A574 => ?_
    have F575 := F560.other W573 (own_nd ND 0 6 rfl rfl (by decide))
    have F576 := F561.other W573 (own_nd ND 1 6 rfl rfl (by decide))
    have F577 := F562.other W573 (own_nd ND 2 6 rfl rfl (by decide))
    have F578 := F563.other W573 (own_nd ND 3 6 rfl rfl (by decide))
    have F579 := F564.other W573 (own_nd ND 4 6 rfl rfl (by decide))
    have F580 := A559.other W573 (own_nd ND 5 6 rfl rfl (by decide))
    have F581 := F566.other W573 (Ne.symm (own_nd ND 6 7 rfl rfl (by decide)))
    have F582 := F567.other W573 (Ne.symm (own_nf hf 6 rfl))
    refine galoadN B X572 d5_141 rfl rfl (pc' := 142) rfl ?_
    refine gget B X572 (hw _ (List.mem_of_getElem? (i := 26) rfl)) F575.2.2.2.2.2.2.2.1 d5_142 (pc' := 145) rfl fun T583 X584 => ?_
    refine giload B X584 d5_145 rfl (pc' := 147) rfl ?_
    refine giload B X584 d5_147 rfl (pc' := 149) rfl ?_
    refine giastore B X584 (i := u1.cnt.toNatClampNeg) F581 (n := NN) (by rw [List.length_map]; exact k1.2.2.2.2.2.2.1) hcn rfl (vs' := ((u1.rs.set u1.cnt.toNatClampNeg rd).map Value.int)) (own_set _ _ _) (Or.inl (List.mem_of_getElem? (i := 7) rfl)) d5_149 (pc' := 150) rfl fun T585 h586 X587 W588 A589 => ?_
    have F590 := F575.other W588 (own_nd ND 0 7 rfl rfl (by decide))
    have F591 := F576.other W588 (own_nd ND 1 7 rfl rfl (by decide))
    have F592 := F577.other W588 (own_nd ND 2 7 rfl rfl (by decide))
    have F593 := F578.other W588 (own_nd ND 3 7 rfl rfl (by decide))
    have F594 := F579.other W588 (own_nd ND 4 7 rfl rfl (by decide))
    have F595 := F580.other W588 (own_nd ND 5 7 rfl rfl (by decide))
    have F596 := A574.other W588 (own_nd ND 6 7 rfl rfl (by decide))
    have F597 := F582.other W588 (Ne.symm (own_nf hf 7 rfl))
    refine giloadN B X587 d5_150 rfl (pc' := 151) rfl ?_
    refine gistore B X587 d5_151 (Ls' := #[.val (.ref q), .val (.int cl), .val (.ref f), .val (.int fr), .val (.int to), .val (.int rd), .val (.int u1.cnt), .val (.int fr), .val (.int x8), .val (.int x9), .val (.int x10)]) rfl (pc' := 153) rfl ?_
    have A604 : PA Z h586 q aE aL aK aS aN aP aR (oNew cl fr to rd u1) := ⟨F590, F591, F592, F593, F594, F595, F596, A589⟩
    refine lp2 l Z a0 hw q aE aL aK aS aN aP aR f cl fr to rd fs n NN tN ND hf hto hfs u1.cnt (fun x hx => Or.inl hx) B (tN - fN) fN (oNew cl fr to rd u1) _ _ fr _ _ _ (by omega) hfr k1.2.2.1 hx A604 F597 X587 fun T598 h599 i600 X601 A602 F603 => ?_
    show Go p e below _ _ _ _ T598 (mkF m 177 #[.val (.ref q), .val (.int cl), .val (.ref f), .val (.int fr), .val (.int to), .val (.int rd), .val (.int u1.cnt), .val (.int i600), .val (.int x8), .val (.int x9), .val (.int x10)] [])
    refine giload B X601 d5_177 rfl (pc' := 179) rfl ?_
    exact gretI B X601 d5_179 (by decide) (by decide) (⟨by rw [hc1], by rw [oSplit, e_u1, ← hc1, ← hs1]; exact A602⟩)
theorem own_fillR (n : Nat) (hn : n < 1000) (f : Nat) : ∀ (i : Nat) (xs : List Int32), xs.length = n → i + f ≤ n → (∀ j, j < n → inR n (xs.getD j 0)) → ∀ j, j < n → inR n ((oFill i f xs).getD j 0) := by
  induction f with
  | zero => intro i xs _ _ h; exact h
  | succ f ih =>
    intro i xs hl hi h
    have e : (Int32.ofNat i).toInt = i := Int32.toInt_ofNat_of_lt (by omega)
    exact ih (i + 1) (xs.set i (Int32.ofNat i)) ((List.length_set ..).trans hl) (by omega) (own_setR h (by omega) ⟨by omega, by omega⟩)
theorem own_repR (n : Nat) : ∀ j, j < n → inR n ((List.replicate n (0 : Int32)).getD j 0) := by
  intro j hj
  have : (List.replicate n (0 : Int32)).getD j 0 = 0 := by simp [List.getD_eq_getElem?_getD, hj]
  rw [this]
  have z : (0 : Int32).toInt = 0 := rfl
  exact ⟨by omega, by omega⟩
theorem own_ok0 {k : Int32} {nN : Nat} (h15 : nN ≤ 15) : Ok nN (max nN 1) (oS0 k nN) := by
  refine ⟨(own_fillLen ..).trans (List.length_replicate ..), (own_fillLen ..).trans (List.length_replicate ..), List.length_replicate .., List.length_replicate .., (List.length_set ..).trans (List.length_replicate ..), (List.length_set ..).trans (List.length_replicate ..), List.length_replicate .., ?_, ?_⟩
  · exact own_fillR nN (by omega) nN 0 _ (List.length_replicate ..) (by omega) (own_repR nN)
  · exact own_fillR nN (by omega) nN 0 _ (List.length_replicate ..) (by omega) (own_repR nN)
theorem own_n00 (k : Int32) (nN : Nat) : (oS0 k nN).ns.getD 0 0 = k := by
  show ((List.replicate (max nN 1) (0 : Int32)).set 0 k).getD 0 0 = k
  rw [own_getset _ _ _ _ (by rw [List.length_replicate]; omega), if_pos rfl]
theorem own_s00 (k : Int32) (nN : Nat) : (oS0 k nN).ss.getD 0 0 = 0 := by
  show (List.replicate (max nN 1) (0 : Int32)).getD 0 0 = 0
  rw [List.getD_eq_getElem?_getD, List.getElem?_replicate]; split <;> rfl
theorem own_split {n NN fN tN ci cc : Nat} {cl fr to rd : Int32} {fs : List Int32} {u : PS} (hn : n < 1000) (k : Ok n NN u) (hcl : inR NN cl) (can : Can n cl (tN - fN) u) (hx : ∀ j, fN ≤ j → j < tN → inR n (fs.getD j 0)) (hcnt : inR NN u.cnt) (hfr : fr.toInt = fN) (hto : to.toInt = tN) (hft : fN ≤ tN) (hci : cl.toNatClampNeg = ci) (hcc : u.cnt.toNatClampNeg = cc) (hne : ci ≠ cc) :
    Ok n NN (oSplit cl fs fr to rd fN tN u) ∧ (oSplit cl fs fr to rd fN tN u).cnt = u.cnt + (1 : Int32) ∧ ((oSplit cl fs fr to rd fN tN u).ns.getD ci 0).toInt = (u.ns.getD ci 0).toInt - (tN - fN : Nat) ∧ ((oSplit cl fs fr to rd fN tN u).ns.getD cc 0).toInt = (u.ns.getD ci 0).toInt ∧ ((oSplit cl fs fr to rd fN tN u).ss.getD cc 0).toInt = (u.ns.getD ci 0).toInt - (tN - fN : Nat) ∧ (∀ j, j ≠ ci → j ≠ cc → (oSplit cl fs fr to rd fN tN u).ns.getD j 0 = u.ns.getD j 0) ∧ (∀ j, j ≠ cc → (oSplit cl fs fr to rd fN tN u).ss.getD j 0 = u.ss.getD j 0) := by
  obtain ⟨c1, c2⟩ := can
  obtain ⟨r1, r2, r3, r4, r5, r6, r7, r8⟩ := own_run (fs := fs) (tN - fN) fN u k hcl ⟨c1, c2⟩ (fun j a b => hx j a (by omega))
  unfold oSplit
  generalize oRun cl fs fN (tN - fN) u = w at r1 r2 r3 r4 r5 r6 r7 r8
  obtain ⟨k1, k2, k3, k4, k5, k6, k7, k8, k9⟩ := r1
  rw [hci] at r7 r8 c1 c2
  have hcw : w.cnt.toNatClampNeg = cc := by rw [r2]; exact hcc
  have hccN : cc < NN := by rw [← hcc]; exact own_nat hcnt
  have hciN : ci < NN := by rw [← hci]; exact own_nat hcl
  have en : ((oNew cl fr to rd w).wcs (oCls u.cnt fs fN (tN - fN) u.cs)).ns = w.ns.set cc (w.ns.getD ci 0 + to - fr) := by
    show w.ns.set w.cnt.toNatClampNeg (w.ns.getD cl.toNatClampNeg 0 + to - fr) = _
    rw [hcw, hci]
  have es : ((oNew cl fr to rd w).wcs (oCls u.cnt fs fN (tN - fN) u.cs)).ss = w.ss.set cc (w.ns.getD ci 0) := by
    show w.ss.set w.cnt.toNatClampNeg (w.ns.getD cl.toNatClampNeg 0) = _
    rw [hcw, hci]
  rw [en, es]
  refine ⟨⟨k1, k2, ?_, ?_, ?_, ?_, ?_, k8, k9⟩, ?_, ?_, ?_, ?_, ?_, ?_⟩
  · show (oCls u.cnt fs fN (tN - fN) u.cs).length = n
    rw [own_clsLen]; exact k.2.2.1
  · exact (List.length_set ..).trans k4
  · exact (List.length_set ..).trans k5
  · exact (List.length_set ..).trans k6
  · exact (List.length_set ..).trans k7
  · show w.cnt + 1 = _
    rw [r2]
  · rw [own_getset _ _ _ _ (by omega), if_neg (Ne.symm hne), r7]
  · rw [own_getset _ _ _ _ (by omega), if_pos rfl]
    have a1 := c_iadd (w.ns.getD ci 0) to; have a2 := rng32 (w.ns.getD ci 0 + to)
    have b1 := c_isub (w.ns.getD ci 0 + to) fr; have b2 := rng32 (w.ns.getD ci 0 + to - fr)
    have b3 := rng32 to; have b4 := rng32 fr; have b5 := rng32 (w.ns.getD ci 0)
    omega
  · rw [own_getset _ _ _ _ (by omega), if_pos rfl, r7]
  · intro j h1 h2
    rw [own_getset _ _ _ _ (by omega), if_neg (Ne.symm h2), r8 j h1]
  · intro j h2
    rw [own_getset _ _ _ _ (by omega), if_neg (Ne.symm h2), r4]
theorem own_n (x : Int32) : ∃ nN : Nat, (x &&& (15 : Int32)).toInt = nN ∧ nN ≤ 15 := by
  have h := c_mask x 15 4 (by decide) (by decide)
  exact ⟨(x &&& (15 : Int32)).toInt.toNat, by omega, by omega⟩
theorem own_k4 (x : Int32) : ∃ kN : Nat, ((x &&& (2147483647 : Int32)) % (4 : Int32)).toInt = kN ∧ kN ≤ 3 := by
  have h := c_mask x 2147483647 31 (by decide) (by decide)
  have h2 := (c_irem (x &&& 2147483647) 4 4 (by decide)).1 (by rw [h]; omega)
  exact ⟨((x &&& (2147483647 : Int32)) % (4 : Int32)).toInt.toNat, by omega, by omega⟩
theorem own_remR {x d : Int32} {dN : Nat} (hd : d.toInt = dN) (h0 : 0 < dN) (hx : 0 ≤ x.toInt) : inR dN (x % d) := by
  have h2 := (c_irem x d dN hd).1 hx
  unfold inR
  rw [h2]
  exact ⟨Int.emod_nonneg _ (by omega), Int.emod_lt_of_pos _ (by omega)⟩
theorem own_m31 (x : Int32) : 0 ≤ (x &&& (2147483647 : Int32)).toInt := by
  have h := c_mask x 2147483647 31 (by decide) (by decide)
  omega
theorem own_toN {n : Nat} {x : Int32} (h : inR n x) : ∃ xN : Nat, x.toInt = xN ∧ xN < n := ⟨x.toInt.toNat, by have := h.1; omega, by have := h.1; have := h.2; omega⟩
theorem own_nz {x : Int32} {n : Nat} (h : x.toInt = n) (h0 : 0 < n) : x ≠ 0 := by rintro rfl; have z : (0 : Int32).toInt = 0 := rfl; omega
theorem own_hx3 {n kN : Nat} {a b c : Int32} (ha : inR n a) (hb : inR n b) (hc : inR n c) (hk : kN ≤ 3) : ∀ j, 0 ≤ j → j < kN → inR n (([a, b, c] : List Int32).getD j 0) := by
  intro j _ hj
  match j, (show j < 3 by omega) with
  | 0, _ => exact ha
  | 1, _ => exact hb
  | 2, _ => exact hc
theorem own_hx2 {n kN : Nat} {a b : Int32} (ha : inR n a) (hb : inR n b) (hk : kN ≤ 2) : ∀ j, 0 ≤ j → j < kN → inR n (([a, b] : List Int32).getD j 0) := by
  intro j _ hj
  match j, (show j < 2 by omega) with
  | 0, _ => exact ha
  | 1, _ => exact hb
theorem own_lit {NN : Nat} {x : Int32} {a : Nat} (hx : x.toInt = a) (h : a < NN) : inR NN x := ⟨by omega, by omega⟩

theorem d6_0 : decode jdk_29_method_69_code 0 = .ok (.iload_n 0, 1) := by decide +kernel
theorem d6_1 : decode jdk_29_method_69_code 1 = .ok (.iload_n 1, 1) := by decide +kernel
theorem d6_2 : decode jdk_29_method_69_code 2 = .ok (.if_icmp .gt 7, 3) := by decide +kernel
theorem d6_5 : decode jdk_29_method_69_code 5 = .ok (.iload_n 0, 1) := by decide +kernel
theorem d6_6 : decode jdk_29_method_69_code 6 = .ok (.goto 4, 3) := by decide +kernel
theorem d6_9 : decode jdk_29_method_69_code 9 = .ok (.iload_n 1, 1) := by decide +kernel
theorem d6_10 : decode jdk_29_method_69_code 10 = .ok (.ireturn, 1) := by decide +kernel
theorem ef6_II (m : MethodId) (x0 : Int32) (x1 : Int32) : entryFrame m #[(.int x0), (.int x1)] 2 = mkF m 0 #[.val (.int x0), .val (.int x1)] [] := by first | (simp [entryFrame, mkF, argsToLocals, Value.category]; done) | rfl
def omin (x : Int32) (y : Int32) : Int32 := if y < x then y else (x)
def rmr6 : Room := { frames := 0, cells := 0, slots := 0, locals := 0 }
set_option maxRecDepth 65536 in
set_option maxHeartbeats 4000000 in
theorem mtmin (l : Launch) (Z : State) (a0 : Array Value) (hw : ∀ d ∈ tables_1, d.before a0 Z = true) (x : Int32) (y : Int32)  (h0 : Heap) : Meth l Z (⟨"java/lang/Math", "min", "(II)I"⟩ : MethodName) jdk_29_method_69_code 2 (some .int) rmr6 #[(.int x), (.int y)] h0 [] (fun vr h' => vr = some (.int (omin x y)) ∧ h' = h0) := by
  refine Meth.of (Jvm.Free.JP.mathPlain rfl (by decide +kernel)) ?_
  intro p e s m below meth c T B X
  refine Go.entry (ef6_II m x y) ?_
  refine giloadN B X d6_0 rfl (pc' := 1) rfl ?_
  refine giloadN B X d6_1 rfl (pc' := 2) rfl ?_
  by_cases c2_605 : y < x
  · refine gicY B X (pc' := 9) d6_2 (tlt c2_605).2.2.1 (by decide) ?_
    refine giloadN B X d6_9 rfl (pc' := 10) rfl ?_
    exact gretI B X d6_10 (by decide) (by decide) (⟨by rw [omin, if_pos c2_605], rfl⟩)
  · refine gicN B X d6_2 (flt c2_605).2.2.1 (pc' := 5) rfl ?_
    refine giloadN B X d6_5 rfl (pc' := 6) rfl ?_
    refine ggoto B X (pc' := 10) d6_6 (by decide) ?_
    exact gretI B X d6_10 (by decide) (by decide) (⟨by rw [omin, if_neg c2_605], rfl⟩)
theorem own_min {y : Int32} {a : Nat} (h : y.toInt = a) : (omin (2 : Int32) y).toInt = ((min 2 a : Nat) : Int) := by
  unfold omin
  have z : (2 : Int32).toInt = 2 := rfl
  split <;> (rename_i q; rw [Int32.lt_iff_toInt_lt] at q; omega)
theorem d4_0 : decode prog_61_method_3_code 0 = .ok (.aload_n 0, 1) := by decide +kernel
theorem d4_1 : decode prog_61_method_3_code 1 = .ok (.getfield 28, 3) := by decide +kernel
theorem d4_4 : decode prog_61_method_3_code 4 = .ok (.iload_n 1, 1) := by decide +kernel
theorem d4_5 : decode prog_61_method_3_code 5 = .ok (.iaload, 1) := by decide +kernel
theorem d4_6 : decode prog_61_method_3_code 6 = .ok (.aload_n 0, 1) := by decide +kernel
theorem d4_7 : decode prog_61_method_3_code 7 = .ok (.getfield 25, 3) := by decide +kernel
theorem d4_10 : decode prog_61_method_3_code 10 = .ok (.iload_n 1, 1) := by decide +kernel
theorem d4_11 : decode prog_61_method_3_code 11 = .ok (.iaload, 1) := by decide +kernel
theorem d4_12 : decode prog_61_method_3_code 12 = .ok (.isub, 1) := by decide +kernel
theorem d4_13 : decode prog_61_method_3_code 13 = .ok (.ireturn, 1) := by decide +kernel
theorem pn4 : plainFor (⟨"com/example/bisim_for_markov/bisimformarkov/analysis/Partition", "size", "(I)I"⟩ : MethodName) = true := plainFor_of_name (by first | (simp [plainName, overriddenIn]; done) | decide +kernel)
theorem ef4_RI (m : MethodId) (x0 : Addr) (x1 : Int32) : entryFrame m #[(.ref x0), (.int x1)] 2 = mkF m 0 #[.val (.ref x0), .val (.int x1)] [] := by first | (simp [entryFrame, mkF, argsToLocals, Value.category]; done) | rfl
def rmr4 : Room := { frames := 0, cells := 0, slots := 0, locals := 0 }
set_option maxRecDepth 65536 in
set_option maxHeartbeats 4000000 in
theorem mtsize (l : Launch) (Z : State) (a0 : Array Value) (hw : ∀ d ∈ tables_1, d.before a0 Z = true) (q : Addr) (cl : Int32) (aE aL aK aS aN aP aR : Addr) (u : PS) (n NN : Nat) (h0 : Heap) (A : PA Z h0 q aE aL aK aS aN aP aR u) (k : Ok n NN u) (hcl : inR NN cl) : Meth l Z (⟨"com/example/bisim_for_markov/bisimformarkov/analysis/Partition", "size", "(I)I"⟩ : MethodName) prog_61_method_3_code 2 (some .int) rmr4 #[(.ref q), (.int cl)] h0 [] (fun vr h' => vr = some (.int (u.ns.getD cl.toNatClampNeg 0 - u.ss.getD cl.toNatClampNeg 0)) ∧ h' = h0) := by
  refine Meth.of pn4 ?_
  intro p e s m below meth c T B X
  refine Go.entry (ef4_RI m q cl) ?_
  refine galoadN B X d4_0 rfl rfl (pc' := 1) rfl ?_
  refine gget B X (hw _ (List.mem_of_getElem? (i := 22) rfl)) A.1.2.2.2.2.2.1 d4_1 (pc' := 4) rfl fun T606 X607 => ?_
  refine giloadN B X607 d4_4 rfl (pc' := 5) rfl ?_
  refine giaload B X607 A.2.2.2.2.2.1 (n := NN) (by rw [List.length_map]; exact k.2.2.2.2.1) hcl (v := (.int (u.ns.getD cl.toNatClampNeg 0))) (own_at (by rw [k.2.2.2.2.1]; exact own_nat hcl)) d4_5 (pc' := 6) rfl ?_
  refine galoadN B X607 d4_6 rfl rfl (pc' := 7) rfl ?_
  refine gget B X607 (hw _ (List.mem_of_getElem? (i := 20) rfl)) A.1.2.2.2.2.1 d4_7 (pc' := 10) rfl fun T608 X609 => ?_
  refine giloadN B X609 d4_10 rfl (pc' := 11) rfl ?_
  refine giaload B X609 A.2.2.2.2.1 (n := NN) (by rw [List.length_map]; exact k.2.2.2.1) hcl (v := (.int (u.ss.getD cl.toNatClampNeg 0))) (own_at (by rw [k.2.2.2.1]; exact own_nat hcl)) d4_11 (pc' := 12) rfl ?_
  refine gisub B X609 d4_12 rfl (pc' := 13) rfl ?_
  exact gretI B X609 d4_13 (by decide) (by decide) (⟨rfl, rfl⟩)
theorem pn0 : plainFor (⟨"com/example/bisim_for_markov/bisimformarkov/analysis/PartitionSizePinLaw", "law", "(IIIII)Z"⟩ : MethodName) = true := plainFor_of_name (by first | (simp [plainName, overriddenIn]; done) | decide +kernel)
theorem ef0_IIIII (m : MethodId) (x0 : Int32) (x1 : Int32) (x2 : Int32) (x3 : Int32) (x4 : Int32) : entryFrame m #[(.int x0), (.int x1), (.int x2), (.int x3), (.int x4)] 15 = mkF m 0 #[.val (.int x0), .val (.int x1), .val (.int x2), .val (.int x3), .val (.int x4), .unset, .unset, .unset, .unset, .unset, .unset, .unset, .unset, .unset, .unset] [] := by first | (simp [entryFrame, mkF, argsToLocals, Value.category]; done) | rfl
theorem pd__I_V : parseMethodDescriptor "(I)V" = some ⟨[.int], none⟩ := by decide +kernel
theorem pd__I_I : parseMethodDescriptor "(I)I" = some ⟨[.int], some .int⟩ := by decide +kernel
theorem pd__I_IIII_I : parseMethodDescriptor "(I[IIII)I" = some ⟨[.int, (.array .int), .int, .int, .int], some .int⟩ := by decide +kernel
set_option maxRecDepth 65536 in
set_option maxHeartbeats 4000000 in
theorem mt0 (l : Launch) (Z : State) (a0 : Array Value) (hw : ∀ d ∈ tables_1, d.before a0 Z = true) (p0 : Int32) (p1 : Int32) (p2 : Int32) (p3 : Int32) (p4 : Int32) (h0 : Heap) : Meth l Z x code maxLocals ret room_1 #[(.int p0), (.int p1), (.int p2), (.int p3), (.int p4)] h0 [] (fun v h' => v = some (.int 1)) := by
  refine Meth.of pn0 ?_
  intro p e s m below meth c T B X
  have B : Fix p Z s m meth c code 15 "com/example/bisim_for_markov/bisimformarkov/analysis/PartitionSizePinLaw" "law" (some .boolean) := B
  refine Go.entry (ef0_IIIII m p0 p1 p2 p3 p4) ?_
  refine giloadN B X at_0 rfl (pc' := 1) rfl ?_
  refine gbipush B X at_1 (v := (15 : Int32)) rfl (pc' := 3) rfl ?_
  refine giand B X at_3 rfl (pc' := 4) rfl ?_
  generalize e_qn : (p0 &&& (15 : Int32)) = qn
  refine gistore B X at_4 (Ls' := #[.val (.int p0), .val (.int p1), .val (.int p2), .val (.int p3), .val (.int p4), .val (.int qn), .unset, .unset, .unset, .unset, .unset, .unset, .unset, .unset, .unset]) rfl (pc' := 6) rfl ?_
  obtain ⟨nN, hn, hn15⟩ := own_n p0; rw [e_qn] at hn
  refine gnew B X (hw _ (List.mem_of_getElem? (i := 0) rfl)) (hw _ (List.mem_of_getElem? (i := 1) rfl)) (hw _ (List.mem_of_getElem? (i := 2) rfl)) (by decide) (by decide) at_6 (pc' := 9) rfl fun T610 h611 a612 X613 q614 E615 z_a612 A616 D617 => ?_
  have O618 : Pt Z h611 a612 .null .null .null .null .null .null .null (.int (0 : Int32)) := ⟨A616, D617 (Or.inr (hw _ (List.mem_of_getElem? (i := 11) rfl))) (ty := (.array .int)) (by decide), D617 (Or.inr (hw _ (List.mem_of_getElem? (i := 13) rfl))) (ty := (.array .int)) (by decide), D617 (Or.inr (hw _ (List.mem_of_getElem? (i := 15) rfl))) (ty := (.array .int)) (by decide), D617 (Or.inr (hw _ (List.mem_of_getElem? (i := 21) rfl))) (ty := (.array .int)) (by decide), D617 (Or.inr (hw _ (List.mem_of_getElem? (i := 23) rfl))) (ty := (.array .int)) (by decide), D617 (Or.inr (hw _ (List.mem_of_getElem? (i := 25) rfl))) (ty := (.array .int)) (by decide), D617 (Or.inr (hw _ (List.mem_of_getElem? (i := 27) rfl))) (ty := (.array .int)) (by decide), D617 (Or.inl (hw _ (List.mem_of_getElem? (i := 29) rfl))) (ty := .int) (by decide)⟩
  refine gdup B X613 at_9 rfl (pc' := 10) rfl ?_
  refine giload B X613 at_10 rfl (pc' := 12) rfl ?_
  refine gcallI B X613 rfl rfl (hw _ (List.mem_of_getElem? (i := 3) rfl)) (hw _ (List.mem_of_getElem? (i := 4) rfl)) (hw _ (List.mem_of_getElem? (i := 2) rfl)) (hw _ (List.mem_of_getElem? (i := 5) rfl)) (by decide) (mt1 l Z a0 hw a612 qn nN h611 O618 hn hn15) pd__I_V rfl (argsL := [(.int qn)]) (st := [(.ref a612)]) rfl rfl (W := 1) (Nat.le_of_eq rfl) (by decide) (by decide) (by decide) (by decide) (allS (Or.inr z_a612) all0) at_12 (pc' := 15) rfl fun T619 h620 v621 X622 K623 Q624 => ?_
  obtain ⟨rfl, aE625, aL626, aK627, aS628, aN629, aP630, aR631, ND632, zz633, A634⟩ := Q624
  have y_aE625 := own_hw zz633 0 rfl
  have z_aE625 : h0.size ≤ aE625 := Nat.le_trans X613.kept.1 y_aE625
  have y_aL626 := own_hw zz633 1 rfl
  have z_aL626 : h0.size ≤ aL626 := Nat.le_trans X613.kept.1 y_aL626
  have y_aK627 := own_hw zz633 2 rfl
  have z_aK627 : h0.size ≤ aK627 := Nat.le_trans X613.kept.1 y_aK627
  have y_aS628 := own_hw zz633 3 rfl
  have z_aS628 : h0.size ≤ aS628 := Nat.le_trans X613.kept.1 y_aS628
  have y_aN629 := own_hw zz633 4 rfl
  have z_aN629 : h0.size ≤ aN629 := Nat.le_trans X613.kept.1 y_aN629
  have y_aP630 := own_hw zz633 5 rfl
  have z_aP630 : h0.size ≤ aP630 := Nat.le_trans X613.kept.1 y_aP630
  have y_aR631 := own_hw zz633 6 rfl
  have z_aR631 : h0.size ≤ aR631 := Nat.le_trans X613.kept.1 y_aR631
  show Go p e below _ _ _ _ T619 (mkF m 15 #[.val (.int p0), .val (.int p1), .val (.int p2), .val (.int p3), .val (.int p4), .val (.int qn), .unset, .unset, .unset, .unset, .unset, .unset, .unset, .unset, .unset] [(.ref a612)])
  have k0 : Ok nN (max nN 1) (oS0 qn nN) := own_ok0 hn15
  have n00 := own_n00 qn nN; have s00 := own_s00 qn nN
  have z0 : (0 : Int32).toInt = 0 := rfl
  refine gastore B X622 at_15 rfl (Ls' := #[.val (.int p0), .val (.int p1), .val (.int p2), .val (.int p3), .val (.int p4), .val (.int qn), .val (.ref a612), .unset, .unset, .unset, .unset, .unset, .unset, .unset, .unset]) rfl (pc' := 17) rfl ?_
  refine gaload B X622 at_17 rfl rfl (pc' := 19) rfl ?_
  refine giconst B X622 at_19 (v := (0 : Int32)) rfl (pc' := 20) rfl ?_
  refine gcallV B X622 A634.1.1 (hw _ (List.mem_of_getElem? (i := 30) rfl)) (hw _ (List.mem_of_getElem? (i := 31) rfl)) (hw _ (List.mem_of_getElem? (i := 33) rfl)) (hw _ (List.mem_of_getElem? (i := 32) rfl)) (hw _ (List.mem_of_getElem? (i := 2) rfl)) (hw _ (List.mem_of_getElem? (i := 34) rfl)) rfl (by decide) (mtsize l Z a0 hw a612 (0 : Int32) aE625 aL626 aK627 aS628 aN629 aP630 aR631 (oS0 qn nN) nN (max nN 1) h620 ⟨A634.1, A634.2.1, A634.2.2.1, A634.2.2.2.1, A634.2.2.2.2.1, A634.2.2.2.2.2.1, A634.2.2.2.2.2.2.1, A634.2.2.2.2.2.2.2⟩ k0 (own_lit (a := 0) rfl (by omega))) pd__I_I rfl (argsL := [(.int (0 : Int32))]) (st := []) rfl rfl (W := 0) (Nat.le_of_eq rfl) (by decide) (by decide) (by decide) (by decide) (fun x q => nomatch q) at_20 (pc' := 23) rfl (pureG rfl rfl fun T635 X636 => ?_)
  refine giload B X636 at_23 rfl (pc' := 25) rfl ?_
  have c25_637 : ((oS0 qn nN).ns.getD (0 : Int32).toNatClampNeg 0 - (oS0 qn nN).ss.getD (0 : Int32).toNatClampNeg 0) = qn := own_eqsub (show ((oS0 qn nN).ns.getD 0 0).toInt - ((oS0 qn nN).ss.getD 0 0).toInt = _ by rw [n00, s00]; omega)
  refine gicN B X636 at_25 (teq c25_637).2 (pc' := 28) rfl ?_
  refine giconst B X636 at_28 (v := (1 : Int32)) rfl (pc' := 29) rfl ?_
  refine ggoto B X636 (pc' := 33) at_29 (by decide) ?_
  refine gistore B X636 at_33 (Ls' := #[.val (.int p0), .val (.int p1), .val (.int p2), .val (.int p3), .val (.int p4), .val (.int qn), .val (.ref a612), .val (.int (1 : Int32)), .unset, .unset, .unset, .unset, .unset, .unset, .unset]) rfl (pc' := 35) rfl ?_
  refine giload B X636 at_35 rfl (pc' := 37) rfl ?_
  refine giconst B X636 at_37 (v := (3 : Int32)) rfl (pc' := 38) rfl ?_
  by_cases c38_638 : qn < (3 : Int32)
  · refine gicN B X636 at_38 (tlt c38_638).2.1 (pc' := 41) rfl ?_
    refine giload B X636 at_41 rfl (pc' := 43) rfl ?_
    exact gretN B X636 (z' := (1 : Int32)) (by simp) (rfl) at_43 (by decide) (by decide) (rfl)
  · refine gicY B X636 (pc' := 44) at_38 (flt c38_638).2.1 (by decide) ?_
    have hn3 : 3 ≤ nN := by have q := c38_638; rw [Int32.lt_iff_toInt_lt, hn] at q; have z : (3 : Int32).toInt = 3 := rfl; omega
    have hnz : qn ≠ 0 := own_nz hn (by omega)
    refine giloadN B X636 at_44 rfl (pc' := 45) rfl ?_
    refine gldc B X636 (v := (2147483647 : Int32)) (hw _ (List.mem_of_getElem? (i := 35) rfl)) at_45 (pc' := 47) rfl ?_
    refine giand B X636 at_47 rfl (pc' := 48) rfl ?_
    refine giconst B X636 at_48 (v := (4 : Int32)) rfl (pc' := 49) rfl ?_
    refine girem B X636 at_49 (by decide) rfl (pc' := 50) rfl ?_
    generalize e_qk : ((p1 &&& (2147483647 : Int32)) % (4 : Int32)) = qk
    refine gistore B X636 at_50 (Ls' := #[.val (.int p0), .val (.int p1), .val (.int p2), .val (.int p3), .val (.int p4), .val (.int qn), .val (.ref a612), .val (.int (1 : Int32)), .val (.int qk), .unset, .unset, .unset, .unset, .unset, .unset]) rfl (pc' := 52) rfl ?_
    obtain ⟨kN, hk, hk3⟩ := own_k4 p1; rw [e_qk] at hk
    refine giloadN B X636 at_52 rfl (pc' := 53) rfl ?_
    refine gldc B X636 (v := (2147483647 : Int32)) (hw _ (List.mem_of_getElem? (i := 35) rfl)) at_53 (pc' := 55) rfl ?_
    refine giand B X636 at_55 rfl (pc' := 56) rfl ?_
    refine giload B X636 at_56 rfl (pc' := 58) rfl ?_
    refine girem B X636 at_58 hnz rfl (pc' := 59) rfl ?_
    generalize e_qo : ((p2 &&& (2147483647 : Int32)) % qn) = qo
    refine gistore B X636 at_59 (Ls' := #[.val (.int p0), .val (.int p1), .val (.int p2), .val (.int p3), .val (.int p4), .val (.int qn), .val (.ref a612), .val (.int (1 : Int32)), .val (.int qk), .val (.int qo), .unset, .unset, .unset, .unset, .unset]) rfl (pc' := 61) rfl ?_
    have xo : inR nN qo := by rw [← e_qo]; exact own_remR hn (by omega) (own_m31 p2)
    obtain ⟨oN, ho, hoN⟩ := own_toN xo
    have x1 : inR nN ((qo + (1 : Int32)) % qn) := own_remR hn (by omega) (by rw [own_addN ho (b := 1) rfl (by omega)]; omega)
    have x2 : inR nN ((qo + (2 : Int32)) % qn) := own_remR hn (by omega) (by rw [own_addN ho (b := 2) rfl (by omega)]; omega)
    have y0 : inR nN ((qo + qk) % qn) := own_remR hn (by omega) (by rw [own_addN ho hk (by omega)]; omega)
    have y1 : inR nN ((qo + qk + (1 : Int32)) % qn) := own_remR hn (by omega) (by rw [own_addN (own_addN ho hk (by omega)) (b := 1) rfl (by omega)]; omega)
    have hnk : (qn - qk).toInt = ((nN - kN : Nat) : Int) := own_subN hn hk (by omega) (by omega)
    refine giconst B X636 at_61 (v := (3 : Int32)) rfl (pc' := 62) rfl ?_
    refine gnewarray B X636 (cap := 3) (vs := [(.int (0 : Int32)), (.int (0 : Int32)), (.int (0 : Int32))]) (ty := .int) rfl rfl (hw _ (List.mem_of_getElem? (i := 9) rfl)) (by decide) (by decide) (by decide) (by decide) (by decide) at_62 (pc' := 64) rfl fun T639 h640 a641 X642 q643 E644 z_a641 A645 => ?_
    have n646 : a612 ≠ a641 := by rw [q643]; exact Nat.ne_of_lt A634.1.lt
    have n647 : aE625 ≠ a641 := by rw [q643]; exact Nat.ne_of_lt A634.2.1.lt
    have n648 : aL626 ≠ a641 := by rw [q643]; exact Nat.ne_of_lt A634.2.2.1.lt
    have n649 : aK627 ≠ a641 := by rw [q643]; exact Nat.ne_of_lt A634.2.2.2.1.lt
    have n650 : aS628 ≠ a641 := by rw [q643]; exact Nat.ne_of_lt A634.2.2.2.2.1.lt
    have n651 : aN629 ≠ a641 := by rw [q643]; exact Nat.ne_of_lt A634.2.2.2.2.2.1.lt
    have n652 : aP630 ≠ a641 := by rw [q643]; exact Nat.ne_of_lt A634.2.2.2.2.2.2.1.lt
    have n653 : aR631 ≠ a641 := by rw [q643]; exact Nat.ne_of_lt A634.2.2.2.2.2.2.2.lt
    have F654 := A634.1.ext E644
    have F655 := A634.2.1.ext E644
    have F656 := A634.2.2.1.ext E644
    have F657 := A634.2.2.2.1.ext E644
    have F658 := A634.2.2.2.2.1.ext E644
    have F659 := A634.2.2.2.2.2.1.ext E644
    have F660 := A634.2.2.2.2.2.2.1.ext E644
    have F661 := A634.2.2.2.2.2.2.2.ext E644
    refine gdup B X642 at_64 rfl (pc' := 65) rfl ?_
    refine giconst B X642 at_65 (v := (0 : Int32)) rfl (pc' := 66) rfl ?_
    refine giload B X642 at_66 rfl (pc' := 68) rfl ?_
    refine giastore B X642 (i := 0) (n := 3) A645 rfl (by decide) rfl (vs' := [(.int qo), (.int (0 : Int32)), (.int (0 : Int32))]) rfl (Or.inr z_a641) at_68 (pc' := 69) rfl fun T662 h663 X664 W665 A666 => ?_
    have F667 := F654.other W665 n646
    have F668 := F655.other W665 n647
    have F669 := F656.other W665 n648
    have F670 := F657.other W665 n649
    have F671 := F658.other W665 n650
    have F672 := F659.other W665 n651
    have F673 := F660.other W665 n652
    have F674 := F661.other W665 n653
    refine gdup B X664 at_69 rfl (pc' := 70) rfl ?_
    refine giconst B X664 at_70 (v := (1 : Int32)) rfl (pc' := 71) rfl ?_
    refine giload B X664 at_71 rfl (pc' := 73) rfl ?_
    refine giconst B X664 at_73 (v := (1 : Int32)) rfl (pc' := 74) rfl ?_
    refine giadd B X664 at_74 rfl (pc' := 75) rfl ?_
    refine giload B X664 at_75 rfl (pc' := 77) rfl ?_
    refine girem B X664 at_77 hnz rfl (pc' := 78) rfl ?_
    refine giastore B X664 (i := 1) (n := 3) A666 rfl (by decide) rfl (vs' := [(.int qo), (.int ((qo + (1 : Int32)) % qn)), (.int (0 : Int32))]) rfl (Or.inr z_a641) at_78 (pc' := 79) rfl fun T675 h676 X677 W678 A679 => ?_
    have F680 := F667.other W678 n646
    have F681 := F668.other W678 n647
    have F682 := F669.other W678 n648
    have F683 := F670.other W678 n649
    have F684 := F671.other W678 n650
    have F685 := F672.other W678 n651
    have F686 := F673.other W678 n652
    have F687 := F674.other W678 n653
    refine gdup B X677 at_79 rfl (pc' := 80) rfl ?_
    refine giconst B X677 at_80 (v := (2 : Int32)) rfl (pc' := 81) rfl ?_
    refine giload B X677 at_81 rfl (pc' := 83) rfl ?_
    refine giconst B X677 at_83 (v := (2 : Int32)) rfl (pc' := 84) rfl ?_
    refine giadd B X677 at_84 rfl (pc' := 85) rfl ?_
    refine giload B X677 at_85 rfl (pc' := 87) rfl ?_
    refine girem B X677 at_87 hnz rfl (pc' := 88) rfl ?_
    refine giastore B X677 (i := 2) (n := 3) A679 rfl (by decide) rfl (vs' := [(.int qo), (.int ((qo + (1 : Int32)) % qn)), (.int ((qo + (2 : Int32)) % qn))]) rfl (Or.inr z_a641) at_88 (pc' := 89) rfl fun T688 h689 X690 W691 A692 => ?_
    have F693 := F680.other W691 n646
    have F694 := F681.other W691 n647
    have F695 := F682.other W691 n648
    have F696 := F683.other W691 n649
    have F697 := F684.other W691 n650
    have F698 := F685.other W691 n651
    have F699 := F686.other W691 n652
    have F700 := F687.other W691 n653
    refine gastore B X690 at_89 rfl (Ls' := #[.val (.int p0), .val (.int p1), .val (.int p2), .val (.int p3), .val (.int p4), .val (.int qn), .val (.ref a612), .val (.int (1 : Int32)), .val (.int qk), .val (.int qo), .val (.ref a641), .unset, .unset, .unset, .unset]) rfl (pc' := 91) rfl ?_
    refine giconst B X690 at_91 (v := (2 : Int32)) rfl (pc' := 92) rfl ?_
    refine gnewarray B X690 (cap := 2) (vs := [(.int (0 : Int32)), (.int (0 : Int32))]) (ty := .int) rfl rfl (hw _ (List.mem_of_getElem? (i := 9) rfl)) (by decide) (by decide) (by decide) (by decide) (by decide) at_92 (pc' := 94) rfl fun T701 h702 a703 X704 q705 E706 z_a703 A707 => ?_
    have n708 : a612 ≠ a703 := by rw [q705]; exact Nat.ne_of_lt F693.lt
    have n709 : aE625 ≠ a703 := by rw [q705]; exact Nat.ne_of_lt F694.lt
    have n710 : aL626 ≠ a703 := by rw [q705]; exact Nat.ne_of_lt F695.lt
    have n711 : aK627 ≠ a703 := by rw [q705]; exact Nat.ne_of_lt F696.lt
    have n712 : aS628 ≠ a703 := by rw [q705]; exact Nat.ne_of_lt F697.lt
    have n713 : aN629 ≠ a703 := by rw [q705]; exact Nat.ne_of_lt F698.lt
    have n714 : aP630 ≠ a703 := by rw [q705]; exact Nat.ne_of_lt F699.lt
    have n715 : aR631 ≠ a703 := by rw [q705]; exact Nat.ne_of_lt F700.lt
    have n716 : a641 ≠ a703 := by rw [q705]; exact Nat.ne_of_lt A692.lt
    have F717 := F693.ext E706
    have F718 := F694.ext E706
    have F719 := F695.ext E706
    have F720 := F696.ext E706
    have F721 := F697.ext E706
    have F722 := F698.ext E706
    have F723 := F699.ext E706
    have F724 := F700.ext E706
    have F725 := A692.ext E706
    refine gdup B X704 at_94 rfl (pc' := 95) rfl ?_
    refine giconst B X704 at_95 (v := (0 : Int32)) rfl (pc' := 96) rfl ?_
    refine giload B X704 at_96 rfl (pc' := 98) rfl ?_
    refine giload B X704 at_98 rfl (pc' := 100) rfl ?_
    refine giadd B X704 at_100 rfl (pc' := 101) rfl ?_
    refine giload B X704 at_101 rfl (pc' := 103) rfl ?_
    refine girem B X704 at_103 hnz rfl (pc' := 104) rfl ?_
    refine giastore B X704 (i := 0) (n := 2) A707 rfl (by decide) rfl (vs' := [(.int ((qo + qk) % qn)), (.int (0 : Int32))]) rfl (Or.inr z_a703) at_104 (pc' := 105) rfl fun T726 h727 X728 W729 A730 => ?_
    have F731 := F717.other W729 n708
    have F732 := F718.other W729 n709
    have F733 := F719.other W729 n710
    have F734 := F720.other W729 n711
    have F735 := F721.other W729 n712
    have F736 := F722.other W729 n713
    have F737 := F723.other W729 n714
    have F738 := F724.other W729 n715
    have F739 := F725.other W729 n716
    refine gdup B X728 at_105 rfl (pc' := 106) rfl ?_
    refine giconst B X728 at_106 (v := (1 : Int32)) rfl (pc' := 107) rfl ?_
    refine giload B X728 at_107 rfl (pc' := 109) rfl ?_
    refine giload B X728 at_109 rfl (pc' := 111) rfl ?_
    refine giadd B X728 at_111 rfl (pc' := 112) rfl ?_
    refine giconst B X728 at_112 (v := (1 : Int32)) rfl (pc' := 113) rfl ?_
    refine giadd B X728 at_113 rfl (pc' := 114) rfl ?_
    refine giload B X728 at_114 rfl (pc' := 116) rfl ?_
    refine girem B X728 at_116 hnz rfl (pc' := 117) rfl ?_
    refine giastore B X728 (i := 1) (n := 2) A730 rfl (by decide) rfl (vs' := [(.int ((qo + qk) % qn)), (.int (((qo + qk) + (1 : Int32)) % qn))]) rfl (Or.inr z_a703) at_117 (pc' := 118) rfl fun T740 h741 X742 W743 A744 => ?_
    have F745 := F731.other W743 n708
    have F746 := F732.other W743 n709
    have F747 := F733.other W743 n710
    have F748 := F734.other W743 n711
    have F749 := F735.other W743 n712
    have F750 := F736.other W743 n713
    have F751 := F737.other W743 n714
    have F752 := F738.other W743 n715
    have F753 := F739.other W743 n716
    refine gastore B X742 at_118 rfl (Ls' := #[.val (.int p0), .val (.int p1), .val (.int p2), .val (.int p3), .val (.int p4), .val (.int qn), .val (.ref a612), .val (.int (1 : Int32)), .val (.int qk), .val (.int qo), .val (.ref a641), .val (.ref a703), .unset, .unset, .unset]) rfl (pc' := 120) rfl ?_
    refine giload B X742 at_120 rfl (pc' := 122) rfl ?_
    refine giconst B X742 at_122 (v := (1 : Int32)) rfl (pc' := 123) rfl ?_
    refine giand B X742 at_123 rfl (pc' := 124) rfl ?_
    by_cases c124_754 : (p4 &&& (1 : Int32)) = (0 : Int32)
    · refine gifY B X742 (pc' := 131) at_124 ((if0 _ _).trans (teq c124_754).1) (by decide) ?_
      refine giconst B X742 at_131 (v := (0 : Int32)) rfl (pc' := 132) rfl ?_
      refine gistore B X742 at_132 (Ls' := #[.val (.int p0), .val (.int p1), .val (.int p2), .val (.int p3), .val (.int p4), .val (.int qn), .val (.ref a612), .val (.int (1 : Int32)), .val (.int qk), .val (.int qo), .val (.ref a641), .val (.ref a703), .val (.int (0 : Int32)), .unset, .unset]) rfl (pc' := 134) rfl ?_
      refine giload B X742 at_134 rfl (pc' := 136) rfl ?_
      have c136_755 : (0 : Int32) = (0 : Int32) := (by decide)
      refine gifY B X742 (pc' := 144) at_136 ((if0 _ _).trans (teq c136_755).1) (by decide) ?_
      refine giconst B X742 at_144 (v := (2 : Int32)) rfl (pc' := 145) rfl ?_
      refine giload B X742 at_145 rfl (pc' := 147) rfl ?_
      refine giload B X742 at_147 rfl (pc' := 149) rfl ?_
      refine gisub B X742 at_149 rfl (pc' := 150) rfl ?_
      refine gcallS B X742 (hw _ (List.mem_of_getElem? (i := 41) rfl)) (hw _ (List.mem_of_getElem? (i := 42) rfl)) (hw _ (List.mem_of_getElem? (i := 18) rfl)) (hw _ (List.mem_of_getElem? (i := 43) rfl)) (by decide) (mtmin l Z a0 hw (2 : Int32) (qn - qk)  h741 ) pd__II_I rfl (argsL := [(.int (2 : Int32)), (.int (qn - qk))]) (st := []) rfl rfl (W := 0) (Nat.le_of_eq rfl) (by decide) (by decide) (by decide) (by decide) (fun x q => nomatch q) at_150 (pc' := 153) rfl (pureG rfl rfl fun T756 X757 => ?_)
      refine gistore B X757 at_153 (Ls' := #[.val (.int p0), .val (.int p1), .val (.int p2), .val (.int p3), .val (.int p4), .val (.int qn), .val (.ref a612), .val (.int (1 : Int32)), .val (.int qk), .val (.int qo), .val (.ref a641), .val (.ref a703), .val (.int (0 : Int32)), .val (.int (omin (2 : Int32) (qn - qk))), .unset]) rfl (pc' := 155) rfl ?_
      have hr1 : (omin (2 : Int32) (qn - qk) + (1 : Int32)).toInt = ((min 2 (nN - kN) + 1 : Nat) : Int) := own_addN (own_min hnk) (b := 1) rfl (by omega)
      refine giloadN B X757 at_155 rfl (pc' := 156) rfl ?_
      refine gldc B X757 (v := (2147483647 : Int32)) (hw _ (List.mem_of_getElem? (i := 35) rfl)) at_156 (pc' := 158) rfl ?_
      refine giand B X757 at_158 rfl (pc' := 159) rfl ?_
      refine giload B X757 at_159 rfl (pc' := 161) rfl ?_
      refine giconst B X757 at_161 (v := (1 : Int32)) rfl (pc' := 162) rfl ?_
      refine giadd B X757 at_162 rfl (pc' := 163) rfl ?_
      refine girem B X757 at_163 (own_nz hr1 (by omega)) rfl (pc' := 164) rfl ?_
      generalize e_qj : ((p3 &&& (2147483647 : Int32)) % ((omin (2 : Int32) (qn - qk)) + (1 : Int32))) = qj
      refine gistore B X757 at_164 (Ls' := #[.val (.int p0), .val (.int p1), .val (.int p2), .val (.int p3), .val (.int p4), .val (.int qn), .val (.ref a612), .val (.int (1 : Int32)), .val (.int qk), .val (.int qo), .val (.ref a641), .val (.ref a703), .val (.int (0 : Int32)), .val (.int (omin (2 : Int32) (qn - qk))), .val (.int qj)]) rfl (pc' := 166) rfl ?_
      have xj : inR (min 2 (nN - kN) + 1) qj := by rw [← e_qj]; exact own_remR hr1 (by omega) (own_m31 p3)
      obtain ⟨jN, hj, hjN⟩ := own_toN xj
      refine gaload B X757 at_166 rfl rfl (pc' := 168) rfl ?_
      refine giconst B X757 at_168 (v := (0 : Int32)) rfl (pc' := 169) rfl ?_
      refine gaload B X757 at_169 rfl rfl (pc' := 171) rfl ?_
      refine giconst B X757 at_171 (v := (0 : Int32)) rfl (pc' := 172) rfl ?_
      refine giload B X757 at_172 rfl (pc' := 174) rfl ?_
      refine giconst B X757 at_174 (v := (1 : Int32)) rfl (pc' := 175) rfl ?_
      have hx1 := own_hx3 (kN := kN) xo x1 x2 hk3
      have can1 : Can nN (0 : Int32) (kN - 0) (oS0 qn nN) := ⟨by show _ ≤ ((oS0 qn nN).ns.getD 0 0).toInt; rw [n00, hn]; omega, by show ((oS0 qn nN).ns.getD 0 0).toInt ≤ _; rw [n00, hn]; omega⟩
      have c0 : inR (max nN 1) (0 : Int32) := own_lit (a := 0) rfl (by omega)
      have c1 : inR (max nN 1) (oS0 qn nN).cnt := own_lit (x := 1) (a := 1) rfl (by omega)
      have S1 := own_split (rd := (1 : Int32)) (fr := (0 : Int32)) (by omega) k0 c0 can1 hx1 c1 rfl hk (Nat.zero_le _) (ci := 0) (cc := 1) rfl rfl (by decide)
      have hf_175 : ∀ x ∈ [a612, aE625, aL626, aK627, aS628, aN629, aP630, aR631], x ≠ a641 := (allS n646 (allS n647 (allS n648 (allS n649 (allS n650 (allS n651 (allS n652 (allS n653 all0))))))))
      have A_175 : PA Z h741 a612 aE625 aL626 aK627 aS628 aN629 aP630 aR631 (oS0 qn nN) := ⟨F745, F746, F747, F748, F749, F750, F751, F752⟩
      refine gcallV B X757 F745.1 (hw _ (List.mem_of_getElem? (i := 36) rfl)) (hw _ (List.mem_of_getElem? (i := 37) rfl)) (hw _ (List.mem_of_getElem? (i := 39) rfl)) (hw _ (List.mem_of_getElem? (i := 38) rfl)) (hw _ (List.mem_of_getElem? (i := 2) rfl)) (hw _ (List.mem_of_getElem? (i := 40) rfl)) rfl (by decide) (mt5 l Z a0 hw a612 (0 : Int32) a641 (0 : Int32) qk (1 : Int32) aE625 aL626 aK627 aS628 aN629 aP630 aR631 (oS0 qn nN) ([qo, ((qo + (1 : Int32)) % qn), ((qo + (2 : Int32)) % qn)] : List Int32) nN (max nN 1) 0 kN h741 A_175 F753 ND632 hf_175 k0 can1 hx1 c0 rfl hk (Nat.zero_le _) hk3 c1) pd__I_IIII_I rfl (argsL := [(.int (0 : Int32)), (.ref a641), (.int (0 : Int32)), (.int qk), (.int (1 : Int32))]) (st := []) rfl rfl (W := 0) (Nat.le_of_eq rfl) (by decide) (by decide) (by decide) (by decide) (allS (Or.inr z_a612) (allS (Or.inr z_aE625) (allS (Or.inr z_aL626) (allS (Or.inr z_aK627) (allS (Or.inr z_aS628) (allS (Or.inr z_aN629) (allS (Or.inr z_aP630) (allS (Or.inr z_aR631) all0)))))))) at_175 (pc' := 178) rfl fun T758 h759 v760 X761 K762 Q763 => ?_
      have F764 := F753.keep K762 (ninS (Ne.symm n646) (ninS (Ne.symm n647) (ninS (Ne.symm n648) (ninS (Ne.symm n649) (ninS (Ne.symm n650) (ninS (Ne.symm n651) (ninS (Ne.symm n652) (ninS (Ne.symm n653) nin0))))))))
      have F765 := A744.keep K762 (ninS (Ne.symm n708) (ninS (Ne.symm n709) (ninS (Ne.symm n710) (ninS (Ne.symm n711) (ninS (Ne.symm n712) (ninS (Ne.symm n713) (ninS (Ne.symm n714) (ninS (Ne.symm n715) nin0))))))))
      obtain ⟨rfl, A766⟩ := Q763
      generalize (oSplit (0 : Int32) ([qo, ((qo + (1 : Int32)) % qn), ((qo + (2 : Int32)) % qn)] : List Int32) (0 : Int32) qk (1 : Int32) 0 kN (oS0 qn nN)) = u1 at A766 S1
      obtain ⟨k1, cnt1, s1, s2, s3, s4, s5⟩ := S1
      rw [n00, hn] at s1 s2 s3
      have s5 := (s5 0 (by decide)).trans s00
      have cnt1 : u1.cnt = 2 := cnt1
      show Go p e below _ _ _ _ T758 (mkF m 178 #[.val (.int p0), .val (.int p1), .val (.int p2), .val (.int p3), .val (.int p4), .val (.int qn), .val (.ref a612), .val (.int (1 : Int32)), .val (.int qk), .val (.int qo), .val (.ref a641), .val (.ref a703), .val (.int (0 : Int32)), .val (.int (omin (2 : Int32) (qn - qk))), .val (.int qj)] [(.int (oS0 qn nN).cnt)])
      refine gpop B X761 at_178 rfl (pc' := 179) rfl ?_
      refine giload B X761 at_179 rfl (pc' := 181) rfl ?_
      have c181_768 : ¬ ((1 : Int32) = (0 : Int32)) := (by decide)
      refine gifN B X761 at_181 ((if0 _ _).trans (feq c181_768).1) (pc' := 184) rfl ?_
      refine gaload B X761 at_184 rfl rfl (pc' := 186) rfl ?_
      refine giconst B X761 at_186 (v := (0 : Int32)) rfl (pc' := 187) rfl ?_
      refine gcallV B X761 A766.1.1 (hw _ (List.mem_of_getElem? (i := 30) rfl)) (hw _ (List.mem_of_getElem? (i := 31) rfl)) (hw _ (List.mem_of_getElem? (i := 33) rfl)) (hw _ (List.mem_of_getElem? (i := 32) rfl)) (hw _ (List.mem_of_getElem? (i := 2) rfl)) (hw _ (List.mem_of_getElem? (i := 34) rfl)) rfl (by decide) (mtsize l Z a0 hw a612 (0 : Int32) aE625 aL626 aK627 aS628 aN629 aP630 aR631 u1 nN (max nN 1) h759 ⟨A766.1, A766.2.1, A766.2.2.1, A766.2.2.2.1, A766.2.2.2.2.1, A766.2.2.2.2.2.1, A766.2.2.2.2.2.2.1, A766.2.2.2.2.2.2.2⟩ k1 (own_lit (a := 0) rfl (by omega))) pd__I_I rfl (argsL := [(.int (0 : Int32))]) (st := []) rfl rfl (W := 0) (Nat.le_of_eq rfl) (by decide) (by decide) (by decide) (by decide) (fun x q => nomatch q) at_187 (pc' := 190) rfl (pureG rfl rfl fun T769 X770 => ?_)
      refine giload B X770 at_190 rfl (pc' := 192) rfl ?_
      refine giload B X770 at_192 rfl (pc' := 194) rfl ?_
      refine gisub B X770 at_194 rfl (pc' := 195) rfl ?_
      have c195_771 : (u1.ns.getD (0 : Int32).toNatClampNeg 0 - u1.ss.getD (0 : Int32).toNatClampNeg 0) = (qn - qk) := own_eqsub (show (u1.ns.getD 0 0).toInt - (u1.ss.getD 0 0).toInt = _ by first | (rw [s5]; omega) | omega)
      refine gicN B X770 at_195 (teq c195_771).2 (pc' := 198) rfl ?_
      refine gaload B X770 at_198 rfl rfl (pc' := 200) rfl ?_
      refine giconst B X770 at_200 (v := (1 : Int32)) rfl (pc' := 201) rfl ?_
      refine gcallV B X770 A766.1.1 (hw _ (List.mem_of_getElem? (i := 30) rfl)) (hw _ (List.mem_of_getElem? (i := 31) rfl)) (hw _ (List.mem_of_getElem? (i := 33) rfl)) (hw _ (List.mem_of_getElem? (i := 32) rfl)) (hw _ (List.mem_of_getElem? (i := 2) rfl)) (hw _ (List.mem_of_getElem? (i := 34) rfl)) rfl (by decide) (mtsize l Z a0 hw a612 (1 : Int32) aE625 aL626 aK627 aS628 aN629 aP630 aR631 u1 nN (max nN 1) h759 ⟨A766.1, A766.2.1, A766.2.2.1, A766.2.2.2.1, A766.2.2.2.2.1, A766.2.2.2.2.2.1, A766.2.2.2.2.2.2.1, A766.2.2.2.2.2.2.2⟩ k1 (own_lit (a := 1) rfl (by omega))) pd__I_I rfl (argsL := [(.int (1 : Int32))]) (st := []) rfl rfl (W := 0) (Nat.le_of_eq rfl) (by decide) (by decide) (by decide) (by decide) (fun x q => nomatch q) at_201 (pc' := 204) rfl (pureG rfl rfl fun T772 X773 => ?_)
      refine giload B X773 at_204 rfl (pc' := 206) rfl ?_
      have c206_774 : (u1.ns.getD (1 : Int32).toNatClampNeg 0 - u1.ss.getD (1 : Int32).toNatClampNeg 0) = qk := own_eqsub (show (u1.ns.getD 1 0).toInt - (u1.ss.getD 1 0).toInt = _ by first | (rw [s5]; omega) | omega)
      refine gicN B X773 at_206 (teq c206_774).2 (pc' := 209) rfl ?_
      refine giconst B X773 at_209 (v := (1 : Int32)) rfl (pc' := 210) rfl ?_
      refine ggoto B X773 (pc' := 214) at_210 (by decide) ?_
      refine gistore B X773 at_214 (Ls' := #[.val (.int p0), .val (.int p1), .val (.int p2), .val (.int p3), .val (.int p4), .val (.int qn), .val (.ref a612), .val (.int (1 : Int32)), .val (.int qk), .val (.int qo), .val (.ref a641), .val (.ref a703), .val (.int (0 : Int32)), .val (.int (omin (2 : Int32) (qn - qk))), .val (.int qj)]) rfl (pc' := 216) rfl ?_
      refine giload B X773 at_216 rfl (pc' := 218) rfl ?_
      have c218_775 : (0 : Int32) = (0 : Int32) := (by decide)
      refine gifY B X773 (pc' := 288) at_218 ((if0 _ _).trans (teq c218_775).1) (by decide) ?_
      refine gaload B X773 at_288 rfl rfl (pc' := 290) rfl ?_
      refine giconst B X773 at_290 (v := (0 : Int32)) rfl (pc' := 291) rfl ?_
      refine gaload B X773 at_291 rfl rfl (pc' := 293) rfl ?_
      refine giconst B X773 at_293 (v := (0 : Int32)) rfl (pc' := 294) rfl ?_
      refine giload B X773 at_294 rfl (pc' := 296) rfl ?_
      refine giconst B X773 at_296 (v := (2 : Int32)) rfl (pc' := 297) rfl ?_
      have hx2 := own_hx2 (kN := jN) y0 y1 (by omega)
      have can2 : Can nN (0 : Int32) (jN - 0) u1 := ⟨by show _ ≤ (u1.ns.getD 0 0).toInt; omega, by show (u1.ns.getD 0 0).toInt ≤ _; omega⟩
      have d0 : inR (max nN 1) (0 : Int32) := own_lit (a := 0) rfl (by omega)
      have d1 : inR (max nN 1) u1.cnt := by rw [cnt1]; exact own_lit (a := 2) rfl (by omega)
      have S2 := own_split (rd := (2 : Int32)) (fr := (0 : Int32)) (by omega) k1 d0 can2 hx2 d1 rfl hj (Nat.zero_le _) (ci := 0) (cc := 2) rfl (by rw [cnt1]; rfl) (by decide)
      have hf_297 : ∀ x ∈ [a612, aE625, aL626, aK627, aS628, aN629, aP630, aR631], x ≠ a703 := (allS n708 (allS n709 (allS n710 (allS n711 (allS n712 (allS n713 (allS n714 (allS n715 all0))))))))
      have A_297 : PA Z h759 a612 aE625 aL626 aK627 aS628 aN629 aP630 aR631 u1 := ⟨A766.1, A766.2.1, A766.2.2.1, A766.2.2.2.1, A766.2.2.2.2.1, A766.2.2.2.2.2.1, A766.2.2.2.2.2.2.1, A766.2.2.2.2.2.2.2⟩
      refine gcallV B X773 A766.1.1 (hw _ (List.mem_of_getElem? (i := 36) rfl)) (hw _ (List.mem_of_getElem? (i := 37) rfl)) (hw _ (List.mem_of_getElem? (i := 39) rfl)) (hw _ (List.mem_of_getElem? (i := 38) rfl)) (hw _ (List.mem_of_getElem? (i := 2) rfl)) (hw _ (List.mem_of_getElem? (i := 40) rfl)) rfl (by decide) (mt5 l Z a0 hw a612 (0 : Int32) a703 (0 : Int32) qj (2 : Int32) aE625 aL626 aK627 aS628 aN629 aP630 aR631 u1 ([((qo + qk) % qn), (((qo + qk) + (1 : Int32)) % qn)] : List Int32) nN (max nN 1) 0 jN h759 A_297 F765 ND632 hf_297 k1 can2 hx2 d0 rfl hj (Nat.zero_le _) (by show jN ≤ 2; omega) d1) pd__I_IIII_I rfl (argsL := [(.int (0 : Int32)), (.ref a703), (.int (0 : Int32)), (.int qj), (.int (2 : Int32))]) (st := []) rfl rfl (W := 0) (Nat.le_of_eq rfl) (by decide) (by decide) (by decide) (by decide) (allS (Or.inr z_a612) (allS (Or.inr z_aE625) (allS (Or.inr z_aL626) (allS (Or.inr z_aK627) (allS (Or.inr z_aS628) (allS (Or.inr z_aN629) (allS (Or.inr z_aP630) (allS (Or.inr z_aR631) all0)))))))) at_297 (pc' := 300) rfl fun T776 h777 v778 X779 K780 Q781 => ?_
      have F782 := F764.keep K780 (ninS (Ne.symm n646) (ninS (Ne.symm n647) (ninS (Ne.symm n648) (ninS (Ne.symm n649) (ninS (Ne.symm n650) (ninS (Ne.symm n651) (ninS (Ne.symm n652) (ninS (Ne.symm n653) nin0))))))))
      have F783 := F765.keep K780 (ninS (Ne.symm n708) (ninS (Ne.symm n709) (ninS (Ne.symm n710) (ninS (Ne.symm n711) (ninS (Ne.symm n712) (ninS (Ne.symm n713) (ninS (Ne.symm n714) (ninS (Ne.symm n715) nin0))))))))
      obtain ⟨rfl, A784⟩ := Q781
      generalize (oSplit (0 : Int32) ([((qo + qk) % qn), (((qo + qk) + (1 : Int32)) % qn)] : List Int32) (0 : Int32) qj (2 : Int32) 0 jN u1) = u2 at A784 S2
      obtain ⟨k2, cnt2, t1, t2, t3, t4, t5⟩ := S2
      have t4 := t4 1 (by decide) (by decide)
      have t50 := (t5 0 (by decide)).trans s5
      have t51 := t5 1 (by decide)
      have hnkj : (qn - qk - qj).toInt = ((nN - kN - jN : Nat) : Int) := own_subN hnk hj (by omega) (by omega)
      show Go p e below _ _ _ _ T776 (mkF m 300 #[.val (.int p0), .val (.int p1), .val (.int p2), .val (.int p3), .val (.int p4), .val (.int qn), .val (.ref a612), .val (.int (1 : Int32)), .val (.int qk), .val (.int qo), .val (.ref a641), .val (.ref a703), .val (.int (0 : Int32)), .val (.int (omin (2 : Int32) (qn - qk))), .val (.int qj)] [(.int u1.cnt)])
      refine gpop B X779 at_300 rfl (pc' := 301) rfl ?_
      refine giload B X779 at_301 rfl (pc' := 303) rfl ?_
      have c303_786 : ¬ ((1 : Int32) = (0 : Int32)) := (by decide)
      refine gifN B X779 at_303 ((if0 _ _).trans (feq c303_786).1) (pc' := 306) rfl ?_
      refine gaload B X779 at_306 rfl rfl (pc' := 308) rfl ?_
      refine giconst B X779 at_308 (v := (0 : Int32)) rfl (pc' := 309) rfl ?_
      refine gcallV B X779 A784.1.1 (hw _ (List.mem_of_getElem? (i := 30) rfl)) (hw _ (List.mem_of_getElem? (i := 31) rfl)) (hw _ (List.mem_of_getElem? (i := 33) rfl)) (hw _ (List.mem_of_getElem? (i := 32) rfl)) (hw _ (List.mem_of_getElem? (i := 2) rfl)) (hw _ (List.mem_of_getElem? (i := 34) rfl)) rfl (by decide) (mtsize l Z a0 hw a612 (0 : Int32) aE625 aL626 aK627 aS628 aN629 aP630 aR631 u2 nN (max nN 1) h777 ⟨A784.1, A784.2.1, A784.2.2.1, A784.2.2.2.1, A784.2.2.2.2.1, A784.2.2.2.2.2.1, A784.2.2.2.2.2.2.1, A784.2.2.2.2.2.2.2⟩ k2 (own_lit (a := 0) rfl (by omega))) pd__I_I rfl (argsL := [(.int (0 : Int32))]) (st := []) rfl rfl (W := 0) (Nat.le_of_eq rfl) (by decide) (by decide) (by decide) (by decide) (fun x q => nomatch q) at_309 (pc' := 312) rfl (pureG rfl rfl fun T787 X788 => ?_)
      refine giload B X788 at_312 rfl (pc' := 314) rfl ?_
      refine giload B X788 at_314 rfl (pc' := 316) rfl ?_
      refine gisub B X788 at_316 rfl (pc' := 317) rfl ?_
      refine giload B X788 at_317 rfl (pc' := 319) rfl ?_
      refine gisub B X788 at_319 rfl (pc' := 320) rfl ?_
      have c320_789 : (u2.ns.getD (0 : Int32).toNatClampNeg 0 - u2.ss.getD (0 : Int32).toNatClampNeg 0) = ((qn - qk) - qj) := own_eqsub (show (u2.ns.getD 0 0).toInt - (u2.ss.getD 0 0).toInt = _ by (try simp only [t4, t50, t51]); omega)
      refine gicN B X788 at_320 (teq c320_789).2 (pc' := 323) rfl ?_
      refine gaload B X788 at_323 rfl rfl (pc' := 325) rfl ?_
      refine giconst B X788 at_325 (v := (1 : Int32)) rfl (pc' := 326) rfl ?_
      refine gcallV B X788 A784.1.1 (hw _ (List.mem_of_getElem? (i := 30) rfl)) (hw _ (List.mem_of_getElem? (i := 31) rfl)) (hw _ (List.mem_of_getElem? (i := 33) rfl)) (hw _ (List.mem_of_getElem? (i := 32) rfl)) (hw _ (List.mem_of_getElem? (i := 2) rfl)) (hw _ (List.mem_of_getElem? (i := 34) rfl)) rfl (by decide) (mtsize l Z a0 hw a612 (1 : Int32) aE625 aL626 aK627 aS628 aN629 aP630 aR631 u2 nN (max nN 1) h777 ⟨A784.1, A784.2.1, A784.2.2.1, A784.2.2.2.1, A784.2.2.2.2.1, A784.2.2.2.2.2.1, A784.2.2.2.2.2.2.1, A784.2.2.2.2.2.2.2⟩ k2 (own_lit (a := 1) rfl (by omega))) pd__I_I rfl (argsL := [(.int (1 : Int32))]) (st := []) rfl rfl (W := 0) (Nat.le_of_eq rfl) (by decide) (by decide) (by decide) (by decide) (fun x q => nomatch q) at_326 (pc' := 329) rfl (pureG rfl rfl fun T790 X791 => ?_)
      refine giload B X791 at_329 rfl (pc' := 331) rfl ?_
      have c331_792 : (u2.ns.getD (1 : Int32).toNatClampNeg 0 - u2.ss.getD (1 : Int32).toNatClampNeg 0) = qk := own_eqsub (show (u2.ns.getD 1 0).toInt - (u2.ss.getD 1 0).toInt = _ by (try simp only [t4, t50, t51]); omega)
      refine gicN B X791 at_331 (teq c331_792).2 (pc' := 334) rfl ?_
      refine gaload B X791 at_334 rfl rfl (pc' := 336) rfl ?_
      refine giconst B X791 at_336 (v := (2 : Int32)) rfl (pc' := 337) rfl ?_
      refine gcallV B X791 A784.1.1 (hw _ (List.mem_of_getElem? (i := 30) rfl)) (hw _ (List.mem_of_getElem? (i := 31) rfl)) (hw _ (List.mem_of_getElem? (i := 33) rfl)) (hw _ (List.mem_of_getElem? (i := 32) rfl)) (hw _ (List.mem_of_getElem? (i := 2) rfl)) (hw _ (List.mem_of_getElem? (i := 34) rfl)) rfl (by decide) (mtsize l Z a0 hw a612 (2 : Int32) aE625 aL626 aK627 aS628 aN629 aP630 aR631 u2 nN (max nN 1) h777 ⟨A784.1, A784.2.1, A784.2.2.1, A784.2.2.2.1, A784.2.2.2.2.1, A784.2.2.2.2.2.1, A784.2.2.2.2.2.2.1, A784.2.2.2.2.2.2.2⟩ k2 (own_lit (a := 2) rfl (by omega))) pd__I_I rfl (argsL := [(.int (2 : Int32))]) (st := []) rfl rfl (W := 0) (Nat.le_of_eq rfl) (by decide) (by decide) (by decide) (by decide) (fun x q => nomatch q) at_337 (pc' := 340) rfl (pureG rfl rfl fun T793 X794 => ?_)
      refine giload B X794 at_340 rfl (pc' := 342) rfl ?_
      have c342_795 : (u2.ns.getD (2 : Int32).toNatClampNeg 0 - u2.ss.getD (2 : Int32).toNatClampNeg 0) = qj := own_eqsub (show (u2.ns.getD 2 0).toInt - (u2.ss.getD 2 0).toInt = _ by (try simp only [t4, t50, t51]); omega)
      refine gicN B X794 at_342 (teq c342_795).2 (pc' := 345) rfl ?_
      refine giconst B X794 at_345 (v := (1 : Int32)) rfl (pc' := 346) rfl ?_
      refine ggoto B X794 (pc' := 350) at_346 (by decide) ?_
      refine gistore B X794 at_350 (Ls' := #[.val (.int p0), .val (.int p1), .val (.int p2), .val (.int p3), .val (.int p4), .val (.int qn), .val (.ref a612), .val (.int (1 : Int32)), .val (.int qk), .val (.int qo), .val (.ref a641), .val (.ref a703), .val (.int (0 : Int32)), .val (.int (omin (2 : Int32) (qn - qk))), .val (.int qj)]) rfl (pc' := 352) rfl ?_
      refine giload B X794 at_352 rfl (pc' := 354) rfl ?_
      exact gretN B X794 (z' := (1 : Int32)) (by simp) (rfl) at_354 (by decide) (by decide) (rfl)
    · refine gifN B X742 at_124 ((if0 _ _).trans (feq c124_754).1) (pc' := 127) rfl ?_
      refine giconst B X742 at_127 (v := (1 : Int32)) rfl (pc' := 128) rfl ?_
      refine ggoto B X742 (pc' := 132) at_128 (by decide) ?_
      refine gistore B X742 at_132 (Ls' := #[.val (.int p0), .val (.int p1), .val (.int p2), .val (.int p3), .val (.int p4), .val (.int qn), .val (.ref a612), .val (.int (1 : Int32)), .val (.int qk), .val (.int qo), .val (.ref a641), .val (.ref a703), .val (.int (1 : Int32)), .unset, .unset]) rfl (pc' := 134) rfl ?_
      refine giload B X742 at_134 rfl (pc' := 136) rfl ?_
      have c136_796 : ¬ ((1 : Int32) = (0 : Int32)) := (by decide)
      refine gifN B X742 at_136 ((if0 _ _).trans (feq c136_796).1) (pc' := 139) rfl ?_
      refine giload B X742 at_139 rfl (pc' := 141) rfl ?_
      refine ggoto B X742 (pc' := 153) at_141 (by decide) ?_
      refine gistore B X742 at_153 (Ls' := #[.val (.int p0), .val (.int p1), .val (.int p2), .val (.int p3), .val (.int p4), .val (.int qn), .val (.ref a612), .val (.int (1 : Int32)), .val (.int qk), .val (.int qo), .val (.ref a641), .val (.ref a703), .val (.int (1 : Int32)), .val (.int qk), .unset]) rfl (pc' := 155) rfl ?_
      have hr1 : (qk + (1 : Int32)).toInt = ((kN + 1 : Nat) : Int) := own_addN hk (b := 1) rfl (by omega)
      refine giloadN B X742 at_155 rfl (pc' := 156) rfl ?_
      refine gldc B X742 (v := (2147483647 : Int32)) (hw _ (List.mem_of_getElem? (i := 35) rfl)) at_156 (pc' := 158) rfl ?_
      refine giand B X742 at_158 rfl (pc' := 159) rfl ?_
      refine giload B X742 at_159 rfl (pc' := 161) rfl ?_
      refine giconst B X742 at_161 (v := (1 : Int32)) rfl (pc' := 162) rfl ?_
      refine giadd B X742 at_162 rfl (pc' := 163) rfl ?_
      refine girem B X742 at_163 (own_nz hr1 (by omega)) rfl (pc' := 164) rfl ?_
      generalize e_qj : ((p3 &&& (2147483647 : Int32)) % (qk + (1 : Int32))) = qj
      refine gistore B X742 at_164 (Ls' := #[.val (.int p0), .val (.int p1), .val (.int p2), .val (.int p3), .val (.int p4), .val (.int qn), .val (.ref a612), .val (.int (1 : Int32)), .val (.int qk), .val (.int qo), .val (.ref a641), .val (.ref a703), .val (.int (1 : Int32)), .val (.int qk), .val (.int qj)]) rfl (pc' := 166) rfl ?_
      have xj : inR (kN + 1) qj := by rw [← e_qj]; exact own_remR hr1 (by omega) (own_m31 p3)
      obtain ⟨jN, hj, hjN⟩ := own_toN xj
      refine gaload B X742 at_166 rfl rfl (pc' := 168) rfl ?_
      refine giconst B X742 at_168 (v := (0 : Int32)) rfl (pc' := 169) rfl ?_
      refine gaload B X742 at_169 rfl rfl (pc' := 171) rfl ?_
      refine giconst B X742 at_171 (v := (0 : Int32)) rfl (pc' := 172) rfl ?_
      refine giload B X742 at_172 rfl (pc' := 174) rfl ?_
      refine giconst B X742 at_174 (v := (1 : Int32)) rfl (pc' := 175) rfl ?_
      have hx1 := own_hx3 (kN := kN) xo x1 x2 hk3
      have can1 : Can nN (0 : Int32) (kN - 0) (oS0 qn nN) := ⟨by show _ ≤ ((oS0 qn nN).ns.getD 0 0).toInt; rw [n00, hn]; omega, by show ((oS0 qn nN).ns.getD 0 0).toInt ≤ _; rw [n00, hn]; omega⟩
      have c0 : inR (max nN 1) (0 : Int32) := own_lit (a := 0) rfl (by omega)
      have c1 : inR (max nN 1) (oS0 qn nN).cnt := own_lit (x := 1) (a := 1) rfl (by omega)
      have S1 := own_split (rd := (1 : Int32)) (fr := (0 : Int32)) (by omega) k0 c0 can1 hx1 c1 rfl hk (Nat.zero_le _) (ci := 0) (cc := 1) rfl rfl (by decide)
      have hf_175 : ∀ x ∈ [a612, aE625, aL626, aK627, aS628, aN629, aP630, aR631], x ≠ a641 := (allS n646 (allS n647 (allS n648 (allS n649 (allS n650 (allS n651 (allS n652 (allS n653 all0))))))))
      have A_175 : PA Z h741 a612 aE625 aL626 aK627 aS628 aN629 aP630 aR631 (oS0 qn nN) := ⟨F745, F746, F747, F748, F749, F750, F751, F752⟩
      refine gcallV B X742 F745.1 (hw _ (List.mem_of_getElem? (i := 36) rfl)) (hw _ (List.mem_of_getElem? (i := 37) rfl)) (hw _ (List.mem_of_getElem? (i := 39) rfl)) (hw _ (List.mem_of_getElem? (i := 38) rfl)) (hw _ (List.mem_of_getElem? (i := 2) rfl)) (hw _ (List.mem_of_getElem? (i := 40) rfl)) rfl (by decide) (mt5 l Z a0 hw a612 (0 : Int32) a641 (0 : Int32) qk (1 : Int32) aE625 aL626 aK627 aS628 aN629 aP630 aR631 (oS0 qn nN) ([qo, ((qo + (1 : Int32)) % qn), ((qo + (2 : Int32)) % qn)] : List Int32) nN (max nN 1) 0 kN h741 A_175 F753 ND632 hf_175 k0 can1 hx1 c0 rfl hk (Nat.zero_le _) hk3 c1) pd__I_IIII_I rfl (argsL := [(.int (0 : Int32)), (.ref a641), (.int (0 : Int32)), (.int qk), (.int (1 : Int32))]) (st := []) rfl rfl (W := 0) (Nat.le_of_eq rfl) (by decide) (by decide) (by decide) (by decide) (allS (Or.inr z_a612) (allS (Or.inr z_aE625) (allS (Or.inr z_aL626) (allS (Or.inr z_aK627) (allS (Or.inr z_aS628) (allS (Or.inr z_aN629) (allS (Or.inr z_aP630) (allS (Or.inr z_aR631) all0)))))))) at_175 (pc' := 178) rfl fun T797 h798 v799 X800 K801 Q802 => ?_
      have F803 := F753.keep K801 (ninS (Ne.symm n646) (ninS (Ne.symm n647) (ninS (Ne.symm n648) (ninS (Ne.symm n649) (ninS (Ne.symm n650) (ninS (Ne.symm n651) (ninS (Ne.symm n652) (ninS (Ne.symm n653) nin0))))))))
      have F804 := A744.keep K801 (ninS (Ne.symm n708) (ninS (Ne.symm n709) (ninS (Ne.symm n710) (ninS (Ne.symm n711) (ninS (Ne.symm n712) (ninS (Ne.symm n713) (ninS (Ne.symm n714) (ninS (Ne.symm n715) nin0))))))))
      obtain ⟨rfl, A805⟩ := Q802
      generalize (oSplit (0 : Int32) ([qo, ((qo + (1 : Int32)) % qn), ((qo + (2 : Int32)) % qn)] : List Int32) (0 : Int32) qk (1 : Int32) 0 kN (oS0 qn nN)) = u1 at A805 S1
      obtain ⟨k1, cnt1, s1, s2, s3, s4, s5⟩ := S1
      rw [n00, hn] at s1 s2 s3
      have s5 := (s5 0 (by decide)).trans s00
      have cnt1 : u1.cnt = 2 := cnt1
      show Go p e below _ _ _ _ T797 (mkF m 178 #[.val (.int p0), .val (.int p1), .val (.int p2), .val (.int p3), .val (.int p4), .val (.int qn), .val (.ref a612), .val (.int (1 : Int32)), .val (.int qk), .val (.int qo), .val (.ref a641), .val (.ref a703), .val (.int (1 : Int32)), .val (.int qk), .val (.int qj)] [(.int (oS0 qn nN).cnt)])
      refine gpop B X800 at_178 rfl (pc' := 179) rfl ?_
      refine giload B X800 at_179 rfl (pc' := 181) rfl ?_
      have c181_807 : ¬ ((1 : Int32) = (0 : Int32)) := (by decide)
      refine gifN B X800 at_181 ((if0 _ _).trans (feq c181_807).1) (pc' := 184) rfl ?_
      refine gaload B X800 at_184 rfl rfl (pc' := 186) rfl ?_
      refine giconst B X800 at_186 (v := (0 : Int32)) rfl (pc' := 187) rfl ?_
      refine gcallV B X800 A805.1.1 (hw _ (List.mem_of_getElem? (i := 30) rfl)) (hw _ (List.mem_of_getElem? (i := 31) rfl)) (hw _ (List.mem_of_getElem? (i := 33) rfl)) (hw _ (List.mem_of_getElem? (i := 32) rfl)) (hw _ (List.mem_of_getElem? (i := 2) rfl)) (hw _ (List.mem_of_getElem? (i := 34) rfl)) rfl (by decide) (mtsize l Z a0 hw a612 (0 : Int32) aE625 aL626 aK627 aS628 aN629 aP630 aR631 u1 nN (max nN 1) h798 ⟨A805.1, A805.2.1, A805.2.2.1, A805.2.2.2.1, A805.2.2.2.2.1, A805.2.2.2.2.2.1, A805.2.2.2.2.2.2.1, A805.2.2.2.2.2.2.2⟩ k1 (own_lit (a := 0) rfl (by omega))) pd__I_I rfl (argsL := [(.int (0 : Int32))]) (st := []) rfl rfl (W := 0) (Nat.le_of_eq rfl) (by decide) (by decide) (by decide) (by decide) (fun x q => nomatch q) at_187 (pc' := 190) rfl (pureG rfl rfl fun T808 X809 => ?_)
      refine giload B X809 at_190 rfl (pc' := 192) rfl ?_
      refine giload B X809 at_192 rfl (pc' := 194) rfl ?_
      refine gisub B X809 at_194 rfl (pc' := 195) rfl ?_
      have c195_810 : (u1.ns.getD (0 : Int32).toNatClampNeg 0 - u1.ss.getD (0 : Int32).toNatClampNeg 0) = (qn - qk) := own_eqsub (show (u1.ns.getD 0 0).toInt - (u1.ss.getD 0 0).toInt = _ by first | (rw [s5]; omega) | omega)
      refine gicN B X809 at_195 (teq c195_810).2 (pc' := 198) rfl ?_
      refine gaload B X809 at_198 rfl rfl (pc' := 200) rfl ?_
      refine giconst B X809 at_200 (v := (1 : Int32)) rfl (pc' := 201) rfl ?_
      refine gcallV B X809 A805.1.1 (hw _ (List.mem_of_getElem? (i := 30) rfl)) (hw _ (List.mem_of_getElem? (i := 31) rfl)) (hw _ (List.mem_of_getElem? (i := 33) rfl)) (hw _ (List.mem_of_getElem? (i := 32) rfl)) (hw _ (List.mem_of_getElem? (i := 2) rfl)) (hw _ (List.mem_of_getElem? (i := 34) rfl)) rfl (by decide) (mtsize l Z a0 hw a612 (1 : Int32) aE625 aL626 aK627 aS628 aN629 aP630 aR631 u1 nN (max nN 1) h798 ⟨A805.1, A805.2.1, A805.2.2.1, A805.2.2.2.1, A805.2.2.2.2.1, A805.2.2.2.2.2.1, A805.2.2.2.2.2.2.1, A805.2.2.2.2.2.2.2⟩ k1 (own_lit (a := 1) rfl (by omega))) pd__I_I rfl (argsL := [(.int (1 : Int32))]) (st := []) rfl rfl (W := 0) (Nat.le_of_eq rfl) (by decide) (by decide) (by decide) (by decide) (fun x q => nomatch q) at_201 (pc' := 204) rfl (pureG rfl rfl fun T811 X812 => ?_)
      refine giload B X812 at_204 rfl (pc' := 206) rfl ?_
      have c206_813 : (u1.ns.getD (1 : Int32).toNatClampNeg 0 - u1.ss.getD (1 : Int32).toNatClampNeg 0) = qk := own_eqsub (show (u1.ns.getD 1 0).toInt - (u1.ss.getD 1 0).toInt = _ by first | (rw [s5]; omega) | omega)
      refine gicN B X812 at_206 (teq c206_813).2 (pc' := 209) rfl ?_
      refine giconst B X812 at_209 (v := (1 : Int32)) rfl (pc' := 210) rfl ?_
      refine ggoto B X812 (pc' := 214) at_210 (by decide) ?_
      refine gistore B X812 at_214 (Ls' := #[.val (.int p0), .val (.int p1), .val (.int p2), .val (.int p3), .val (.int p4), .val (.int qn), .val (.ref a612), .val (.int (1 : Int32)), .val (.int qk), .val (.int qo), .val (.ref a641), .val (.ref a703), .val (.int (1 : Int32)), .val (.int qk), .val (.int qj)]) rfl (pc' := 216) rfl ?_
      refine giload B X812 at_216 rfl (pc' := 218) rfl ?_
      have c218_814 : ¬ ((1 : Int32) = (0 : Int32)) := (by decide)
      refine gifN B X812 at_218 ((if0 _ _).trans (feq c218_814).1) (pc' := 221) rfl ?_
      refine gaload B X812 at_221 rfl rfl (pc' := 223) rfl ?_
      refine giconst B X812 at_223 (v := (1 : Int32)) rfl (pc' := 224) rfl ?_
      refine gaload B X812 at_224 rfl rfl (pc' := 226) rfl ?_
      refine giconst B X812 at_226 (v := (0 : Int32)) rfl (pc' := 227) rfl ?_
      refine giload B X812 at_227 rfl (pc' := 229) rfl ?_
      refine giconst B X812 at_229 (v := (2 : Int32)) rfl (pc' := 230) rfl ?_
      have hx2 := own_hx3 (kN := jN) xo x1 x2 (by omega)
      have can2 : Can nN (1 : Int32) (jN - 0) u1 := ⟨by show _ ≤ (u1.ns.getD 1 0).toInt; omega, by show (u1.ns.getD 1 0).toInt ≤ _; omega⟩
      have d0 : inR (max nN 1) (1 : Int32) := own_lit (a := 1) rfl (by omega)
      have d1 : inR (max nN 1) u1.cnt := by rw [cnt1]; exact own_lit (a := 2) rfl (by omega)
      have S2 := own_split (rd := (2 : Int32)) (fr := (0 : Int32)) (by omega) k1 d0 can2 hx2 d1 rfl hj (Nat.zero_le _) (ci := 1) (cc := 2) rfl (by rw [cnt1]; rfl) (by decide)
      have hf_230 : ∀ x ∈ [a612, aE625, aL626, aK627, aS628, aN629, aP630, aR631], x ≠ a641 := (allS n646 (allS n647 (allS n648 (allS n649 (allS n650 (allS n651 (allS n652 (allS n653 all0))))))))
      have A_230 : PA Z h798 a612 aE625 aL626 aK627 aS628 aN629 aP630 aR631 u1 := ⟨A805.1, A805.2.1, A805.2.2.1, A805.2.2.2.1, A805.2.2.2.2.1, A805.2.2.2.2.2.1, A805.2.2.2.2.2.2.1, A805.2.2.2.2.2.2.2⟩
      refine gcallV B X812 A805.1.1 (hw _ (List.mem_of_getElem? (i := 36) rfl)) (hw _ (List.mem_of_getElem? (i := 37) rfl)) (hw _ (List.mem_of_getElem? (i := 39) rfl)) (hw _ (List.mem_of_getElem? (i := 38) rfl)) (hw _ (List.mem_of_getElem? (i := 2) rfl)) (hw _ (List.mem_of_getElem? (i := 40) rfl)) rfl (by decide) (mt5 l Z a0 hw a612 (1 : Int32) a641 (0 : Int32) qj (2 : Int32) aE625 aL626 aK627 aS628 aN629 aP630 aR631 u1 ([qo, ((qo + (1 : Int32)) % qn), ((qo + (2 : Int32)) % qn)] : List Int32) nN (max nN 1) 0 jN h798 A_230 F803 ND632 hf_230 k1 can2 hx2 d0 rfl hj (Nat.zero_le _) (by show jN ≤ 3; omega) d1) pd__I_IIII_I rfl (argsL := [(.int (1 : Int32)), (.ref a641), (.int (0 : Int32)), (.int qj), (.int (2 : Int32))]) (st := []) rfl rfl (W := 0) (Nat.le_of_eq rfl) (by decide) (by decide) (by decide) (by decide) (allS (Or.inr z_a612) (allS (Or.inr z_aE625) (allS (Or.inr z_aL626) (allS (Or.inr z_aK627) (allS (Or.inr z_aS628) (allS (Or.inr z_aN629) (allS (Or.inr z_aP630) (allS (Or.inr z_aR631) all0)))))))) at_230 (pc' := 233) rfl fun T815 h816 v817 X818 K819 Q820 => ?_
      have F821 := F803.keep K819 (ninS (Ne.symm n646) (ninS (Ne.symm n647) (ninS (Ne.symm n648) (ninS (Ne.symm n649) (ninS (Ne.symm n650) (ninS (Ne.symm n651) (ninS (Ne.symm n652) (ninS (Ne.symm n653) nin0))))))))
      have F822 := F804.keep K819 (ninS (Ne.symm n708) (ninS (Ne.symm n709) (ninS (Ne.symm n710) (ninS (Ne.symm n711) (ninS (Ne.symm n712) (ninS (Ne.symm n713) (ninS (Ne.symm n714) (ninS (Ne.symm n715) nin0))))))))
      obtain ⟨rfl, A823⟩ := Q820
      generalize (oSplit (1 : Int32) ([qo, ((qo + (1 : Int32)) % qn), ((qo + (2 : Int32)) % qn)] : List Int32) (0 : Int32) qj (2 : Int32) 0 jN u1) = u2 at A823 S2
      obtain ⟨k2, cnt2, t1, t2, t3, t4, t5⟩ := S2
      have t4 := t4 0 (by decide) (by decide)
      have t50 := (t5 0 (by decide)).trans s5
      have t51 := t5 1 (by decide)
      have hkj : (qk - qj).toInt = ((kN - jN : Nat) : Int) := own_subN hk hj (by omega) (by omega)
      show Go p e below _ _ _ _ T815 (mkF m 233 #[.val (.int p0), .val (.int p1), .val (.int p2), .val (.int p3), .val (.int p4), .val (.int qn), .val (.ref a612), .val (.int (1 : Int32)), .val (.int qk), .val (.int qo), .val (.ref a641), .val (.ref a703), .val (.int (1 : Int32)), .val (.int qk), .val (.int qj)] [(.int u1.cnt)])
      refine gpop B X818 at_233 rfl (pc' := 234) rfl ?_
      refine giload B X818 at_234 rfl (pc' := 236) rfl ?_
      have c236_825 : ¬ ((1 : Int32) = (0 : Int32)) := (by decide)
      refine gifN B X818 at_236 ((if0 _ _).trans (feq c236_825).1) (pc' := 239) rfl ?_
      refine gaload B X818 at_239 rfl rfl (pc' := 241) rfl ?_
      refine giconst B X818 at_241 (v := (0 : Int32)) rfl (pc' := 242) rfl ?_
      refine gcallV B X818 A823.1.1 (hw _ (List.mem_of_getElem? (i := 30) rfl)) (hw _ (List.mem_of_getElem? (i := 31) rfl)) (hw _ (List.mem_of_getElem? (i := 33) rfl)) (hw _ (List.mem_of_getElem? (i := 32) rfl)) (hw _ (List.mem_of_getElem? (i := 2) rfl)) (hw _ (List.mem_of_getElem? (i := 34) rfl)) rfl (by decide) (mtsize l Z a0 hw a612 (0 : Int32) aE625 aL626 aK627 aS628 aN629 aP630 aR631 u2 nN (max nN 1) h816 ⟨A823.1, A823.2.1, A823.2.2.1, A823.2.2.2.1, A823.2.2.2.2.1, A823.2.2.2.2.2.1, A823.2.2.2.2.2.2.1, A823.2.2.2.2.2.2.2⟩ k2 (own_lit (a := 0) rfl (by omega))) pd__I_I rfl (argsL := [(.int (0 : Int32))]) (st := []) rfl rfl (W := 0) (Nat.le_of_eq rfl) (by decide) (by decide) (by decide) (by decide) (fun x q => nomatch q) at_242 (pc' := 245) rfl (pureG rfl rfl fun T826 X827 => ?_)
      refine giload B X827 at_245 rfl (pc' := 247) rfl ?_
      refine giload B X827 at_247 rfl (pc' := 249) rfl ?_
      refine gisub B X827 at_249 rfl (pc' := 250) rfl ?_
      have c250_828 : (u2.ns.getD (0 : Int32).toNatClampNeg 0 - u2.ss.getD (0 : Int32).toNatClampNeg 0) = (qn - qk) := own_eqsub (show (u2.ns.getD 0 0).toInt - (u2.ss.getD 0 0).toInt = _ by (try simp only [t4, t50, t51]); omega)
      refine gicN B X827 at_250 (teq c250_828).2 (pc' := 253) rfl ?_
      refine gaload B X827 at_253 rfl rfl (pc' := 255) rfl ?_
      refine giconst B X827 at_255 (v := (1 : Int32)) rfl (pc' := 256) rfl ?_
      refine gcallV B X827 A823.1.1 (hw _ (List.mem_of_getElem? (i := 30) rfl)) (hw _ (List.mem_of_getElem? (i := 31) rfl)) (hw _ (List.mem_of_getElem? (i := 33) rfl)) (hw _ (List.mem_of_getElem? (i := 32) rfl)) (hw _ (List.mem_of_getElem? (i := 2) rfl)) (hw _ (List.mem_of_getElem? (i := 34) rfl)) rfl (by decide) (mtsize l Z a0 hw a612 (1 : Int32) aE625 aL626 aK627 aS628 aN629 aP630 aR631 u2 nN (max nN 1) h816 ⟨A823.1, A823.2.1, A823.2.2.1, A823.2.2.2.1, A823.2.2.2.2.1, A823.2.2.2.2.2.1, A823.2.2.2.2.2.2.1, A823.2.2.2.2.2.2.2⟩ k2 (own_lit (a := 1) rfl (by omega))) pd__I_I rfl (argsL := [(.int (1 : Int32))]) (st := []) rfl rfl (W := 0) (Nat.le_of_eq rfl) (by decide) (by decide) (by decide) (by decide) (fun x q => nomatch q) at_256 (pc' := 259) rfl (pureG rfl rfl fun T829 X830 => ?_)
      refine giload B X830 at_259 rfl (pc' := 261) rfl ?_
      refine giload B X830 at_261 rfl (pc' := 263) rfl ?_
      refine gisub B X830 at_263 rfl (pc' := 264) rfl ?_
      have c264_831 : (u2.ns.getD (1 : Int32).toNatClampNeg 0 - u2.ss.getD (1 : Int32).toNatClampNeg 0) = (qk - qj) := own_eqsub (show (u2.ns.getD 1 0).toInt - (u2.ss.getD 1 0).toInt = _ by (try simp only [t4, t50, t51]); omega)
      refine gicN B X830 at_264 (teq c264_831).2 (pc' := 267) rfl ?_
      refine gaload B X830 at_267 rfl rfl (pc' := 269) rfl ?_
      refine giconst B X830 at_269 (v := (2 : Int32)) rfl (pc' := 270) rfl ?_
      refine gcallV B X830 A823.1.1 (hw _ (List.mem_of_getElem? (i := 30) rfl)) (hw _ (List.mem_of_getElem? (i := 31) rfl)) (hw _ (List.mem_of_getElem? (i := 33) rfl)) (hw _ (List.mem_of_getElem? (i := 32) rfl)) (hw _ (List.mem_of_getElem? (i := 2) rfl)) (hw _ (List.mem_of_getElem? (i := 34) rfl)) rfl (by decide) (mtsize l Z a0 hw a612 (2 : Int32) aE625 aL626 aK627 aS628 aN629 aP630 aR631 u2 nN (max nN 1) h816 ⟨A823.1, A823.2.1, A823.2.2.1, A823.2.2.2.1, A823.2.2.2.2.1, A823.2.2.2.2.2.1, A823.2.2.2.2.2.2.1, A823.2.2.2.2.2.2.2⟩ k2 (own_lit (a := 2) rfl (by omega))) pd__I_I rfl (argsL := [(.int (2 : Int32))]) (st := []) rfl rfl (W := 0) (Nat.le_of_eq rfl) (by decide) (by decide) (by decide) (by decide) (fun x q => nomatch q) at_270 (pc' := 273) rfl (pureG rfl rfl fun T832 X833 => ?_)
      refine giload B X833 at_273 rfl (pc' := 275) rfl ?_
      have c275_834 : (u2.ns.getD (2 : Int32).toNatClampNeg 0 - u2.ss.getD (2 : Int32).toNatClampNeg 0) = qj := own_eqsub (show (u2.ns.getD 2 0).toInt - (u2.ss.getD 2 0).toInt = _ by (try simp only [t4, t50, t51]); omega)
      refine gicN B X833 at_275 (teq c275_834).2 (pc' := 278) rfl ?_
      refine giconst B X833 at_278 (v := (1 : Int32)) rfl (pc' := 279) rfl ?_
      refine ggoto B X833 (pc' := 283) at_279 (by decide) ?_
      refine gistore B X833 at_283 (Ls' := #[.val (.int p0), .val (.int p1), .val (.int p2), .val (.int p3), .val (.int p4), .val (.int qn), .val (.ref a612), .val (.int (1 : Int32)), .val (.int qk), .val (.int qo), .val (.ref a641), .val (.ref a703), .val (.int (1 : Int32)), .val (.int qk), .val (.int qj)]) rfl (pc' := 285) rfl ?_
      refine ggoto B X833 (pc' := 352) at_285 (by decide) ?_
      refine giload B X833 at_352 rfl (pc' := 354) rfl ?_
      exact gretN B X833 (z' := (1 : Int32)) (by simp) (rfl) at_354 (by decide) (by decide) (rfl)
set_option maxRecDepth 65536 in
set_option maxHeartbeats 4000000 in
theorem comes_1 {Post : Tables → Env → Array Value → State → Outcome → State → Prop} (hpost : ∀ tb e args s v u, (limb_1_1.after args s (.returned v) u = true ∧ limb_1_2.after args s (.returned v) u = true ∧ True) → FrameEnd s (.returned v) u (Jvm.fieldLocs frame_1_writes args s ++ Jvm.arrayLocs frame_1_arrays args s ++ Jvm.staticLocs frame_1_statics s) 32 320 → Post tb e args s (.returned v) u) :
    ArmFor flags0 classFile x code maxLocals ret World_1 tables_1 room_1 Calls_1 rest_1 Pre_1 Post := by
  intro l hfl _ _ p e ha hc hk s m args below hf hA hF happ hP
  obtain ⟨hcalls, hrest, hpre⟩ := hP
  obtain ⟨-, -, -, hnamed, -, -, -, hat⟩ := (Spec.applies_iff hf).mp happ
  obtain ⟨hg, hn⟩ := and_e (Cond.before_iff.mp (show (Jvm.Cond.and given_1 narrow_1).before args s = true from hpre))
  obtain ⟨g2, g3⟩ := and_e hg
  obtain ⟨g4, g5⟩ := and_e g3
  obtain ⟨g6, g7⟩ := and_e g5
  obtain ⟨g8, g9⟩ := and_e g7
  obtain ⟨g10, g11⟩ := and_e g9
  obtain ⟨w0, w1, w2, w3, w4, rfl⟩ : ∃ w0 w1 w2 w3 w4 : Value, args = #[w0, w1, w2, w3, w4] := by
    have hs : args.size = 5 := by simpa [Cond.value, given_1] using g2
    obtain ⟨L⟩ := args
    match L, hs with
    | [w0, w1, w2, w3, w4], _ => exact ⟨w0, w1, w2, w3, w4, rfl⟩
  have hw := fun d (hd : d ∈ tables_1) => atoms_spec (ws := Jvm.Cond.code x code maxLocals ret :: tables_1) hat d (List.mem_cons_of_mem _ hd)
  obtain ⟨i0, ei0⟩ := is_v g4
  obtain rfl : w0 = (.int i0) := Option.some.inj ei0
  obtain ⟨i1, ei1⟩ := is_v g6
  obtain rfl : w1 = (.int i1) := Option.some.inj ei1
  obtain ⟨i2, ei2⟩ := is_v g8
  obtain rfl : w2 = (.int i2) := Option.some.inj ei2
  obtain ⟨i3, ei3⟩ := is_v g10
  obtain rfl : w3 = (.int i3) := Option.some.inj ei3
  obtain ⟨i4, ei4⟩ := is_v g11
  obtain rfl : w4 = (.int i4) := Option.some.inj ei4
  obtain ⟨n, o, h1, h2, h3, _, L, rfl, ⟨rfl, N, N2⟩, hq⟩ := mt0 l s _ hw i0 i1 i2 i3 i4 s.heap tables_1 p e ha hc hk s m _ below hf ((Spec.applies_iff_loose hf).mp happ).1 ⟨rfl, State.Warmed39.refl s, rfl⟩ trivial
  refine ⟨n, _, h1, h2, h3, hpost _ _ _ _ _ _ ⟨Cond.after_iff.mpr rfl, Cond.after_iff.mpr (eq_i res_at (Term.int_eval (1)) rfl), trivial⟩ ⟨hq.1, hq.2.1, (hq.2.2.sift fun y hy => Or.inr ((N2 y hy).elim (fun z => nomatch z) id)).mono (by decide) (by decide)⟩⟩
theorem main_1_1 : Claimed_1_1 := comes_1 fun _ _ _ _ _ _ h hF => ⟨h.1, hF⟩
theorem main_1_2 : Claimed_1_2 := comes_1 fun _ _ _ _ _ _ h hF => ⟨h.2.1, hF⟩
end Jvm.Pilot.@@N@@
namespace Jvm.Pilot.@@N@@
open Jvm Jvm.ClassFile Sem Op Lib Jvm.Free Jvm.Stand Jvm.Pilot.@@N@@.Jvm.D
/-! MADE BY PROGRAM (witnessworld.py) out of the Statement's table words and the real class files: 10 classes; the members and pool entries that the words name. The judged class is class 1, her method 1. -/
namespace start1
open Jvm.ClassFile
def u (s : String) : CpInfo := .utf8 (stringToUtf16 s)
/-- a pool by its gaps: so many unusable entries, then the entry; so many at the end -/
def gap : Nat → List CpInfo → List CpInfo
  | 0, r => r
  | n + 1, r => .unusable :: gap n r
def poolList (es : List (Nat × CpInfo)) (last : Nat) : List CpInfo := es.foldr (fun e r => gap e.1 (e.2 :: r)) (gap last [])
def pool (es : List (Nat × CpInfo)) (last : Nat) : Array CpInfo := ⟨poolList es last⟩
def fileOf (pool : Array CpInfo) (this : Nat) (attrs : Array Attribute := #[]) (ms : Array MethodInfo := #[]) (fl : Nat := 33) (sup : Nat := 0) (ifs : Array Nat := #[]) (fds : Array FieldInfo := #[]) : ClassFile where
  minorVersion := 0
  majorVersion := 65
  constantPool := pool
  accessFlags := fl
  thisClass := this
  superClass := sup
  interfaces := ifs
  fields := fds
  methods := ms
  attributes := attrs
def plain (name : String) (sup : Option ClassId) : Class where
  name := name
  kind := .ordinary
  loader := none
  accessFlags := 33
  super := sup
  interfaces := #[]
  cf := none
  fields := #[]
  methods := #[]
  instanceTypes := #[]
  staticTypes := #[]
  resolved := #[]
  callSites := []
  init := .initialized
  statics := none
  mirror := none

def pool0 : Array CpInfo := pool [(5, u "<init>"), (0, u "()V"), (1, .class_ 10), (1, u "java/lang/Object")] 113

def k0c0 : Code := { maxStack := 0, maxLocals := 1, code := object_method_1_code, exceptionTable := #[], attributes := #[] }
def k0m0 : Method := { name := "<init>", desc := "()V", sig := { parameters := [], returnType := none }, accessFlags := 1, code := some k0c0 }
/-- java/lang/Object -/
def k0 : Class := { plain "java/lang/Object" none with
  accessFlags := 33
  interfaces := #[]
  cf := some (fileOf pool0 8 #[] #[{ accessFlags := 1, nameIndex := 5, descriptorIndex := 6, attributes := #[] }] 33 0 #[] #[])
  fields := #[]
  methods := #[k0m0]
  instanceTypes := #[]
  staticTypes := #[]
  resolved := Array.replicate 124 none
  statics := none }

def pool1 : Array CpInfo := pool [(2, .class_ 4), (1, u "java/lang/Object"), (0, u "<init>"), (0, u "()V"), (0, .class_ 8), (0, u "com/example/bisim_for_markov/bisimformarkov/analysis/Partition"), (0, .methodref 7 10), (0, .nameAndType 5 11), (0, u "(I)V"), (0, .methodref 7 13), (0, .nameAndType 14 15), (0, u "size"), (0, u "(I)I"), (0, .integer 2147483647), (0, .methodref 18 19), (0, .class_ 20), (0, .nameAndType 21 22), (0, u "java/lang/Math"), (0, u "min"), (0, u "(II)I"), (0, .methodref 7 24), (0, .nameAndType 25 26), (0, u "split"), (0, u "(I[IIII)I"), (0, .class_ 28), (0, u "com/example/bisim_for_markov/bisimformarkov/analysis/PartitionSizePinLaw"), (2, u "law"), (0, u "(IIIII)Z")] 5

def k1m0 : Method := { name := "<init>", desc := "()V", sig := { parameters := [], returnType := none }, accessFlags := 1, code := none }
def k1c1 : Code := { maxStack := 6, maxLocals := 15, code := code, exceptionTable := #[], attributes := #[] }
def k1m1 : Method := { name := "law", desc := "(IIIII)Z", sig := { parameters := [.int, .int, .int, .int, .int], returnType := some .boolean }, accessFlags := 9, code := some k1c1 }
/-- com/example/bisim_for_markov/bisimformarkov/analysis/PartitionSizePinLaw -/
def k1 : Class := { plain "com/example/bisim_for_markov/bisimformarkov/analysis/PartitionSizePinLaw" (some 0) with
  accessFlags := 49
  interfaces := #[]
  cf := some (fileOf pool1 27 #[] #[{ accessFlags := 1, nameIndex := 5, descriptorIndex := 6, attributes := #[] }, { accessFlags := 9, nameIndex := 31, descriptorIndex := 32, attributes := #[] }] 49 2 #[] #[])
  fields := #[]
  methods := #[k1m0, k1m1]
  instanceTypes := #[]
  staticTypes := #[]
  resolved := Array.replicate 38 none
  statics := none }

def pool2 : Array CpInfo := pool [(1, .methodref 2 3), (0, .class_ 4), (0, .nameAndType 5 6), (0, u "java/lang/Object"), (0, u "<init>"), (0, u "()V"), (0, .fieldref 8 9), (0, .class_ 10), (0, .nameAndType 11 12), (0, u "com/example/bisim_for_markov/bisimformarkov/analysis/Partition"), (0, u "elements"), (0, u "[I"), (0, .fieldref 8 14), (0, .nameAndType 15 12), (0, u "location"), (0, .fieldref 8 17), (0, .nameAndType 18 12), (0, u "classes"), (0, .methodref 20 21), (0, .class_ 22), (0, .nameAndType 23 24), (0, u "java/lang/Math"), (0, u "max"), (0, u "(II)I"), (0, .fieldref 8 26), (0, .nameAndType 27 12), (0, u "start"), (0, .fieldref 8 29), (0, .nameAndType 30 12), (0, u "end"), (0, .fieldref 8 32), (0, .nameAndType 33 12), (0, u "parents"), (0, .fieldref 8 35), (0, .nameAndType 36 12), (0, u "rounds"), (0, .fieldref 8 38), (0, .nameAndType 39 40), (0, u "count"), (0, u "I"), (6, u "(I)V"), (4, u "(I)I"), (0, u "size"), (4, u "split"), (0, u "(I[IIII)I")] 2

def k2c0 : Code := { maxStack := 3, maxLocals := 3, code := prog_61_method_1_code, exceptionTable := #[], attributes := #[] }
def k2m0 : Method := { name := "<init>", desc := "(I)V", sig := { parameters := [.int], returnType := none }, accessFlags := 0, code := some k2c0 }
def k2c1 : Code := { maxStack := 3, maxLocals := 2, code := prog_61_method_3_code, exceptionTable := #[], attributes := #[] }
def k2m1 : Method := { name := "size", desc := "(I)I", sig := { parameters := [.int], returnType := some .int }, accessFlags := 0, code := some k2c1 }
def k2c2 : Code := { maxStack := 4, maxLocals := 11, code := prog_61_method_7_code, exceptionTable := #[], attributes := #[] }
def k2m2 : Method := { name := "split", desc := "(I[IIII)I", sig := { parameters := [.int, (.array .int), .int, .int, .int], returnType := some .int }, accessFlags := 0, code := some k2c2 }
/-- com/example/bisim_for_markov/bisimformarkov/analysis/Partition -/
def k2 : Class := { plain "com/example/bisim_for_markov/bisimformarkov/analysis/Partition" (some 0) with
  accessFlags := 32
  interfaces := #[]
  cf := some (fileOf pool2 8 #[] #[{ accessFlags := 0, nameIndex := 5, descriptorIndex := 47, attributes := #[] }, { accessFlags := 0, nameIndex := 53, descriptorIndex := 52, attributes := #[] }, { accessFlags := 0, nameIndex := 58, descriptorIndex := 59, attributes := #[] }] 32 2 #[] #[{ accessFlags := 18, nameIndex := 11, descriptorIndex := 12, attributes := #[] }, { accessFlags := 18, nameIndex := 15, descriptorIndex := 12, attributes := #[] }, { accessFlags := 18, nameIndex := 18, descriptorIndex := 12, attributes := #[] }, { accessFlags := 18, nameIndex := 27, descriptorIndex := 12, attributes := #[] }, { accessFlags := 18, nameIndex := 30, descriptorIndex := 12, attributes := #[] }, { accessFlags := 18, nameIndex := 33, descriptorIndex := 12, attributes := #[] }, { accessFlags := 18, nameIndex := 36, descriptorIndex := 12, attributes := #[] }, { accessFlags := 2, nameIndex := 39, descriptorIndex := 40, attributes := #[] }])
  fields := #[{ name := "elements", type := (.array .int), accessFlags := 18, slot := 0, constantValue := 0 }, { name := "location", type := (.array .int), accessFlags := 18, slot := 1, constantValue := 0 }, { name := "classes", type := (.array .int), accessFlags := 18, slot := 2, constantValue := 0 }, { name := "start", type := (.array .int), accessFlags := 18, slot := 3, constantValue := 0 }, { name := "end", type := (.array .int), accessFlags := 18, slot := 4, constantValue := 0 }, { name := "parents", type := (.array .int), accessFlags := 18, slot := 5, constantValue := 0 }, { name := "rounds", type := (.array .int), accessFlags := 18, slot := 6, constantValue := 0 }, { name := "count", type := .int, accessFlags := 2, slot := 7, constantValue := 0 }]
  methods := #[k2m0, k2m1, k2m2]
  instanceTypes := #[(.array .int), (.array .int), (.array .int), (.array .int), (.array .int), (.array .int), (.array .int), .int]
  staticTypes := #[]
  resolved := Array.replicate 62 none
  statics := none }

def pool3 : Array CpInfo := pool [(1, .class_ 2), (0, u "java/lang/Math"), (1, .class_ 6), (1, u "java/lang/Object"), (0, u "<init>"), (0, u "()V"), (89, .class_ 100), (1, u "java/lang/Math$RandomNumberGeneratorHolder"), (71, u "negativeZeroFloatBits"), (0, u "J"), (2, u "negativeZeroDoubleBits"), (21, u "max"), (2, u "min"), (43, u "$assertionsDisabled"), (0, u "Z"), (88, u "(II)I"), (2, u "twoToTheDoubleScaleDown"), (0, u "D"), (4, u "twoToTheDoubleScaleUp"), (9, u "E"), (3, u "PI"), (2, u "TAU"), (2, u "DEGREES_TO_RADIANS"), (0, u "RADIANS_TO_DEGREES")] 94

def k3m0 : Method := { name := "<init>", desc := "()V", sig := { parameters := [], returnType := none }, accessFlags := 2, code := none }
def k3c1 : Code := { maxStack := 2, maxLocals := 2, code := jdk_29_method_65_code, exceptionTable := #[], attributes := #[] }
def k3m1 : Method := { name := "max", desc := "(II)I", sig := { parameters := [.int, .int], returnType := some .int }, accessFlags := 9, code := some k3c1 }
def k3c2 : Code := { maxStack := 2, maxLocals := 2, code := jdk_29_method_69_code, exceptionTable := #[], attributes := #[] }
def k3m2 : Method := { name := "min", desc := "(II)I", sig := { parameters := [.int, .int], returnType := some .int }, accessFlags := 9, code := some k3c2 }
/-- java/lang/Math -/
def k3 : Class := { plain "java/lang/Math" (some 0) with
  accessFlags := 49
  interfaces := #[]
  cf := some (fileOf pool3 1 #[.nestMembers #[98]] #[{ accessFlags := 2, nameIndex := 7, descriptorIndex := 8, attributes := #[] }, { accessFlags := 9, nameIndex := 198, descriptorIndex := 335, attributes := #[] }, { accessFlags := 9, nameIndex := 201, descriptorIndex := 335, attributes := #[] }] 49 4 #[] #[{ accessFlags := 25, nameIndex := 354, descriptorIndex := 339, attributes := #[] }, { accessFlags := 25, nameIndex := 358, descriptorIndex := 339, attributes := #[] }, { accessFlags := 25, nameIndex := 361, descriptorIndex := 339, attributes := #[] }, { accessFlags := 26, nameIndex := 364, descriptorIndex := 339, attributes := #[] }, { accessFlags := 26, nameIndex := 365, descriptorIndex := 339, attributes := #[] }, { accessFlags := 26, nameIndex := 172, descriptorIndex := 173, attributes := #[] }, { accessFlags := 26, nameIndex := 176, descriptorIndex := 173, attributes := #[] }, { accessFlags := 8, nameIndex := 344, descriptorIndex := 339, attributes := #[] }, { accessFlags := 8, nameIndex := 338, descriptorIndex := 339, attributes := #[] }, { accessFlags := 4120, nameIndex := 245, descriptorIndex := 246, attributes := #[] }])
  fields := #[{ name := "E", type := .double, accessFlags := 25, slot := 0, constantValue := 0 }, { name := "PI", type := .double, accessFlags := 25, slot := 1, constantValue := 0 }, { name := "TAU", type := .double, accessFlags := 25, slot := 2, constantValue := 0 }, { name := "DEGREES_TO_RADIANS", type := .double, accessFlags := 26, slot := 3, constantValue := 0 }, { name := "RADIANS_TO_DEGREES", type := .double, accessFlags := 26, slot := 4, constantValue := 0 }, { name := "negativeZeroFloatBits", type := .long, accessFlags := 26, slot := 5, constantValue := 0 }, { name := "negativeZeroDoubleBits", type := .long, accessFlags := 26, slot := 6, constantValue := 0 }, { name := "twoToTheDoubleScaleUp", type := .double, accessFlags := 8, slot := 7, constantValue := 0 }, { name := "twoToTheDoubleScaleDown", type := .double, accessFlags := 8, slot := 8, constantValue := 0 }, { name := "$assertionsDisabled", type := .boolean, accessFlags := 4120, slot := 9, constantValue := 0 }]
  methods := #[k3m0, k3m1, k3m2]
  instanceTypes := #[]
  staticTypes := #[.double, .double, .double, .double, .double, .long, .long, .double, .double, .boolean]
  resolved := Array.replicate 460 none
  statics := none }

def pool4 : Array CpInfo := pool [(1, u "java/lang/Cloneable"), (0, .class_ 1), (0, u "java/lang/Object"), (0, .class_ 3)] 3

/-- java/lang/Cloneable -/
def k4 : Class := { plain "java/lang/Cloneable" (some 0) with
  accessFlags := 1537
  interfaces := #[]
  cf := some (fileOf pool4 2 #[] #[] 1537 4 #[] #[])
  fields := #[]
  methods := #[]
  instanceTypes := #[]
  staticTypes := #[]
  resolved := Array.replicate 8 none
  statics := none }

def pool5 : Array CpInfo := pool [(1, u "java/io/Serializable"), (0, .class_ 1), (0, u "java/lang/Object"), (0, .class_ 3)] 3

/-- java/io/Serializable -/
def k5 : Class := { plain "java/io/Serializable" (some 0) with
  accessFlags := 1537
  interfaces := #[]
  cf := some (fileOf pool5 2 #[] #[] 1537 4 #[] #[])
  fields := #[]
  methods := #[]
  instanceTypes := #[]
  staticTypes := #[]
  resolved := Array.replicate 8 none
  statics := none }

/-- the primitive byte -/
def k6 : Class := { plain "byte" none with kind := .primitive 'B', accessFlags := 0x411 }
/-- [B -/
def k7 : Class := { plain "[B" (some 0) with kind := .array 6 .byte, interfaces := #[4, 5], accessFlags := 1041 }

/-- the primitive int -/
def k8 : Class := { plain "int" none with kind := .primitive 'I', accessFlags := 0x411 }
/-- [I -/
def k9 : Class := { plain "[I" (some 0) with kind := .array 8 .int, interfaces := #[4, 5], accessFlags := 1041 }

def heap : Heap := #[]
def classes : Array Class := #[k0, k1, k2, k3, k4, k5, k6, k7, k8, k9]
def interned : List (Array UInt16 × Addr) := []
def slotsUsed : Nat := 0
def theMethod : MethodId := ⟨1, 1⟩
def args0 : Array Value := #[.int 5, .int 300, .int 7, .int 13, .int 2]
def aboutOver (below : List Frame) : State where
  vm := { classes := classes, interned := interned.toArray }
  heap := heap
  slotsUsed := slotsUsed
  threads := #[{ frames := .invoking theMethod args0 :: below }]
def below0 : List Frame := [.native { method := ⟨0, 0⟩, args := #[] }]
def about1 : State := aboutOver below0
def p0 : Program := .bare "" "" ""
def e0 : Env := launch0.env 0 0 0
theorem w_frames : about1.frames = Frame.invoking theMethod args0 :: below0 := rfl
set_option maxRecDepth 65536 in
theorem w_args : argsFit about1.vm theMethod args0 = true := by decide +kernel
set_option maxRecDepth 65536 in
theorem w_heap : heapFits about1 = true := by decide +kernel
set_option maxRecDepth 65536 in
theorem w_runnable : about1.curStatus? = some .runnable := by decide +kernel
set_option maxRecDepth 65536 in
theorem w_alone : about1.alone = true := by decide +kernel
set_option maxRecDepth 65536 in
theorem w_named : about1.methodNamed? x = some theMethod := by decide +kernel
set_option maxRecDepth 65536 in
theorem w_hears : about1.hears theMethod below0 = true := by decide +kernel
set_option maxRecDepth 65536 in
theorem w_ripe : about1.ripe theMethod args0 below0 = true := by decide +kernel
theorem w_running : about1.status = .running := rfl
set_option maxRecDepth 65536 in
theorem w_room : about1.hasRoom e0.platform room_1 = true :=
  launch0.hasRoom_least _ room_1 (by decide +kernel) (by decide +kernel) (by decide +kernel) (by decide +kernel) (by decide +kernel) (by decide +kernel)
theorem allAtoms_all (ts : List Jvm.Cond) (a : Array Jvm.Value) (st : Jvm.State) : (allAtoms ts).before a st = ts.all (fun c => c.before a st) := by
  induction ts with
  | nil => rfl
  | cons c t ih =>
    show (Jvm.Cond.and c (allAtoms t)).before a st = _
    rw [Jvm.Cond.before_and, ih, List.all_cons]
def words1 : List Jvm.Cond := Jvm.Cond.code x code maxLocals ret :: tables_1
/-- a 'code' word, met by the world's own term for the bytes: nothing is compared byte by byte -/
theorem code_word {y : MethodName} {bytes : ByteArray} {mx : Nat} {rt : Option FieldType} {a : Array Value} {s : State} {m : MethodId} {meth : Method} {c : Code} (h1 : s.methodNamed? y = some m) (h2 : s.vm.method? m = some meth) (h3 : meth.code = some c) (h4 : c.code = bytes)
    (h5 : (c.maxLocals == mx && c.exceptionTable.isEmpty && decide (c.maxStack ≤ mostOperands) && decide (meth.sig.returnType = rt) && !meth.locks && decide (parseMethodDescriptor y.desc = some meth.sig)) = true) : (Jvm.Cond.code y bytes mx rt).before a s = true := by
  simp only [Bool.and_eq_true, beq_iff_eq, Bool.not_eq_true', decide_eq_true_eq] at h5
  obtain ⟨⟨⟨⟨⟨g1, g2⟩, g3⟩, g4⟩, g5⟩, g6⟩ := h5
  simp [Cond.before, Cond.holds, Cond.value, h1, h2, h3, h4, g1, g2, g3, g4, g5, g6]
def isCode : Jvm.Cond → Bool
  | .code _ _ _ _ => true
  | _ => false
theorem all_split {L : List Jvm.Cond} {P : Jvm.Cond → Bool} (h1 : L.all (fun c => isCode c || P c) = true) (h2 : ∀ c ∈ L.filter isCode, P c = true) : L.all P = true := by
  refine List.all_eq_true.mpr fun c hc => ?_
  have h := List.all_eq_true.mp h1 c hc
  rcases Bool.eq_false_or_eq_true (isCode c) with hi | hi
  · exact h2 c (List.mem_filter.mpr ⟨hc, hi⟩)
  · simpa [hi] using h
set_option maxRecDepth 65536 in
theorem w_c0 : (Jvm.Cond.code x code maxLocals ret).before args0 about1 = true := code_word (m := ⟨1, 1⟩) (meth := k1m1) (c := k1c1) (by decide +kernel) rfl rfl rfl (by decide +kernel)
set_option maxRecDepth 65536 in
theorem w_c1 : (Jvm.Cond.code ({ cls := "com/example/bisim_for_markov/bisimformarkov/analysis/Partition", name := "<init>", desc := "(I)V" } : Jvm.MethodName) prog_61_method_1_code (3 : Nat) (Option.none : Option Jvm.ClassFile.FieldType)).before args0 about1 = true := code_word (m := ⟨2, 0⟩) (meth := k2m0) (c := k2c0) (by decide +kernel) rfl rfl rfl (by decide +kernel)
set_option maxRecDepth 65536 in
theorem w_c2 : (Jvm.Cond.code ({ cls := "java/lang/Object", name := "<init>", desc := "()V" } : Jvm.MethodName) object_method_1_code (1 : Nat) (Option.none : Option Jvm.ClassFile.FieldType)).before args0 about1 = true := code_word (m := ⟨0, 0⟩) (meth := k0m0) (c := k0c0) (by decide +kernel) rfl rfl rfl (by decide +kernel)
set_option maxRecDepth 65536 in
theorem w_c3 : (Jvm.Cond.code ({ cls := "java/lang/Math", name := "max", desc := "(II)I" } : Jvm.MethodName) jdk_29_method_65_code (2 : Nat) (Option.some Jvm.ClassFile.FieldType.int)).before args0 about1 = true := code_word (m := ⟨3, 1⟩) (meth := k3m1) (c := k3c1) (by decide +kernel) rfl rfl rfl (by decide +kernel)
set_option maxRecDepth 65536 in
theorem w_c4 : (Jvm.Cond.code ({ cls := "com/example/bisim_for_markov/bisimformarkov/analysis/Partition", name := "size", desc := "(I)I" } : Jvm.MethodName) prog_61_method_3_code (2 : Nat) (Option.some Jvm.ClassFile.FieldType.int)).before args0 about1 = true := code_word (m := ⟨2, 1⟩) (meth := k2m1) (c := k2c1) (by decide +kernel) rfl rfl rfl (by decide +kernel)
set_option maxRecDepth 65536 in
theorem w_c5 : (Jvm.Cond.code ({ cls := "com/example/bisim_for_markov/bisimformarkov/analysis/Partition", name := "split", desc := "(I[IIII)I" } : Jvm.MethodName) prog_61_method_7_code (11 : Nat) (Option.some Jvm.ClassFile.FieldType.int)).before args0 about1 = true := code_word (m := ⟨2, 2⟩) (meth := k2m2) (c := k2c2) (by decide +kernel) rfl rfl rfl (by decide +kernel)
set_option maxRecDepth 65536 in
theorem w_c6 : (Jvm.Cond.code ({ cls := "java/lang/Math", name := "min", desc := "(II)I" } : Jvm.MethodName) jdk_29_method_69_code (2 : Nat) (Option.some Jvm.ClassFile.FieldType.int)).before args0 about1 = true := code_word (m := ⟨3, 2⟩) (meth := k3m2) (c := k3c2) (by decide +kernel) rfl rfl rfl (by decide +kernel)
def codes1 : List Jvm.Cond := [Jvm.Cond.code x code maxLocals ret, Jvm.Cond.code ({ cls := "com/example/bisim_for_markov/bisimformarkov/analysis/Partition", name := "<init>", desc := "(I)V" } : Jvm.MethodName) prog_61_method_1_code (3 : Nat) (Option.none : Option Jvm.ClassFile.FieldType), Jvm.Cond.code ({ cls := "java/lang/Object", name := "<init>", desc := "()V" } : Jvm.MethodName) object_method_1_code (1 : Nat) (Option.none : Option Jvm.ClassFile.FieldType), Jvm.Cond.code ({ cls := "java/lang/Math", name := "max", desc := "(II)I" } : Jvm.MethodName) jdk_29_method_65_code (2 : Nat) (Option.some Jvm.ClassFile.FieldType.int), Jvm.Cond.code ({ cls := "com/example/bisim_for_markov/bisimformarkov/analysis/Partition", name := "size", desc := "(I)I" } : Jvm.MethodName) prog_61_method_3_code (2 : Nat) (Option.some Jvm.ClassFile.FieldType.int), Jvm.Cond.code ({ cls := "com/example/bisim_for_markov/bisimformarkov/analysis/Partition", name := "split", desc := "(I[IIII)I" } : Jvm.MethodName) prog_61_method_7_code (11 : Nat) (Option.some Jvm.ClassFile.FieldType.int), Jvm.Cond.code ({ cls := "java/lang/Math", name := "min", desc := "(II)I" } : Jvm.MethodName) jdk_29_method_69_code (2 : Nat) (Option.some Jvm.ClassFile.FieldType.int)]
set_option maxRecDepth 65536 in
theorem codes_eq : words1.filter isCode = codes1 := rfl
theorem w_codes : ∀ c ∈ words1.filter isCode, c.before args0 about1 = true := by
  rw [codes_eq]
  intro c hc
  simp only [codes1, List.mem_cons, List.not_mem_nil, or_false] at hc
  rcases hc with rfl | rfl | rfl | rfl | rfl | rfl | rfl
  · exact w_c0
  · exact w_c1
  · exact w_c2
  · exact w_c3
  · exact w_c4
  · exact w_c5
  · exact w_c6
set_option maxRecDepth 65536 in
theorem w_t1 : (words1.take 24).all (fun c => isCode c || c.before args0 about1) = true := by decide +kernel
set_option maxRecDepth 65536 in
theorem w_t2 : (words1.drop 24).all (fun c => isCode c || c.before args0 about1) = true := by decide +kernel
theorem w_tables : (allAtoms (Jvm.Cond.code x code maxLocals ret :: tables_1)).before args0 about1 = true := by
  rw [allAtoms_all]
  show words1.all (fun c => c.before args0 about1) = true
  refine all_split ?_ w_codes
  rw [← List.take_append_drop 24 words1, List.all_append, w_t1, w_t2]
  rfl
set_option maxRecDepth 65536 in
theorem w_case : (Jvm.Cond.and given_1 narrow_1).before args0 about1 = true := by decide +kernel
theorem w_applies : (headSpec (Jvm.Cond.code x code maxLocals ret :: tables_1) room_1).applies x e0.platform about1 = true :=
  (Spec.applies_iff w_frames).mpr ⟨w_running, w_runnable, w_alone, w_named, w_hears, w_ripe, w_room, w_tables⟩
theorem atStart : AtStart classFile x code maxLocals ret World_1 tables_1 room_1 Calls_1 rest_1 Pre_1 launch0 p0 e0 about1 theMethod args0 below0 :=
  ⟨lists_1, trivial, launch0.admits_env _ _ _, launch0.least_env, fairChoices_fair.cas, fairChoices_fair.clock, w_frames, w_args, w_heap, w_applies, trivial, trivial, w_case⟩
end start1
theorem witness_1 : WitnessClaimed_1 := ⟨start1.p0, start1.e0, start1.about1, start1.theMethod, start1.args0, start1.below0, start1.atStart⟩
end Jvm.Pilot.@@N@@
