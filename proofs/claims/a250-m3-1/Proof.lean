import JvmDerived
import JvmDerived.Pilot.@@N@@Statement
import JvmDerived.Pilot.@@N@@Code
set_option linter.unusedVariables false
set_option linter.unusedSimpArgs false
namespace Jvm.OwnKit
open Sem ClassFile Op Lib Jvm.Stand Jvm.Free Jvm.LawKit Jvm.RoadKit
/-- every written place is one of ws or new -/
def FrW (h0 : Heap) (ws : List Addr) (L : List Loc) : Prop := ∀ y ∈ L, y.base ∈ ws ∨ h0.size ≤ y.base
/-- what stays fixed while a body runs -/
def Fix (p : Program) (Z s : State) (m : MethodId) (meth : Method) (c : Code) (bytes : ByteArray) (maxL : Nat) (own nm : String) (ret : Option FieldType) : Prop :=
  p.tables.exec = Jvm.exec ∧ Z.Warmed39 s.vm ∧ c.code = bytes ∧ c.maxLocals = maxL ∧ s.vm.findClass own = some m.cls ∧ meth.name = nm ∧ meth.sig.returnType = ret ∧ meth.locks = false
/-- where the run stands: its heap h, what was kept since h0 -/
def St (p : Program) (l : Launch) (e : Env) (R : Room) (s : State) (m : MethodId) (args : Array Value) (below : List Frame) (meth : Method) (c : Code) (h0 : Heap) (ws : List Addr) (T : State) (h : Heap) (cells slots : Nat) : Prop :=
  ∃ locs, Stand p l e R s m args below meth c T locs cells slots ∧ T.heap = h ∧ Keep h0 h ws ∧ FrW h0 ws locs
/-- from T with the top frame f the body comes to its end, and Q holds there -/
def Go (p : Program) (e : Env) (below : List Frame) (F : State → Outcome → List Loc → Prop) (h0 : Heap) (ws : List Addr) (Q : Option Value → Heap → Prop) (T : State) (f : JFrame) : Prop :=
  ∃ t o, Steps p.tables e below (T.setTop f) t ∧ t.status = .running ∧ Ended t below o ∧ ∃ v L, o = .returned v ∧ (Q v t.heap ∧ Keep h0 t.heap ws ∧ FrW h0 ws L) ∧ F t o L
/-- the narrow end and the wide one (strings may have been interned) -/
abbrev EndN (s : State) (K N : Nat) : State → Outcome → List Loc → Prop := fun t o L => FrameEnd s o t L K N
abbrev EndW (s : State) (K N : Nat) : State → Outcome → List Loc → Prop := fun t o L => ReturnedEndW s o t L K N
/-- the wide contract -/
def MethW (l : Launch) (Z : State) (y : MethodName) (bytes : ByteArray) (maxL : Nat) (ret : Option FieldType) (rm : Room) (as' : Array Value) (h0 : Heap) (ws : List Addr) (Q : Option Value → Heap → Prop) : Prop :=
  ∀ wl, MetFree l y (head1 (Cond.code y bytes maxL ret :: wl) rm) (fun a U => a = as' ∧ Z.Warmed39 U.vm ∧ U.heap = h0) (fun _ _ _ _ _ => True) (fun _ U o U' => ∃ v L, o = .returned v ∧ (Q v U'.heap ∧ Keep h0 U'.heap ws ∧ FrW h0 ws L) ∧ ReturnedEndW U o U' L rm.cells rm.slots)
/-- the heap hasn't shrunk below n -/
def Sz (n : Nat) (h : Heap) : Prop := n ≤ h.size
theorem Sz.ext {n : Nat} {h h' : Heap} (F : Sz n h) (E : Ext h h') : Sz n h' := Nat.le_trans F E.1
theorem Sz.other {n : Nat} {h h' : Heap} {a : Addr} {sl : Nat} {v : Value} (F : Sz n h) (W : Wr h h' a sl v) (_ : True) : Sz n h' := by unfold Sz at *; rw [W.size]; exact F
theorem Sz.keep {n : Nat} {h h' : Heap} {ws : List Addr} (F : Sz n h) (K : Keep h h' ws) (_ : True) : Sz n h' := Nat.le_trans F K.1
/-- a method's contract: called with as' at the heap h0 it returns, writes ws and new cells alone, and Q holds -/
def Meth (l : Launch) (Z : State) (y : MethodName) (bytes : ByteArray) (maxL : Nat) (ret : Option FieldType) (rm : Room) (as' : Array Value) (h0 : Heap) (ws : List Addr) (Q : Option Value → Heap → Prop) : Prop :=
  ∀ wl, MetFree l y (head1 (Cond.code y bytes maxL ret :: wl) rm) (fun a U => a = as' ∧ Z.Warmed39 U.vm ∧ U.heap = h0) (fun _ _ _ _ _ => True) (fun _ U o U' => ∃ v L, o = .returned v ∧ (Q v U'.heap ∧ Keep h0 U'.heap ws ∧ FrW h0 ws L) ∧ FrameEnd U o U' L rm.cells rm.slots)
/-- an array of the kind ty that holds vs -/
def VA (Z : State) (h : Heap) (a : Addr) (ty : FieldType) (vs : List Value) : Prop := ∃ c : Cell, Arr Z h a c ty ∧ c.slots = vs.toArray ∧ vs.length < 2 ^ 31
section Arrays
variable {Z : State} {h h' : Heap} {a b : Addr} {ty : FieldType} {vs : List Value} {sl : Nat} {v : Value} {ws : List Addr}
theorem VA.lt (F : VA Z h a ty vs) : a < h.size := by obtain ⟨c, A, -⟩ := F; exact A.lt
theorem VA.ext (F : VA Z h a ty vs) (E : Ext h h') : VA Z h' a ty vs := by obtain ⟨c, A, r⟩ := F; exact ⟨c, A.ext E, r⟩
theorem VA.other (F : VA Z h b ty vs) (W : Wr h h' a sl v) (q : b ≠ a) : VA Z h' b ty vs := by obtain ⟨c, A, r⟩ := F; exact ⟨c, A.other W q, r⟩
theorem VA.keep (F : VA Z h a ty vs) (K : Keep h h' ws) (q : a ∉ ws) : VA Z h' a ty vs := by obtain ⟨c, A, r⟩ := F; exact ⟨c, ⟨K.2.1 a c A.1 q, A.2⟩, r⟩
theorem VA.set (F : VA Z h a ty vs) (W : Wr h h' a sl v) : VA Z h' a ty (vs.set sl v) := by
  obtain ⟨c, A, r, n⟩ := F
  refine ⟨_, A.same W, ?_, by simpa using n⟩
  show c.slots.setIfInBounds sl v = _
  rw [r]; simp
theorem VA.new {k : ClassId} {n : Int32} (A : Arr Z h a (newA k ty n) ty) (q : ¬ n < 0) : VA Z h a ty (List.replicate n.toNatClampNeg (defaultValue ty)) :=
  ⟨_, A, by simp [newA], by rw [List.length_replicate]; exact (back32 q).2⟩
theorem VA.len31 (F : VA Z h a ty vs) : vs.length < 2 ^ 31 := by obtain ⟨c, A, r, n⟩ := F; exact n
theorem inb {n : Nat} {j : Int32} (hj : 0 ≤ j.toInt ∧ j.toInt < n) : ¬ (j < 0 ∨ n ≤ j.toNatClampNeg) := by
  simp only [Int32.lt_iff_toInt_lt, Int32.toNatClampNeg, Int32.reduceToInt]; omega
theorem own_at {xs : List Int32} {j : Nat} (hj : j < xs.length) : (xs.map Value.int)[j]? = some (.int (xs.getD j 0)) := by
  simp [List.getElem?_eq_getElem hj]
theorem own_atL {xs : List Int64} {j : Nat} (hj : j < xs.length) : (xs.map Value.long)[j]? = some (.long (xs.getD j 0)) := by
  simp [List.getElem?_eq_getElem hj]
theorem own_set (xs : List Int32) (i : Nat) (v : Int32) : (xs.map Value.int).set i (.int v) = (xs.set i v).map Value.int := by simp [List.map_set]
theorem own_setL (xs : List Int64) (i : Nat) (v : Int64) : (xs.map Value.long).set i (.long v) = (xs.set i v).map Value.long := by simp [List.map_set]
theorem own_nat {j : Int32} {n : Nat} (h : 0 ≤ j.toInt ∧ j.toInt < n) : j.toNatClampNeg < n := by simp only [Int32.toNatClampNeg]; omega
end Arrays
section Go
variable {p : Program} {l : Launch} {e : Env} {R : Room} {s : State} {m : MethodId} {args : Array Value} {below : List Frame} {meth : Method} {c : Code} {Z : State} {bytes : ByteArray} {maxL : Nat} {own nm : String} {ret : Option FieldType} {h0 : Heap} {ws : List Addr} {T T' : State} {locs : List Loc} {h : Heap} {cells slots K N : Nat} {FE : State → Outcome → List Loc → Prop} {Q : Option Value → Heap → Prop} {pc pc' : Nat} {vm1 : Vm} {Ls Ls' : Array Slot} {st : List Value} {a0 : Array Value}
theorem Go.to {f f' : JFrame} (k : ∀ t, Steps p.tables e below (T'.setTop f') t → Steps p.tables e below (T.setTop f) t) (g : Go p e below FE h0 ws Q T' f') : Go p e below FE h0 ws Q T f := by
  obtain ⟨t, o, a, r⟩ := g; exact ⟨t, o, k t a, r⟩
theorem Go.mono {Q' : Option Value → Heap → Prop} {f : JFrame} (g : Go p e below FE h0 ws Q T f) (hq : ∀ v h, Q v h → Q' v h) : Go p e below FE h0 ws Q' T f := by
  obtain ⟨t, o, a, b, d, v, L, e1, ⟨q, r⟩, z⟩ := g; exact ⟨t, o, a, b, d, v, L, e1, ⟨hq _ _ q, r⟩, z⟩
theorem Go.entry {f f' : JFrame} (q : f = f') (g : Go p e below FE h0 ws Q T f') : Go p e below FE h0 ws Q T f := q ▸ g
theorem St.more (X : St p l e R s m args below meth c h0 ws T h cells slots) {cells' slots' : Nat} (h1 : cells ≤ cells') (h2 : slots ≤ slots') : St p l e R s m args below meth c h0 ws T h cells' slots' := by
  obtain ⟨L, X, r⟩ := X; exact ⟨L, X.more h1 h2, r⟩
theorem St.kept (X : St p l e R s m args below meth c h0 ws T h cells slots) : Keep h0 h ws := by obtain ⟨L, X, e1, k, f⟩ := X; exact k
theorem St.here (X : St p l e R s m args below meth c h0 ws T h cells slots) : At T m c below := by obtain ⟨L, X, r⟩ := X; exact X.here
theorem Meth.mono {y : MethodName} {rm : Room} {as' : Array Value} {Q' : Option Value → Heap → Prop} (M : Meth l Z y bytes maxL ret rm as' h0 ws Q) (hq : ∀ v h, Q v h → Q' v h) : Meth l Z y bytes maxL ret rm as' h0 ws Q' := by
  intro wl p e ha hc hk s m args below hf happ hP hK
  obtain ⟨n, o, a, b, d, v, L, e1, ⟨q, r⟩, z⟩ := M wl p e ha hc hk s m args below hf happ hP hK
  exact ⟨n, o, a, b, d, v, L, e1, ⟨hq _ _ q, r⟩, z⟩
theorem Meth.of {y : MethodName} {rm : Room} {as' : Array Value} (hpl : plainFor y = true)
    (body : ∀ (p : Program) (e : Env) (s : State) (m : MethodId) (below : List Frame) (meth : Method) (c : Code) (T : State), Fix p Z s m meth c bytes maxL y.cls y.name ret → St p l e rm s m as' below meth c h0 ws T h0 0 0 → Go p e below (EndN s rm.cells rm.slots) h0 ws Q T (entryFrame m as' maxL)) :
    Meth l Z y bytes maxL ret rm as' h0 ws Q := by
  intro wl
  refine MetFree.of_bodySF hpl hisR ?_
  intro p e s m args below meth c s₁ Bd hml0 hP hK
  obtain ⟨rfl, hZ, hh⟩ := hP
  have X0 : Stand p l e rm s m _ below meth c s₁ [] 0 0 := Stand.of_body Bd
  have e0 : s₁.heap = h0 := by rw [← hh, Bd.state]; rfl
  exact body p e s m below meth c s₁ ⟨Bd.exec, hZ, Bd.bytes, hml0, findClass_of_methodNamed Bd.named, (name_of_methodNamed Bd.named Bd.method).1, Bd.returns, Bd.notSynchronized⟩ ⟨[], X0, e0, Keep.refl _ _, fun y hy => nomatch hy⟩

theorem giload (B : Fix p Z s m meth c bytes maxL own nm ret) (X : St p l e R s m args below meth c h0 ws T h cells slots) {k : Nat} {v : Int32} (hd : decode bytes pc = .ok (.iload k, 2)) (hl : Ls[k]? = some (.val (.int v))) (hp : pc' = pc + 2) (g : Go p e below FE h0 ws Q T (mkF m pc' Ls (.int v :: st))) : Go p e below FE h0 ws Q T (mkF m pc Ls st) := by
  subst hp; obtain ⟨L, X, -⟩ := X; exact Go.to (fun t k => XS.iload X.here B.1 rfl (hb B.2.2.1 hd) hl k) g
theorem giloadN (B : Fix p Z s m meth c bytes maxL own nm ret) (X : St p l e R s m args below meth c h0 ws T h cells slots) {k : Fin 4} {v : Int32} (hd : decode bytes pc = .ok (.iload_n k, 1)) (hl : Ls[k.val]? = some (.val (.int v))) (hp : pc' = pc + 1) (g : Go p e below FE h0 ws Q T (mkF m pc' Ls (.int v :: st))) : Go p e below FE h0 ws Q T (mkF m pc Ls st) := by
  subst hp; obtain ⟨L, X, -⟩ := X; exact Go.to (fun t k => XS.iloadN X.here B.1 rfl (hb B.2.2.1 hd) hl k) g
theorem gistore (B : Fix p Z s m meth c bytes maxL own nm ret) (X : St p l e R s m args below meth c h0 ws T h cells slots) {k : Nat} {v : Int32} (hd : decode bytes pc = .ok (.istore k, 2)) (hl : storeLocals Ls k (.int v) = some Ls') (hp : pc' = pc + 2) (g : Go p e below FE h0 ws Q T (mkF m pc' Ls' st)) : Go p e below FE h0 ws Q T (mkF m pc Ls (.int v :: st)) := by
  subst hp; obtain ⟨L, X, -⟩ := X; exact Go.to (fun t k => XS.istore X.here B.1 rfl (hb B.2.2.1 hd) rfl hl k) g
theorem gistoreN (B : Fix p Z s m meth c bytes maxL own nm ret) (X : St p l e R s m args below meth c h0 ws T h cells slots) {k : Fin 4} {v : Int32} (hd : decode bytes pc = .ok (.istore_n k, 1)) (hl : storeLocals Ls k.val (.int v) = some Ls') (hp : pc' = pc + 1) (g : Go p e below FE h0 ws Q T (mkF m pc' Ls' st)) : Go p e below FE h0 ws Q T (mkF m pc Ls (.int v :: st)) := by
  subst hp; obtain ⟨L, X, -⟩ := X; exact Go.to (fun t k => XS.istoreN X.here B.1 rfl (hb B.2.2.1 hd) rfl hl k) g
theorem glload (B : Fix p Z s m meth c bytes maxL own nm ret) (X : St p l e R s m args below meth c h0 ws T h cells slots) {k : Nat} {v : Int64} (hd : decode bytes pc = .ok (.lload k, 2)) (hl : Ls[k]? = some (.val (.long v))) (hp : pc' = pc + 2) (g : Go p e below FE h0 ws Q T (mkF m pc' Ls (.long v :: st))) : Go p e below FE h0 ws Q T (mkF m pc Ls st) := by
  subst hp; obtain ⟨L, X, -⟩ := X; exact Go.to (fun t k => XS.lload X.here B.1 rfl (hb B.2.2.1 hd) hl k) g
theorem glloadN (B : Fix p Z s m meth c bytes maxL own nm ret) (X : St p l e R s m args below meth c h0 ws T h cells slots) {k : Fin 4} {v : Int64} (hd : decode bytes pc = .ok (.lload_n k, 1)) (hl : Ls[k.val]? = some (.val (.long v))) (hp : pc' = pc + 1) (g : Go p e below FE h0 ws Q T (mkF m pc' Ls (.long v :: st))) : Go p e below FE h0 ws Q T (mkF m pc Ls st) := by
  subst hp; obtain ⟨L, X, -⟩ := X; exact Go.to (fun t k => XS.lloadN X.here B.1 rfl (hb B.2.2.1 hd) hl k) g
theorem glstore (B : Fix p Z s m meth c bytes maxL own nm ret) (X : St p l e R s m args below meth c h0 ws T h cells slots) {k : Nat} {v : Int64} (hd : decode bytes pc = .ok (.lstore k, 2)) (hl : storeLocals Ls k (.long v) = some Ls') (hp : pc' = pc + 2) (g : Go p e below FE h0 ws Q T (mkF m pc' Ls' st)) : Go p e below FE h0 ws Q T (mkF m pc Ls (.long v :: st)) := by
  subst hp; obtain ⟨L, X, -⟩ := X; exact Go.to (fun t k => XS.lstore X.here B.1 rfl (hb B.2.2.1 hd) rfl hl k) g
theorem glstoreN (B : Fix p Z s m meth c bytes maxL own nm ret) (X : St p l e R s m args below meth c h0 ws T h cells slots) {k : Fin 4} {v : Int64} (hd : decode bytes pc = .ok (.lstore_n k, 1)) (hl : storeLocals Ls k.val (.long v) = some Ls') (hp : pc' = pc + 1) (g : Go p e below FE h0 ws Q T (mkF m pc' Ls' st)) : Go p e below FE h0 ws Q T (mkF m pc Ls (.long v :: st)) := by
  subst hp; obtain ⟨L, X, -⟩ := X; exact Go.to (fun t k => XS.lstoreN X.here B.1 rfl (hb B.2.2.1 hd) rfl hl k) g
theorem gaload (B : Fix p Z s m meth c bytes maxL own nm ret) (X : St p l e R s m args below meth c h0 ws T h cells slots) {k : Nat} {v : Value} (hd : decode bytes pc = .ok (.aload k, 2)) (hl : Ls[k]? = some (.val v)) (hv : v.isRef = true) (hp : pc' = pc + 2) (g : Go p e below FE h0 ws Q T (mkF m pc' Ls (v :: st))) : Go p e below FE h0 ws Q T (mkF m pc Ls st) := by
  subst hp; obtain ⟨L, X, -⟩ := X; exact Go.to (fun t k => XS.aload X.here B.1 rfl (hb B.2.2.1 hd) hl hv k) g
theorem galoadN (B : Fix p Z s m meth c bytes maxL own nm ret) (X : St p l e R s m args below meth c h0 ws T h cells slots) {k : Fin 4} {v : Value} (hd : decode bytes pc = .ok (.aload_n k, 1)) (hl : Ls[k.val]? = some (.val v)) (hv : v.isRef = true) (hp : pc' = pc + 1) (g : Go p e below FE h0 ws Q T (mkF m pc' Ls (v :: st))) : Go p e below FE h0 ws Q T (mkF m pc Ls st) := by
  subst hp; obtain ⟨L, X, -⟩ := X; exact Go.to (fun t k => XS.aloadN X.here B.1 rfl (hb B.2.2.1 hd) hl hv k) g
theorem gastore (B : Fix p Z s m meth c bytes maxL own nm ret) (X : St p l e R s m args below meth c h0 ws T h cells slots) {k : Nat} {v : Value} (hd : decode bytes pc = .ok (.astore k, 2)) (hv : v.isRef = true) (hl : storeLocals Ls k v = some Ls') (hp : pc' = pc + 2) (g : Go p e below FE h0 ws Q T (mkF m pc' Ls' st)) : Go p e below FE h0 ws Q T (mkF m pc Ls (v :: st)) := by
  subst hp; obtain ⟨L, X, -⟩ := X; exact Go.to (fun t k => XS.astore X.here B.1 rfl (hb B.2.2.1 hd) rfl hv hl k) g
theorem gastoreN (B : Fix p Z s m meth c bytes maxL own nm ret) (X : St p l e R s m args below meth c h0 ws T h cells slots) {k : Fin 4} {v : Value} (hd : decode bytes pc = .ok (.astore_n k, 1)) (hv : v.isRef = true) (hl : storeLocals Ls k.val v = some Ls') (hp : pc' = pc + 1) (g : Go p e below FE h0 ws Q T (mkF m pc' Ls' st)) : Go p e below FE h0 ws Q T (mkF m pc Ls (v :: st)) := by
  subst hp; obtain ⟨L, X, -⟩ := X; exact Go.to (fun t k => XS.astoreN X.here B.1 rfl (hb B.2.2.1 hd) rfl hv hl k) g
theorem giconst (B : Fix p Z s m meth c bytes maxL own nm ret) (X : St p l e R s m args below meth c h0 ws T h cells slots) {i : Int} {v : Int32} (hd : decode bytes pc = .ok (.iconst i, 1)) (hv : Int32.ofInt i = v) (hp : pc' = pc + 1) (g : Go p e below FE h0 ws Q T (mkF m pc' Ls (.int v :: st))) : Go p e below FE h0 ws Q T (mkF m pc Ls st) := by
  subst hp; subst hv; obtain ⟨L, X, -⟩ := X; exact Go.to (fun t k => XS.iconst X.here B.1 rfl (hb B.2.2.1 hd) k) g
theorem gbipush (B : Fix p Z s m meth c bytes maxL own nm ret) (X : St p l e R s m args below meth c h0 ws T h cells slots) {i : Int} {v : Int32} (hd : decode bytes pc = .ok (.bipush i, 2)) (hv : (Int8.ofInt i).toInt32 = v) (hp : pc' = pc + 2) (g : Go p e below FE h0 ws Q T (mkF m pc' Ls (.int v :: st))) : Go p e below FE h0 ws Q T (mkF m pc Ls st) := by
  subst hp; subst hv; obtain ⟨L, X, -⟩ := X; exact Go.to (fun t k => XS.bipush X.here B.1 rfl (hb B.2.2.1 hd) k) g
theorem gsipush (B : Fix p Z s m meth c bytes maxL own nm ret) (X : St p l e R s m args below meth c h0 ws T h cells slots) {i : Int} {v : Int32} (hd : decode bytes pc = .ok (.sipush i, 3)) (hv : (Int16.ofInt i).toInt32 = v) (hp : pc' = pc + 3) (g : Go p e below FE h0 ws Q T (mkF m pc' Ls (.int v :: st))) : Go p e below FE h0 ws Q T (mkF m pc Ls st) := by
  subst hp; subst hv; obtain ⟨L, X, -⟩ := X; exact Go.to (fun t k => XS.sipush X.here B.1 rfl (hb B.2.2.1 hd) k) g
theorem glconst (B : Fix p Z s m meth c bytes maxL own nm ret) (X : St p l e R s m args below meth c h0 ws T h cells slots) {k : Fin 2} {v : Int64} (hd : decode bytes pc = .ok (.lconst k, 1)) (hv : Int64.ofNat k = v) (hp : pc' = pc + 1) (g : Go p e below FE h0 ws Q T (mkF m pc' Ls (.long v :: st))) : Go p e below FE h0 ws Q T (mkF m pc Ls st) := by
  subst hp; subst hv; obtain ⟨L, X, -⟩ := X; exact Go.to (fun t k => XS.lconst X.here B.1 rfl (hb B.2.2.1 hd) k) g
theorem gnull (B : Fix p Z s m meth c bytes maxL own nm ret) (X : St p l e R s m args below meth c h0 ws T h cells slots)  (hd : decode bytes pc = .ok (.aconst_null, 1))  (hp : pc' = pc + 1) (g : Go p e below FE h0 ws Q T (mkF m pc' Ls (.null :: st))) : Go p e below FE h0 ws Q T (mkF m pc Ls st) := by
  subst hp; obtain ⟨L, X, -⟩ := X; exact Go.to (fun t k => XS.aconstNull X.here B.1 rfl (hb B.2.2.1 hd)  k) g
theorem giadd (B : Fix p Z s m meth c bytes maxL own nm ret) (X : St p l e R s m args below meth c h0 ws T h cells slots) {x y : Int32} {v : Int32} (hd : decode bytes pc = .ok (.iadd, 1))  (hv : x + y = v) (hp : pc' = pc + 1) (g : Go p e below FE h0 ws Q T (mkF m pc' Ls (.int v :: st))) : Go p e below FE h0 ws Q T (mkF m pc Ls (.int y :: .int x :: st)) := by
  subst hp; subst hv; obtain ⟨L, X, -⟩ := X; exact Go.to (fun t k => XS.iadd X.here B.1 rfl (hb B.2.2.1 hd) rfl k) g
theorem gladd (B : Fix p Z s m meth c bytes maxL own nm ret) (X : St p l e R s m args below meth c h0 ws T h cells slots) {x y : Int64} {v : Int64} (hd : decode bytes pc = .ok (.ladd, 1))  (hv : x + y = v) (hp : pc' = pc + 1) (g : Go p e below FE h0 ws Q T (mkF m pc' Ls (.long v :: st))) : Go p e below FE h0 ws Q T (mkF m pc Ls (.long y :: .long x :: st)) := by
  subst hp; subst hv; obtain ⟨L, X, -⟩ := X; exact Go.to (fun t k => XS.ladd X.here B.1 rfl (hb B.2.2.1 hd) rfl k) g
theorem gisub (B : Fix p Z s m meth c bytes maxL own nm ret) (X : St p l e R s m args below meth c h0 ws T h cells slots) {x y : Int32} {v : Int32} (hd : decode bytes pc = .ok (.isub, 1))  (hv : x - y = v) (hp : pc' = pc + 1) (g : Go p e below FE h0 ws Q T (mkF m pc' Ls (.int v :: st))) : Go p e below FE h0 ws Q T (mkF m pc Ls (.int y :: .int x :: st)) := by
  subst hp; subst hv; obtain ⟨L, X, -⟩ := X; exact Go.to (fun t k => XS.isub X.here B.1 rfl (hb B.2.2.1 hd) rfl k) g
theorem glsub (B : Fix p Z s m meth c bytes maxL own nm ret) (X : St p l e R s m args below meth c h0 ws T h cells slots) {x y : Int64} {v : Int64} (hd : decode bytes pc = .ok (.lsub, 1))  (hv : x - y = v) (hp : pc' = pc + 1) (g : Go p e below FE h0 ws Q T (mkF m pc' Ls (.long v :: st))) : Go p e below FE h0 ws Q T (mkF m pc Ls (.long y :: .long x :: st)) := by
  subst hp; subst hv; obtain ⟨L, X, -⟩ := X; exact Go.to (fun t k => XS.lsub X.here B.1 rfl (hb B.2.2.1 hd) rfl k) g
theorem gimul (B : Fix p Z s m meth c bytes maxL own nm ret) (X : St p l e R s m args below meth c h0 ws T h cells slots) {x y : Int32} {v : Int32} (hd : decode bytes pc = .ok (.imul, 1))  (hv : x * y = v) (hp : pc' = pc + 1) (g : Go p e below FE h0 ws Q T (mkF m pc' Ls (.int v :: st))) : Go p e below FE h0 ws Q T (mkF m pc Ls (.int y :: .int x :: st)) := by
  subst hp; subst hv; obtain ⟨L, X, -⟩ := X; exact Go.to (fun t k => XS.imul X.here B.1 rfl (hb B.2.2.1 hd) rfl k) g
theorem glmul (B : Fix p Z s m meth c bytes maxL own nm ret) (X : St p l e R s m args below meth c h0 ws T h cells slots) {x y : Int64} {v : Int64} (hd : decode bytes pc = .ok (.lmul, 1))  (hv : x * y = v) (hp : pc' = pc + 1) (g : Go p e below FE h0 ws Q T (mkF m pc' Ls (.long v :: st))) : Go p e below FE h0 ws Q T (mkF m pc Ls (.long y :: .long x :: st)) := by
  subst hp; subst hv; obtain ⟨L, X, -⟩ := X; exact Go.to (fun t k => XS.lmul X.here B.1 rfl (hb B.2.2.1 hd) rfl k) g
theorem giand (B : Fix p Z s m meth c bytes maxL own nm ret) (X : St p l e R s m args below meth c h0 ws T h cells slots) {x y : Int32} {v : Int32} (hd : decode bytes pc = .ok (.iand, 1))  (hv : x &&& y = v) (hp : pc' = pc + 1) (g : Go p e below FE h0 ws Q T (mkF m pc' Ls (.int v :: st))) : Go p e below FE h0 ws Q T (mkF m pc Ls (.int y :: .int x :: st)) := by
  subst hp; subst hv; obtain ⟨L, X, -⟩ := X; exact Go.to (fun t k => XS.iand X.here B.1 rfl (hb B.2.2.1 hd) rfl k) g
theorem gland (B : Fix p Z s m meth c bytes maxL own nm ret) (X : St p l e R s m args below meth c h0 ws T h cells slots) {x y : Int64} {v : Int64} (hd : decode bytes pc = .ok (.land, 1))  (hv : x &&& y = v) (hp : pc' = pc + 1) (g : Go p e below FE h0 ws Q T (mkF m pc' Ls (.long v :: st))) : Go p e below FE h0 ws Q T (mkF m pc Ls (.long y :: .long x :: st)) := by
  subst hp; subst hv; obtain ⟨L, X, -⟩ := X; exact Go.to (fun t k => XS.land X.here B.1 rfl (hb B.2.2.1 hd) rfl k) g
theorem gior (B : Fix p Z s m meth c bytes maxL own nm ret) (X : St p l e R s m args below meth c h0 ws T h cells slots) {x y : Int32} {v : Int32} (hd : decode bytes pc = .ok (.ior, 1))  (hv : x ||| y = v) (hp : pc' = pc + 1) (g : Go p e below FE h0 ws Q T (mkF m pc' Ls (.int v :: st))) : Go p e below FE h0 ws Q T (mkF m pc Ls (.int y :: .int x :: st)) := by
  subst hp; subst hv; obtain ⟨L, X, -⟩ := X; exact Go.to (fun t k => XS.ior X.here B.1 rfl (hb B.2.2.1 hd) rfl k) g
theorem glor (B : Fix p Z s m meth c bytes maxL own nm ret) (X : St p l e R s m args below meth c h0 ws T h cells slots) {x y : Int64} {v : Int64} (hd : decode bytes pc = .ok (.lor, 1))  (hv : x ||| y = v) (hp : pc' = pc + 1) (g : Go p e below FE h0 ws Q T (mkF m pc' Ls (.long v :: st))) : Go p e below FE h0 ws Q T (mkF m pc Ls (.long y :: .long x :: st)) := by
  subst hp; subst hv; obtain ⟨L, X, -⟩ := X; exact Go.to (fun t k => XS.lor X.here B.1 rfl (hb B.2.2.1 hd) rfl k) g
theorem gixor (B : Fix p Z s m meth c bytes maxL own nm ret) (X : St p l e R s m args below meth c h0 ws T h cells slots) {x y : Int32} {v : Int32} (hd : decode bytes pc = .ok (.ixor, 1))  (hv : x ^^^ y = v) (hp : pc' = pc + 1) (g : Go p e below FE h0 ws Q T (mkF m pc' Ls (.int v :: st))) : Go p e below FE h0 ws Q T (mkF m pc Ls (.int y :: .int x :: st)) := by
  subst hp; subst hv; obtain ⟨L, X, -⟩ := X; exact Go.to (fun t k => XS.ixor X.here B.1 rfl (hb B.2.2.1 hd) rfl k) g
theorem glxor (B : Fix p Z s m meth c bytes maxL own nm ret) (X : St p l e R s m args below meth c h0 ws T h cells slots) {x y : Int64} {v : Int64} (hd : decode bytes pc = .ok (.lxor, 1))  (hv : x ^^^ y = v) (hp : pc' = pc + 1) (g : Go p e below FE h0 ws Q T (mkF m pc' Ls (.long v :: st))) : Go p e below FE h0 ws Q T (mkF m pc Ls (.long y :: .long x :: st)) := by
  subst hp; subst hv; obtain ⟨L, X, -⟩ := X; exact Go.to (fun t k => XS.lxor X.here B.1 rfl (hb B.2.2.1 hd) rfl k) g
theorem gidiv (B : Fix p Z s m meth c bytes maxL own nm ret) (X : St p l e R s m args below meth c h0 ws T h cells slots) {x y : Int32} {v : Int32} (hd : decode bytes pc = .ok (.idiv, 1)) (hy : y ≠ 0) (hv : x / y = v) (hp : pc' = pc + 1) (g : Go p e below FE h0 ws Q T (mkF m pc' Ls (.int v :: st))) : Go p e below FE h0 ws Q T (mkF m pc Ls (.int y :: .int x :: st)) := by
  subst hp; subst hv; obtain ⟨L, X, -⟩ := X; exact Go.to (fun t k => XS.idiv X.here B.1 rfl (hb B.2.2.1 hd) rfl hy k) g
theorem gldiv (B : Fix p Z s m meth c bytes maxL own nm ret) (X : St p l e R s m args below meth c h0 ws T h cells slots) {x y : Int64} {v : Int64} (hd : decode bytes pc = .ok (.ldiv, 1)) (hy : y ≠ 0) (hv : x / y = v) (hp : pc' = pc + 1) (g : Go p e below FE h0 ws Q T (mkF m pc' Ls (.long v :: st))) : Go p e below FE h0 ws Q T (mkF m pc Ls (.long y :: .long x :: st)) := by
  subst hp; subst hv; obtain ⟨L, X, -⟩ := X; exact Go.to (fun t k => XS.ldiv X.here B.1 rfl (hb B.2.2.1 hd) rfl hy k) g
theorem girem (B : Fix p Z s m meth c bytes maxL own nm ret) (X : St p l e R s m args below meth c h0 ws T h cells slots) {x y v : Int32} (hd : decode bytes pc = .ok (.irem, 1)) (hy : y ≠ 0) (hv : x % y = v) (hp : pc' = pc + 1) (g : Go p e below FE h0 ws Q T (mkF m pc' Ls (.int v :: st))) : Go p e below FE h0 ws Q T (mkF m pc Ls (.int y :: .int x :: st)) := by
  subst hp; subst hv; obtain ⟨L, X, -⟩ := X; exact Go.to (fun t k => iremM X B.1 rfl (hb B.2.2.1 hd) rfl hy k) g
theorem glrem (B : Fix p Z s m meth c bytes maxL own nm ret) (X : St p l e R s m args below meth c h0 ws T h cells slots) {x y v : Int64} (hd : decode bytes pc = .ok (.lrem, 1)) (hy : y ≠ 0) (hv : x % y = v) (hp : pc' = pc + 1) (g : Go p e below FE h0 ws Q T (mkF m pc' Ls (.long v :: st))) : Go p e below FE h0 ws Q T (mkF m pc Ls (.long y :: .long x :: st)) := by
  subst hp; subst hv; obtain ⟨L, X, -⟩ := X; exact Go.to (fun t k => XS.lrem X.here B.1 rfl (hb B.2.2.1 hd) rfl hy (by rw [lrem_mod]; exact k)) g
theorem gishl (B : Fix p Z s m meth c bytes maxL own nm ret) (X : St p l e R s m args below meth c h0 ws T h cells slots) {x y : Int32} {v : Int32} (hd : decode bytes pc = .ok (.ishl, 1))  (hv : x <<< (y &&& 31) = v) (hp : pc' = pc + 1) (g : Go p e below FE h0 ws Q T (mkF m pc' Ls (.int v :: st))) : Go p e below FE h0 ws Q T (mkF m pc Ls (.int y :: .int x :: st)) := by
  subst hp; subst hv; obtain ⟨L, X, -⟩ := X; exact Go.to (fun t k => XS.ishl X.here B.1 rfl (hb B.2.2.1 hd) rfl k) g
theorem gishr (B : Fix p Z s m meth c bytes maxL own nm ret) (X : St p l e R s m args below meth c h0 ws T h cells slots) {x y : Int32} {v : Int32} (hd : decode bytes pc = .ok (.ishr, 1))  (hv : x >>> (y &&& 31) = v) (hp : pc' = pc + 1) (g : Go p e below FE h0 ws Q T (mkF m pc' Ls (.int v :: st))) : Go p e below FE h0 ws Q T (mkF m pc Ls (.int y :: .int x :: st)) := by
  subst hp; subst hv; obtain ⟨L, X, -⟩ := X; exact Go.to (fun t k => XS.ishr X.here B.1 rfl (hb B.2.2.1 hd) rfl k) g
theorem giushr (B : Fix p Z s m meth c bytes maxL own nm ret) (X : St p l e R s m args below meth c h0 ws T h cells slots) {x y : Int32} {v : Int32} (hd : decode bytes pc = .ok (.iushr, 1))  (hv : (x.toUInt32 >>> (y &&& 31).toUInt32).toInt32 = v) (hp : pc' = pc + 1) (g : Go p e below FE h0 ws Q T (mkF m pc' Ls (.int v :: st))) : Go p e below FE h0 ws Q T (mkF m pc Ls (.int y :: .int x :: st)) := by
  subst hp; subst hv; obtain ⟨L, X, -⟩ := X; exact Go.to (fun t k => XS.iushr X.here B.1 rfl (hb B.2.2.1 hd) rfl k) g
theorem glshl (B : Fix p Z s m meth c bytes maxL own nm ret) (X : St p l e R s m args below meth c h0 ws T h cells slots) {x : Int64} {y : Int32} {v : Int64} (hd : decode bytes pc = .ok (.lshl, 1))  (hv : x <<< (y &&& 0x3f).toInt64 = v) (hp : pc' = pc + 1) (g : Go p e below FE h0 ws Q T (mkF m pc' Ls (.long v :: st))) : Go p e below FE h0 ws Q T (mkF m pc Ls (.int y :: .long x :: st)) := by
  subst hp; subst hv; obtain ⟨L, X, -⟩ := X; exact Go.to (fun t k => XS.lshl X.here B.1 rfl (hb B.2.2.1 hd) rfl k) g
theorem glshr (B : Fix p Z s m meth c bytes maxL own nm ret) (X : St p l e R s m args below meth c h0 ws T h cells slots) {x : Int64} {y : Int32} {v : Int64} (hd : decode bytes pc = .ok (.lshr, 1))  (hv : x >>> (y &&& 0x3f).toInt64 = v) (hp : pc' = pc + 1) (g : Go p e below FE h0 ws Q T (mkF m pc' Ls (.long v :: st))) : Go p e below FE h0 ws Q T (mkF m pc Ls (.int y :: .long x :: st)) := by
  subst hp; subst hv; obtain ⟨L, X, -⟩ := X; exact Go.to (fun t k => XS.lshr X.here B.1 rfl (hb B.2.2.1 hd) rfl k) g
theorem glushr (B : Fix p Z s m meth c bytes maxL own nm ret) (X : St p l e R s m args below meth c h0 ws T h cells slots) {x : Int64} {y : Int32} {v : Int64} (hd : decode bytes pc = .ok (.lushr, 1))  (hv : (x.toUInt64 >>> (y &&& 0x3f).toInt64.toUInt64).toInt64 = v) (hp : pc' = pc + 1) (g : Go p e below FE h0 ws Q T (mkF m pc' Ls (.long v :: st))) : Go p e below FE h0 ws Q T (mkF m pc Ls (.int y :: .long x :: st)) := by
  subst hp; subst hv; obtain ⟨L, X, -⟩ := X; exact Go.to (fun t k => XS.lushr X.here B.1 rfl (hb B.2.2.1 hd) rfl k) g
theorem gineg (B : Fix p Z s m meth c bytes maxL own nm ret) (X : St p l e R s m args below meth c h0 ws T h cells slots) {x : Int32} {v : Int32} (hd : decode bytes pc = .ok (.ineg, 1))  (hv : -x = v) (hp : pc' = pc + 1) (g : Go p e below FE h0 ws Q T (mkF m pc' Ls (.int v :: st))) : Go p e below FE h0 ws Q T (mkF m pc Ls (.int x :: st)) := by
  subst hp; subst hv; obtain ⟨L, X, -⟩ := X; exact Go.to (fun t k => XS.ineg X.here B.1 rfl (hb B.2.2.1 hd) rfl k) g
theorem glneg (B : Fix p Z s m meth c bytes maxL own nm ret) (X : St p l e R s m args below meth c h0 ws T h cells slots) {x : Int64} {v : Int64} (hd : decode bytes pc = .ok (.lneg, 1))  (hv : -x = v) (hp : pc' = pc + 1) (g : Go p e below FE h0 ws Q T (mkF m pc' Ls (.long v :: st))) : Go p e below FE h0 ws Q T (mkF m pc Ls (.long x :: st)) := by
  subst hp; subst hv; obtain ⟨L, X, -⟩ := X; exact Go.to (fun t k => XS.lneg X.here B.1 rfl (hb B.2.2.1 hd) rfl k) g
theorem gi2l (B : Fix p Z s m meth c bytes maxL own nm ret) (X : St p l e R s m args below meth c h0 ws T h cells slots) {x : Int32} {v : Int64} (hd : decode bytes pc = .ok (.i2l, 1))  (hv : x.toInt64 = v) (hp : pc' = pc + 1) (g : Go p e below FE h0 ws Q T (mkF m pc' Ls (.long v :: st))) : Go p e below FE h0 ws Q T (mkF m pc Ls (.int x :: st)) := by
  subst hp; subst hv; obtain ⟨L, X, -⟩ := X; exact Go.to (fun t k => XS.i2l X.here B.1 rfl (hb B.2.2.1 hd) rfl k) g
theorem gl2i (B : Fix p Z s m meth c bytes maxL own nm ret) (X : St p l e R s m args below meth c h0 ws T h cells slots) {x : Int64} {v : Int32} (hd : decode bytes pc = .ok (.l2i, 1))  (hv : x.toInt32 = v) (hp : pc' = pc + 1) (g : Go p e below FE h0 ws Q T (mkF m pc' Ls (.int v :: st))) : Go p e below FE h0 ws Q T (mkF m pc Ls (.long x :: st)) := by
  subst hp; subst hv; obtain ⟨L, X, -⟩ := X; exact Go.to (fun t k => XS.l2i X.here B.1 rfl (hb B.2.2.1 hd) rfl k) g
theorem gi2b (B : Fix p Z s m meth c bytes maxL own nm ret) (X : St p l e R s m args below meth c h0 ws T h cells slots) {x : Int32} {v : Int32} (hd : decode bytes pc = .ok (.i2b, 1))  (hv : x.toInt8.toInt32 = v) (hp : pc' = pc + 1) (g : Go p e below FE h0 ws Q T (mkF m pc' Ls (.int v :: st))) : Go p e below FE h0 ws Q T (mkF m pc Ls (.int x :: st)) := by
  subst hp; subst hv; obtain ⟨L, X, -⟩ := X; exact Go.to (fun t k => XS.i2b X.here B.1 rfl (hb B.2.2.1 hd) rfl k) g
theorem gi2s (B : Fix p Z s m meth c bytes maxL own nm ret) (X : St p l e R s m args below meth c h0 ws T h cells slots) {x : Int32} {v : Int32} (hd : decode bytes pc = .ok (.i2s, 1))  (hv : x.toInt16.toInt32 = v) (hp : pc' = pc + 1) (g : Go p e below FE h0 ws Q T (mkF m pc' Ls (.int v :: st))) : Go p e below FE h0 ws Q T (mkF m pc Ls (.int x :: st)) := by
  subst hp; subst hv; obtain ⟨L, X, -⟩ := X; exact Go.to (fun t k => XS.i2s X.here B.1 rfl (hb B.2.2.1 hd) rfl k) g
theorem gi2c (B : Fix p Z s m meth c bytes maxL own nm ret) (X : St p l e R s m args below meth c h0 ws T h cells slots) {x : Int32} {v : Int32} (hd : decode bytes pc = .ok (.i2c, 1))  (hv : x.toUInt32.toUInt16.toUInt32.toInt32 = v) (hp : pc' = pc + 1) (g : Go p e below FE h0 ws Q T (mkF m pc' Ls (.int v :: st))) : Go p e below FE h0 ws Q T (mkF m pc Ls (.int x :: st)) := by
  subst hp; subst hv; obtain ⟨L, X, -⟩ := X; exact Go.to (fun t k => XS.i2c X.here B.1 rfl (hb B.2.2.1 hd) rfl k) g
theorem glcmp (B : Fix p Z s m meth c bytes maxL own nm ret) (X : St p l e R s m args below meth c h0 ws T h cells slots) {x y : Int64} (hd : decode bytes pc = .ok (.lcmp, 1))  (hp : pc' = pc + 1) (g : Go p e below FE h0 ws Q T (mkF m pc' Ls (.int (lcmpW x y) :: st))) : Go p e below FE h0 ws Q T (mkF m pc Ls (.long y :: .long x :: st)) := by
  subst hp; obtain ⟨L, X, -⟩ := X; exact Go.to (fun t k => XS.lcmp X.here B.1 rfl (hb B.2.2.1 hd) rfl k) g
theorem gdup (B : Fix p Z s m meth c bytes maxL own nm ret) (X : St p l e R s m args below meth c h0 ws T h cells slots) {x : Value} (hd : decode bytes pc = .ok (.dup, 1)) (hc : x.category = 1) (hp : pc' = pc + 1) (g : Go p e below FE h0 ws Q T (mkF m pc' Ls (x :: x :: st))) : Go p e below FE h0 ws Q T (mkF m pc Ls (x :: st)) := by
  subst hp; obtain ⟨L, X, -⟩ := X; exact Go.to (fun t k => XS.dup X.here B.1 rfl (hb B.2.2.1 hd) rfl hc k) g
theorem gpop (B : Fix p Z s m meth c bytes maxL own nm ret) (X : St p l e R s m args below meth c h0 ws T h cells slots) {x : Value} (hd : decode bytes pc = .ok (.pop, 1)) (hc : x.category = 1) (hp : pc' = pc + 1) (g : Go p e below FE h0 ws Q T (mkF m pc' Ls st)) : Go p e below FE h0 ws Q T (mkF m pc Ls (x :: st)) := by
  subst hp; obtain ⟨L, X, -⟩ := X; exact Go.to (fun t k => XS.pop X.here B.1 rfl (hb B.2.2.1 hd) rfl hc k) g
theorem gdup_x1 (B : Fix p Z s m meth c bytes maxL own nm ret) (X : St p l e R s m args below meth c h0 ws T h cells slots) {x y : Value} (hd : decode bytes pc = .ok (.dup_x1, 1)) (hc : x.category = 1) (hc2 : y.category = 1) (hp : pc' = pc + 1) (g : Go p e below FE h0 ws Q T (mkF m pc' Ls (x :: y :: x :: st))) : Go p e below FE h0 ws Q T (mkF m pc Ls (x :: y :: st)) := by
  subst hp; obtain ⟨L, X, -⟩ := X; exact Go.to (fun t k => XS.dupX1 X.here B.1 rfl (hb B.2.2.1 hd) rfl hc hc2 k) g
theorem gdup2 (B : Fix p Z s m meth c bytes maxL own nm ret) (X : St p l e R s m args below meth c h0 ws T h cells slots) {x y : Value} (hd : decode bytes pc = .ok (.dup2, 1)) (hc : x.category = 1) (hc2 : y.category = 1) (hp : pc' = pc + 1) (g : Go p e below FE h0 ws Q T (mkF m pc' Ls (x :: y :: x :: y :: st))) : Go p e below FE h0 ws Q T (mkF m pc Ls (x :: y :: st)) := by
  subst hp; obtain ⟨L, X, -⟩ := X; exact Go.to (fun t k => Jvm.Free.XT.dup2 X.here B.1 rfl (hb B.2.2.1 hd) rfl hc hc2 k) g
theorem xdup_x2 {tb : Tables} [Ours tb] {target : State} {g : JFrame} (h : At T m c below) (hx : tb.exec = Jvm.exec) (hg : g.method = m) {x y z : Value} {rest : List Value} (hd : decode c.code g.pc = .ok (.dup_x2, 1)) (hs : g.stack = x :: y :: z :: rest) (hc : x.category = 1) (hc' : y.category = 1) (hc2 : z.category = 1)
    (hr : Steps tb e below (T.setTop { g with pc := g.pc + 1, stack := x :: y :: z :: x :: rest }) target) : Steps tb e below (T.setTop g) target := by
  subst hg
  jvm_step h [h.top, hx, hd, hs, hc, hc', hc2]
  exact hr
theorem gdup_x2 (B : Fix p Z s m meth c bytes maxL own nm ret) (X : St p l e R s m args below meth c h0 ws T h cells slots) {x y z : Value} (hd : decode bytes pc = .ok (.dup_x2, 1)) (hc : x.category = 1) (hc2 : y.category = 1) (hc3 : z.category = 1) (hp : pc' = pc + 1) (g : Go p e below FE h0 ws Q T (mkF m pc' Ls (x :: y :: z :: x :: st))) : Go p e below FE h0 ws Q T (mkF m pc Ls (x :: y :: z :: st)) := by
  subst hp; obtain ⟨L, X, -⟩ := X; exact Go.to (fun t k => xdup_x2 X.here B.1 rfl (hb B.2.2.1 hd) rfl hc hc2 hc3 k) g
theorem giinc (B : Fix p Z s m meth c bytes maxL own nm ret) (X : St p l e R s m args below meth c h0 ws T h cells slots) {k : Nat} {cst : Int} {x v : Int32} (hd : decode bytes pc = .ok (.iinc k cst, 3)) (hl : Ls[k]? = some (.val (.int x))) (hv : x + Int32.ofInt cst = v) (hl' : storeLocals Ls k (.int v) = some Ls') (hp : pc' = pc + 3) (g : Go p e below FE h0 ws Q T (mkF m pc' Ls' st)) : Go p e below FE h0 ws Q T (mkF m pc Ls st) := by
  subst hp; subst hv; obtain ⟨L, X, -⟩ := X; exact Go.to (fun t k => XS.iinc X.here B.1 rfl (hb B.2.2.1 hd) hl hl' k) g
theorem ggoto (B : Fix p Z s m meth c bytes maxL own nm ret) (X : St p l e R s m args below meth c h0 ws T h cells slots) {o : Int} (hd : decode bytes pc = .ok (.goto o, 3)) (ho : 0 ≤ (pc : Int) + o ∧ ((pc : Int) + o).toNat = pc') (g : Go p e below FE h0 ws Q T (mkF m pc' Ls st)) : Go p e below FE h0 ws Q T (mkF m pc Ls st) := by
  obtain ⟨L, X, -⟩ := X; exact Go.to (fun t k => XS.goto X.here B.1 rfl (pc0 := pc) rfl (hb B.2.2.1 hd) ho.1 ho.2 k) g
theorem gifY (B : Fix p Z s m meth c bytes maxL own nm ret) (X : St p l e R s m args below meth c h0 ws T h cells slots) {cd : ClassFile.Cond} {o : Int} {x : Int32} (hd : decode bytes pc = .ok (.ifCond cd o, 3)) (hc : ifCond.holds cd x = true) (ho : 0 ≤ (pc : Int) + o ∧ ((pc : Int) + o).toNat = pc') (g : Go p e below FE h0 ws Q T (mkF m pc' Ls st)) : Go p e below FE h0 ws Q T (mkF m pc Ls (.int x :: st)) := by
  obtain ⟨L, X, -⟩ := X; exact Go.to (fun t k => XS.ifYes X.here B.1 rfl (pc0 := pc) rfl (hb B.2.2.1 hd) rfl hc ho.1 ho.2 k) g
theorem gifN (B : Fix p Z s m meth c bytes maxL own nm ret) (X : St p l e R s m args below meth c h0 ws T h cells slots) {cd : ClassFile.Cond} {o : Int} {x : Int32} (hd : decode bytes pc = .ok (.ifCond cd o, 3)) (hc : ifCond.holds cd x = false) (hp : pc' = pc + 3) (g : Go p e below FE h0 ws Q T (mkF m pc' Ls st)) : Go p e below FE h0 ws Q T (mkF m pc Ls (.int x :: st)) := by
  subst hp; obtain ⟨L, X, -⟩ := X; exact Go.to (fun t k => XS.ifNo X.here B.1 rfl (hb B.2.2.1 hd) rfl hc k) g
theorem gicY (B : Fix p Z s m meth c bytes maxL own nm ret) (X : St p l e R s m args below meth c h0 ws T h cells slots) {cd : ClassFile.Cond} {o : Int} {x y : Int32} (hd : decode bytes pc = .ok (.if_icmp cd o, 3)) (hc : if_icmp.holds cd x y = true) (ho : 0 ≤ (pc : Int) + o ∧ ((pc : Int) + o).toNat = pc') (g : Go p e below FE h0 ws Q T (mkF m pc' Ls st)) : Go p e below FE h0 ws Q T (mkF m pc Ls (.int y :: .int x :: st)) := by
  obtain ⟨L, X, -⟩ := X; exact Go.to (fun t k => XS.icmpYes X.here B.1 rfl (pc0 := pc) rfl (hb B.2.2.1 hd) rfl hc ho.1 ho.2 k) g
theorem gicN (B : Fix p Z s m meth c bytes maxL own nm ret) (X : St p l e R s m args below meth c h0 ws T h cells slots) {cd : ClassFile.Cond} {o : Int} {x y : Int32} (hd : decode bytes pc = .ok (.if_icmp cd o, 3)) (hc : if_icmp.holds cd x y = false) (hp : pc' = pc + 3) (g : Go p e below FE h0 ws Q T (mkF m pc' Ls st)) : Go p e below FE h0 ws Q T (mkF m pc Ls (.int y :: .int x :: st)) := by
  subst hp; obtain ⟨L, X, -⟩ := X; exact Go.to (fun t k => XS.icmpNo X.here B.1 rfl (hb B.2.2.1 hd) rfl hc k) g
theorem gnullN (B : Fix p Z s m meth c bytes maxL own nm ret) (X : St p l e R s m args below meth c h0 ws T h cells slots) {a : Addr} {o : Int} (hd : decode bytes pc = .ok (.ifnull o, 3)) (hp : pc' = pc + 3) (g : Go p e below FE h0 ws Q T (mkF m pc' Ls st)) : Go p e below FE h0 ws Q T (mkF m pc Ls (.ref a :: st)) := by
  subst hp; obtain ⟨L, X, -⟩ := X; exact Go.to (fun t k => XS.ifnullNo X.here B.1 rfl (hb B.2.2.1 hd) rfl k) g
theorem gldc (B : Fix p Z s m meth c bytes maxL own nm ret) (X : St p l e R s m args below meth c h0 ws T h cells slots) {i : Nat} {v : Int32} (w : (Cond.constant own i v).before a0 Z = true) (hd : decode bytes pc = .ok (.ldc i, 2)) (hp : pc' = pc + 2) (g : Go p e below FE h0 ws Q T (mkF m pc' Ls (.int v :: st))) : Go p e below FE h0 ws Q T (mkF m pc Ls st) := by
  subst hp; obtain ⟨L, X, -⟩ := X; exact Go.to (fun t k => X.ldcInt B.1 B.2.2.2.2.1 (mvT B.2.1 w) (g := mkF m pc Ls st) rfl (hb B.2.2.1 hd) t k) g
theorem gldcw (B : Fix p Z s m meth c bytes maxL own nm ret) (X : St p l e R s m args below meth c h0 ws T h cells slots) {i : Nat} {v : Int32} (w : (Cond.constant own i v).before a0 Z = true) (hd : decode bytes pc = .ok (.ldc_w i, 3)) (hp : pc' = pc + 3) (g : Go p e below FE h0 ws Q T (mkF m pc' Ls (.int v :: st))) : Go p e below FE h0 ws Q T (mkF m pc Ls st) := by
  subst hp; obtain ⟨L, X, -⟩ := X; exact Go.to (fun t k => X.ldcwInt B.1 B.2.2.2.2.1 (mvT B.2.1 w) (g := mkF m pc Ls st) rfl (hb B.2.2.1 hd) t k) g
theorem gldc2 (B : Fix p Z s m meth c bytes maxL own nm ret) (X : St p l e R s m args below meth c h0 ws T h cells slots) {i : Nat} {v : Int64} (w : (Cond.constantLong own i v).before a0 Z = true) (hd : decode bytes pc = .ok (.ldc2_w i, 3)) (hp : pc' = pc + 3) (g : Go p e below FE h0 ws Q T (mkF m pc' Ls (.long v :: st))) : Go p e below FE h0 ws Q T (mkF m pc Ls st) := by
  subst hp; obtain ⟨L, X, -⟩ := X; exact Go.to (fun t k => X.ldc2Long B.1 B.2.2.2.2.1 (mvT B.2.1 w) (g := mkF m pc Ls st) rfl (hb B.2.2.1 hd) t k) g
theorem giaload (B : Fix p Z s m meth c bytes maxL own nm ret) (X : St p l e R s m args below meth c h0 ws T h cells slots) {a : Addr} {vs : List Value} {j : Int32} {v : Value} {n : Nat} (A : VA Z h a .int vs) (hn : vs.length = n) (hj : 0 ≤ j.toInt ∧ j.toInt < n) (hv : vs[j.toNatClampNeg]? = some v) (hd : decode bytes pc = .ok (.iaload, 1)) (hp : pc' = pc + 1) (g : Go p e below FE h0 ws Q T (mkF m pc' Ls (v :: st))) : Go p e below FE h0 ws Q T (mkF m pc Ls (.int j :: .ref a :: st)) := by
  subst hp; subst hn; obtain ⟨L, X, eT, -⟩ := X; obtain ⟨cl, A, r, n⟩ := A
  exact Go.to (fun t k => X.iaload B.1 (by rw [eT]; exact A.1) (State.isArrayOf_alike B.2.1.alike A.2.1) A.2.2 (by rw [r]; exact inb (by simpa using hj)) (by rw [r]; simpa using hv) (g := mkF m pc Ls (.int j :: .ref a :: st)) rfl rfl (hb B.2.2.1 hd) t k) g
theorem glaload (B : Fix p Z s m meth c bytes maxL own nm ret) (X : St p l e R s m args below meth c h0 ws T h cells slots) {a : Addr} {vs : List Value} {j : Int32} {v : Value} {n : Nat} (A : VA Z h a .long vs) (hn : vs.length = n) (hj : 0 ≤ j.toInt ∧ j.toInt < n) (hv : vs[j.toNatClampNeg]? = some v) (hd : decode bytes pc = .ok (.laload, 1)) (hp : pc' = pc + 1) (g : Go p e below FE h0 ws Q T (mkF m pc' Ls (v :: st))) : Go p e below FE h0 ws Q T (mkF m pc Ls (.int j :: .ref a :: st)) := by
  subst hp; subst hn; obtain ⟨L, X, eT, -⟩ := X; obtain ⟨cl, A, r, n⟩ := A
  exact Go.to (fun t k => X.laload B.1 (by rw [eT]; exact A.1) (State.isArrayOf_alike B.2.1.alike A.2.1) A.2.2 (by rw [r]; exact inb (by simpa using hj)) (by rw [r]; simpa using hv) (g := mkF m pc Ls (.int j :: .ref a :: st)) rfl rfl (hb B.2.2.1 hd) t k) g
theorem gbaload (B : Fix p Z s m meth c bytes maxL own nm ret) (X : St p l e R s m args below meth c h0 ws T h cells slots) {a : Addr} {vs : List Value} {j : Int32} {v : Value} {n : Nat} (A : VA Z h a .byte vs) (hn : vs.length = n) (hj : 0 ≤ j.toInt ∧ j.toInt < n) (hv : vs[j.toNatClampNeg]? = some v) (hd : decode bytes pc = .ok (.baload, 1)) (hp : pc' = pc + 1) (g : Go p e below FE h0 ws Q T (mkF m pc' Ls (v :: st))) : Go p e below FE h0 ws Q T (mkF m pc Ls (.int j :: .ref a :: st)) := by
  subst hp; subst hn; obtain ⟨L, X, eT, -⟩ := X; obtain ⟨cl, A, r, n⟩ := A
  exact Go.to (fun t k => X.baloadBytes B.1 (by rw [eT]; exact A.1) (State.isArrayOf_alike B.2.1.alike A.2.1) A.2.2 (by rw [r]; exact inb (by simpa using hj)) (by rw [r]; simpa using hv) (g := mkF m pc Ls (.int j :: .ref a :: st)) rfl rfl (hb B.2.2.1 hd) t k) g
theorem gzaload (B : Fix p Z s m meth c bytes maxL own nm ret) (X : St p l e R s m args below meth c h0 ws T h cells slots) {a : Addr} {vs : List Value} {j : Int32} {v : Value} {n : Nat} (A : VA Z h a .boolean vs) (hn : vs.length = n) (hj : 0 ≤ j.toInt ∧ j.toInt < n) (hv : vs[j.toNatClampNeg]? = some v) (hd : decode bytes pc = .ok (.baload, 1)) (hp : pc' = pc + 1) (g : Go p e below FE h0 ws Q T (mkF m pc' Ls (v :: st))) : Go p e below FE h0 ws Q T (mkF m pc Ls (.int j :: .ref a :: st)) := by
  subst hp; subst hn; obtain ⟨L, X, eT, -⟩ := X; obtain ⟨cl, A, r, n⟩ := A
  exact Go.to (fun t k => X.baloadBooleans B.1 (by rw [eT]; exact A.1) (State.isArrayOf_alike B.2.1.alike A.2.1) A.2.2 (by rw [r]; exact inb (by simpa using hj)) (by rw [r]; simpa using hv) (g := mkF m pc Ls (.int j :: .ref a :: st)) rfl rfl (hb B.2.2.1 hd) t k) g
theorem glength (B : Fix p Z s m meth c bytes maxL own nm ret) (X : St p l e R s m args below meth c h0 ws T h cells slots) {a : Addr} {ty : FieldType} {vs : List Value} {n : Int32} {k : Nat} (A : VA Z h a ty vs) (hk : vs.length = k) (hn : n.toInt = k) (hd : decode bytes pc = .ok (.arraylength, 1)) (hp : pc' = pc + 1) (g : Go p e below FE h0 ws Q T (mkF m pc' Ls (.int n :: st))) : Go p e below FE h0 ws Q T (mkF m pc Ls (.ref a :: st)) := by
  subst hp; subst hk; obtain ⟨L, X, eT, -⟩ := X; obtain ⟨cl, A, r, q⟩ := A
  have e1 : cl.slots.size.toInt32 = n := by rw [r]; apply Int32.toInt_inj.mp; rw [len_toInt (by simpa using q), hn]; simp
  exact Go.to (fun t k => X.arraylength B.1 (by rw [eT]; exact A.1) (State.isArrayOf_alike B.2.1.alike A.2.1) (g := mkF m pc Ls (.ref a :: st)) rfl rfl (hb B.2.2.1 hd) t (by rw [e1]; exact k)) g
theorem giastore (B : Fix p Z s m meth c bytes maxL own nm ret) (X : St p l e R s m args below meth c h0 ws T h cells slots) {a : Addr} {vs vs' : List Value} {j : Int32} {x : Int32} {i n : Nat} (A : VA Z h a .int vs) (hn : vs.length = n) (hj : 0 ≤ j.toInt ∧ j.toInt < n) (hi : j.toNatClampNeg = i) (hvs : vs.set i (.int x) = vs') (ha : a ∈ ws ∨ h0.size ≤ a) (hd : decode bytes pc = .ok (.iastore, 1)) (hp : pc' = pc + 1) (g : ∀ T' h', St p l e R s m args below meth c h0 ws T' h' cells slots → Wr h h' a i (.int x) → VA Z h' a .int vs' → Go p e below FE h0 ws Q T' (mkF m pc' Ls st)) : Go p e below FE h0 ws Q T (mkF m pc Ls (.int x :: .int j :: .ref a :: st)) := by
  subst hp; subst hi; subst hvs; subst hn; obtain ⟨L, X, eT, KK, FF⟩ := X; have A0 := A; obtain ⟨cl, A, r, n⟩ := A
  obtain ⟨T', h', X', e', W, k⟩ := stI X B.1 B.2.1 eT A (by rw [r]; exact inb (by simpa using hj)) (g := mkF m pc Ls (.int x :: .int j :: .ref a :: st)) rfl rfl (hb B.2.2.1 hd)
  exact Go.to k (g T' h' ⟨_, X', e', KK.wr W ha, fun y hy => (List.mem_append.mp hy).elim (FF y) fun q => by cases List.mem_singleton.mp q; exact ha⟩ W (A0.set W))
theorem glastore (B : Fix p Z s m meth c bytes maxL own nm ret) (X : St p l e R s m args below meth c h0 ws T h cells slots) {a : Addr} {vs vs' : List Value} {j : Int32} {x : Int64} {i n : Nat} (A : VA Z h a .long vs) (hn : vs.length = n) (hj : 0 ≤ j.toInt ∧ j.toInt < n) (hi : j.toNatClampNeg = i) (hvs : vs.set i (.long x) = vs') (ha : a ∈ ws ∨ h0.size ≤ a) (hd : decode bytes pc = .ok (.lastore, 1)) (hp : pc' = pc + 1) (g : ∀ T' h', St p l e R s m args below meth c h0 ws T' h' cells slots → Wr h h' a i (.long x) → VA Z h' a .long vs' → Go p e below FE h0 ws Q T' (mkF m pc' Ls st)) : Go p e below FE h0 ws Q T (mkF m pc Ls (.long x :: .int j :: .ref a :: st)) := by
  subst hp; subst hi; subst hvs; subst hn; obtain ⟨L, X, eT, KK, FF⟩ := X; have A0 := A; obtain ⟨cl, A, r, n⟩ := A
  obtain ⟨T', h', X', e', W, k⟩ := stJ X B.1 B.2.1 eT A (by rw [r]; exact inb (by simpa using hj)) (g := mkF m pc Ls (.long x :: .int j :: .ref a :: st)) rfl rfl (hb B.2.2.1 hd)
  exact Go.to k (g T' h' ⟨_, X', e', KK.wr W ha, fun y hy => (List.mem_append.mp hy).elim (FF y) fun q => by cases List.mem_singleton.mp q; exact ha⟩ W (A0.set W))
theorem gbastore (B : Fix p Z s m meth c bytes maxL own nm ret) (X : St p l e R s m args below meth c h0 ws T h cells slots) {a : Addr} {vs vs' : List Value} {j : Int32} {x : Int32} {i n : Nat} (A : VA Z h a .byte vs) (hn : vs.length = n) (hj : 0 ≤ j.toInt ∧ j.toInt < n) (hi : j.toNatClampNeg = i) (hvs : vs.set i (.int x.toInt8.toInt32) = vs') (ha : a ∈ ws ∨ h0.size ≤ a) (hd : decode bytes pc = .ok (.bastore, 1)) (hp : pc' = pc + 1) (g : ∀ T' h', St p l e R s m args below meth c h0 ws T' h' cells slots → Wr h h' a i (.int x.toInt8.toInt32) → VA Z h' a .byte vs' → Go p e below FE h0 ws Q T' (mkF m pc' Ls st)) : Go p e below FE h0 ws Q T (mkF m pc Ls (.int x :: .int j :: .ref a :: st)) := by
  subst hp; subst hi; subst hvs; subst hn; obtain ⟨L, X, eT, KK, FF⟩ := X; have A0 := A; obtain ⟨cl, A, r, n⟩ := A
  obtain ⟨T', h', X', e', W, k⟩ := stB X B.1 B.2.1 eT A (by rw [r]; exact inb (by simpa using hj)) (g := mkF m pc Ls (.int x :: .int j :: .ref a :: st)) rfl rfl (hb B.2.2.1 hd)
  exact Go.to k (g T' h' ⟨_, X', e', KK.wr W ha, fun y hy => (List.mem_append.mp hy).elim (FF y) fun q => by cases List.mem_singleton.mp q; exact ha⟩ W (A0.set W))
theorem gzastore (B : Fix p Z s m meth c bytes maxL own nm ret) (X : St p l e R s m args below meth c h0 ws T h cells slots) {a : Addr} {vs vs' : List Value} {j : Int32} {x : Int32} {i n : Nat} (A : VA Z h a .boolean vs) (hn : vs.length = n) (hj : 0 ≤ j.toInt ∧ j.toInt < n) (hi : j.toNatClampNeg = i) (hvs : vs.set i (.int (x &&& 1)) = vs') (ha : a ∈ ws ∨ h0.size ≤ a) (hd : decode bytes pc = .ok (.bastore, 1)) (hp : pc' = pc + 1) (g : ∀ T' h', St p l e R s m args below meth c h0 ws T' h' cells slots → Wr h h' a i (.int (x &&& 1)) → VA Z h' a .boolean vs' → Go p e below FE h0 ws Q T' (mkF m pc' Ls st)) : Go p e below FE h0 ws Q T (mkF m pc Ls (.int x :: .int j :: .ref a :: st)) := by
  subst hp; subst hi; subst hvs; subst hn; obtain ⟨L, X, eT, KK, FF⟩ := X; have A0 := A; obtain ⟨cl, A, r, n⟩ := A
  obtain ⟨T', h', X', e', W, k⟩ := stZ X B.1 B.2.1 eT A (by rw [r]; exact inb (by simpa using hj)) (g := mkF m pc Ls (.int x :: .int j :: .ref a :: st)) rfl rfl (hb B.2.2.1 hd)
  exact Go.to k (g T' h' ⟨_, X', e', KK.wr W ha, fun y hy => (List.mem_append.mp hy).elim (FF y) fun q => by cases List.mem_singleton.mp q; exact ha⟩ W (A0.set W))
theorem gnewarray (B : Fix p Z s m meth c bytes maxL own nm ret) (X : St p l e R s m args below meth c h0 ws T h cells slots) {aty : ArrayType} {n : Int32} {cap : Nat} {vs : List Value} {ty : FieldType} (hty : newarray.typeOf aty = ty) (hvs : List.replicate n.toNatClampNeg (defaultValue ty) = vs) (w : (Cond.arrayClass ty).before a0 Z = true) (hn : 0 ≤ n.toInt) (hcap : n.toInt ≤ cap) (hb8 : cap * 8 ≤ 536870912) (hc : cells + 1 ≤ R.cells) (hl : slots + cap ≤ R.slots) (hd : decode bytes pc = .ok (.newarray aty, 2)) (hp : pc' = pc + 2) (g : ∀ T' h' a, St p l e R s m args below meth c h0 ws T' h' (cells + 1) (slots + cap) → a = h.size → Ext h h' → h0.size ≤ a → VA Z h' a ty vs → Go p e below FE h0 ws Q T' (mkF m pc' Ls (.ref a :: st))) : Go p e below FE h0 ws Q T (mkF m pc Ls (.int n :: st)) := by
  subst hp; subst hty; subst hvs; obtain ⟨L, X, eT, KK, FF⟩ := X
  have hn' : ¬ n < 0 := by rw [Int32.lt_iff_toInt_lt, show (0 : Int32).toInt = 0 from rfl]; omega
  obtain ⟨T', h', cA, X', e', E, A, k⟩ := newP X B.1 B.2.1 w eT (g := mkF m pc Ls (.int n :: st)) rfl (hb B.2.2.1 hd) rfl hn' (cap := cap) (by simp only [Int32.toNatClampNeg]; omega) hb8 hc hl
  exact Go.to k (g T' h' _ ⟨_, X', e', KK.ext E, FF⟩ rfl E KK.1 (VA.new A hn'))
theorem gnewarrayE (B : Fix p Z s m meth c bytes maxL own nm ret) (X : St p l e R s m args below meth c h0 ws T h cells slots) {aty : ArrayType} {n : Int32} {cap : Nat} {vs : List Value} {ty : FieldType} {ad : String} (had : "[" ++ ty.toString = ad) (hty : newarray.typeOf aty = ty) (hvs : List.replicate n.toNatClampNeg (defaultValue ty) = vs) (w : (Cond.arrayClass ty).before a0 Z = true) (hn : 0 ≤ n.toInt) (hcap : n.toInt ≤ cap) (hb8 : cap * 8 ≤ 536870912) (hc : cells + 1 ≤ R.cells) (hl : slots + cap ≤ R.slots) (hd : decode bytes pc = .ok (.newarray aty, 2)) (hp : pc' = pc + 2) (g : ∀ T' h' a, St p l e R s m args below meth c h0 ws T' h' (cells + 1) (slots + cap) → a = h.size → Ext h h' → h0.size ≤ a → VA Z h' a ty vs → Exa Z h' a ad → Go p e below FE h0 ws Q T' (mkF m pc' Ls (.ref a :: st))) : Go p e below FE h0 ws Q T (mkF m pc Ls (.int n :: st)) := by
  subst hp; subst hty; subst hvs; obtain ⟨L, X, eT, KK, FF⟩ := X
  have hn' : ¬ n < 0 := by rw [Int32.lt_iff_toInt_lt, show (0 : Int32).toInt = 0 from rfl]; omega
  obtain ⟨T', h', cA, X', e', E, A, EA, k⟩ := newPE X B.1 B.2.1 w eT (g := mkF m pc Ls (.int n :: st)) rfl (hb B.2.2.1 hd) rfl hn' (cap := cap) (by simp only [Int32.toNatClampNeg]; omega) hb8 hc hl had
  exact Go.to k (g T' h' _ ⟨_, X', e', KK.ext E, FF⟩ rfl E KK.1 (VA.new A hn') EA)
theorem gclone (B : Fix p Z s m meth c bytes maxL own nm ret) (X : St p l e R s m args below meth c h0 ws T h cells slots) {a : Addr} {i W cap n : Nat} {vs : List Value} {ty : FieldType} {ad : String} (w1 : (Cond.methodLink own i ⟨ad, "clone", "()Ljava/lang/Object;"⟩).before a0 Z = true) (w2 : (Cond.sameMethod ad "java/lang/Object" "clone" "()Ljava/lang/Object;").before a0 Z = true) (w3 : (Cond.native ⟨"java/lang/Object", "clone", "()Ljava/lang/Object;"⟩).before a0 Z = true) (w4 : (Cond.instanceMethod ⟨"java/lang/Object", "clone", "()Ljava/lang/Object;"⟩).before a0 Z = true) (w5 : (Cond.selects ad ⟨ad, "clone", "()Ljava/lang/Object;"⟩ ⟨"java/lang/Object", "clone", "()Ljava/lang/Object;"⟩).before a0 Z = true) (w6 : (Cond.castable ad "java/lang/Cloneable").before a0 Z = true) (A : VA Z h a ty vs) (E : Exa Z h a ad) (hf : ∀ v ∈ vs, fits ty v = true) (hn : vs.length = n) (hcap : n ≤ cap) (hsz : Ls.size = maxL) (hfr : 1 ≤ R.frames) (hW : (st.map fun v => v.category).sum ≤ W) (hl : W + 14 ≤ R.locals) (hc : cells + 1 ≤ R.cells) (hs : slots + cap ≤ R.slots) (hd : decode bytes pc = .ok (.invokevirtual i, 3)) (hp : pc' = pc + 3) (g : ∀ T' h' a', St p l e R s m args below meth c h0 ws T' h' (cells + 1) (slots + cap) → a' = h.size → Ext h h' → h0.size ≤ a' → VA Z h' a' ty vs → Exa Z h' a' ad → Go p e below FE h0 ws Q T' (mkF m pc' Ls (.ref a' :: st))) : Go p e below FE h0 ws Q T (mkF m pc Ls (.ref a :: st)) := by
  subst hp; subst hn; obtain ⟨L0, X, eT, KK, FF⟩ := X; obtain ⟨cl, A, r, q⟩ := A
  have FC : FitC Z cl := fitC_of A fun i hi v hv => hf v (by rw [r] at hv; simp at hv; exact List.mem_of_getElem? hv)
  obtain ⟨T', h', X', e', E1, A', EA, k⟩ := cloneA X B.1 B.2.1 B.2.2.2.2.1 w1 w2 w3 w4 w5 w6 eT A E FC (g := mkF m pc Ls (.ref a :: st)) rfl (hsz.trans B.2.2.2.1.symm) rfl (hb B.2.2.1 hd) hfr (W := W) (cap := cap) (by show 2 * 0 + _ ≤ _; rw [Nat.mul_zero, Nat.zero_add]; exact hW) hl (by rw [r]; simpa using hcap) hc hs
  exact Go.to k (g T' h' _ ⟨_, X', e', KK.ext E1, FF⟩ rfl E1 KK.1 ⟨_, A', r, q⟩ EA)
theorem gcast (B : Fix p Z s m meth c bytes maxL own nm ret) (X : St p l e R s m args below meth c h0 ws T h cells slots) {a : Addr} {i : Nat} {K0 : String} (w : (Cond.classLink own i K0).before a0 Z = true) (F : Ins Z h a K0 true) (hd : decode bytes pc = .ok (.checkcast i, 3)) (hp : pc' = pc + 3) (g : ∀ T', St p l e R s m args below meth c h0 ws T' h cells slots → Go p e below FE h0 ws Q T' (mkF m pc' Ls (.ref a :: st))) : Go p e below FE h0 ws Q T (mkF m pc Ls (.ref a :: st)) := by
  subst hp; obtain ⟨L0, X, eT, r⟩ := X
  obtain ⟨T', X', e', k⟩ := castY X B.1 B.2.1 B.2.2.2.2.1 w eT F (g := mkF m pc Ls (.ref a :: st)) rfl rfl (hb B.2.2.1 hd)
  exact Go.to k (g T' ⟨L0, X', e', r⟩)
theorem gget (B : Fix p Z s m meth c bytes maxL own nm ret) (X : St p l e R s m args below meth c h0 ws T h cells slots) {a : Addr} {i : Nat} {C n d : String} {v : Value} (w : (Cond.fieldLink own i C n d).before a0 Z = true) (F : Fld Z h a C n d v) (hd : decode bytes pc = .ok (.getfield i, 3)) (hp : pc' = pc + 3) (g : ∀ T', St p l e R s m args below meth c h0 ws T' h cells slots → Go p e below FE h0 ws Q T' (mkF m pc' Ls (v :: st))) : Go p e below FE h0 ws Q T (mkF m pc Ls (.ref a :: st)) := by
  subst hp; obtain ⟨L, X, eT, r⟩ := X
  obtain ⟨T', X', e', k⟩ := getF X B.1 B.2.1 B.2.2.2.2.1 (host := "") (Or.inl w) Via.refl eT F (g := mkF m pc Ls (.ref a :: st)) rfl rfl (hb B.2.2.1 hd)
  exact Go.to k (g T' ⟨L, X', e', r⟩)
theorem gput (B : Fix p Z s m meth c bytes maxL own nm ret) (X : St p l e R s m args below meth c h0 ws T h cells slots) {a : Addr} {i kk : Nat} {C O n d : String} {ty : FieldType} {v old : Value} (w : (Cond.fieldLink own i O n d).before a0 Z = true) (F : Fld Z h a O n d old) (E : Exa Z h a C) (L : (Cond.lays C O n d).before a0 Z = true ∨ ((Cond.laysFinal C O n d).before a0 Z = true ∧ own = O ∧ nm = "<init>")) (wi : (Cond.instantiable C kk).before a0 Z = true) (hty : parseFieldDescriptor d = some ty) (hn : narrow ty v = v) (hf : fits ty v = true) (ha : a ∈ ws ∨ h0.size ≤ a) (hd : decode bytes pc = .ok (.putfield i, 3)) (hp : pc' = pc + 3) (g : ∀ T' h', St p l e R s m args below meth c h0 ws T' h' cells slots → Wr h h' a (Jvm.RoadKit.slotOf Z O n d) v → Go p e below FE h0 ws Q T' (mkF m pc' Ls st)) : Go p e below FE h0 ws Q T (mkF m pc Ls (v :: .ref a :: st)) := by
  subst hp; obtain ⟨L0, X, eT, KK, FF⟩ := X
  obtain ⟨T', h', X', e', W, k⟩ := putF X B.1 B.2.1 B.2.2.2.2.1 (host := "") (Or.inl w) Via.refl eT F E (L.imp id fun q => ⟨q.1, q.2.1, B.2.2.2.2.2.1.trans q.2.2⟩) wi hty hn hf (g := mkF m pc Ls (v :: .ref a :: st)) rfl rfl (hb B.2.2.1 hd)
  exact Go.to k (g T' h' ⟨_, X', e', KK.wr W ha, fun y hy => (List.mem_append.mp hy).elim (FF y) fun q => by cases List.mem_singleton.mp q; exact ha⟩ W)
theorem gnew (B : Fix p Z s m meth c bytes maxL own nm ret) (X : St p l e R s m args below meth c h0 ws T h cells slots) {i n : Nat} {C : String} (w : (Cond.classLink own i C).before a0 Z = true) (wi : (Cond.instantiable C n).before a0 Z = true) (wz : (Cond.initialized C).before a0 Z = true) (hc : cells + 1 ≤ R.cells) (hl : slots + n ≤ R.slots) (hd : decode bytes pc = .ok (.new i, 3)) (hp : pc' = pc + 3) (g : ∀ T' h' a, St p l e R s m args below meth c h0 ws T' h' (cells + 1) (slots + n) → a = h.size → Ext h h' → h0.size ≤ a → Exa Z h' a C → (∀ {O nm d : String} {ty : FieldType}, Laid Z a0 C O nm d → parseFieldDescriptor d = some ty → Fld Z h' a O nm d (defaultValue ty)) → Go p e below FE h0 ws Q T' (mkF m pc' Ls (.ref a :: st))) : Go p e below FE h0 ws Q T (mkF m pc Ls st) := by
  subst hp; obtain ⟨L0, X, eT, KK, FF⟩ := X
  obtain ⟨T', h', X', e', E, A, D, -, k⟩ := newO X B.1 B.2.1 B.2.2.2.2.1 w wi wz eT (g := mkF m pc Ls st) rfl (hb B.2.2.1 hd) hc hl
  exact Go.to k (g T' h' _ ⟨_, X', e', KK.ext E, FF⟩ rfl E KK.1 A D)
theorem ginitO (B : Fix p Z s m meth c bytes maxL own nm ret) (X : St p l e R s m args below meth c h0 ws T h cells slots) {a : Addr} {i W : Nat} (w1 : (Cond.methodLink own i Lib.objectInit).before a0 Z = true) (w2 : (Cond.instanceMethod Lib.objectInit).before a0 Z = true) (w3 : (Cond.code Lib.objectInit ⟨#[0xb1]⟩ 1 none).before a0 Z = true) (hsz : Ls.size = maxL) (hf : 1 ≤ R.frames) (hW : (st.map fun v => v.category).sum ≤ W) (hl : W + 12 ≤ R.locals) (hd : decode bytes pc = .ok (.invokespecial i, 3)) (hp : pc' = pc + 3) (g : ∀ T', St p l e R s m args below meth c h0 ws T' h cells slots → Go p e below FE h0 ws Q T' (mkF m pc' Ls st)) : Go p e below FE h0 ws Q T (mkF m pc Ls (.ref a :: st)) := by
  subst hp; obtain ⟨L0, X, eT, r⟩ := X
  obtain ⟨T', X', e', k⟩ := initO X B.1 B.2.1 B.2.2.2.2.1 w1 w2 w3 eT (g := mkF m pc Ls (.ref a :: st)) rfl (hsz.trans B.2.2.2.1.symm) rfl (hb B.2.2.1 hd) hf (W := W) (by show 2 * 0 + _ ≤ _; rw [Nat.mul_zero, Nat.zero_add]; exact hW) hl
  exact Go.to k (g T' ⟨L0, X', e', r⟩)
theorem gcallS (B : Fix p Z s m meth c bytes maxL own nm ret) (X : St p l e R s m args below meth c h0 ws T h cells slots) {y : MethodName} {bytes' : ByteArray} {maxL' : Nat} {ret' : Option FieldType} {rm : Room} {ws' : List Addr} {Q' : Option Value → Heap → Prop} {stk argsL : List Value} {i W : Nat} {ps : List FieldType} {rr : Option FieldType}  (w1 : (Cond.methodLink own i y).before a0 Z = true) (w2 : (Cond.static y).before a0 Z = true) (w3 : (Cond.initialized y.cls).before a0 Z = true) (w4 : (Cond.code y bytes' maxL' ret').before a0 Z = true) (hy : y.cls ≠ "java/lang/invoke/MethodHandle" ∧ y.cls ≠ "java/lang/invoke/VarHandle") (M : Meth l Z y bytes' maxL' ret' rm argsL.toArray h ws' Q') (hpd : parseMethodDescriptor y.desc = some ⟨ps, rr⟩) (hlen : argsL.length = ps.length) (hstk : stk = argsL.reverse ++ st) (hsz : Ls.size = maxL) (hW : (st.map fun v => v.category).sum ≤ W) (hfr : rm.frames + 1 ≤ R.frames) (hlo : W + (maxL' + 11) + rm.locals ≤ R.locals) (hcs : cells + rm.cells ≤ R.cells) (hss : slots + rm.slots ≤ R.slots) (hws : ∀ x ∈ ws', x ∈ ws ∨ h0.size ≤ x) (hd : decode bytes pc = .ok (.invokestatic i, 3)) (hp : pc' = pc + 3)
    (g : ∀ T' h' v, St p l e R s m args below meth c h0 ws T' h' (cells + rm.cells) (slots + rm.slots) → Keep h h' ws' → Q' v h' → Go p e below FE h0 ws Q T' (mkF m pc' Ls (v.toList ++ st))) : Go p e below FE h0 ws Q T (mkF m pc Ls stk) := by
  subst hp; subst hstk; obtain ⟨L0, X, eT, KK, FF⟩ := X
  obtain ⟨v2, _, ⟨T2, L2, c2, n2⟩, -, X2, ⟨Lc2, hq, l2, y2, z2⟩, k2⟩ := Jvm.LawKit.callS X B.1 (y := y) B.2.2.2.2.1 (mvT B.2.1 w1) (mvT B.2.1 w2) (mvT B.2.1 w3) (mvT B.2.1 w4) hy (backOf (W := W) (Q := fun v h' L => Q' v h' ∧ Keep h h' ws' ∧ FrW h ws' L) (M []) B.2.1 w4 w3 hfr hlo) (g := mkF m pc Ls (argsL.reverse ++ st)) rfl (hsz.trans B.2.2.2.1.symm) (argsL := argsL) (rest := st) (lenOf hpd hlen) rfl (by show 2 * 0 + _ ≤ _; rw [Nat.mul_zero, Nat.zero_add]; exact hW) (hb B.2.2.1 hd) (fun _ _ => ⟨rfl, eT, hcs, hss⟩)
  dsimp only [Pt.U, Pt.locs, Pt.cells, Pt.slots] at X2 l2 y2 z2 k2 hq
  subst l2 y2 z2
  refine Go.to k2 (g T2 T2.heap v2 ⟨_, X2, rfl, KK.trans hq.2.1 hws, fun y hy => (List.mem_append.mp hy).elim (FF y) fun q => ?_⟩ hq.2.1 hq.1)
  exact (hq.2.2 y q).elim (fun z => hws _ z) fun z => Or.inr (Nat.le_trans KK.1 z)
theorem gcallI (B : Fix p Z s m meth c bytes maxL own nm ret) (X : St p l e R s m args below meth c h0 ws T h cells slots) {y : MethodName} {bytes' : ByteArray} {maxL' : Nat} {ret' : Option FieldType} {rm : Room} {ws' : List Addr} {Q' : Option Value → Heap → Prop} {stk argsL : List Value} {i W : Nat} {ps : List FieldType} {rr : Option FieldType} {a : Addr} (hni : y.name = "<init>") (hret : ret' = none) (w1 : (Cond.methodLink own i y).before a0 Z = true) (w2 : (Cond.instanceMethod y).before a0 Z = true) (w3 : (Cond.initialized y.cls).before a0 Z = true) (w4 : (Cond.code y bytes' maxL' ret').before a0 Z = true) (hy : y.cls ≠ "java/lang/invoke/MethodHandle" ∧ y.cls ≠ "java/lang/invoke/VarHandle") (M : Meth l Z y bytes' maxL' ret' rm (.ref a :: argsL).toArray h ws' Q') (hpd : parseMethodDescriptor y.desc = some ⟨ps, rr⟩) (hlen : argsL.length = ps.length) (hstk : stk = argsL.reverse ++ .ref a :: st) (hsz : Ls.size = maxL) (hW : (st.map fun v => v.category).sum ≤ W) (hfr : rm.frames + 1 ≤ R.frames) (hlo : W + (maxL' + 11) + rm.locals ≤ R.locals) (hcs : cells + rm.cells ≤ R.cells) (hss : slots + rm.slots ≤ R.slots) (hws : ∀ x ∈ ws', x ∈ ws ∨ h0.size ≤ x) (hd : decode bytes pc = .ok (.invokespecial i, 3)) (hp : pc' = pc + 3)
    (g : ∀ T' h' v, St p l e R s m args below meth c h0 ws T' h' (cells + rm.cells) (slots + rm.slots) → Keep h h' ws' → Q' v h' → Go p e below FE h0 ws Q T' (mkF m pc' Ls (v.toList ++ st))) : Go p e below FE h0 ws Q T (mkF m pc Ls stk) := by
  subst hp; subst hstk; obtain ⟨L0, X, eT, KK, FF⟩ := X
  subst hret
  obtain ⟨v2, _, ⟨T2, L2, c2, n2⟩, -, X2, ⟨Lc2, hq, l2, y2, z2⟩, k2⟩ := X.specialBack B.1 (y := y) hni B.2.2.2.2.1 (mvT B.2.1 w1) (mvT B.2.1 w2) (mvT B.2.1 w4) hy (backOf (W := W) (Q := fun v h' L => Q' v h' ∧ Keep h h' ws' ∧ FrW h ws' L) (M []) B.2.1 w4 w3 hfr hlo) (g := mkF m pc Ls (argsL.reverse ++ .ref a :: st)) rfl (hsz.trans B.2.2.2.1.symm) (Steps.refl _) (a := a) (argsL := argsL) (rest := st) (lenOf hpd hlen) rfl (by show 2 * 0 + _ ≤ _; rw [Nat.mul_zero, Nat.zero_add]; exact hW) (hb B.2.2.1 hd) (fun _ _ => ⟨rfl, eT, hcs, hss⟩)
  dsimp only [Pt.U, Pt.locs, Pt.cells, Pt.slots] at X2 l2 y2 z2 k2 hq
  subst l2 y2 z2
  refine Go.to (fun t kt => k2.trans kt) (g T2 T2.heap v2 ⟨_, X2, rfl, KK.trans hq.2.1 hws, fun y hy => (List.mem_append.mp hy).elim (FF y) fun q => ?_⟩ hq.2.1 hq.1)
  exact (hq.2.2 y q).elim (fun z => hws _ z) fun z => Or.inr (Nat.le_trans KK.1 z)
theorem gcallV (B : Fix p Z s m meth c bytes maxL own nm ret) (X : St p l e R s m args below meth c h0 ws T h cells slots) {y : MethodName} {bytes' : ByteArray} {maxL' : Nat} {ret' : Option FieldType} {rm : Room} {ws' : List Addr} {Q' : Option Value → Heap → Prop} {stk argsL : List Value} {i W : Nat} {ps : List FieldType} {rr : Option FieldType} {a : Addr} {z : MethodName} {C : String} (E : Exa Z h a C) (w1 : (Cond.methodLink own i y).before a0 Z = true) (w2 : (Cond.declares y).before a0 Z = true) (w5 : (Cond.selects C y z).before a0 Z = true) (w6 : (Cond.instanceMethod z).before a0 Z = true) (w3 : (Cond.initialized z.cls).before a0 Z = true) (w4 : (Cond.code z bytes' maxL' ret').before a0 Z = true) (hyz : y = z) (hy : y.cls ≠ "java/lang/invoke/MethodHandle" ∧ y.cls ≠ "java/lang/invoke/VarHandle") (M : Meth l Z z bytes' maxL' ret' rm (.ref a :: argsL).toArray h ws' Q') (hpd : parseMethodDescriptor y.desc = some ⟨ps, rr⟩) (hlen : argsL.length = ps.length) (hstk : stk = argsL.reverse ++ .ref a :: st) (hsz : Ls.size = maxL) (hW : (st.map fun v => v.category).sum ≤ W) (hfr : rm.frames + 1 ≤ R.frames) (hlo : W + (maxL' + 11) + rm.locals ≤ R.locals) (hcs : cells + rm.cells ≤ R.cells) (hss : slots + rm.slots ≤ R.slots) (hws : ∀ x ∈ ws', x ∈ ws ∨ h0.size ≤ x) (hd : decode bytes pc = .ok (.invokevirtual i, 3)) (hp : pc' = pc + 3)
    (g : ∀ T' h' v, St p l e R s m args below meth c h0 ws T' h' (cells + rm.cells) (slots + rm.slots) → Keep h h' ws' → Q' v h' → Go p e below FE h0 ws Q T' (mkF m pc' Ls (v.toList ++ st))) : Go p e below FE h0 ws Q T (mkF m pc Ls stk) := by
  subst hp; subst hstk; obtain ⟨L0, X, eT, KK, FF⟩ := X
  subst hyz
  obtain ⟨cq, kq, qa, qb, qc⟩ := isOf B.2.1 eT E
  obtain ⟨v2, _, ⟨T2, L2, c2, n2⟩, -, X2, ⟨Lc2, hq, l2, y2, z2⟩, k2⟩ := X.virtualBack B.1 (y := y) (z := y) B.2.2.2.2.1 (mvT B.2.1 w1) (mvT B.2.1 w2) (notFace_of_selects (args := #[]) (mvT B.2.1 w5)) (mvT B.2.1 w5) (mvT B.2.1 w6) hy (backOf (W := W) (Q := fun v h' L => Q' v h' ∧ Keep h h' ws' ∧ FrW h ws' L) (M []) B.2.1 w4 w3 hfr hlo) qa qc (g := mkF m pc Ls (argsL.reverse ++ .ref a :: st)) rfl (hsz.trans B.2.2.2.1.symm) (Steps.refl _) (argsL := argsL) (rest := st) (lenOf hpd hlen) rfl (by show 2 * 0 + _ ≤ _; rw [Nat.mul_zero, Nat.zero_add]; exact hW) (hb B.2.2.1 hd) (fun _ _ => ⟨rfl, eT, hcs, hss⟩)
  dsimp only [Pt.U, Pt.locs, Pt.cells, Pt.slots] at X2 l2 y2 z2 k2 hq
  subst l2 y2 z2
  refine Go.to (fun t kt => k2.trans kt) (g T2 T2.heap v2 ⟨_, X2, rfl, KK.trans hq.2.1 hws, fun y hy => (List.mem_append.mp hy).elim (FF y) fun q => ?_⟩ hq.2.1 hq.1)
  exact (hq.2.2 y q).elim (fun z => hws _ z) fun z => Or.inr (Nat.le_trans KK.1 z)
theorem gcallP (B : Fix p Z s m meth c bytes maxL own nm ret) (X : St p l e R s m args below meth c h0 ws T h cells slots) {y : MethodName} {bytes' : ByteArray} {maxL' : Nat} {ret' : Option FieldType} {rm : Room} {ws' : List Addr} {Q' : Option Value → Heap → Prop} {stk argsL : List Value} {i W : Nat} {ps : List FieldType} {rr : Option FieldType} {a : Addr} {C : String} (E : Exa Z h a C) (w1 : (Cond.methodLink own i y).before a0 Z = true) (w2 : (Cond.instanceMethod y).before a0 Z = true) {nn : Nat} (w5 : (Cond.instantiable y.cls nn).before a0 Z = true) (w6 : (Cond.privateMethod y).before a0 Z = true) (w3 : (Cond.initialized y.cls).before a0 Z = true) (w4 : (Cond.code y bytes' maxL' ret').before a0 Z = true) (hy : y.cls ≠ "java/lang/invoke/MethodHandle" ∧ y.cls ≠ "java/lang/invoke/VarHandle") (M : Meth l Z y bytes' maxL' ret' rm (.ref a :: argsL).toArray h ws' Q') (hpd : parseMethodDescriptor y.desc = some ⟨ps, rr⟩) (hlen : argsL.length = ps.length) (hstk : stk = argsL.reverse ++ .ref a :: st) (hsz : Ls.size = maxL) (hW : (st.map fun v => v.category).sum ≤ W) (hfr : rm.frames + 1 ≤ R.frames) (hlo : W + (maxL' + 11) + rm.locals ≤ R.locals) (hcs : cells + rm.cells ≤ R.cells) (hss : slots + rm.slots ≤ R.slots) (hws : ∀ x ∈ ws', x ∈ ws ∨ h0.size ≤ x) (hd : decode bytes pc = .ok (.invokevirtual i, 3)) (hp : pc' = pc + 3)
    (g : ∀ T' h' v, St p l e R s m args below meth c h0 ws T' h' (cells + rm.cells) (slots + rm.slots) → Keep h h' ws' → Q' v h' → Go p e below FE h0 ws Q T' (mkF m pc' Ls (v.toList ++ st))) : Go p e below FE h0 ws Q T (mkF m pc Ls stk) := by
  subst hp; subst hstk; obtain ⟨L0, X, eT, KK, FF⟩ := X
  obtain ⟨cq, q, q'⟩ := E.cell
  obtain ⟨ci, ki, i1, i2, -, i4, -⟩ := Cond.instantiable_spec (mvT (args := args) B.2.1 w5)
  have w5' : (Cond.selects y.cls y y).before args s = true := selects_self_of_private i1 i2 (by simp only [Bool.or_eq_false_iff] at i4; exact i4.1) (Cond.privateMethod_at (mvP B.2.1 w6 (args := #[]))) (mvT B.2.1 w2) hy
  obtain ⟨v2, _, ⟨T2, L2, c2, n2⟩, -, X2, ⟨Lc2, hq, l2, y2, z2⟩, k2⟩ := X.privateBack B.1 (y := y) B.2.2.2.2.1 (mvT B.2.1 w1) (mvT B.2.1 w2) w5' (Cond.privateMethod_at (mvP B.2.1 w6 (args := #[]))) (mvT B.2.1 w4) hy (backOf (W := W) (Q := fun v h' L => Q' v h' ∧ Keep h h' ws' ∧ FrW h ws' L) (M []) B.2.1 w4 w3 hfr hlo) (g := mkF m pc Ls (argsL.reverse ++ .ref a :: st)) rfl (hsz.trans B.2.2.2.1.symm) (Steps.refl _) (a := a) (by rw [eT]; exact q) q' (argsL := argsL) (rest := st) (lenOf hpd hlen) rfl (by show 2 * 0 + _ ≤ _; rw [Nat.mul_zero, Nat.zero_add]; exact hW) (hb B.2.2.1 hd) (fun _ _ => ⟨rfl, eT, hcs, hss⟩)
  dsimp only [Pt.U, Pt.locs, Pt.cells, Pt.slots] at X2 l2 y2 z2 k2 hq
  subst l2 y2 z2
  refine Go.to (fun t kt => k2.trans kt) (g T2 T2.heap v2 ⟨_, X2, rfl, KK.trans hq.2.1 hws, fun y hy => (List.mem_append.mp hy).elim (FF y) fun q => ?_⟩ hq.2.1 hq.1)
  exact (hq.2.2 y q).elim (fun z => hws _ z) fun z => Or.inr (Nat.le_trans KK.1 z)
theorem pureG {rm : Room} {r : Value} {ws' : List Addr} (hc : rm.cells = 0) (hs : rm.slots = 0) (g : ∀ T', St p l e R s m args below meth c h0 ws T' h cells slots → Go p e below FE h0 ws Q T' (mkF m pc' Ls (r :: st))) : ∀ T' h' v, St p l e R s m args below meth c h0 ws T' h' (cells + rm.cells) (slots + rm.slots) → Keep h h' ws' → (v = some r ∧ h' = h) → Go p e below FE h0 ws Q T' (mkF m pc' Ls (v.toList ++ st)) := by
  rintro T' h' v X k ⟨rfl, rfl⟩
  rw [hc, hs] at X; exact g T' X
theorem pureV {rm : Room} {ws' : List Addr} (hc : rm.cells = 0) (hs : rm.slots = 0) (g : ∀ T', St p l e R s m args below meth c h0 ws T' h cells slots → Go p e below FE h0 ws Q T' (mkF m pc' Ls st)) : ∀ T' h' v, St p l e R s m args below meth c h0 ws T' h' (cells + rm.cells) (slots + rm.slots) → Keep h h' ws' → (v = none ∧ h' = h) → Go p e below FE h0 ws Q T' (mkF m pc' Ls (v.toList ++ st)) := by
  rintro T' h' v X k ⟨rfl, rfl⟩
  rw [hc, hs] at X; exact g T' X
theorem joinH (X : St p l e R s m args below meth c h0 ws T h cells slots) {J : JFrame} {P : Heap → Prop} {cells' slots' : Nat} (b : (∀ T' h', St p l e R s m args below meth c h0 ws T' h' cells' slots' → P h' → Go p e below FE h0 ws Q T' J) → Go p e below FE h0 ws Q T (mkF m pc Ls st)) (k : ∀ T' h', St p l e R s m args below meth c h0 ws T' h' cells' slots' → P h' → Go p e below FE h0 ws Q T' J) : Go p e below FE h0 ws Q T (mkF m pc Ls st) := b k
theorem joinG {α : Type} (B : Fix p Z s m meth c bytes maxL own nm ret) (X : St p l e R s m args below meth c h0 ws T h cells slots) {J : α → JFrame} {r : α} {f : JFrame} (b : (∀ T', St p l e R s m args below meth c h0 ws T' h cells slots → Go p e below FE h0 ws Q T' (J r)) → Go p e below FE h0 ws Q T f) (k : ∀ T', St p l e R s m args below meth c h0 ws T' h cells slots → Go p e below FE h0 ws Q T' (J r)) : Go p e below FE h0 ws Q T f := b k
theorem nbb (x : Int32) : x.toInt8.toInt32.toInt8.toInt32 = x.toInt8.toInt32 := by simp
theorem nb (x : Int32) : nar .byte x.toInt8.toInt32 = x.toInt8.toInt32 := by simp [nar]
theorem retI (X : Stand p l e R s m args below meth c T locs cells slots) (hx : p.tables.exec = Jvm.exec) {z : Int32} {rest : List Value} (hret : meth.sig.returnType = some .int) (hd : decode c.code pc = .ok (.ireturn, 1)) {fs : List Frame}
    (hl : ∀ (f : JFrame) (acts : List Action), f.method = m → f.locked = none → f.entered = [] → (doReturn e (T.setTop f) acts (some (.int z))).1 = T.setFrames fs) : Steps p.tables e below (T.setTop (mkF m pc Ls (.int z :: rest))) (T.setFrames fs) := by
  have hm' : T.vm.method? m = some meth := X.method'
  have hn : narrow .int (.int z) = .int z := rfl
  show Steps p.tables e below (T.setTop { method := m, pc := pc, locals := Ls, stack := _ :: rest, locked := none }) _
  jvm_step X.here [X.here.top, hx, hd, hm', hret, hn]
  first | (intro acts; rw [hl _ acts rfl rfl rfl]) | rw [hl _ _ rfl rfl rfl]
  exact Steps.refl _
theorem gretI (B : Fix p Z s m meth c bytes maxL own nm (some .int)) (X : St p l e R s m args below meth c h0 ws T h cells slots)  {z : Int32} (hd : decode bytes pc = .ok (.ireturn, 1)) (hk : cells ≤ K) (hn : slots ≤ N) (hQ : Q (some (.int z)) h) : Go p e below (EndN s K N) h0 ws Q T (mkF m pc Ls (.int z :: st)) := by
  obtain ⟨L0, X, eT, KK, FF⟩ := X; have hlk := B.2.2.2.2.2.2.2; have hrt := B.2.2.2.2.2.2.1
  obtain ⟨fs, hr, hrun, hended, hW, hsame⟩ := X.leave (v := some (.int z)) (fun h => by rw [hrt] at h; cases h) hlk
  exact ⟨_, _, retI X B.1 hrt (hb B.2.2.1 hd) hr, hrun, hended, _, _, rfl, ⟨by show Q _ T.heap; rw [eT]; exact hQ, by show Keep h0 T.heap ws; rw [eT]; exact KK, FF⟩, ⟨_, rfl⟩, hW, hsame.mono hk hn⟩
theorem gretIW (B : Fix p Z (s.setVm vm1) m meth c bytes maxL own nm (some .int)) (X : St p l e R (s.setVm vm1) m args below meth c h0 ws T h cells slots) {n1 : Nat} (hS : s.Since vm1 n1) (hz : Sz n1 h) {z : Int32} (hd : decode bytes pc = .ok (.ireturn, 1)) (hk : cells ≤ K) (hn : slots ≤ N) (hQ : Q (some (.int z)) h) : Go p e below (EndW s K N) h0 ws Q T (mkF m pc Ls (.int z :: st)) := by
  obtain ⟨L0, X, eT, KK, FF⟩ := X; have hlk := B.2.2.2.2.2.2.2; have hrt := B.2.2.2.2.2.2.1
  obtain ⟨fs, hr, hrun, hended, hend⟩ := X.leaveW hS (by rw [eT]; exact hz) (v := some (.int z)) (fun h => by rw [hrt] at h; cases h) hlk
  exact ⟨_, _, retI X B.1 hrt (hb B.2.2.1 hd) hr, hrun, hended, _, _, rfl, ⟨by show Q _ T.heap; rw [eT]; exact hQ, by show Keep h0 T.heap ws; rw [eT]; exact KK, FF⟩, hend.1, hend.2.1, hend.2.2.1, hend.2.2.2.mono hk hn⟩
theorem gretN {t : FieldType} (B : Fix p Z s m meth c bytes maxL own nm (some t)) (X : St p l e R s m args below meth c h0 ws T h cells slots)  {z z' : Int32} (ht : t = .boolean ∨ t = .byte ∨ t = .char ∨ t = .short) (hz' : nar t z = z') (hd : decode bytes pc = .ok (.ireturn, 1)) (hk : cells ≤ K) (hn : slots ≤ N) (hQ : Q (some (.int z')) h) : Go p e below (EndN s K N) h0 ws Q T (mkF m pc Ls (.int z :: st)) := by
  subst hz'; obtain ⟨L0, X, eT, KK, FF⟩ := X; have hlk := B.2.2.2.2.2.2.2; have hrt := B.2.2.2.2.2.2.1
  obtain ⟨fs, hr, hrun, hended, hW, hsame⟩ := X.leave (v := some (.int (nar t z))) (fun h => by rw [hrt] at h; cases h) hlk
  exact ⟨_, _, retN X B.1 hrt ht (hb B.2.2.1 hd) hr, hrun, hended, _, _, rfl, ⟨by show Q _ T.heap; rw [eT]; exact hQ, by show Keep h0 T.heap ws; rw [eT]; exact KK, FF⟩, ⟨_, rfl⟩, hW, hsame.mono hk hn⟩
theorem gretNW {t : FieldType} (B : Fix p Z (s.setVm vm1) m meth c bytes maxL own nm (some t)) (X : St p l e R (s.setVm vm1) m args below meth c h0 ws T h cells slots) {n1 : Nat} (hS : s.Since vm1 n1) (hz : Sz n1 h) {z z' : Int32} (ht : t = .boolean ∨ t = .byte ∨ t = .char ∨ t = .short) (hz' : nar t z = z') (hd : decode bytes pc = .ok (.ireturn, 1)) (hk : cells ≤ K) (hn : slots ≤ N) (hQ : Q (some (.int z')) h) : Go p e below (EndW s K N) h0 ws Q T (mkF m pc Ls (.int z :: st)) := by
  subst hz'; obtain ⟨L0, X, eT, KK, FF⟩ := X; have hlk := B.2.2.2.2.2.2.2; have hrt := B.2.2.2.2.2.2.1
  obtain ⟨fs, hr, hrun, hended, hend⟩ := X.leaveW hS (by rw [eT]; exact hz) (v := some (.int (nar t z))) (fun h => by rw [hrt] at h; cases h) hlk
  exact ⟨_, _, retN X B.1 hrt ht (hb B.2.2.1 hd) hr, hrun, hended, _, _, rfl, ⟨by show Q _ T.heap; rw [eT]; exact hQ, by show Keep h0 T.heap ws; rw [eT]; exact KK, FF⟩, hend.1, hend.2.1, hend.2.2.1, hend.2.2.2.mono hk hn⟩
theorem gretL (B : Fix p Z s m meth c bytes maxL own nm (some .long)) (X : St p l e R s m args below meth c h0 ws T h cells slots)  {z : Int64} (hd : decode bytes pc = .ok (.lreturn, 1)) (hk : cells ≤ K) (hn : slots ≤ N) (hQ : Q (some (.long z)) h) : Go p e below (EndN s K N) h0 ws Q T (mkF m pc Ls (.long z :: st)) := by
  obtain ⟨L0, X, eT, KK, FF⟩ := X; have hlk := B.2.2.2.2.2.2.2; have hrt := B.2.2.2.2.2.2.1
  obtain ⟨fs, hr, hrun, hended, hW, hsame⟩ := X.leave (v := some (.long z)) (fun h => by rw [hrt] at h; cases h) hlk
  exact ⟨_, _, retOut X B.1 hrt rfl (Or.inr (Or.inl ⟨rfl, rfl, _, rfl⟩)) (hb B.2.2.1 hd) hr, hrun, hended, _, _, rfl, ⟨by show Q _ T.heap; rw [eT]; exact hQ, by show Keep h0 T.heap ws; rw [eT]; exact KK, FF⟩, ⟨_, rfl⟩, hW, hsame.mono hk hn⟩
theorem gretLW (B : Fix p Z (s.setVm vm1) m meth c bytes maxL own nm (some .long)) (X : St p l e R (s.setVm vm1) m args below meth c h0 ws T h cells slots) {n1 : Nat} (hS : s.Since vm1 n1) (hz : Sz n1 h) {z : Int64} (hd : decode bytes pc = .ok (.lreturn, 1)) (hk : cells ≤ K) (hn : slots ≤ N) (hQ : Q (some (.long z)) h) : Go p e below (EndW s K N) h0 ws Q T (mkF m pc Ls (.long z :: st)) := by
  obtain ⟨L0, X, eT, KK, FF⟩ := X; have hlk := B.2.2.2.2.2.2.2; have hrt := B.2.2.2.2.2.2.1
  obtain ⟨fs, hr, hrun, hended, hend⟩ := X.leaveW hS (by rw [eT]; exact hz) (v := some (.long z)) (fun h => by rw [hrt] at h; cases h) hlk
  exact ⟨_, _, retOut X B.1 hrt rfl (Or.inr (Or.inl ⟨rfl, rfl, _, rfl⟩)) (hb B.2.2.1 hd) hr, hrun, hended, _, _, rfl, ⟨by show Q _ T.heap; rw [eT]; exact hQ, by show Keep h0 T.heap ws; rw [eT]; exact KK, FF⟩, hend.1, hend.2.1, hend.2.2.1, hend.2.2.2.mono hk hn⟩
theorem gretA {t : FieldType} (B : Fix p Z s m meth c bytes maxL own nm (some t)) (X : St p l e R s m args below meth c h0 ws T h cells slots)  {a : Addr} (ht : t.isReference = true) (hnn : narrow t (.ref a) = .ref a) (hd : decode bytes pc = .ok (.areturn, 1)) (hk : cells ≤ K) (hn : slots ≤ N) (hQ : Q (some (.ref a)) h) : Go p e below (EndN s K N) h0 ws Q T (mkF m pc Ls (.ref a :: st)) := by
  obtain ⟨L0, X, eT, KK, FF⟩ := X; have hlk := B.2.2.2.2.2.2.2; have hrt := B.2.2.2.2.2.2.1
  obtain ⟨fs, hr, hrun, hended, hW, hsame⟩ := X.leave (v := some (.ref a)) (fun h => by rw [hrt] at h; cases h) hlk
  exact ⟨_, _, retOut X B.1 hrt hnn (Or.inr (Or.inr (Or.inr (Or.inr ⟨rfl, ht, rfl⟩)))) (hb B.2.2.1 hd) hr, hrun, hended, _, _, rfl, ⟨by show Q _ T.heap; rw [eT]; exact hQ, by show Keep h0 T.heap ws; rw [eT]; exact KK, FF⟩, ⟨_, rfl⟩, hW, hsame.mono hk hn⟩
theorem gretAW {t : FieldType} (B : Fix p Z (s.setVm vm1) m meth c bytes maxL own nm (some t)) (X : St p l e R (s.setVm vm1) m args below meth c h0 ws T h cells slots) {n1 : Nat} (hS : s.Since vm1 n1) (hz : Sz n1 h) {a : Addr} (ht : t.isReference = true) (hnn : narrow t (.ref a) = .ref a) (hd : decode bytes pc = .ok (.areturn, 1)) (hk : cells ≤ K) (hn : slots ≤ N) (hQ : Q (some (.ref a)) h) : Go p e below (EndW s K N) h0 ws Q T (mkF m pc Ls (.ref a :: st)) := by
  obtain ⟨L0, X, eT, KK, FF⟩ := X; have hlk := B.2.2.2.2.2.2.2; have hrt := B.2.2.2.2.2.2.1
  obtain ⟨fs, hr, hrun, hended, hend⟩ := X.leaveW hS (by rw [eT]; exact hz) (v := some (.ref a)) (fun h => by rw [hrt] at h; cases h) hlk
  exact ⟨_, _, retOut X B.1 hrt hnn (Or.inr (Or.inr (Or.inr (Or.inr ⟨rfl, ht, rfl⟩)))) (hb B.2.2.1 hd) hr, hrun, hended, _, _, rfl, ⟨by show Q _ T.heap; rw [eT]; exact hQ, by show Keep h0 T.heap ws; rw [eT]; exact KK, FF⟩, hend.1, hend.2.1, hend.2.2.1, hend.2.2.2.mono hk hn⟩
theorem gretV (B : Fix p Z s m meth c bytes maxL own nm none) (X : St p l e R s m args below meth c h0 ws T h cells slots)   (hd : decode bytes pc = .ok (.return_, 1)) (hk : cells ≤ K) (hn : slots ≤ N) (hQ : Q (none) h) : Go p e below (EndN s K N) h0 ws Q T (mkF m pc Ls []) := by
  obtain ⟨L0, X, eT, KK, FF⟩ := X; have hlk := B.2.2.2.2.2.2.2; have hrt := B.2.2.2.2.2.2.1
  obtain ⟨fs, hr, hrun, hended, hW, hsame⟩ := X.leave (v := none) (fun h => rfl) hlk
  exact ⟨_, _, X.returnOut B.1 hrt (hb B.2.2.1 hd) hr, hrun, hended, _, _, rfl, ⟨by show Q _ T.heap; rw [eT]; exact hQ, by show Keep h0 T.heap ws; rw [eT]; exact KK, FF⟩, ⟨_, rfl⟩, hW, hsame.mono hk hn⟩
theorem gretVW (B : Fix p Z (s.setVm vm1) m meth c bytes maxL own nm none) (X : St p l e R (s.setVm vm1) m args below meth c h0 ws T h cells slots) {n1 : Nat} (hS : s.Since vm1 n1) (hz : Sz n1 h)  (hd : decode bytes pc = .ok (.return_, 1)) (hk : cells ≤ K) (hn : slots ≤ N) (hQ : Q (none) h) : Go p e below (EndW s K N) h0 ws Q T (mkF m pc Ls []) := by
  obtain ⟨L0, X, eT, KK, FF⟩ := X; have hlk := B.2.2.2.2.2.2.2; have hrt := B.2.2.2.2.2.2.1
  obtain ⟨fs, hr, hrun, hended, hend⟩ := X.leaveW hS (by rw [eT]; exact hz) (v := none) (fun h => rfl) hlk
  exact ⟨_, _, X.returnOut B.1 hrt (hb B.2.2.1 hd) hr, hrun, hended, _, _, rfl, ⟨by show Q _ T.heap; rw [eT]; exact hQ, by show Keep h0 T.heap ws; rw [eT]; exact KK, FF⟩, hend.1, hend.2.1, hend.2.2.1, hend.2.2.2.mono hk hn⟩
theorem MethW.of {y : MethodName} {rm : Room} {as' : Array Value} (hpl : plainFor y = true)
    (body : ∀ (p : Program) (e : Env) (s : State) (m : MethodId) (below : List Frame) (meth : Method) (c : Code) (T : State), Fix p Z (s.setVm s.vm) m meth c bytes maxL y.cls y.name ret → St p l e rm (s.setVm s.vm) m as' below meth c h0 ws T h0 0 0 → s.Since s.vm 0 → Go p e below (EndW s rm.cells rm.slots) h0 ws Q T (entryFrame m as' maxL)) :
    MethW l Z y bytes maxL ret rm as' h0 ws Q := by
  intro wl
  refine MetFree.of_bodySF hpl hisR ?_
  intro p e s m args below meth c s₁ Bd hml0 hP hK
  obtain ⟨rfl, hZ, hh⟩ := hP
  have X0 : Stand p l e rm s m _ below meth c s₁ [] 0 0 := Stand.of_body Bd
  have e0 : s₁.heap = h0 := by rw [← hh, Bd.state]; rfl
  exact body p e s m below meth c s₁ ⟨Bd.exec, hZ, Bd.bytes, hml0, findClass_of_methodNamed Bd.named, (name_of_methodNamed Bd.named Bd.method).1, Bd.returns, Bd.notSynchronized⟩ ⟨[], X0, e0, Keep.refl _ _, fun y hy => nomatch hy⟩ ((State.WarmedH.refl s).since 0)
theorem gldcS (B : Fix p Z (s.setVm vm1) m meth c bytes maxL own nm ret) (X : St p l e R (s.setVm vm1) m args below meth c h0 ws T h cells slots) {n1 : Nat} (hS : s.Since vm1 n1) (hz : Sz n1 h) {i n : Nat} {text : String} (w : (Cond.stringLink own i text).before a0 Z = true) (wS : ∀ a ∈ Bundle.stringAtoms, a.before a0 Z = true) (hn : 4 * text.toList.length ≤ n) (hbig : n ≤ 536870912) (hc : cells + 2 ≤ R.cells) (hl : slots + (n + 4) ≤ R.slots) (hd : decode bytes pc = .ok (.ldc i, 2)) (hp : pc' = pc + 2) (g : ∀ (a : Addr) T' h' vm2, Fix p Z (s.setVm vm2) m meth c bytes maxL own nm ret → St p l e R (s.setVm vm2) m args below meth c h0 ws T' h' (cells + 2) (slots + (n + 4)) → s.Since vm2 h'.size → Ext h h' → Go p e below FE h0 ws Q T' (mkF m pc' Ls (.ref a :: st))) : Go p e below FE h0 ws Q T (mkF m pc Ls st) := by
  subst hp; obtain ⟨L0, X, eT, KK, FF⟩ := X
  obtain ⟨a, T', h', k1, X', e', E, S', hk1, hZ', ho', k⟩ := ldcS X B.1 B.2.1 B.2.2.2.2.1 w wS eT hS hz (g := mkF m pc Ls st) rfl (hb B.2.2.1 hd) hn hbig hc hl
  exact Go.to k (g a T' h' T'.vm ⟨B.1, hZ', B.2.2.1, B.2.2.2.1, ho', B.2.2.2.2.2.1, B.2.2.2.2.2.2.1, B.2.2.2.2.2.2.2⟩ ⟨L0, X', e', KK.ext E, FF⟩ ⟨S'.1, fun j q hj hq => ⟨(S'.2 j q hj hq).1, Nat.lt_of_lt_of_le (S'.2 j q hj hq).2 hk1⟩⟩ E)
theorem gcallIW (B : Fix p Z (s.setVm vm1) m meth c bytes maxL own nm ret) (X : St p l e R (s.setVm vm1) m args below meth c h0 ws T h cells slots) {n1 : Nat} (hS : s.Since vm1 n1) (hz : Sz n1 h) {y : MethodName} {bytes' : ByteArray} {maxL' : Nat} {ret' : Option FieldType} {rm : Room} {ws' : List Addr} {Q' : Option Value → Heap → Prop} {stk argsL : List Value} {i W : Nat} {ps : List FieldType} {rr : Option FieldType} {a : Addr} (hni : y.name = "<init>") (hret : ret' = none) (w1 : (Cond.methodLink own i y).before a0 Z = true) (w2 : (Cond.instanceMethod y).before a0 Z = true) (w3 : (Cond.initialized y.cls).before a0 Z = true) (w4 : (Cond.code y bytes' maxL' ret').before a0 Z = true) (hy : y.cls ≠ "java/lang/invoke/MethodHandle" ∧ y.cls ≠ "java/lang/invoke/VarHandle") (M : MethW l Z y bytes' maxL' ret' rm (.ref a :: argsL).toArray h ws' Q') (hpd : parseMethodDescriptor y.desc = some ⟨ps, rr⟩) (hlen : argsL.length = ps.length) (hstk : stk = argsL.reverse ++ .ref a :: st) (hsz : Ls.size = maxL) (hW : (st.map fun v => v.category).sum ≤ W) (hfr : rm.frames + 1 ≤ R.frames) (hlo : W + (maxL' + 11) + rm.locals ≤ R.locals) (hcs : cells + rm.cells ≤ R.cells) (hss : slots + rm.slots ≤ R.slots) (hws : ∀ x ∈ ws', x ∈ ws ∨ h0.size ≤ x) (hd : decode bytes pc = .ok (.invokespecial i, 3)) (hp : pc' = pc + 3)
    (g : ∀ T' h' v vm2, Fix p Z (s.setVm vm2) m meth c bytes maxL own nm ret → St p l e R (s.setVm vm2) m args below meth c h0 ws T' h' (cells + rm.cells) (slots + rm.slots) → s.Since vm2 h'.size → Keep h h' ws' → Q' v h' → Go p e below FE h0 ws Q T' (mkF m pc' Ls (v.toList ++ st))) : Go p e below FE h0 ws Q T (mkF m pc Ls stk) := by
  subst hp; subst hstk; obtain ⟨L0, X, eT, KK, FF⟩ := X
  subst hret
  obtain ⟨v2, _, ⟨T2, L2, c2, n2⟩, -, X2, S2, G2, ⟨Lc2, hq, l2, y2, z2⟩, k2⟩ := X.specialBackS B.1 (y := y) hni B.2.2.2.2.1 (mvT B.2.1 w1) (mvT B.2.1 w2) (mvT B.2.1 w4) hy (backOfS (W := W) (Q := fun v h' L => Q' v h' ∧ Keep h h' ws' ∧ FrW h ws' L) (M []) B.2.1 w4 w3 hfr hlo) (g := mkF m pc Ls (argsL.reverse ++ .ref a :: st)) rfl (hsz.trans B.2.2.2.1.symm) (Steps.refl _) (a := a) (argsL := argsL) (rest := st) (lenOf hpd hlen) rfl (by show 2 * 0 + _ ≤ _; rw [Nat.mul_zero, Nat.zero_add]; exact hW) (hb B.2.2.1 hd) (fun _ _ => ⟨rfl, eT, hcs, hss⟩)
  dsimp only [Pt.U, Pt.locs, Pt.cells, Pt.slots] at X2 S2 G2 l2 y2 z2 k2 hq
  subst l2 y2 z2
  obtain ⟨X3, S3, hZ3, ho3⟩ := rebS hS (Nat.le_trans hz (Nat.le_of_eq (congrArg Array.size eT.symm))) X2 S2 G2 B.2.1 B.2.2.2.2.1
  refine Go.to (fun t kt => k2.trans kt) (g T2 T2.heap v2 T2.vm ⟨B.1, hZ3, B.2.2.1, B.2.2.2.1, ho3, B.2.2.2.2.2.1, B.2.2.2.2.2.2.1, B.2.2.2.2.2.2.2⟩ ⟨_, X3, rfl, KK.trans hq.2.1 hws, fun y hy => (List.mem_append.mp hy).elim (FF y) fun q => ?_⟩ S3 hq.2.1 hq.1)
  exact (hq.2.2 y q).elim (fun z => hws _ z) fun z => Or.inr (Nat.le_trans KK.1 z)
end Go
end Jvm.OwnKit
namespace Jvm.Pilot.@@N@@
open Jvm Jvm.ClassFile Sem Op Lib Jvm.Free Jvm.Stand Jvm.LawKit Jvm.RoadKit Jvm.OwnKit Bundle Jvm.Pilot.@@N@@.Jvm.D
def Cf (Z : State) (h : Heap) (a : Addr) (v0 v1 v2 v3 : Value) : Prop := Exa Z h a "com/example/dowelgraph/dowelgraph/artifact/ClassFileInput" ∧ Fld Z h a "com/example/dowelgraph/dowelgraph/artifact/ClassFileInput" "bytes" "[B" v0 ∧ Fld Z h a "com/example/dowelgraph/dowelgraph/artifact/ClassFileInput" "end" "I" v1 ∧ Fld Z h a "com/example/dowelgraph/dowelgraph/artifact/ClassFileInput" "what" "Ljava/lang/String;" v2 ∧ Fld Z h a "com/example/dowelgraph/dowelgraph/artifact/ClassFileInput" "position" "I" v3
theorem Cf.lt {Z : State} {h : Heap} {a : Addr} {v0 v1 v2 v3 : Value} (F : Cf Z h a v0 v1 v2 v3) : a < h.size := F.1.lt
theorem Cf.ext {Z : State} {h h' : Heap} {a : Addr} {v0 v1 v2 v3 : Value} (F : Cf Z h a v0 v1 v2 v3) (E0 : Ext h h') : Cf Z h' a v0 v1 v2 v3 := by obtain ⟨E, f0, f1, f2, f3⟩ := F; exact ⟨E.ext E0, f0.ext E0, f1.ext E0, f2.ext E0, f3.ext E0⟩
theorem Cf.keep {Z : State} {h h' : Heap} {a : Addr} {v0 v1 v2 v3 : Value} {ws : List Addr} (F : Cf Z h a v0 v1 v2 v3) (K : Keep h h' ws) (q : a ∉ ws) : Cf Z h' a v0 v1 v2 v3 := by obtain ⟨E, f0, f1, f2, f3⟩ := F; exact ⟨E.keep K, f0.keep K q, f1.keep K q, f2.keep K q, f3.keep K q⟩
theorem Cf.other {Z : State} {h h' : Heap} {a : Addr} {v0 v1 v2 v3 : Value} {b : Addr} {v : Value} {sl : Nat} (F : Cf Z h b v0 v1 v2 v3) (W : Wr h h' a sl v) (q : b ≠ a) : Cf Z h' b v0 v1 v2 v3 := by obtain ⟨E, f0, f1, f2, f3⟩ := F; exact ⟨E.wr W, f0.other W (Or.inl q), f1.other W (Or.inl q), f2.other W (Or.inl q), f3.other W (Or.inl q)⟩
theorem Cf.set0 {Z : State} {h h' : Heap} {a : Addr} {v0 v1 v2 v3 : Value} {v : Value} {a0 : Array Value} (hw : ∀ d ∈ tables_1, d.before a0 Z = true) (F : Cf Z h a v0 v1 v2 v3) (W : Wr h h' a (Jvm.RoadKit.slotOf Z "com/example/dowelgraph/dowelgraph/artifact/ClassFileInput" "bytes" "[B") v) : Cf Z h' a v v1 v2 v3 := by obtain ⟨E, f0, f1, f2, f3⟩ := F; exact ⟨E.wr W, f0.same W, f1.other W (Or.inr (slot_ne (Or.inr (hw _ (List.mem_of_getElem? (i := 26) rfl))) (Or.inr (hw _ (List.mem_of_getElem? (i := 22) rfl))) (by decide) (t := .int) (t' := (.array .byte)) (by decide) (by decide))), f2.other W (Or.inr (slot_ne (Or.inr (hw _ (List.mem_of_getElem? (i := 28) rfl))) (Or.inr (hw _ (List.mem_of_getElem? (i := 22) rfl))) (by decide) (t := (.object "java/lang/String")) (t' := (.array .byte)) (by decide) (by decide))), f3.other W (Or.inr (slot_ne (Or.inl (hw _ (List.mem_of_getElem? (i := 24) rfl))) (Or.inr (hw _ (List.mem_of_getElem? (i := 22) rfl))) (by decide) (t := .int) (t' := (.array .byte)) (by decide) (by decide)))⟩
theorem Cf.set1 {Z : State} {h h' : Heap} {a : Addr} {v0 v1 v2 v3 : Value} {v : Value} {a0 : Array Value} (hw : ∀ d ∈ tables_1, d.before a0 Z = true) (F : Cf Z h a v0 v1 v2 v3) (W : Wr h h' a (Jvm.RoadKit.slotOf Z "com/example/dowelgraph/dowelgraph/artifact/ClassFileInput" "end" "I") v) : Cf Z h' a v0 v v2 v3 := by obtain ⟨E, f0, f1, f2, f3⟩ := F; exact ⟨E.wr W, f0.other W (Or.inr (slot_ne (Or.inr (hw _ (List.mem_of_getElem? (i := 22) rfl))) (Or.inr (hw _ (List.mem_of_getElem? (i := 26) rfl))) (by decide) (t := (.array .byte)) (t' := .int) (by decide) (by decide))), f1.same W, f2.other W (Or.inr (slot_ne (Or.inr (hw _ (List.mem_of_getElem? (i := 28) rfl))) (Or.inr (hw _ (List.mem_of_getElem? (i := 26) rfl))) (by decide) (t := (.object "java/lang/String")) (t' := .int) (by decide) (by decide))), f3.other W (Or.inr (slot_ne (Or.inl (hw _ (List.mem_of_getElem? (i := 24) rfl))) (Or.inr (hw _ (List.mem_of_getElem? (i := 26) rfl))) (by decide) (t := .int) (t' := .int) (by decide) (by decide)))⟩
theorem Cf.set2 {Z : State} {h h' : Heap} {a : Addr} {v0 v1 v2 v3 : Value} {v : Value} {a0 : Array Value} (hw : ∀ d ∈ tables_1, d.before a0 Z = true) (F : Cf Z h a v0 v1 v2 v3) (W : Wr h h' a (Jvm.RoadKit.slotOf Z "com/example/dowelgraph/dowelgraph/artifact/ClassFileInput" "what" "Ljava/lang/String;") v) : Cf Z h' a v0 v1 v v3 := by obtain ⟨E, f0, f1, f2, f3⟩ := F; exact ⟨E.wr W, f0.other W (Or.inr (slot_ne (Or.inr (hw _ (List.mem_of_getElem? (i := 22) rfl))) (Or.inr (hw _ (List.mem_of_getElem? (i := 28) rfl))) (by decide) (t := (.array .byte)) (t' := (.object "java/lang/String")) (by decide) (by decide))), f1.other W (Or.inr (slot_ne (Or.inr (hw _ (List.mem_of_getElem? (i := 26) rfl))) (Or.inr (hw _ (List.mem_of_getElem? (i := 28) rfl))) (by decide) (t := .int) (t' := (.object "java/lang/String")) (by decide) (by decide))), f2.same W, f3.other W (Or.inr (slot_ne (Or.inl (hw _ (List.mem_of_getElem? (i := 24) rfl))) (Or.inr (hw _ (List.mem_of_getElem? (i := 28) rfl))) (by decide) (t := .int) (t' := (.object "java/lang/String")) (by decide) (by decide)))⟩
theorem Cf.set3 {Z : State} {h h' : Heap} {a : Addr} {v0 v1 v2 v3 : Value} {v : Value} {a0 : Array Value} (hw : ∀ d ∈ tables_1, d.before a0 Z = true) (F : Cf Z h a v0 v1 v2 v3) (W : Wr h h' a (Jvm.RoadKit.slotOf Z "com/example/dowelgraph/dowelgraph/artifact/ClassFileInput" "position" "I") v) : Cf Z h' a v0 v1 v2 v := by obtain ⟨E, f0, f1, f2, f3⟩ := F; exact ⟨E.wr W, f0.other W (Or.inr (slot_ne (Or.inr (hw _ (List.mem_of_getElem? (i := 22) rfl))) (Or.inl (hw _ (List.mem_of_getElem? (i := 24) rfl))) (by decide) (t := (.array .byte)) (t' := .int) (by decide) (by decide))), f1.other W (Or.inr (slot_ne (Or.inr (hw _ (List.mem_of_getElem? (i := 26) rfl))) (Or.inl (hw _ (List.mem_of_getElem? (i := 24) rfl))) (by decide) (t := .int) (t' := .int) (by decide) (by decide))), f2.other W (Or.inr (slot_ne (Or.inr (hw _ (List.mem_of_getElem? (i := 28) rfl))) (Or.inl (hw _ (List.mem_of_getElem? (i := 24) rfl))) (by decide) (t := (.object "java/lang/String")) (t' := .int) (by decide) (by decide))), f3.same W⟩
theorem own_wS {Z : State} {a0 : Array Value} (hw : ∀ d ∈ tables_1, d.before a0 Z = true) : ∀ a ∈ Bundle.stringAtoms, a.before a0 Z = true := by
  intro d hd
  simp only [Bundle.stringAtoms, List.mem_cons, List.not_mem_nil, or_false] at hd
  rcases hd with rfl | rfl | rfl | rfl | rfl | rfl | rfl
  · exact (hw _ (List.mem_of_getElem? (i := 9) rfl))
  · exact (hw _ (List.mem_of_getElem? (i := 10) rfl))
  · exact (hw _ (List.mem_of_getElem? (i := 0) rfl))
  · exact (hw _ (List.mem_of_getElem? (i := 11) rfl))
  · exact (hw _ (List.mem_of_getElem? (i := 12) rfl))
  · exact (hw _ (List.mem_of_getElem? (i := 13) rfl))
  · exact (hw _ (List.mem_of_getElem? (i := 14) rfl))
theorem d6_0 : decode prog_23_method_7_code 0 = .ok (.aload_n 0, 1) := by decide +kernel
theorem d6_1 : decode prog_23_method_7_code 1 = .ok (.getfield 22, 3) := by decide +kernel
theorem d6_4 : decode prog_23_method_7_code 4 = .ok (.aload_n 0, 1) := by decide +kernel
theorem d6_5 : decode prog_23_method_7_code 5 = .ok (.getfield 18, 3) := by decide +kernel
theorem d6_8 : decode prog_23_method_7_code 8 = .ok (.isub, 1) := by decide +kernel
theorem d6_9 : decode prog_23_method_7_code 9 = .ok (.ireturn, 1) := by decide +kernel
theorem pn6 : plainFor (⟨"com/example/dowelgraph/dowelgraph/artifact/ClassFileInput", "remaining", "()I"⟩ : MethodName) = true := plainFor_of_name (by first | (simp [plainName, overriddenIn]; done) | decide +kernel)
theorem ef6_R (m : MethodId) (x0 : Addr) : entryFrame m #[(.ref x0)] 1 = mkF m 0 #[.val (.ref x0)] [] := by first | (simp [entryFrame, mkF, argsToLocals, Value.category]; done) | rfl
def rmr6 : Room := { frames := 0, cells := 0, slots := 0, locals := 0 }
set_option maxRecDepth 65536 in
set_option maxHeartbeats 4000000 in
theorem mtrem (l : Launch) (Z : State) (a0 : Array Value) (hw : ∀ d ∈ tables_1, d.before a0 Z = true) (a : Addr) (b wh : Addr) (en po : Int32) (h0 : Heap) (O : Cf Z h0 a (.ref b) (.int en) (.ref wh) (.int po)) : Meth l Z (⟨"com/example/dowelgraph/dowelgraph/artifact/ClassFileInput", "remaining", "()I"⟩ : MethodName) prog_23_method_7_code 1 (some .int) rmr6 #[(.ref a)] h0 [] (fun vr h' => vr = some (.int (en - po)) ∧ h' = h0) := by
  refine Meth.of pn6 ?_
  intro p e s m below meth c T B X
  refine Go.entry (ef6_R m a) ?_
  refine galoadN B X d6_0 rfl rfl (pc' := 1) rfl ?_
  refine gget B X (hw _ (List.mem_of_getElem? (i := 25) rfl)) O.2.2.1 d6_1 (pc' := 4) rfl fun T1 X2 => ?_
  refine galoadN B X2 d6_4 rfl rfl (pc' := 5) rfl ?_
  refine gget B X2 (hw _ (List.mem_of_getElem? (i := 23) rfl)) O.2.2.2.2 d6_5 (pc' := 8) rfl fun T3 X4 => ?_
  refine gisub B X4 d6_8 rfl (pc' := 9) rfl ?_
  exact gretI B X4 d6_9 (by decide) (by decide) (⟨rfl, rfl⟩)
theorem d5_0 : decode prog_23_method_13_code 0 = .ok (.iload_n 1, 1) := by decide +kernel
theorem d5_1 : decode prog_23_method_13_code 1 = .ok (.aload_n 0, 1) := by decide +kernel
theorem d5_2 : decode prog_23_method_13_code 2 = .ok (.getfield 22, 3) := by decide +kernel
theorem d5_5 : decode prog_23_method_13_code 5 = .ok (.aload_n 0, 1) := by decide +kernel
theorem d5_6 : decode prog_23_method_13_code 6 = .ok (.getfield 18, 3) := by decide +kernel
theorem d5_9 : decode prog_23_method_13_code 9 = .ok (.isub, 1) := by decide +kernel
theorem d5_10 : decode prog_23_method_13_code 10 = .ok (.if_icmp .le 20, 3) := by decide +kernel
theorem d5_13 : decode prog_23_method_13_code 13 = .ok (.new 42, 3) := by decide +kernel
theorem d5_16 : decode prog_23_method_13_code 16 = .ok (.dup, 1) := by decide +kernel
theorem d5_17 : decode prog_23_method_13_code 17 = .ok (.aload_n 0, 1) := by decide +kernel
theorem d5_18 : decode prog_23_method_13_code 18 = .ok (.getfield 25, 3) := by decide +kernel
theorem d5_26 : decode prog_23_method_13_code 26 = .ok (.invokespecial 48, 3) := by decide +kernel
theorem d5_29 : decode prog_23_method_13_code 29 = .ok (.athrow, 1) := by decide +kernel
theorem d5_30 : decode prog_23_method_13_code 30 = .ok (.return_, 1) := by decide +kernel
theorem pn5 : plainFor (⟨"com/example/dowelgraph/dowelgraph/artifact/ClassFileInput", "require", "(I)V"⟩ : MethodName) = true := plainFor_of_name (by first | (simp [plainName, overriddenIn]; done) | decide +kernel)
theorem ef5_RI (m : MethodId) (x0 : Addr) (x1 : Int32) : entryFrame m #[(.ref x0), (.int x1)] 2 = mkF m 0 #[.val (.ref x0), .val (.int x1)] [] := by first | (simp [entryFrame, mkF, argsToLocals, Value.category]; done) | rfl
def rmr5 : Room := { frames := 0, cells := 0, slots := 0, locals := 0 }
set_option maxRecDepth 65536 in
set_option maxHeartbeats 4000000 in
theorem mt5 (l : Launch) (Z : State) (a0 : Array Value) (hw : ∀ d ∈ tables_1, d.before a0 Z = true) (a : Addr) (k : Int32) (b wh : Addr) (en po : Int32) (h0 : Heap) (O : Cf Z h0 a (.ref b) (.int en) (.ref wh) (.int po)) (hk : ¬ (en - po) < k) : Meth l Z (⟨"com/example/dowelgraph/dowelgraph/artifact/ClassFileInput", "require", "(I)V"⟩ : MethodName) prog_23_method_13_code 2 none rmr5 #[(.ref a), (.int k)] h0 [] (fun v h' => v = none ∧ h' = h0) := by
  refine Meth.of pn5 ?_
  intro p e s m below meth c T B X
  refine Go.entry (ef5_RI m a k) ?_
  refine giloadN B X d5_0 rfl (pc' := 1) rfl ?_
  refine galoadN B X d5_1 rfl rfl (pc' := 2) rfl ?_
  refine gget B X (hw _ (List.mem_of_getElem? (i := 25) rfl)) O.2.2.1 d5_2 (pc' := 5) rfl fun T5 X6 => ?_
  refine galoadN B X6 d5_5 rfl rfl (pc' := 6) rfl ?_
  refine gget B X6 (hw _ (List.mem_of_getElem? (i := 23) rfl)) O.2.2.2.2 d5_6 (pc' := 9) rfl fun T7 X8 => ?_
  refine gisub B X8 d5_9 rfl (pc' := 10) rfl ?_
  have c10_9 : ¬ ((en - po) < k) := hk
  refine gicY B X8 (pc' := 30) d5_10 (flt c10_9).2.2.2 (by decide) ?_
  exact gretV B X8 d5_30 (by decide) (by decide) (⟨rfl, rfl⟩)
theorem d2_0 : decode prog_23_method_2_code 0 = .ok (.aload_n 0, 1) := by decide +kernel
theorem d2_1 : decode prog_23_method_2_code 1 = .ok (.invokespecial 9, 3) := by decide +kernel
theorem d2_4 : decode prog_23_method_2_code 4 = .ok (.aload_n 0, 1) := by decide +kernel
theorem d2_5 : decode prog_23_method_2_code 5 = .ok (.aload_n 1, 1) := by decide +kernel
theorem d2_6 : decode prog_23_method_2_code 6 = .ok (.putfield 14, 3) := by decide +kernel
theorem d2_9 : decode prog_23_method_2_code 9 = .ok (.aload_n 0, 1) := by decide +kernel
theorem d2_10 : decode prog_23_method_2_code 10 = .ok (.iload_n 2, 1) := by decide +kernel
theorem d2_11 : decode prog_23_method_2_code 11 = .ok (.putfield 18, 3) := by decide +kernel
theorem d2_14 : decode prog_23_method_2_code 14 = .ok (.aload_n 0, 1) := by decide +kernel
theorem d2_15 : decode prog_23_method_2_code 15 = .ok (.iload_n 3, 1) := by decide +kernel
theorem d2_16 : decode prog_23_method_2_code 16 = .ok (.putfield 22, 3) := by decide +kernel
theorem d2_19 : decode prog_23_method_2_code 19 = .ok (.aload_n 0, 1) := by decide +kernel
theorem d2_20 : decode prog_23_method_2_code 20 = .ok (.aload 4, 2) := by decide +kernel
theorem d2_22 : decode prog_23_method_2_code 22 = .ok (.putfield 25, 3) := by decide +kernel
theorem d2_25 : decode prog_23_method_2_code 25 = .ok (.return_, 1) := by decide +kernel
theorem pn2 : plainFor (⟨"com/example/dowelgraph/dowelgraph/artifact/ClassFileInput", "<init>", "([BIILjava/lang/String;)V"⟩ : MethodName) = true := plainFor_of_name (by first | (simp [plainName, overriddenIn]; done) | decide +kernel)
theorem ef2_RRIIR (m : MethodId) (x0 : Addr) (x1 : Addr) (x2 : Int32) (x3 : Int32) (x4 : Addr) : entryFrame m #[(.ref x0), (.ref x1), (.int x2), (.int x3), (.ref x4)] 5 = mkF m 0 #[.val (.ref x0), .val (.ref x1), .val (.int x2), .val (.int x3), .val (.ref x4)] [] := by first | (simp [entryFrame, mkF, argsToLocals, Value.category]; done) | rfl
def rmr2 : Room := { frames := 1, cells := 0, slots := 0, locals := 12 }
set_option maxRecDepth 65536 in
set_option maxHeartbeats 4000000 in
theorem mt2 (l : Launch) (Z : State) (a0 : Array Value) (hw : ∀ d ∈ tables_1, d.before a0 Z = true) (a : Addr) (b : Addr) (po : Int32) (en : Int32) (wh : Addr)  (h0 : Heap) (O : Cf Z h0 a .null (.int 0) .null (.int 0)) : Meth l Z (⟨"com/example/dowelgraph/dowelgraph/artifact/ClassFileInput", "<init>", "([BIILjava/lang/String;)V"⟩ : MethodName) prog_23_method_2_code 5 none rmr2 #[(.ref a), (.ref b), (.int po), (.int en), (.ref wh)] h0 [a] (fun v h' => v = none ∧ Cf Z h' a (.ref b) (.int en) (.ref wh) (.int po)) := by
  refine Meth.of pn2 ?_
  intro p e s m below meth c T B X
  refine Go.entry (ef2_RRIIR m a b po en wh) ?_
  refine galoadN B X d2_0 rfl rfl (pc' := 1) rfl ?_
  refine ginitO B X (W := 0) (hw _ (List.mem_of_getElem? (i := 18) rfl)) (hw _ (List.mem_of_getElem? (i := 19) rfl)) (hw _ (List.mem_of_getElem? (i := 20) rfl)) rfl (by decide) (Nat.le_of_eq rfl) (by decide) d2_1 (pc' := 4) rfl fun T10 X11 => ?_
  refine galoadN B X11 d2_4 rfl rfl (pc' := 5) rfl ?_
  refine galoadN B X11 d2_5 rfl rfl (pc' := 6) rfl ?_
  refine gput B X11 (ty := (.array .byte)) (hw _ (List.mem_of_getElem? (i := 21) rfl)) O.2.1 O.1 (Or.inr ⟨(hw _ (List.mem_of_getElem? (i := 22) rfl)), rfl, rfl⟩) (hw _ (List.mem_of_getElem? (i := 3) rfl)) (by decide) rfl rfl (Or.inl (List.mem_of_getElem? (i := 0) rfl)) d2_6 (pc' := 9) rfl fun T12 h13 X14 W15 => ?_
  have O16 := Cf.set0 hw O W15
  refine galoadN B X14 d2_9 rfl rfl (pc' := 10) rfl ?_
  refine giloadN B X14 d2_10 rfl (pc' := 11) rfl ?_
  refine gput B X14 (ty := .int) (hw _ (List.mem_of_getElem? (i := 23) rfl)) O16.2.2.2.2 O16.1 (Or.inl (hw _ (List.mem_of_getElem? (i := 24) rfl))) (hw _ (List.mem_of_getElem? (i := 3) rfl)) (by decide) rfl rfl (Or.inl (List.mem_of_getElem? (i := 0) rfl)) d2_11 (pc' := 14) rfl fun T17 h18 X19 W20 => ?_
  have O21 := Cf.set3 hw O16 W20
  refine galoadN B X19 d2_14 rfl rfl (pc' := 15) rfl ?_
  refine giloadN B X19 d2_15 rfl (pc' := 16) rfl ?_
  refine gput B X19 (ty := .int) (hw _ (List.mem_of_getElem? (i := 25) rfl)) O21.2.2.1 O21.1 (Or.inr ⟨(hw _ (List.mem_of_getElem? (i := 26) rfl)), rfl, rfl⟩) (hw _ (List.mem_of_getElem? (i := 3) rfl)) (by decide) rfl rfl (Or.inl (List.mem_of_getElem? (i := 0) rfl)) d2_16 (pc' := 19) rfl fun T22 h23 X24 W25 => ?_
  have O26 := Cf.set1 hw O21 W25
  refine galoadN B X24 d2_19 rfl rfl (pc' := 20) rfl ?_
  refine gaload B X24 d2_20 rfl rfl (pc' := 22) rfl ?_
  refine gput B X24 (ty := (.object "java/lang/String")) (hw _ (List.mem_of_getElem? (i := 27) rfl)) O26.2.2.2.1 O26.1 (Or.inr ⟨(hw _ (List.mem_of_getElem? (i := 28) rfl)), rfl, rfl⟩) (hw _ (List.mem_of_getElem? (i := 3) rfl)) (by decide) rfl rfl (Or.inl (List.mem_of_getElem? (i := 0) rfl)) d2_22 (pc' := 25) rfl fun T27 h28 X29 W30 => ?_
  have O31 := Cf.set2 hw O26 W30
  exact gretV B X29 d2_25 (by decide) (by decide) (⟨rfl, O31⟩)
theorem d1_0 : decode prog_23_method_1_code 0 = .ok (.aload_n 0, 1) := by decide +kernel
theorem d1_1 : decode prog_23_method_1_code 1 = .ok (.aload_n 1, 1) := by decide +kernel
theorem d1_2 : decode prog_23_method_1_code 2 = .ok (.iconst 0, 1) := by decide +kernel
theorem d1_3 : decode prog_23_method_1_code 3 = .ok (.aload_n 1, 1) := by decide +kernel
theorem d1_4 : decode prog_23_method_1_code 4 = .ok (.arraylength, 1) := by decide +kernel
theorem d1_5 : decode prog_23_method_1_code 5 = .ok (.ldc 1, 2) := by decide +kernel
theorem d1_7 : decode prog_23_method_1_code 7 = .ok (.invokespecial 3, 3) := by decide +kernel
theorem d1_10 : decode prog_23_method_1_code 10 = .ok (.return_, 1) := by decide +kernel
theorem pn1 : plainFor (⟨"com/example/dowelgraph/dowelgraph/artifact/ClassFileInput", "<init>", "([B)V"⟩ : MethodName) = true := plainFor_of_name (by first | (simp [plainName, overriddenIn]; done) | decide +kernel)
theorem ef1_RR (m : MethodId) (x0 : Addr) (x1 : Addr) : entryFrame m #[(.ref x0), (.ref x1)] 2 = mkF m 0 #[.val (.ref x0), .val (.ref x1)] [] := by first | (simp [entryFrame, mkF, argsToLocals, Value.category]; done) | rfl
theorem pd___BIILjava_lang_String__V : parseMethodDescriptor "([BIILjava/lang/String;)V" = some ⟨[(.array .byte), .int, .int, (.object "java/lang/String")], none⟩ := by decide +kernel
def rmr1 : Room := { frames := 2, cells := 2, slots := 60, locals := 28 }
set_option maxRecDepth 65536 in
set_option maxHeartbeats 4000000 in
theorem mt1 (l : Launch) (Z : State) (a0 : Array Value) (hw : ∀ d ∈ tables_1, d.before a0 Z = true) (a : Addr) (b : Addr) (vs : List Value) (n : Nat) (en : Int32) (h0 : Heap) (O : Cf Z h0 a .null (.int 0) .null (.int 0)) (F : VA Z h0 b .byte vs) (hn : vs.length = n) (he : en.toInt = n) (hab : a ≠ b) : MethW l Z (⟨"com/example/dowelgraph/dowelgraph/artifact/ClassFileInput", "<init>", "([B)V"⟩ : MethodName) prog_23_method_1_code 2 none rmr1 #[(.ref a), (.ref b)] h0 [a] (fun v h' => v = none ∧ ∃ wv, Cf Z h' a (.ref b) (.int en) (.ref wv) (.int 0)) := by
  refine MethW.of pn1 ?_
  intro p e s m below meth c T B X S
  have zS : Sz 0 h0 := Nat.zero_le _
  refine Go.entry (ef1_RR m a b) ?_
  refine galoadN B X d1_0 rfl rfl (pc' := 1) rfl ?_
  refine galoadN B X d1_1 rfl rfl (pc' := 2) rfl ?_
  refine giconst B X d1_2 (v := (0 : Int32)) rfl (pc' := 3) rfl ?_
  refine galoadN B X d1_3 rfl rfl (pc' := 4) rfl ?_
  refine glength B X (n := en) F hn he d1_4 (pc' := 5) rfl ?_
  refine gldcS B X S zS (n := 56) (hw _ (List.mem_of_getElem? (i := 8) rfl)) (own_wS hw) (by decide) (by decide) (by decide) (by decide) d1_5 (pc' := 7) rfl fun w32 T33 h34 vm35 B36 X37 S38 E39 => ?_
  have F40 := O.ext E39
  have F41 := F.ext E39
  have z42 : Sz h34.size h34 := Nat.le_refl _
  refine gcallI B36 X37 rfl rfl (hw _ (List.mem_of_getElem? (i := 15) rfl)) (hw _ (List.mem_of_getElem? (i := 16) rfl)) (hw _ (List.mem_of_getElem? (i := 4) rfl)) (hw _ (List.mem_of_getElem? (i := 17) rfl)) (by decide) (mt2 l Z a0 hw a b (0 : Int32) en w32  h34 F40) pd___BIILjava_lang_String__V rfl (argsL := [(.ref b), (.int (0 : Int32)), (.int en), (.ref w32)]) (st := []) rfl rfl (W := 0) (Nat.le_of_eq rfl) (by decide) (by decide) (by decide) (by decide) (allS (Or.inl (List.mem_of_getElem? (i := 0) rfl)) all0) d1_7 (pc' := 10) rfl fun T43 h44 v45 X46 K47 Q48 => ?_
  have F49 := F41.keep K47 (ninS (Ne.symm hab) nin0)
  have F50 := z42.keep K47 trivial
  obtain ⟨rfl, O51⟩ := Q48
  show Go p e below _ _ _ _ T43 (mkF m 10 #[.val (.ref a), .val (.ref b)] [])
  exact gretVW B36 X46 S38 F50 d1_10 (by decide) (by decide) (⟨rfl, w32, O51⟩)
theorem d4_0 : decode prog_23_method_8_code 0 = .ok (.aload_n 0, 1) := by decide +kernel
theorem d4_1 : decode prog_23_method_8_code 1 = .ok (.iload_n 1, 1) := by decide +kernel
theorem d4_2 : decode prog_23_method_8_code 2 = .ok (.invokevirtual 29, 3) := by decide +kernel
theorem d4_5 : decode prog_23_method_8_code 5 = .ok (.aload_n 0, 1) := by decide +kernel
theorem d4_6 : decode prog_23_method_8_code 6 = .ok (.dup, 1) := by decide +kernel
theorem d4_7 : decode prog_23_method_8_code 7 = .ok (.getfield 18, 3) := by decide +kernel
theorem d4_10 : decode prog_23_method_8_code 10 = .ok (.iload_n 1, 1) := by decide +kernel
theorem d4_11 : decode prog_23_method_8_code 11 = .ok (.iadd, 1) := by decide +kernel
theorem d4_12 : decode prog_23_method_8_code 12 = .ok (.putfield 18, 3) := by decide +kernel
theorem d4_15 : decode prog_23_method_8_code 15 = .ok (.return_, 1) := by decide +kernel
theorem pn4 : plainFor (⟨"com/example/dowelgraph/dowelgraph/artifact/ClassFileInput", "skip", "(I)V"⟩ : MethodName) = true := plainFor_of_name (by first | (simp [plainName, overriddenIn]; done) | decide +kernel)
theorem ef4_RI (m : MethodId) (x0 : Addr) (x1 : Int32) : entryFrame m #[(.ref x0), (.int x1)] 2 = mkF m 0 #[.val (.ref x0), .val (.int x1)] [] := by first | (simp [entryFrame, mkF, argsToLocals, Value.category]; done) | rfl
theorem pd__I_V : parseMethodDescriptor "(I)V" = some ⟨[.int], none⟩ := by decide +kernel
def rmr4 : Room := { frames := 1, cells := 0, slots := 0, locals := 13 }
set_option maxRecDepth 65536 in
set_option maxHeartbeats 4000000 in
theorem mt4 (l : Launch) (Z : State) (a0 : Array Value) (hw : ∀ d ∈ tables_1, d.before a0 Z = true) (a : Addr) (k : Int32) (b wh : Addr) (en po : Int32) (h0 : Heap) (O : Cf Z h0 a (.ref b) (.int en) (.ref wh) (.int po)) (hk : ¬ (en - po) < k) : Meth l Z (⟨"com/example/dowelgraph/dowelgraph/artifact/ClassFileInput", "skip", "(I)V"⟩ : MethodName) prog_23_method_8_code 2 none rmr4 #[(.ref a), (.int k)] h0 [a] (fun v h' => v = none ∧ Cf Z h' a (.ref b) (.int en) (.ref wh) (.int (po + k))) := by
  refine Meth.of pn4 ?_
  intro p e s m below meth c T B X
  refine Go.entry (ef4_RI m a k) ?_
  refine galoadN B X d4_0 rfl rfl (pc' := 1) rfl ?_
  refine giloadN B X d4_1 rfl (pc' := 2) rfl ?_
  refine gcallP B X O.1 (hw _ (List.mem_of_getElem? (i := 34) rfl)) (hw _ (List.mem_of_getElem? (i := 35) rfl)) (hw _ (List.mem_of_getElem? (i := 3) rfl)) (hw _ (List.mem_of_getElem? (i := 36) rfl)) (hw _ (List.mem_of_getElem? (i := 4) rfl)) (hw _ (List.mem_of_getElem? (i := 37) rfl)) (by decide) (mt5 l Z a0 hw a k b wh en po h0 O hk) pd__I_V rfl (argsL := [(.int k)]) (st := []) rfl rfl (W := 0) (Nat.le_of_eq rfl) (by decide) (by decide) (by decide) (by decide) (fun x q => nomatch q) d4_2 (pc' := 5) rfl (pureV rfl rfl fun T52 X53 => ?_)
  refine galoadN B X53 d4_5 rfl rfl (pc' := 6) rfl ?_
  refine gdup B X53 d4_6 rfl (pc' := 7) rfl ?_
  refine gget B X53 (hw _ (List.mem_of_getElem? (i := 23) rfl)) O.2.2.2.2 d4_7 (pc' := 10) rfl fun T54 X55 => ?_
  refine giloadN B X55 d4_10 rfl (pc' := 11) rfl ?_
  refine giadd B X55 d4_11 rfl (pc' := 12) rfl ?_
  refine gput B X55 (ty := .int) (hw _ (List.mem_of_getElem? (i := 23) rfl)) O.2.2.2.2 O.1 (Or.inl (hw _ (List.mem_of_getElem? (i := 24) rfl))) (hw _ (List.mem_of_getElem? (i := 3) rfl)) (by decide) rfl rfl (Or.inl (List.mem_of_getElem? (i := 0) rfl)) d4_12 (pc' := 15) rfl fun T56 h57 X58 W59 => ?_
  have O60 := Cf.set3 hw O W59
  exact gretV B X58 d4_15 (by decide) (by decide) (⟨rfl, O60⟩)
theorem d7_0 : decode prog_23_method_3_code 0 = .ok (.aload_n 0, 1) := by decide +kernel
theorem d7_1 : decode prog_23_method_3_code 1 = .ok (.iconst 1, 1) := by decide +kernel
theorem d7_2 : decode prog_23_method_3_code 2 = .ok (.invokevirtual 29, 3) := by decide +kernel
theorem d7_5 : decode prog_23_method_3_code 5 = .ok (.aload_n 0, 1) := by decide +kernel
theorem d7_6 : decode prog_23_method_3_code 6 = .ok (.getfield 14, 3) := by decide +kernel
theorem d7_9 : decode prog_23_method_3_code 9 = .ok (.aload_n 0, 1) := by decide +kernel
theorem d7_10 : decode prog_23_method_3_code 10 = .ok (.dup, 1) := by decide +kernel
theorem d7_11 : decode prog_23_method_3_code 11 = .ok (.getfield 18, 3) := by decide +kernel
theorem d7_14 : decode prog_23_method_3_code 14 = .ok (.dup_x1, 1) := by decide +kernel
theorem d7_15 : decode prog_23_method_3_code 15 = .ok (.iconst 1, 1) := by decide +kernel
theorem d7_16 : decode prog_23_method_3_code 16 = .ok (.iadd, 1) := by decide +kernel
theorem d7_17 : decode prog_23_method_3_code 17 = .ok (.putfield 18, 3) := by decide +kernel
theorem d7_20 : decode prog_23_method_3_code 20 = .ok (.baload, 1) := by decide +kernel
theorem d7_21 : decode prog_23_method_3_code 21 = .ok (.sipush 255, 3) := by decide +kernel
theorem d7_24 : decode prog_23_method_3_code 24 = .ok (.iand, 1) := by decide +kernel
theorem d7_25 : decode prog_23_method_3_code 25 = .ok (.ireturn, 1) := by decide +kernel
theorem pn7 : plainFor (⟨"com/example/dowelgraph/dowelgraph/artifact/ClassFileInput", "u1", "()I"⟩ : MethodName) = true := plainFor_of_name (by first | (simp [plainName, overriddenIn]; done) | decide +kernel)
theorem ef7_R (m : MethodId) (x0 : Addr) : entryFrame m #[(.ref x0)] 1 = mkF m 0 #[.val (.ref x0)] [] := by first | (simp [entryFrame, mkF, argsToLocals, Value.category]; done) | rfl
def rmr7 : Room := { frames := 1, cells := 0, slots := 0, locals := 13 }
set_option maxRecDepth 65536 in
set_option maxHeartbeats 4000000 in
theorem mt7 (l : Launch) (Z : State) (a0 : Array Value) (hw : ∀ d ∈ tables_1, d.before a0 Z = true) (a : Addr) (b wh : Addr) (en po : Int32) (vs : List Value) (n : Nat) (x : Int32) (h0 : Heap) (O : Cf Z h0 a (.ref b) (.int en) (.ref wh) (.int po)) (F : VA Z h0 b .byte vs) (hn : vs.length = n) (hab : a ≠ b) (hk : ¬ (en - po) < (1 : Int32)) (hp : 0 ≤ po.toInt ∧ po.toInt < n) (hx : vs[po.toNatClampNeg]? = some (.int x)) : Meth l Z (⟨"com/example/dowelgraph/dowelgraph/artifact/ClassFileInput", "u1", "()I"⟩ : MethodName) prog_23_method_3_code 1 (some .int) rmr7 #[(.ref a)] h0 [a] (fun v h' => v = some (.int (x &&& (255 : Int32))) ∧ Cf Z h' a (.ref b) (.int en) (.ref wh) (.int (po + (1 : Int32)))) := by
  refine Meth.of pn7 ?_
  intro p e s m below meth c T B X
  refine Go.entry (ef7_R m a) ?_
  refine galoadN B X d7_0 rfl rfl (pc' := 1) rfl ?_
  refine giconst B X d7_1 (v := (1 : Int32)) rfl (pc' := 2) rfl ?_
  refine gcallP B X O.1 (hw _ (List.mem_of_getElem? (i := 34) rfl)) (hw _ (List.mem_of_getElem? (i := 35) rfl)) (hw _ (List.mem_of_getElem? (i := 3) rfl)) (hw _ (List.mem_of_getElem? (i := 36) rfl)) (hw _ (List.mem_of_getElem? (i := 4) rfl)) (hw _ (List.mem_of_getElem? (i := 37) rfl)) (by decide) (mt5 l Z a0 hw a (1 : Int32) b wh en po h0 O hk) pd__I_V rfl (argsL := [(.int (1 : Int32))]) (st := []) rfl rfl (W := 0) (Nat.le_of_eq rfl) (by decide) (by decide) (by decide) (by decide) (fun x q => nomatch q) d7_2 (pc' := 5) rfl (pureV rfl rfl fun T61 X62 => ?_)
  refine galoadN B X62 d7_5 rfl rfl (pc' := 6) rfl ?_
  refine gget B X62 (hw _ (List.mem_of_getElem? (i := 21) rfl)) O.2.1 d7_6 (pc' := 9) rfl fun T63 X64 => ?_
  refine galoadN B X64 d7_9 rfl rfl (pc' := 10) rfl ?_
  refine gdup B X64 d7_10 rfl (pc' := 11) rfl ?_
  refine gget B X64 (hw _ (List.mem_of_getElem? (i := 23) rfl)) O.2.2.2.2 d7_11 (pc' := 14) rfl fun T65 X66 => ?_
  refine gdup_x1 B X66 d7_14 rfl rfl (pc' := 15) rfl ?_
  refine giconst B X66 d7_15 (v := (1 : Int32)) rfl (pc' := 16) rfl ?_
  refine giadd B X66 d7_16 rfl (pc' := 17) rfl ?_
  refine gput B X66 (ty := .int) (hw _ (List.mem_of_getElem? (i := 23) rfl)) O.2.2.2.2 O.1 (Or.inl (hw _ (List.mem_of_getElem? (i := 24) rfl))) (hw _ (List.mem_of_getElem? (i := 3) rfl)) (by decide) rfl rfl (Or.inl (List.mem_of_getElem? (i := 0) rfl)) d7_17 (pc' := 20) rfl fun T67 h68 X69 W70 => ?_
  have O71 := Cf.set3 hw O W70
  have F72 := F.other W70 (Ne.symm hab)
  refine gbaload B X69 F72 hn hp (v := (.int x)) (hx) d7_20 (pc' := 21) rfl ?_
  refine gsipush B X69 d7_21 (v := (255 : Int32)) rfl (pc' := 24) rfl ?_
  refine giand B X69 d7_24 rfl (pc' := 25) rfl ?_
  exact gretI B X69 d7_25 (by decide) (by decide) (⟨rfl, O71⟩)
theorem own_sh0 (n : Int64) : (n.toUInt64 >>> (((0 : Int32) &&& 0x3f).toInt64).toUInt64).toInt64 = n := by
  apply Int64.toBitVec_inj.mp
  show n.toBitVec >>> 0 = n.toBitVec
  exact BitVec.ushiftRight_zero n.toBitVec
theorem own_by (z : Int64) : (z.toInt32.toInt8.toInt32 &&& 255) = (z &&& 255).toInt32 := by
  have h := c_mask z.toInt32.toInt8.toInt32 255 8 (by decide) (by decide)
  have b := c_i2b z.toInt32; have c := c_l2i z; have d := c_maskL z 255 8 (by decide) (by decide); have e := c_l2i (z &&& 255); have r := rng32 (z &&& 255).toInt32
  apply Int32.toInt_inj.mp; omega
theorem own_p (x : Int32) : 0 ≤ (x &&& 2147483647).toInt := by
  have h := c_mask x 2147483647 31 (by decide) (by decide); rw [h]; omega
theorem own_k1 (x : Int32) : 0 ≤ ((x &&& 2147483647) % 9).toInt ∧ ((x &&& 2147483647) % 9).toInt ≤ 8 := by
  have h := (c_irem (x &&& 2147483647) 9 9 rfl).1 (own_p x)
  rw [h]; omega
theorem own_9 {k : Int32} (h : 0 ≤ k.toInt ∧ k.toInt ≤ 8) : (9 - k).toInt = 9 - k.toInt := by
  have s := c_isub 9 k; have r := rng32 (9 - k); have z : (9 : Int32).toInt = 9 := rfl; omega
theorem own_nz {k : Int32} (h : 0 ≤ k.toInt ∧ k.toInt ≤ 8) : (9 - k) ≠ 0 := fun e => by
  have := own_9 h; rw [e] at this; have z : (0 : Int32).toInt = 0 := rfl; omega
theorem own_k2 (x : Int32) {k : Int32} (h : 0 ≤ k.toInt ∧ k.toInt ≤ 8) : 0 ≤ ((x &&& 2147483647) % (9 - k)).toInt ∧ ((x &&& 2147483647) % (9 - k)).toInt ≤ 8 - k.toInt := by
  have n := own_9 h
  have e := (c_irem (x &&& 2147483647) (9 - k) (9 - k).toInt rfl).1 (own_p x)
  have a := Int.emod_nonneg (x &&& 2147483647).toInt (show (9 - k).toInt ≠ 0 by omega)
  have b := Int.emod_lt_of_pos (x &&& 2147483647).toInt (show 0 < (9 - k).toInt by omega)
  rw [e]; omega
theorem own_r1 {k : Int32} (h : 0 ≤ k.toInt ∧ k.toInt ≤ 8) : ¬ ((8 : Int32) - (0 : Int32)) < k := by
  rw [show ((8 : Int32) - 0) = 8 from rfl, Int32.lt_iff_toInt_lt]; have z : (8 : Int32).toInt = 8 := rfl; omega
theorem own_r2 {k j : Int32} (h : 0 ≤ k.toInt ∧ k.toInt ≤ 8) (g : 0 ≤ j.toInt ∧ j.toInt ≤ 8 - k.toInt) : ¬ ((8 : Int32) - ((0 : Int32) + k)) < j := by
  rw [Int32.zero_add, Int32.lt_iff_toInt_lt]; have s := c_isub 8 k; have r := rng32 (8 - k); have z : (8 : Int32).toInt = 8 := rfl; omega
theorem own_sum {k j : Int32} (h : 0 ≤ k.toInt ∧ k.toInt ≤ 8) (g : 0 ≤ j.toInt ∧ j.toInt ≤ 8 - k.toInt) (n : ¬ k + j = 8) : k + j = 0 ∨ k + j = 1 ∨ k + j = 2 ∨ k + j = 3 ∨ k + j = 4 ∨ k + j = 5 ∨ k + j = 6 ∨ k + j = 7 := by
  have s := c_iadd k j; have r := rng32 (k + j)
  simp only [← Int32.toInt_inj, Int32.reduceToInt] at *; omega
theorem pn0 : plainFor (⟨"com/example/dowelgraph/dowelgraph/artifact/ClassFileInputSkipPinLaw", "law", "(JII)Z"⟩ : MethodName) = true := plainFor_of_name (by first | (simp [plainName, overriddenIn]; done) | decide +kernel)
theorem ef0_JII (m : MethodId) (x0 : Int64) (x1 : Int32) (x2 : Int32) : entryFrame m #[(.long x0), (.int x1), (.int x2)] 10 = mkF m 0 #[.val (.long x0), .second, .val (.int x1), .val (.int x2), .unset, .unset, .unset, .unset, .unset, .unset] [] := by first | (simp [entryFrame, mkF, argsToLocals, Value.category]; done) | rfl
theorem pd___B_V : parseMethodDescriptor "([B)V" = some ⟨[(.array .byte)], none⟩ := by decide +kernel
theorem pd___I : parseMethodDescriptor "()I" = some ⟨[], some .int⟩ := by decide +kernel
set_option maxRecDepth 65536 in
set_option maxHeartbeats 4000000 in
theorem mt0 (l : Launch) (Z : State) (a0 : Array Value) (hw : ∀ d ∈ tables_1, d.before a0 Z = true) (p0 : Int64) (p1 : Int32) (p2 : Int32) (h0 : Heap) : MethW l Z x code maxLocals ret room_1 #[(.long p0), (.int p1), (.int p2)] h0 [] (fun v h' => v = some (.int 1)) := by
  refine MethW.of pn0 ?_
  intro p e s m below meth c T B X S
  have zS : Sz 0 h0 := Nat.zero_le _
  have B : Fix p Z (s.setVm s.vm) m meth c code 10 "com/example/dowelgraph/dowelgraph/artifact/ClassFileInputSkipPinLaw" "law" (some .boolean) := B
  refine Go.entry (ef0_JII m p0 p1 p2) ?_
  refine gbipush B X at_0 (v := (8 : Int32)) rfl (pc' := 2) rfl ?_
  refine gnewarray B X (cap := 8) (vs := [(.int (0 : Int32)), (.int (0 : Int32)), (.int (0 : Int32)), (.int (0 : Int32)), (.int (0 : Int32)), (.int (0 : Int32)), (.int (0 : Int32)), (.int (0 : Int32))]) (ty := .byte) rfl rfl (hw _ (List.mem_of_getElem? (i := 0) rfl)) (by decide) (by decide) (by decide) (by decide) (by decide) at_2 (pc' := 4) rfl fun T73 h74 a75 X76 q77 E78 z_a75 A79 => ?_
  have F80 := zS.ext E78
  refine gastore B X76 at_4 rfl (Ls' := #[.val (.long p0), .second, .val (.int p1), .val (.int p2), .val (.ref a75), .unset, .unset, .unset, .unset, .unset]) rfl (pc' := 6) rfl ?_
  refine gaload B X76 at_6 rfl rfl (pc' := 8) rfl ?_
  refine giconst B X76 at_8 (v := (0 : Int32)) rfl (pc' := 9) rfl ?_
  refine glloadN B X76 at_9 rfl (pc' := 10) rfl ?_
  refine gl2i B X76 at_10 rfl (pc' := 11) rfl ?_
  refine gi2b B X76 at_11 rfl (pc' := 12) rfl ?_
  refine gbastore B X76 (i := 0) (n := 8) A79 rfl (by decide) rfl (vs' := [(.int p0.toInt32.toInt8.toInt32), (.int (0 : Int32)), (.int (0 : Int32)), (.int (0 : Int32)), (.int (0 : Int32)), (.int (0 : Int32)), (.int (0 : Int32)), (.int (0 : Int32))]) (by rw [Jvm.OwnKit.nbb]; rfl) (Or.inr z_a75) at_12 (pc' := 13) rfl fun T81 h82 X83 W84 A85 => ?_
  have F86 := F80.other W84 trivial
  refine gaload B X83 at_13 rfl rfl (pc' := 15) rfl ?_
  refine giconst B X83 at_15 (v := (1 : Int32)) rfl (pc' := 16) rfl ?_
  refine glloadN B X83 at_16 rfl (pc' := 17) rfl ?_
  refine gbipush B X83 at_17 (v := (8 : Int32)) rfl (pc' := 19) rfl ?_
  refine glushr B X83 at_19 rfl (pc' := 20) rfl ?_
  refine gl2i B X83 at_20 rfl (pc' := 21) rfl ?_
  refine gi2b B X83 at_21 rfl (pc' := 22) rfl ?_
  refine gbastore B X83 (i := 1) (n := 8) A85 rfl (by decide) rfl (vs' := [(.int p0.toInt32.toInt8.toInt32), (.int ((p0.toUInt64 >>> ((8 : Int32) &&& 0x3f).toInt64.toUInt64).toInt64).toInt32.toInt8.toInt32), (.int (0 : Int32)), (.int (0 : Int32)), (.int (0 : Int32)), (.int (0 : Int32)), (.int (0 : Int32)), (.int (0 : Int32))]) (by rw [Jvm.OwnKit.nbb]; rfl) (Or.inr z_a75) at_22 (pc' := 23) rfl fun T87 h88 X89 W90 A91 => ?_
  have F92 := F86.other W90 trivial
  refine gaload B X89 at_23 rfl rfl (pc' := 25) rfl ?_
  refine giconst B X89 at_25 (v := (2 : Int32)) rfl (pc' := 26) rfl ?_
  refine glloadN B X89 at_26 rfl (pc' := 27) rfl ?_
  refine gbipush B X89 at_27 (v := (16 : Int32)) rfl (pc' := 29) rfl ?_
  refine glushr B X89 at_29 rfl (pc' := 30) rfl ?_
  refine gl2i B X89 at_30 rfl (pc' := 31) rfl ?_
  refine gi2b B X89 at_31 rfl (pc' := 32) rfl ?_
  refine gbastore B X89 (i := 2) (n := 8) A91 rfl (by decide) rfl (vs' := [(.int p0.toInt32.toInt8.toInt32), (.int ((p0.toUInt64 >>> ((8 : Int32) &&& 0x3f).toInt64.toUInt64).toInt64).toInt32.toInt8.toInt32), (.int ((p0.toUInt64 >>> ((16 : Int32) &&& 0x3f).toInt64.toUInt64).toInt64).toInt32.toInt8.toInt32), (.int (0 : Int32)), (.int (0 : Int32)), (.int (0 : Int32)), (.int (0 : Int32)), (.int (0 : Int32))]) (by rw [Jvm.OwnKit.nbb]; rfl) (Or.inr z_a75) at_32 (pc' := 33) rfl fun T93 h94 X95 W96 A97 => ?_
  have F98 := F92.other W96 trivial
  refine gaload B X95 at_33 rfl rfl (pc' := 35) rfl ?_
  refine giconst B X95 at_35 (v := (3 : Int32)) rfl (pc' := 36) rfl ?_
  refine glloadN B X95 at_36 rfl (pc' := 37) rfl ?_
  refine gbipush B X95 at_37 (v := (24 : Int32)) rfl (pc' := 39) rfl ?_
  refine glushr B X95 at_39 rfl (pc' := 40) rfl ?_
  refine gl2i B X95 at_40 rfl (pc' := 41) rfl ?_
  refine gi2b B X95 at_41 rfl (pc' := 42) rfl ?_
  refine gbastore B X95 (i := 3) (n := 8) A97 rfl (by decide) rfl (vs' := [(.int p0.toInt32.toInt8.toInt32), (.int ((p0.toUInt64 >>> ((8 : Int32) &&& 0x3f).toInt64.toUInt64).toInt64).toInt32.toInt8.toInt32), (.int ((p0.toUInt64 >>> ((16 : Int32) &&& 0x3f).toInt64.toUInt64).toInt64).toInt32.toInt8.toInt32), (.int ((p0.toUInt64 >>> ((24 : Int32) &&& 0x3f).toInt64.toUInt64).toInt64).toInt32.toInt8.toInt32), (.int (0 : Int32)), (.int (0 : Int32)), (.int (0 : Int32)), (.int (0 : Int32))]) (by rw [Jvm.OwnKit.nbb]; rfl) (Or.inr z_a75) at_42 (pc' := 43) rfl fun T99 h100 X101 W102 A103 => ?_
  have F104 := F98.other W102 trivial
  refine gaload B X101 at_43 rfl rfl (pc' := 45) rfl ?_
  refine giconst B X101 at_45 (v := (4 : Int32)) rfl (pc' := 46) rfl ?_
  refine glloadN B X101 at_46 rfl (pc' := 47) rfl ?_
  refine gbipush B X101 at_47 (v := (32 : Int32)) rfl (pc' := 49) rfl ?_
  refine glushr B X101 at_49 rfl (pc' := 50) rfl ?_
  refine gl2i B X101 at_50 rfl (pc' := 51) rfl ?_
  refine gi2b B X101 at_51 rfl (pc' := 52) rfl ?_
  refine gbastore B X101 (i := 4) (n := 8) A103 rfl (by decide) rfl (vs' := [(.int p0.toInt32.toInt8.toInt32), (.int ((p0.toUInt64 >>> ((8 : Int32) &&& 0x3f).toInt64.toUInt64).toInt64).toInt32.toInt8.toInt32), (.int ((p0.toUInt64 >>> ((16 : Int32) &&& 0x3f).toInt64.toUInt64).toInt64).toInt32.toInt8.toInt32), (.int ((p0.toUInt64 >>> ((24 : Int32) &&& 0x3f).toInt64.toUInt64).toInt64).toInt32.toInt8.toInt32), (.int ((p0.toUInt64 >>> ((32 : Int32) &&& 0x3f).toInt64.toUInt64).toInt64).toInt32.toInt8.toInt32), (.int (0 : Int32)), (.int (0 : Int32)), (.int (0 : Int32))]) (by rw [Jvm.OwnKit.nbb]; rfl) (Or.inr z_a75) at_52 (pc' := 53) rfl fun T105 h106 X107 W108 A109 => ?_
  have F110 := F104.other W108 trivial
  refine gaload B X107 at_53 rfl rfl (pc' := 55) rfl ?_
  refine giconst B X107 at_55 (v := (5 : Int32)) rfl (pc' := 56) rfl ?_
  refine glloadN B X107 at_56 rfl (pc' := 57) rfl ?_
  refine gbipush B X107 at_57 (v := (40 : Int32)) rfl (pc' := 59) rfl ?_
  refine glushr B X107 at_59 rfl (pc' := 60) rfl ?_
  refine gl2i B X107 at_60 rfl (pc' := 61) rfl ?_
  refine gi2b B X107 at_61 rfl (pc' := 62) rfl ?_
  refine gbastore B X107 (i := 5) (n := 8) A109 rfl (by decide) rfl (vs' := [(.int p0.toInt32.toInt8.toInt32), (.int ((p0.toUInt64 >>> ((8 : Int32) &&& 0x3f).toInt64.toUInt64).toInt64).toInt32.toInt8.toInt32), (.int ((p0.toUInt64 >>> ((16 : Int32) &&& 0x3f).toInt64.toUInt64).toInt64).toInt32.toInt8.toInt32), (.int ((p0.toUInt64 >>> ((24 : Int32) &&& 0x3f).toInt64.toUInt64).toInt64).toInt32.toInt8.toInt32), (.int ((p0.toUInt64 >>> ((32 : Int32) &&& 0x3f).toInt64.toUInt64).toInt64).toInt32.toInt8.toInt32), (.int ((p0.toUInt64 >>> ((40 : Int32) &&& 0x3f).toInt64.toUInt64).toInt64).toInt32.toInt8.toInt32), (.int (0 : Int32)), (.int (0 : Int32))]) (by rw [Jvm.OwnKit.nbb]; rfl) (Or.inr z_a75) at_62 (pc' := 63) rfl fun T111 h112 X113 W114 A115 => ?_
  have F116 := F110.other W114 trivial
  refine gaload B X113 at_63 rfl rfl (pc' := 65) rfl ?_
  refine gbipush B X113 at_65 (v := (6 : Int32)) rfl (pc' := 67) rfl ?_
  refine glloadN B X113 at_67 rfl (pc' := 68) rfl ?_
  refine gbipush B X113 at_68 (v := (48 : Int32)) rfl (pc' := 70) rfl ?_
  refine glushr B X113 at_70 rfl (pc' := 71) rfl ?_
  refine gl2i B X113 at_71 rfl (pc' := 72) rfl ?_
  refine gi2b B X113 at_72 rfl (pc' := 73) rfl ?_
  refine gbastore B X113 (i := 6) (n := 8) A115 rfl (by decide) rfl (vs' := [(.int p0.toInt32.toInt8.toInt32), (.int ((p0.toUInt64 >>> ((8 : Int32) &&& 0x3f).toInt64.toUInt64).toInt64).toInt32.toInt8.toInt32), (.int ((p0.toUInt64 >>> ((16 : Int32) &&& 0x3f).toInt64.toUInt64).toInt64).toInt32.toInt8.toInt32), (.int ((p0.toUInt64 >>> ((24 : Int32) &&& 0x3f).toInt64.toUInt64).toInt64).toInt32.toInt8.toInt32), (.int ((p0.toUInt64 >>> ((32 : Int32) &&& 0x3f).toInt64.toUInt64).toInt64).toInt32.toInt8.toInt32), (.int ((p0.toUInt64 >>> ((40 : Int32) &&& 0x3f).toInt64.toUInt64).toInt64).toInt32.toInt8.toInt32), (.int ((p0.toUInt64 >>> ((48 : Int32) &&& 0x3f).toInt64.toUInt64).toInt64).toInt32.toInt8.toInt32), (.int (0 : Int32))]) (by rw [Jvm.OwnKit.nbb]; rfl) (Or.inr z_a75) at_73 (pc' := 74) rfl fun T117 h118 X119 W120 A121 => ?_
  have F122 := F116.other W120 trivial
  refine gaload B X119 at_74 rfl rfl (pc' := 76) rfl ?_
  refine gbipush B X119 at_76 (v := (7 : Int32)) rfl (pc' := 78) rfl ?_
  refine glloadN B X119 at_78 rfl (pc' := 79) rfl ?_
  refine gbipush B X119 at_79 (v := (56 : Int32)) rfl (pc' := 81) rfl ?_
  refine glushr B X119 at_81 rfl (pc' := 82) rfl ?_
  refine gl2i B X119 at_82 rfl (pc' := 83) rfl ?_
  refine gi2b B X119 at_83 rfl (pc' := 84) rfl ?_
  refine gbastore B X119 (i := 7) (n := 8) A121 rfl (by decide) rfl (vs' := [(.int p0.toInt32.toInt8.toInt32), (.int ((p0.toUInt64 >>> ((8 : Int32) &&& 0x3f).toInt64.toUInt64).toInt64).toInt32.toInt8.toInt32), (.int ((p0.toUInt64 >>> ((16 : Int32) &&& 0x3f).toInt64.toUInt64).toInt64).toInt32.toInt8.toInt32), (.int ((p0.toUInt64 >>> ((24 : Int32) &&& 0x3f).toInt64.toUInt64).toInt64).toInt32.toInt8.toInt32), (.int ((p0.toUInt64 >>> ((32 : Int32) &&& 0x3f).toInt64.toUInt64).toInt64).toInt32.toInt8.toInt32), (.int ((p0.toUInt64 >>> ((40 : Int32) &&& 0x3f).toInt64.toUInt64).toInt64).toInt32.toInt8.toInt32), (.int ((p0.toUInt64 >>> ((48 : Int32) &&& 0x3f).toInt64.toUInt64).toInt64).toInt32.toInt8.toInt32), (.int ((p0.toUInt64 >>> ((56 : Int32) &&& 0x3f).toInt64.toUInt64).toInt64).toInt32.toInt8.toInt32)]) (by rw [Jvm.OwnKit.nbb]; rfl) (Or.inr z_a75) at_84 (pc' := 85) rfl fun T123 h124 X125 W126 A127 => ?_
  have F128 := F122.other W126 trivial
  refine giloadN B X125 at_85 rfl (pc' := 86) rfl ?_
  refine gldc B X125 (v := (2147483647 : Int32)) (hw _ (List.mem_of_getElem? (i := 1) rfl)) at_86 (pc' := 88) rfl ?_
  refine giand B X125 at_88 rfl (pc' := 89) rfl ?_
  refine gbipush B X125 at_89 (v := (9 : Int32)) rfl (pc' := 91) rfl ?_
  refine girem B X125 at_91 (by decide) rfl (pc' := 92) rfl ?_
  generalize e_qk1 : ((p1 &&& (2147483647 : Int32)) % (9 : Int32)) = qk1
  refine gistore B X125 at_92 (Ls' := #[.val (.long p0), .second, .val (.int p1), .val (.int p2), .val (.ref a75), .val (.int qk1), .unset, .unset, .unset, .unset]) rfl (pc' := 94) rfl ?_
  have hk1 := own_k1 p1; rw [e_qk1] at hk1
  refine giloadN B X125 at_94 rfl (pc' := 95) rfl ?_
  refine gldc B X125 (v := (2147483647 : Int32)) (hw _ (List.mem_of_getElem? (i := 1) rfl)) at_95 (pc' := 97) rfl ?_
  refine giand B X125 at_97 rfl (pc' := 98) rfl ?_
  refine gbipush B X125 at_98 (v := (9 : Int32)) rfl (pc' := 100) rfl ?_
  refine giload B X125 at_100 rfl (pc' := 102) rfl ?_
  refine gisub B X125 at_102 rfl (pc' := 103) rfl ?_
  refine girem B X125 at_103 (own_nz hk1) rfl (pc' := 104) rfl ?_
  generalize e_qk2 : ((p2 &&& (2147483647 : Int32)) % ((9 : Int32) - qk1)) = qk2
  refine gistore B X125 at_104 (Ls' := #[.val (.long p0), .second, .val (.int p1), .val (.int p2), .val (.ref a75), .val (.int qk1), .val (.int qk2), .unset, .unset, .unset]) rfl (pc' := 106) rfl ?_
  have hk2 := own_k2 p2 hk1; rw [e_qk2] at hk2
  refine gnew B X125 (hw _ (List.mem_of_getElem? (i := 2) rfl)) (hw _ (List.mem_of_getElem? (i := 3) rfl)) (hw _ (List.mem_of_getElem? (i := 4) rfl)) (by decide) (by decide) at_106 (pc' := 109) rfl fun T129 h130 a131 X132 q133 E134 z_a131 A135 D136 => ?_
  have O137 : Cf Z h130 a131 .null (.int (0 : Int32)) .null (.int (0 : Int32)) := ⟨A135, D136 (Or.inr (hw _ (List.mem_of_getElem? (i := 22) rfl))) (ty := (.array .byte)) (by decide), D136 (Or.inr (hw _ (List.mem_of_getElem? (i := 26) rfl))) (ty := .int) (by decide), D136 (Or.inr (hw _ (List.mem_of_getElem? (i := 28) rfl))) (ty := (.object "java/lang/String")) (by decide), D136 (Or.inl (hw _ (List.mem_of_getElem? (i := 24) rfl))) (ty := .int) (by decide)⟩
  have n138 : a75 ≠ a131 := by rw [q133]; exact Nat.ne_of_lt A127.lt
  have F139 := F128.ext E134
  have F140 := A127.ext E134
  refine gdup B X132 at_109 rfl (pc' := 110) rfl ?_
  refine gaload B X132 at_110 rfl rfl (pc' := 112) rfl ?_
  refine gcallIW B X132 S F139 rfl rfl (hw _ (List.mem_of_getElem? (i := 5) rfl)) (hw _ (List.mem_of_getElem? (i := 6) rfl)) (hw _ (List.mem_of_getElem? (i := 4) rfl)) (hw _ (List.mem_of_getElem? (i := 7) rfl)) (by decide) (mt1 l Z a0 hw a131 a75 [(.int p0.toInt32.toInt8.toInt32), (.int ((p0.toUInt64 >>> ((8 : Int32) &&& 0x3f).toInt64.toUInt64).toInt64).toInt32.toInt8.toInt32), (.int ((p0.toUInt64 >>> ((16 : Int32) &&& 0x3f).toInt64.toUInt64).toInt64).toInt32.toInt8.toInt32), (.int ((p0.toUInt64 >>> ((24 : Int32) &&& 0x3f).toInt64.toUInt64).toInt64).toInt32.toInt8.toInt32), (.int ((p0.toUInt64 >>> ((32 : Int32) &&& 0x3f).toInt64.toUInt64).toInt64).toInt32.toInt8.toInt32), (.int ((p0.toUInt64 >>> ((40 : Int32) &&& 0x3f).toInt64.toUInt64).toInt64).toInt32.toInt8.toInt32), (.int ((p0.toUInt64 >>> ((48 : Int32) &&& 0x3f).toInt64.toUInt64).toInt64).toInt32.toInt8.toInt32), (.int ((p0.toUInt64 >>> ((56 : Int32) &&& 0x3f).toInt64.toUInt64).toInt64).toInt32.toInt8.toInt32)] 8 (8 : Int32) h130 O137 F140 rfl (by decide) (Ne.symm n138)) pd___B_V rfl (argsL := [(.ref a75)]) (st := [(.ref a131)]) rfl rfl (W := 1) (Nat.le_of_eq rfl) (by decide) (by decide) (by decide) (by decide) (allS (Or.inr z_a131) all0) at_112 (pc' := 115) rfl fun T141 h142 v143 vm147 B148 X144 S149 K145 Q146 => ?_
  have F150 := F140.keep K145 (ninS n138 nin0)
  obtain ⟨rfl, w152, O151⟩ := Q146
  have z153 : Sz h142.size h142 := Nat.le_refl _
  show Go p e below _ _ _ _ T141 (mkF m 115 #[.val (.long p0), .second, .val (.int p1), .val (.int p2), .val (.ref a75), .val (.int qk1), .val (.int qk2), .unset, .unset, .unset] [(.ref a131)])
  refine gastore B148 X144 at_115 rfl (Ls' := #[.val (.long p0), .second, .val (.int p1), .val (.int p2), .val (.ref a75), .val (.int qk1), .val (.int qk2), .val (.ref a131), .unset, .unset]) rfl (pc' := 117) rfl ?_
  refine gaload B148 X144 at_117 rfl rfl (pc' := 119) rfl ?_
  refine giload B148 X144 at_119 rfl (pc' := 121) rfl ?_
  refine gcallV B148 X144 O151.1 (hw _ (List.mem_of_getElem? (i := 29) rfl)) (hw _ (List.mem_of_getElem? (i := 30) rfl)) (hw _ (List.mem_of_getElem? (i := 32) rfl)) (hw _ (List.mem_of_getElem? (i := 31) rfl)) (hw _ (List.mem_of_getElem? (i := 4) rfl)) (hw _ (List.mem_of_getElem? (i := 33) rfl)) rfl (by decide) (mt4 l Z a0 hw a131 qk1 a75 w152 (8 : Int32) (0 : Int32) h142 O151 (own_r1 hk1)) pd__I_V rfl (argsL := [(.int qk1)]) (st := []) rfl rfl (W := 0) (Nat.le_of_eq rfl) (by decide) (by decide) (by decide) (by decide) (allS (Or.inr z_a131) all0) at_121 (pc' := 124) rfl fun T154 h155 v156 X157 K158 Q159 => ?_
  have F160 := F150.keep K158 (ninS n138 nin0)
  have F161 := z153.keep K158 trivial
  obtain ⟨rfl, O162⟩ := Q159
  show Go p e below _ _ _ _ T154 (mkF m 124 #[.val (.long p0), .second, .val (.int p1), .val (.int p2), .val (.ref a75), .val (.int qk1), .val (.int qk2), .val (.ref a131), .unset, .unset] [])
  refine gaload B148 X157 at_124 rfl rfl (pc' := 126) rfl ?_
  refine gcallV B148 X157 O162.1 (hw _ (List.mem_of_getElem? (i := 38) rfl)) (hw _ (List.mem_of_getElem? (i := 39) rfl)) (hw _ (List.mem_of_getElem? (i := 41) rfl)) (hw _ (List.mem_of_getElem? (i := 40) rfl)) (hw _ (List.mem_of_getElem? (i := 4) rfl)) (hw _ (List.mem_of_getElem? (i := 42) rfl)) rfl (by decide) (mtrem l Z a0 hw a131 a75 w152 (8 : Int32) ((0 : Int32) + qk1) h155 O162) pd___I rfl (argsL := []) (st := []) rfl rfl (W := 0) (Nat.le_of_eq rfl) (by decide) (by decide) (by decide) (by decide) (fun x q => nomatch q) at_126 (pc' := 129) rfl (pureG rfl rfl fun T163 X164 => ?_)
  refine gbipush B148 X164 at_129 (v := (8 : Int32)) rfl (pc' := 131) rfl ?_
  refine giload B148 X164 at_131 rfl (pc' := 133) rfl ?_
  refine gisub B148 X164 at_133 rfl (pc' := 134) rfl ?_
  have c134_165 : ((8 : Int32) - ((0 : Int32) + qk1)) = ((8 : Int32) - qk1) := by rw [Int32.zero_add]
  refine gicY B148 X164 (pc' := 139) at_134 (teq c134_165).1 (by decide) ?_
  refine gaload B148 X164 at_139 rfl rfl (pc' := 141) rfl ?_
  refine giload B148 X164 at_141 rfl (pc' := 143) rfl ?_
  refine gcallV B148 X164 O162.1 (hw _ (List.mem_of_getElem? (i := 29) rfl)) (hw _ (List.mem_of_getElem? (i := 30) rfl)) (hw _ (List.mem_of_getElem? (i := 32) rfl)) (hw _ (List.mem_of_getElem? (i := 31) rfl)) (hw _ (List.mem_of_getElem? (i := 4) rfl)) (hw _ (List.mem_of_getElem? (i := 33) rfl)) rfl (by decide) (mt4 l Z a0 hw a131 qk2 a75 w152 (8 : Int32) ((0 : Int32) + qk1) h155 O162 (own_r2 hk1 hk2)) pd__I_V rfl (argsL := [(.int qk2)]) (st := []) rfl rfl (W := 0) (Nat.le_of_eq rfl) (by decide) (by decide) (by decide) (by decide) (allS (Or.inr z_a131) all0) at_143 (pc' := 146) rfl fun T166 h167 v168 X169 K170 Q171 => ?_
  have F172 := F160.keep K170 (ninS n138 nin0)
  have F173 := F161.keep K170 trivial
  obtain ⟨rfl, O174⟩ := Q171
  show Go p e below _ _ _ _ T166 (mkF m 146 #[.val (.long p0), .second, .val (.int p1), .val (.int p2), .val (.ref a75), .val (.int qk1), .val (.int qk2), .val (.ref a131), .unset, .unset] [])
  refine giload B148 X169 at_146 rfl (pc' := 148) rfl ?_
  refine giload B148 X169 at_148 rfl (pc' := 150) rfl ?_
  refine giadd B148 X169 at_150 rfl (pc' := 151) rfl ?_
  have O175 : Cf Z h167 a131 (.ref a75) (.int (8 : Int32)) (.ref w152) (.int (qk1 + qk2)) := by have z := O174; rw [Int32.zero_add] at z; exact z
  have hsum := own_sum hk1 hk2
  generalize (qk1 + qk2) = qp at O175 hsum ⊢
  refine gistore B148 X169 at_151 (Ls' := #[.val (.long p0), .second, .val (.int p1), .val (.int p2), .val (.ref a75), .val (.int qk1), .val (.int qk2), .val (.ref a131), .val (.int qp), .unset]) rfl (pc' := 153) rfl ?_
  refine gaload B148 X169 at_153 rfl rfl (pc' := 155) rfl ?_
  refine gcallV B148 X169 O175.1 (hw _ (List.mem_of_getElem? (i := 38) rfl)) (hw _ (List.mem_of_getElem? (i := 39) rfl)) (hw _ (List.mem_of_getElem? (i := 41) rfl)) (hw _ (List.mem_of_getElem? (i := 40) rfl)) (hw _ (List.mem_of_getElem? (i := 4) rfl)) (hw _ (List.mem_of_getElem? (i := 42) rfl)) rfl (by decide) (mtrem l Z a0 hw a131 a75 w152 (8 : Int32) qp h167 O175) pd___I rfl (argsL := []) (st := []) rfl rfl (W := 0) (Nat.le_of_eq rfl) (by decide) (by decide) (by decide) (by decide) (fun x q => nomatch q) at_155 (pc' := 158) rfl (pureG rfl rfl fun T176 X177 => ?_)
  refine gbipush B148 X177 at_158 (v := (8 : Int32)) rfl (pc' := 160) rfl ?_
  refine giload B148 X177 at_160 rfl (pc' := 162) rfl ?_
  refine gisub B148 X177 at_162 rfl (pc' := 163) rfl ?_
  have c163_178 : ((8 : Int32) - qp) = ((8 : Int32) - qp) := rfl
  refine gicY B148 X177 (pc' := 168) at_163 (teq c163_178).1 (by decide) ?_
  refine giload B148 X177 at_168 rfl (pc' := 170) rfl ?_
  refine gbipush B148 X177 at_170 (v := (8 : Int32)) rfl (pc' := 172) rfl ?_
  by_cases c172_179 : qp = (8 : Int32)
  · refine gicN B148 X177 at_172 (teq c172_179).2 (pc' := 175) rfl ?_
    refine giconst B148 X177 at_175 (v := (1 : Int32)) rfl (pc' := 176) rfl ?_
    exact gretNW B148 X177 S149 F173 (z' := (1 : Int32)) (by simp) (rfl) at_176 (by decide) (by decide) (rfl)
  · refine gicY B148 X177 (pc' := 177) at_172 (feq c172_179).2 (by decide) ?_
    rcases hsum c172_179 with rfl | rfl | rfl | rfl | rfl | rfl | rfl | rfl
    · skip
      refine glloadN B148 X177 at_177 rfl (pc' := 178) rfl ?_
      refine gbipush B148 X177 at_178 (v := (8 : Int32)) rfl (pc' := 180) rfl ?_
      refine giload B148 X177 at_180 rfl (pc' := 182) rfl ?_
      refine gimul B148 X177 at_182 (v := (0 : Int32)) (by decide) (pc' := 183) rfl ?_
      refine glushr B148 X177 at_183 (v := p0) (own_sh0 p0) (pc' := 184) rfl ?_
      refine gldc2 B148 X177 (v := (255 : Int64)) (hw _ (List.mem_of_getElem? (i := 43) rfl)) at_184 (pc' := 187) rfl ?_
      refine gland B148 X177 at_187 rfl (pc' := 188) rfl ?_
      refine gl2i B148 X177 at_188 rfl (pc' := 189) rfl ?_
      refine gistore B148 X177 at_189 (Ls' := #[.val (.long p0), .second, .val (.int p1), .val (.int p2), .val (.ref a75), .val (.int qk1), .val (.int qk2), .val (.ref a131), .val (.int (0 : Int32)), .val (.int (p0 &&& (255 : Int64)).toInt32)]) rfl (pc' := 191) rfl ?_
      refine gaload B148 X177 at_191 rfl rfl (pc' := 193) rfl ?_
      refine gcallV B148 X177 O175.1 (hw _ (List.mem_of_getElem? (i := 44) rfl)) (hw _ (List.mem_of_getElem? (i := 45) rfl)) (hw _ (List.mem_of_getElem? (i := 47) rfl)) (hw _ (List.mem_of_getElem? (i := 46) rfl)) (hw _ (List.mem_of_getElem? (i := 4) rfl)) (hw _ (List.mem_of_getElem? (i := 48) rfl)) rfl (by decide) (mt7 l Z a0 hw a131 a75 w152 (8 : Int32) (0 : Int32) [(.int p0.toInt32.toInt8.toInt32), (.int ((p0.toUInt64 >>> ((8 : Int32) &&& 0x3f).toInt64.toUInt64).toInt64).toInt32.toInt8.toInt32), (.int ((p0.toUInt64 >>> ((16 : Int32) &&& 0x3f).toInt64.toUInt64).toInt64).toInt32.toInt8.toInt32), (.int ((p0.toUInt64 >>> ((24 : Int32) &&& 0x3f).toInt64.toUInt64).toInt64).toInt32.toInt8.toInt32), (.int ((p0.toUInt64 >>> ((32 : Int32) &&& 0x3f).toInt64.toUInt64).toInt64).toInt32.toInt8.toInt32), (.int ((p0.toUInt64 >>> ((40 : Int32) &&& 0x3f).toInt64.toUInt64).toInt64).toInt32.toInt8.toInt32), (.int ((p0.toUInt64 >>> ((48 : Int32) &&& 0x3f).toInt64.toUInt64).toInt64).toInt32.toInt8.toInt32), (.int ((p0.toUInt64 >>> ((56 : Int32) &&& 0x3f).toInt64.toUInt64).toInt64).toInt32.toInt8.toInt32)] 8 p0.toInt32.toInt8.toInt32 h167 O175 F172 rfl (Ne.symm n138) (by decide) (by decide) rfl) pd___I rfl (argsL := []) (st := []) rfl rfl (W := 0) (Nat.le_of_eq rfl) (by decide) (by decide) (by decide) (by decide) (allS (Or.inr z_a131) all0) at_193 (pc' := 196) rfl fun T180 h181 v182 X183 K184 Q185 => ?_
      have F186 := F172.keep K184 (ninS n138 nin0)
      have F187 := F173.keep K184 trivial
      obtain ⟨rfl, O188⟩ := Q185
      show Go p e below _ _ _ _ T180 (mkF m 196 #[.val (.long p0), .second, .val (.int p1), .val (.int p2), .val (.ref a75), .val (.int qk1), .val (.int qk2), .val (.ref a131), .val (.int (0 : Int32)), .val (.int (p0 &&& (255 : Int64)).toInt32)] [(.int (p0.toInt32.toInt8.toInt32 &&& (255 : Int32)))])
      refine giload B148 X183 at_196 rfl (pc' := 198) rfl ?_
      have c198_189 : (p0.toInt32.toInt8.toInt32 &&& (255 : Int32)) = (p0 &&& (255 : Int64)).toInt32 := own_by _
      refine gicN B148 X183 at_198 (teq c198_189).2 (pc' := 201) rfl ?_
      refine gaload B148 X183 at_201 rfl rfl (pc' := 203) rfl ?_
      refine gcallV B148 X183 O188.1 (hw _ (List.mem_of_getElem? (i := 38) rfl)) (hw _ (List.mem_of_getElem? (i := 39) rfl)) (hw _ (List.mem_of_getElem? (i := 41) rfl)) (hw _ (List.mem_of_getElem? (i := 40) rfl)) (hw _ (List.mem_of_getElem? (i := 4) rfl)) (hw _ (List.mem_of_getElem? (i := 42) rfl)) rfl (by decide) (mtrem l Z a0 hw a131 a75 w152 (8 : Int32) ((0 : Int32) + (1 : Int32)) h181 O188) pd___I rfl (argsL := []) (st := []) rfl rfl (W := 0) (Nat.le_of_eq rfl) (by decide) (by decide) (by decide) (by decide) (fun x q => nomatch q) at_203 (pc' := 206) rfl (pureG rfl rfl fun T190 X191 => ?_)
      refine gbipush B148 X191 at_206 (v := (7 : Int32)) rfl (pc' := 208) rfl ?_
      refine giload B148 X191 at_208 rfl (pc' := 210) rfl ?_
      refine gisub B148 X191 at_210 (v := (7 : Int32)) (by decide) (pc' := 211) rfl ?_
      have c211_192 : ((8 : Int32) - ((0 : Int32) + (1 : Int32))) = (7 : Int32) := by decide
      refine gicN B148 X191 at_211 (teq c211_192).2 (pc' := 214) rfl ?_
      refine giconst B148 X191 at_214 (v := (1 : Int32)) rfl (pc' := 215) rfl ?_
      refine ggoto B148 X191 (pc' := 219) at_215 (by decide) ?_
      exact gretNW B148 X191 S149 F187 (z' := (1 : Int32)) (by simp) (rfl) at_219 (by decide) (by decide) (rfl)
    · skip
      refine glloadN B148 X177 at_177 rfl (pc' := 178) rfl ?_
      refine gbipush B148 X177 at_178 (v := (8 : Int32)) rfl (pc' := 180) rfl ?_
      refine giload B148 X177 at_180 rfl (pc' := 182) rfl ?_
      refine gimul B148 X177 at_182 (v := (8 : Int32)) (by decide) (pc' := 183) rfl ?_
      refine glushr B148 X177 at_183 rfl (pc' := 184) rfl ?_
      refine gldc2 B148 X177 (v := (255 : Int64)) (hw _ (List.mem_of_getElem? (i := 43) rfl)) at_184 (pc' := 187) rfl ?_
      refine gland B148 X177 at_187 rfl (pc' := 188) rfl ?_
      refine gl2i B148 X177 at_188 rfl (pc' := 189) rfl ?_
      refine gistore B148 X177 at_189 (Ls' := #[.val (.long p0), .second, .val (.int p1), .val (.int p2), .val (.ref a75), .val (.int qk1), .val (.int qk2), .val (.ref a131), .val (.int (1 : Int32)), .val (.int (((p0.toUInt64 >>> ((8 : Int32) &&& 0x3f).toInt64.toUInt64).toInt64) &&& (255 : Int64)).toInt32)]) rfl (pc' := 191) rfl ?_
      refine gaload B148 X177 at_191 rfl rfl (pc' := 193) rfl ?_
      refine gcallV B148 X177 O175.1 (hw _ (List.mem_of_getElem? (i := 44) rfl)) (hw _ (List.mem_of_getElem? (i := 45) rfl)) (hw _ (List.mem_of_getElem? (i := 47) rfl)) (hw _ (List.mem_of_getElem? (i := 46) rfl)) (hw _ (List.mem_of_getElem? (i := 4) rfl)) (hw _ (List.mem_of_getElem? (i := 48) rfl)) rfl (by decide) (mt7 l Z a0 hw a131 a75 w152 (8 : Int32) (1 : Int32) [(.int p0.toInt32.toInt8.toInt32), (.int ((p0.toUInt64 >>> ((8 : Int32) &&& 0x3f).toInt64.toUInt64).toInt64).toInt32.toInt8.toInt32), (.int ((p0.toUInt64 >>> ((16 : Int32) &&& 0x3f).toInt64.toUInt64).toInt64).toInt32.toInt8.toInt32), (.int ((p0.toUInt64 >>> ((24 : Int32) &&& 0x3f).toInt64.toUInt64).toInt64).toInt32.toInt8.toInt32), (.int ((p0.toUInt64 >>> ((32 : Int32) &&& 0x3f).toInt64.toUInt64).toInt64).toInt32.toInt8.toInt32), (.int ((p0.toUInt64 >>> ((40 : Int32) &&& 0x3f).toInt64.toUInt64).toInt64).toInt32.toInt8.toInt32), (.int ((p0.toUInt64 >>> ((48 : Int32) &&& 0x3f).toInt64.toUInt64).toInt64).toInt32.toInt8.toInt32), (.int ((p0.toUInt64 >>> ((56 : Int32) &&& 0x3f).toInt64.toUInt64).toInt64).toInt32.toInt8.toInt32)] 8 ((p0.toUInt64 >>> ((8 : Int32) &&& 0x3f).toInt64.toUInt64).toInt64).toInt32.toInt8.toInt32 h167 O175 F172 rfl (Ne.symm n138) (by decide) (by decide) rfl) pd___I rfl (argsL := []) (st := []) rfl rfl (W := 0) (Nat.le_of_eq rfl) (by decide) (by decide) (by decide) (by decide) (allS (Or.inr z_a131) all0) at_193 (pc' := 196) rfl fun T193 h194 v195 X196 K197 Q198 => ?_
      have F199 := F172.keep K197 (ninS n138 nin0)
      have F200 := F173.keep K197 trivial
      obtain ⟨rfl, O201⟩ := Q198
      show Go p e below _ _ _ _ T193 (mkF m 196 #[.val (.long p0), .second, .val (.int p1), .val (.int p2), .val (.ref a75), .val (.int qk1), .val (.int qk2), .val (.ref a131), .val (.int (1 : Int32)), .val (.int (((p0.toUInt64 >>> ((8 : Int32) &&& 0x3f).toInt64.toUInt64).toInt64) &&& (255 : Int64)).toInt32)] [(.int (((p0.toUInt64 >>> ((8 : Int32) &&& 0x3f).toInt64.toUInt64).toInt64).toInt32.toInt8.toInt32 &&& (255 : Int32)))])
      refine giload B148 X196 at_196 rfl (pc' := 198) rfl ?_
      have c198_202 : (((p0.toUInt64 >>> ((8 : Int32) &&& 0x3f).toInt64.toUInt64).toInt64).toInt32.toInt8.toInt32 &&& (255 : Int32)) = (((p0.toUInt64 >>> ((8 : Int32) &&& 0x3f).toInt64.toUInt64).toInt64) &&& (255 : Int64)).toInt32 := own_by _
      refine gicN B148 X196 at_198 (teq c198_202).2 (pc' := 201) rfl ?_
      refine gaload B148 X196 at_201 rfl rfl (pc' := 203) rfl ?_
      refine gcallV B148 X196 O201.1 (hw _ (List.mem_of_getElem? (i := 38) rfl)) (hw _ (List.mem_of_getElem? (i := 39) rfl)) (hw _ (List.mem_of_getElem? (i := 41) rfl)) (hw _ (List.mem_of_getElem? (i := 40) rfl)) (hw _ (List.mem_of_getElem? (i := 4) rfl)) (hw _ (List.mem_of_getElem? (i := 42) rfl)) rfl (by decide) (mtrem l Z a0 hw a131 a75 w152 (8 : Int32) ((1 : Int32) + (1 : Int32)) h194 O201) pd___I rfl (argsL := []) (st := []) rfl rfl (W := 0) (Nat.le_of_eq rfl) (by decide) (by decide) (by decide) (by decide) (fun x q => nomatch q) at_203 (pc' := 206) rfl (pureG rfl rfl fun T203 X204 => ?_)
      refine gbipush B148 X204 at_206 (v := (7 : Int32)) rfl (pc' := 208) rfl ?_
      refine giload B148 X204 at_208 rfl (pc' := 210) rfl ?_
      refine gisub B148 X204 at_210 (v := (6 : Int32)) (by decide) (pc' := 211) rfl ?_
      have c211_205 : ((8 : Int32) - ((1 : Int32) + (1 : Int32))) = (6 : Int32) := by decide
      refine gicN B148 X204 at_211 (teq c211_205).2 (pc' := 214) rfl ?_
      refine giconst B148 X204 at_214 (v := (1 : Int32)) rfl (pc' := 215) rfl ?_
      refine ggoto B148 X204 (pc' := 219) at_215 (by decide) ?_
      exact gretNW B148 X204 S149 F200 (z' := (1 : Int32)) (by simp) (rfl) at_219 (by decide) (by decide) (rfl)
    · skip
      refine glloadN B148 X177 at_177 rfl (pc' := 178) rfl ?_
      refine gbipush B148 X177 at_178 (v := (8 : Int32)) rfl (pc' := 180) rfl ?_
      refine giload B148 X177 at_180 rfl (pc' := 182) rfl ?_
      refine gimul B148 X177 at_182 (v := (16 : Int32)) (by decide) (pc' := 183) rfl ?_
      refine glushr B148 X177 at_183 rfl (pc' := 184) rfl ?_
      refine gldc2 B148 X177 (v := (255 : Int64)) (hw _ (List.mem_of_getElem? (i := 43) rfl)) at_184 (pc' := 187) rfl ?_
      refine gland B148 X177 at_187 rfl (pc' := 188) rfl ?_
      refine gl2i B148 X177 at_188 rfl (pc' := 189) rfl ?_
      refine gistore B148 X177 at_189 (Ls' := #[.val (.long p0), .second, .val (.int p1), .val (.int p2), .val (.ref a75), .val (.int qk1), .val (.int qk2), .val (.ref a131), .val (.int (2 : Int32)), .val (.int (((p0.toUInt64 >>> ((16 : Int32) &&& 0x3f).toInt64.toUInt64).toInt64) &&& (255 : Int64)).toInt32)]) rfl (pc' := 191) rfl ?_
      refine gaload B148 X177 at_191 rfl rfl (pc' := 193) rfl ?_
      refine gcallV B148 X177 O175.1 (hw _ (List.mem_of_getElem? (i := 44) rfl)) (hw _ (List.mem_of_getElem? (i := 45) rfl)) (hw _ (List.mem_of_getElem? (i := 47) rfl)) (hw _ (List.mem_of_getElem? (i := 46) rfl)) (hw _ (List.mem_of_getElem? (i := 4) rfl)) (hw _ (List.mem_of_getElem? (i := 48) rfl)) rfl (by decide) (mt7 l Z a0 hw a131 a75 w152 (8 : Int32) (2 : Int32) [(.int p0.toInt32.toInt8.toInt32), (.int ((p0.toUInt64 >>> ((8 : Int32) &&& 0x3f).toInt64.toUInt64).toInt64).toInt32.toInt8.toInt32), (.int ((p0.toUInt64 >>> ((16 : Int32) &&& 0x3f).toInt64.toUInt64).toInt64).toInt32.toInt8.toInt32), (.int ((p0.toUInt64 >>> ((24 : Int32) &&& 0x3f).toInt64.toUInt64).toInt64).toInt32.toInt8.toInt32), (.int ((p0.toUInt64 >>> ((32 : Int32) &&& 0x3f).toInt64.toUInt64).toInt64).toInt32.toInt8.toInt32), (.int ((p0.toUInt64 >>> ((40 : Int32) &&& 0x3f).toInt64.toUInt64).toInt64).toInt32.toInt8.toInt32), (.int ((p0.toUInt64 >>> ((48 : Int32) &&& 0x3f).toInt64.toUInt64).toInt64).toInt32.toInt8.toInt32), (.int ((p0.toUInt64 >>> ((56 : Int32) &&& 0x3f).toInt64.toUInt64).toInt64).toInt32.toInt8.toInt32)] 8 ((p0.toUInt64 >>> ((16 : Int32) &&& 0x3f).toInt64.toUInt64).toInt64).toInt32.toInt8.toInt32 h167 O175 F172 rfl (Ne.symm n138) (by decide) (by decide) rfl) pd___I rfl (argsL := []) (st := []) rfl rfl (W := 0) (Nat.le_of_eq rfl) (by decide) (by decide) (by decide) (by decide) (allS (Or.inr z_a131) all0) at_193 (pc' := 196) rfl fun T206 h207 v208 X209 K210 Q211 => ?_
      have F212 := F172.keep K210 (ninS n138 nin0)
      have F213 := F173.keep K210 trivial
      obtain ⟨rfl, O214⟩ := Q211
      show Go p e below _ _ _ _ T206 (mkF m 196 #[.val (.long p0), .second, .val (.int p1), .val (.int p2), .val (.ref a75), .val (.int qk1), .val (.int qk2), .val (.ref a131), .val (.int (2 : Int32)), .val (.int (((p0.toUInt64 >>> ((16 : Int32) &&& 0x3f).toInt64.toUInt64).toInt64) &&& (255 : Int64)).toInt32)] [(.int (((p0.toUInt64 >>> ((16 : Int32) &&& 0x3f).toInt64.toUInt64).toInt64).toInt32.toInt8.toInt32 &&& (255 : Int32)))])
      refine giload B148 X209 at_196 rfl (pc' := 198) rfl ?_
      have c198_215 : (((p0.toUInt64 >>> ((16 : Int32) &&& 0x3f).toInt64.toUInt64).toInt64).toInt32.toInt8.toInt32 &&& (255 : Int32)) = (((p0.toUInt64 >>> ((16 : Int32) &&& 0x3f).toInt64.toUInt64).toInt64) &&& (255 : Int64)).toInt32 := own_by _
      refine gicN B148 X209 at_198 (teq c198_215).2 (pc' := 201) rfl ?_
      refine gaload B148 X209 at_201 rfl rfl (pc' := 203) rfl ?_
      refine gcallV B148 X209 O214.1 (hw _ (List.mem_of_getElem? (i := 38) rfl)) (hw _ (List.mem_of_getElem? (i := 39) rfl)) (hw _ (List.mem_of_getElem? (i := 41) rfl)) (hw _ (List.mem_of_getElem? (i := 40) rfl)) (hw _ (List.mem_of_getElem? (i := 4) rfl)) (hw _ (List.mem_of_getElem? (i := 42) rfl)) rfl (by decide) (mtrem l Z a0 hw a131 a75 w152 (8 : Int32) ((2 : Int32) + (1 : Int32)) h207 O214) pd___I rfl (argsL := []) (st := []) rfl rfl (W := 0) (Nat.le_of_eq rfl) (by decide) (by decide) (by decide) (by decide) (fun x q => nomatch q) at_203 (pc' := 206) rfl (pureG rfl rfl fun T216 X217 => ?_)
      refine gbipush B148 X217 at_206 (v := (7 : Int32)) rfl (pc' := 208) rfl ?_
      refine giload B148 X217 at_208 rfl (pc' := 210) rfl ?_
      refine gisub B148 X217 at_210 (v := (5 : Int32)) (by decide) (pc' := 211) rfl ?_
      have c211_218 : ((8 : Int32) - ((2 : Int32) + (1 : Int32))) = (5 : Int32) := by decide
      refine gicN B148 X217 at_211 (teq c211_218).2 (pc' := 214) rfl ?_
      refine giconst B148 X217 at_214 (v := (1 : Int32)) rfl (pc' := 215) rfl ?_
      refine ggoto B148 X217 (pc' := 219) at_215 (by decide) ?_
      exact gretNW B148 X217 S149 F213 (z' := (1 : Int32)) (by simp) (rfl) at_219 (by decide) (by decide) (rfl)
    · skip
      refine glloadN B148 X177 at_177 rfl (pc' := 178) rfl ?_
      refine gbipush B148 X177 at_178 (v := (8 : Int32)) rfl (pc' := 180) rfl ?_
      refine giload B148 X177 at_180 rfl (pc' := 182) rfl ?_
      refine gimul B148 X177 at_182 (v := (24 : Int32)) (by decide) (pc' := 183) rfl ?_
      refine glushr B148 X177 at_183 rfl (pc' := 184) rfl ?_
      refine gldc2 B148 X177 (v := (255 : Int64)) (hw _ (List.mem_of_getElem? (i := 43) rfl)) at_184 (pc' := 187) rfl ?_
      refine gland B148 X177 at_187 rfl (pc' := 188) rfl ?_
      refine gl2i B148 X177 at_188 rfl (pc' := 189) rfl ?_
      refine gistore B148 X177 at_189 (Ls' := #[.val (.long p0), .second, .val (.int p1), .val (.int p2), .val (.ref a75), .val (.int qk1), .val (.int qk2), .val (.ref a131), .val (.int (3 : Int32)), .val (.int (((p0.toUInt64 >>> ((24 : Int32) &&& 0x3f).toInt64.toUInt64).toInt64) &&& (255 : Int64)).toInt32)]) rfl (pc' := 191) rfl ?_
      refine gaload B148 X177 at_191 rfl rfl (pc' := 193) rfl ?_
      refine gcallV B148 X177 O175.1 (hw _ (List.mem_of_getElem? (i := 44) rfl)) (hw _ (List.mem_of_getElem? (i := 45) rfl)) (hw _ (List.mem_of_getElem? (i := 47) rfl)) (hw _ (List.mem_of_getElem? (i := 46) rfl)) (hw _ (List.mem_of_getElem? (i := 4) rfl)) (hw _ (List.mem_of_getElem? (i := 48) rfl)) rfl (by decide) (mt7 l Z a0 hw a131 a75 w152 (8 : Int32) (3 : Int32) [(.int p0.toInt32.toInt8.toInt32), (.int ((p0.toUInt64 >>> ((8 : Int32) &&& 0x3f).toInt64.toUInt64).toInt64).toInt32.toInt8.toInt32), (.int ((p0.toUInt64 >>> ((16 : Int32) &&& 0x3f).toInt64.toUInt64).toInt64).toInt32.toInt8.toInt32), (.int ((p0.toUInt64 >>> ((24 : Int32) &&& 0x3f).toInt64.toUInt64).toInt64).toInt32.toInt8.toInt32), (.int ((p0.toUInt64 >>> ((32 : Int32) &&& 0x3f).toInt64.toUInt64).toInt64).toInt32.toInt8.toInt32), (.int ((p0.toUInt64 >>> ((40 : Int32) &&& 0x3f).toInt64.toUInt64).toInt64).toInt32.toInt8.toInt32), (.int ((p0.toUInt64 >>> ((48 : Int32) &&& 0x3f).toInt64.toUInt64).toInt64).toInt32.toInt8.toInt32), (.int ((p0.toUInt64 >>> ((56 : Int32) &&& 0x3f).toInt64.toUInt64).toInt64).toInt32.toInt8.toInt32)] 8 ((p0.toUInt64 >>> ((24 : Int32) &&& 0x3f).toInt64.toUInt64).toInt64).toInt32.toInt8.toInt32 h167 O175 F172 rfl (Ne.symm n138) (by decide) (by decide) rfl) pd___I rfl (argsL := []) (st := []) rfl rfl (W := 0) (Nat.le_of_eq rfl) (by decide) (by decide) (by decide) (by decide) (allS (Or.inr z_a131) all0) at_193 (pc' := 196) rfl fun T219 h220 v221 X222 K223 Q224 => ?_
      have F225 := F172.keep K223 (ninS n138 nin0)
      have F226 := F173.keep K223 trivial
      obtain ⟨rfl, O227⟩ := Q224
      show Go p e below _ _ _ _ T219 (mkF m 196 #[.val (.long p0), .second, .val (.int p1), .val (.int p2), .val (.ref a75), .val (.int qk1), .val (.int qk2), .val (.ref a131), .val (.int (3 : Int32)), .val (.int (((p0.toUInt64 >>> ((24 : Int32) &&& 0x3f).toInt64.toUInt64).toInt64) &&& (255 : Int64)).toInt32)] [(.int (((p0.toUInt64 >>> ((24 : Int32) &&& 0x3f).toInt64.toUInt64).toInt64).toInt32.toInt8.toInt32 &&& (255 : Int32)))])
      refine giload B148 X222 at_196 rfl (pc' := 198) rfl ?_
      have c198_228 : (((p0.toUInt64 >>> ((24 : Int32) &&& 0x3f).toInt64.toUInt64).toInt64).toInt32.toInt8.toInt32 &&& (255 : Int32)) = (((p0.toUInt64 >>> ((24 : Int32) &&& 0x3f).toInt64.toUInt64).toInt64) &&& (255 : Int64)).toInt32 := own_by _
      refine gicN B148 X222 at_198 (teq c198_228).2 (pc' := 201) rfl ?_
      refine gaload B148 X222 at_201 rfl rfl (pc' := 203) rfl ?_
      refine gcallV B148 X222 O227.1 (hw _ (List.mem_of_getElem? (i := 38) rfl)) (hw _ (List.mem_of_getElem? (i := 39) rfl)) (hw _ (List.mem_of_getElem? (i := 41) rfl)) (hw _ (List.mem_of_getElem? (i := 40) rfl)) (hw _ (List.mem_of_getElem? (i := 4) rfl)) (hw _ (List.mem_of_getElem? (i := 42) rfl)) rfl (by decide) (mtrem l Z a0 hw a131 a75 w152 (8 : Int32) ((3 : Int32) + (1 : Int32)) h220 O227) pd___I rfl (argsL := []) (st := []) rfl rfl (W := 0) (Nat.le_of_eq rfl) (by decide) (by decide) (by decide) (by decide) (fun x q => nomatch q) at_203 (pc' := 206) rfl (pureG rfl rfl fun T229 X230 => ?_)
      refine gbipush B148 X230 at_206 (v := (7 : Int32)) rfl (pc' := 208) rfl ?_
      refine giload B148 X230 at_208 rfl (pc' := 210) rfl ?_
      refine gisub B148 X230 at_210 (v := (4 : Int32)) (by decide) (pc' := 211) rfl ?_
      have c211_231 : ((8 : Int32) - ((3 : Int32) + (1 : Int32))) = (4 : Int32) := by decide
      refine gicN B148 X230 at_211 (teq c211_231).2 (pc' := 214) rfl ?_
      refine giconst B148 X230 at_214 (v := (1 : Int32)) rfl (pc' := 215) rfl ?_
      refine ggoto B148 X230 (pc' := 219) at_215 (by decide) ?_
      exact gretNW B148 X230 S149 F226 (z' := (1 : Int32)) (by simp) (rfl) at_219 (by decide) (by decide) (rfl)
    · skip
      refine glloadN B148 X177 at_177 rfl (pc' := 178) rfl ?_
      refine gbipush B148 X177 at_178 (v := (8 : Int32)) rfl (pc' := 180) rfl ?_
      refine giload B148 X177 at_180 rfl (pc' := 182) rfl ?_
      refine gimul B148 X177 at_182 (v := (32 : Int32)) (by decide) (pc' := 183) rfl ?_
      refine glushr B148 X177 at_183 rfl (pc' := 184) rfl ?_
      refine gldc2 B148 X177 (v := (255 : Int64)) (hw _ (List.mem_of_getElem? (i := 43) rfl)) at_184 (pc' := 187) rfl ?_
      refine gland B148 X177 at_187 rfl (pc' := 188) rfl ?_
      refine gl2i B148 X177 at_188 rfl (pc' := 189) rfl ?_
      refine gistore B148 X177 at_189 (Ls' := #[.val (.long p0), .second, .val (.int p1), .val (.int p2), .val (.ref a75), .val (.int qk1), .val (.int qk2), .val (.ref a131), .val (.int (4 : Int32)), .val (.int (((p0.toUInt64 >>> ((32 : Int32) &&& 0x3f).toInt64.toUInt64).toInt64) &&& (255 : Int64)).toInt32)]) rfl (pc' := 191) rfl ?_
      refine gaload B148 X177 at_191 rfl rfl (pc' := 193) rfl ?_
      refine gcallV B148 X177 O175.1 (hw _ (List.mem_of_getElem? (i := 44) rfl)) (hw _ (List.mem_of_getElem? (i := 45) rfl)) (hw _ (List.mem_of_getElem? (i := 47) rfl)) (hw _ (List.mem_of_getElem? (i := 46) rfl)) (hw _ (List.mem_of_getElem? (i := 4) rfl)) (hw _ (List.mem_of_getElem? (i := 48) rfl)) rfl (by decide) (mt7 l Z a0 hw a131 a75 w152 (8 : Int32) (4 : Int32) [(.int p0.toInt32.toInt8.toInt32), (.int ((p0.toUInt64 >>> ((8 : Int32) &&& 0x3f).toInt64.toUInt64).toInt64).toInt32.toInt8.toInt32), (.int ((p0.toUInt64 >>> ((16 : Int32) &&& 0x3f).toInt64.toUInt64).toInt64).toInt32.toInt8.toInt32), (.int ((p0.toUInt64 >>> ((24 : Int32) &&& 0x3f).toInt64.toUInt64).toInt64).toInt32.toInt8.toInt32), (.int ((p0.toUInt64 >>> ((32 : Int32) &&& 0x3f).toInt64.toUInt64).toInt64).toInt32.toInt8.toInt32), (.int ((p0.toUInt64 >>> ((40 : Int32) &&& 0x3f).toInt64.toUInt64).toInt64).toInt32.toInt8.toInt32), (.int ((p0.toUInt64 >>> ((48 : Int32) &&& 0x3f).toInt64.toUInt64).toInt64).toInt32.toInt8.toInt32), (.int ((p0.toUInt64 >>> ((56 : Int32) &&& 0x3f).toInt64.toUInt64).toInt64).toInt32.toInt8.toInt32)] 8 ((p0.toUInt64 >>> ((32 : Int32) &&& 0x3f).toInt64.toUInt64).toInt64).toInt32.toInt8.toInt32 h167 O175 F172 rfl (Ne.symm n138) (by decide) (by decide) rfl) pd___I rfl (argsL := []) (st := []) rfl rfl (W := 0) (Nat.le_of_eq rfl) (by decide) (by decide) (by decide) (by decide) (allS (Or.inr z_a131) all0) at_193 (pc' := 196) rfl fun T232 h233 v234 X235 K236 Q237 => ?_
      have F238 := F172.keep K236 (ninS n138 nin0)
      have F239 := F173.keep K236 trivial
      obtain ⟨rfl, O240⟩ := Q237
      show Go p e below _ _ _ _ T232 (mkF m 196 #[.val (.long p0), .second, .val (.int p1), .val (.int p2), .val (.ref a75), .val (.int qk1), .val (.int qk2), .val (.ref a131), .val (.int (4 : Int32)), .val (.int (((p0.toUInt64 >>> ((32 : Int32) &&& 0x3f).toInt64.toUInt64).toInt64) &&& (255 : Int64)).toInt32)] [(.int (((p0.toUInt64 >>> ((32 : Int32) &&& 0x3f).toInt64.toUInt64).toInt64).toInt32.toInt8.toInt32 &&& (255 : Int32)))])
      refine giload B148 X235 at_196 rfl (pc' := 198) rfl ?_
      have c198_241 : (((p0.toUInt64 >>> ((32 : Int32) &&& 0x3f).toInt64.toUInt64).toInt64).toInt32.toInt8.toInt32 &&& (255 : Int32)) = (((p0.toUInt64 >>> ((32 : Int32) &&& 0x3f).toInt64.toUInt64).toInt64) &&& (255 : Int64)).toInt32 := own_by _
      refine gicN B148 X235 at_198 (teq c198_241).2 (pc' := 201) rfl ?_
      refine gaload B148 X235 at_201 rfl rfl (pc' := 203) rfl ?_
      refine gcallV B148 X235 O240.1 (hw _ (List.mem_of_getElem? (i := 38) rfl)) (hw _ (List.mem_of_getElem? (i := 39) rfl)) (hw _ (List.mem_of_getElem? (i := 41) rfl)) (hw _ (List.mem_of_getElem? (i := 40) rfl)) (hw _ (List.mem_of_getElem? (i := 4) rfl)) (hw _ (List.mem_of_getElem? (i := 42) rfl)) rfl (by decide) (mtrem l Z a0 hw a131 a75 w152 (8 : Int32) ((4 : Int32) + (1 : Int32)) h233 O240) pd___I rfl (argsL := []) (st := []) rfl rfl (W := 0) (Nat.le_of_eq rfl) (by decide) (by decide) (by decide) (by decide) (fun x q => nomatch q) at_203 (pc' := 206) rfl (pureG rfl rfl fun T242 X243 => ?_)
      refine gbipush B148 X243 at_206 (v := (7 : Int32)) rfl (pc' := 208) rfl ?_
      refine giload B148 X243 at_208 rfl (pc' := 210) rfl ?_
      refine gisub B148 X243 at_210 (v := (3 : Int32)) (by decide) (pc' := 211) rfl ?_
      have c211_244 : ((8 : Int32) - ((4 : Int32) + (1 : Int32))) = (3 : Int32) := by decide
      refine gicN B148 X243 at_211 (teq c211_244).2 (pc' := 214) rfl ?_
      refine giconst B148 X243 at_214 (v := (1 : Int32)) rfl (pc' := 215) rfl ?_
      refine ggoto B148 X243 (pc' := 219) at_215 (by decide) ?_
      exact gretNW B148 X243 S149 F239 (z' := (1 : Int32)) (by simp) (rfl) at_219 (by decide) (by decide) (rfl)
    · skip
      refine glloadN B148 X177 at_177 rfl (pc' := 178) rfl ?_
      refine gbipush B148 X177 at_178 (v := (8 : Int32)) rfl (pc' := 180) rfl ?_
      refine giload B148 X177 at_180 rfl (pc' := 182) rfl ?_
      refine gimul B148 X177 at_182 (v := (40 : Int32)) (by decide) (pc' := 183) rfl ?_
      refine glushr B148 X177 at_183 rfl (pc' := 184) rfl ?_
      refine gldc2 B148 X177 (v := (255 : Int64)) (hw _ (List.mem_of_getElem? (i := 43) rfl)) at_184 (pc' := 187) rfl ?_
      refine gland B148 X177 at_187 rfl (pc' := 188) rfl ?_
      refine gl2i B148 X177 at_188 rfl (pc' := 189) rfl ?_
      refine gistore B148 X177 at_189 (Ls' := #[.val (.long p0), .second, .val (.int p1), .val (.int p2), .val (.ref a75), .val (.int qk1), .val (.int qk2), .val (.ref a131), .val (.int (5 : Int32)), .val (.int (((p0.toUInt64 >>> ((40 : Int32) &&& 0x3f).toInt64.toUInt64).toInt64) &&& (255 : Int64)).toInt32)]) rfl (pc' := 191) rfl ?_
      refine gaload B148 X177 at_191 rfl rfl (pc' := 193) rfl ?_
      refine gcallV B148 X177 O175.1 (hw _ (List.mem_of_getElem? (i := 44) rfl)) (hw _ (List.mem_of_getElem? (i := 45) rfl)) (hw _ (List.mem_of_getElem? (i := 47) rfl)) (hw _ (List.mem_of_getElem? (i := 46) rfl)) (hw _ (List.mem_of_getElem? (i := 4) rfl)) (hw _ (List.mem_of_getElem? (i := 48) rfl)) rfl (by decide) (mt7 l Z a0 hw a131 a75 w152 (8 : Int32) (5 : Int32) [(.int p0.toInt32.toInt8.toInt32), (.int ((p0.toUInt64 >>> ((8 : Int32) &&& 0x3f).toInt64.toUInt64).toInt64).toInt32.toInt8.toInt32), (.int ((p0.toUInt64 >>> ((16 : Int32) &&& 0x3f).toInt64.toUInt64).toInt64).toInt32.toInt8.toInt32), (.int ((p0.toUInt64 >>> ((24 : Int32) &&& 0x3f).toInt64.toUInt64).toInt64).toInt32.toInt8.toInt32), (.int ((p0.toUInt64 >>> ((32 : Int32) &&& 0x3f).toInt64.toUInt64).toInt64).toInt32.toInt8.toInt32), (.int ((p0.toUInt64 >>> ((40 : Int32) &&& 0x3f).toInt64.toUInt64).toInt64).toInt32.toInt8.toInt32), (.int ((p0.toUInt64 >>> ((48 : Int32) &&& 0x3f).toInt64.toUInt64).toInt64).toInt32.toInt8.toInt32), (.int ((p0.toUInt64 >>> ((56 : Int32) &&& 0x3f).toInt64.toUInt64).toInt64).toInt32.toInt8.toInt32)] 8 ((p0.toUInt64 >>> ((40 : Int32) &&& 0x3f).toInt64.toUInt64).toInt64).toInt32.toInt8.toInt32 h167 O175 F172 rfl (Ne.symm n138) (by decide) (by decide) rfl) pd___I rfl (argsL := []) (st := []) rfl rfl (W := 0) (Nat.le_of_eq rfl) (by decide) (by decide) (by decide) (by decide) (allS (Or.inr z_a131) all0) at_193 (pc' := 196) rfl fun T245 h246 v247 X248 K249 Q250 => ?_
      have F251 := F172.keep K249 (ninS n138 nin0)
      have F252 := F173.keep K249 trivial
      obtain ⟨rfl, O253⟩ := Q250
      show Go p e below _ _ _ _ T245 (mkF m 196 #[.val (.long p0), .second, .val (.int p1), .val (.int p2), .val (.ref a75), .val (.int qk1), .val (.int qk2), .val (.ref a131), .val (.int (5 : Int32)), .val (.int (((p0.toUInt64 >>> ((40 : Int32) &&& 0x3f).toInt64.toUInt64).toInt64) &&& (255 : Int64)).toInt32)] [(.int (((p0.toUInt64 >>> ((40 : Int32) &&& 0x3f).toInt64.toUInt64).toInt64).toInt32.toInt8.toInt32 &&& (255 : Int32)))])
      refine giload B148 X248 at_196 rfl (pc' := 198) rfl ?_
      have c198_254 : (((p0.toUInt64 >>> ((40 : Int32) &&& 0x3f).toInt64.toUInt64).toInt64).toInt32.toInt8.toInt32 &&& (255 : Int32)) = (((p0.toUInt64 >>> ((40 : Int32) &&& 0x3f).toInt64.toUInt64).toInt64) &&& (255 : Int64)).toInt32 := own_by _
      refine gicN B148 X248 at_198 (teq c198_254).2 (pc' := 201) rfl ?_
      refine gaload B148 X248 at_201 rfl rfl (pc' := 203) rfl ?_
      refine gcallV B148 X248 O253.1 (hw _ (List.mem_of_getElem? (i := 38) rfl)) (hw _ (List.mem_of_getElem? (i := 39) rfl)) (hw _ (List.mem_of_getElem? (i := 41) rfl)) (hw _ (List.mem_of_getElem? (i := 40) rfl)) (hw _ (List.mem_of_getElem? (i := 4) rfl)) (hw _ (List.mem_of_getElem? (i := 42) rfl)) rfl (by decide) (mtrem l Z a0 hw a131 a75 w152 (8 : Int32) ((5 : Int32) + (1 : Int32)) h246 O253) pd___I rfl (argsL := []) (st := []) rfl rfl (W := 0) (Nat.le_of_eq rfl) (by decide) (by decide) (by decide) (by decide) (fun x q => nomatch q) at_203 (pc' := 206) rfl (pureG rfl rfl fun T255 X256 => ?_)
      refine gbipush B148 X256 at_206 (v := (7 : Int32)) rfl (pc' := 208) rfl ?_
      refine giload B148 X256 at_208 rfl (pc' := 210) rfl ?_
      refine gisub B148 X256 at_210 (v := (2 : Int32)) (by decide) (pc' := 211) rfl ?_
      have c211_257 : ((8 : Int32) - ((5 : Int32) + (1 : Int32))) = (2 : Int32) := by decide
      refine gicN B148 X256 at_211 (teq c211_257).2 (pc' := 214) rfl ?_
      refine giconst B148 X256 at_214 (v := (1 : Int32)) rfl (pc' := 215) rfl ?_
      refine ggoto B148 X256 (pc' := 219) at_215 (by decide) ?_
      exact gretNW B148 X256 S149 F252 (z' := (1 : Int32)) (by simp) (rfl) at_219 (by decide) (by decide) (rfl)
    · skip
      refine glloadN B148 X177 at_177 rfl (pc' := 178) rfl ?_
      refine gbipush B148 X177 at_178 (v := (8 : Int32)) rfl (pc' := 180) rfl ?_
      refine giload B148 X177 at_180 rfl (pc' := 182) rfl ?_
      refine gimul B148 X177 at_182 (v := (48 : Int32)) (by decide) (pc' := 183) rfl ?_
      refine glushr B148 X177 at_183 rfl (pc' := 184) rfl ?_
      refine gldc2 B148 X177 (v := (255 : Int64)) (hw _ (List.mem_of_getElem? (i := 43) rfl)) at_184 (pc' := 187) rfl ?_
      refine gland B148 X177 at_187 rfl (pc' := 188) rfl ?_
      refine gl2i B148 X177 at_188 rfl (pc' := 189) rfl ?_
      refine gistore B148 X177 at_189 (Ls' := #[.val (.long p0), .second, .val (.int p1), .val (.int p2), .val (.ref a75), .val (.int qk1), .val (.int qk2), .val (.ref a131), .val (.int (6 : Int32)), .val (.int (((p0.toUInt64 >>> ((48 : Int32) &&& 0x3f).toInt64.toUInt64).toInt64) &&& (255 : Int64)).toInt32)]) rfl (pc' := 191) rfl ?_
      refine gaload B148 X177 at_191 rfl rfl (pc' := 193) rfl ?_
      refine gcallV B148 X177 O175.1 (hw _ (List.mem_of_getElem? (i := 44) rfl)) (hw _ (List.mem_of_getElem? (i := 45) rfl)) (hw _ (List.mem_of_getElem? (i := 47) rfl)) (hw _ (List.mem_of_getElem? (i := 46) rfl)) (hw _ (List.mem_of_getElem? (i := 4) rfl)) (hw _ (List.mem_of_getElem? (i := 48) rfl)) rfl (by decide) (mt7 l Z a0 hw a131 a75 w152 (8 : Int32) (6 : Int32) [(.int p0.toInt32.toInt8.toInt32), (.int ((p0.toUInt64 >>> ((8 : Int32) &&& 0x3f).toInt64.toUInt64).toInt64).toInt32.toInt8.toInt32), (.int ((p0.toUInt64 >>> ((16 : Int32) &&& 0x3f).toInt64.toUInt64).toInt64).toInt32.toInt8.toInt32), (.int ((p0.toUInt64 >>> ((24 : Int32) &&& 0x3f).toInt64.toUInt64).toInt64).toInt32.toInt8.toInt32), (.int ((p0.toUInt64 >>> ((32 : Int32) &&& 0x3f).toInt64.toUInt64).toInt64).toInt32.toInt8.toInt32), (.int ((p0.toUInt64 >>> ((40 : Int32) &&& 0x3f).toInt64.toUInt64).toInt64).toInt32.toInt8.toInt32), (.int ((p0.toUInt64 >>> ((48 : Int32) &&& 0x3f).toInt64.toUInt64).toInt64).toInt32.toInt8.toInt32), (.int ((p0.toUInt64 >>> ((56 : Int32) &&& 0x3f).toInt64.toUInt64).toInt64).toInt32.toInt8.toInt32)] 8 ((p0.toUInt64 >>> ((48 : Int32) &&& 0x3f).toInt64.toUInt64).toInt64).toInt32.toInt8.toInt32 h167 O175 F172 rfl (Ne.symm n138) (by decide) (by decide) rfl) pd___I rfl (argsL := []) (st := []) rfl rfl (W := 0) (Nat.le_of_eq rfl) (by decide) (by decide) (by decide) (by decide) (allS (Or.inr z_a131) all0) at_193 (pc' := 196) rfl fun T258 h259 v260 X261 K262 Q263 => ?_
      have F264 := F172.keep K262 (ninS n138 nin0)
      have F265 := F173.keep K262 trivial
      obtain ⟨rfl, O266⟩ := Q263
      show Go p e below _ _ _ _ T258 (mkF m 196 #[.val (.long p0), .second, .val (.int p1), .val (.int p2), .val (.ref a75), .val (.int qk1), .val (.int qk2), .val (.ref a131), .val (.int (6 : Int32)), .val (.int (((p0.toUInt64 >>> ((48 : Int32) &&& 0x3f).toInt64.toUInt64).toInt64) &&& (255 : Int64)).toInt32)] [(.int (((p0.toUInt64 >>> ((48 : Int32) &&& 0x3f).toInt64.toUInt64).toInt64).toInt32.toInt8.toInt32 &&& (255 : Int32)))])
      refine giload B148 X261 at_196 rfl (pc' := 198) rfl ?_
      have c198_267 : (((p0.toUInt64 >>> ((48 : Int32) &&& 0x3f).toInt64.toUInt64).toInt64).toInt32.toInt8.toInt32 &&& (255 : Int32)) = (((p0.toUInt64 >>> ((48 : Int32) &&& 0x3f).toInt64.toUInt64).toInt64) &&& (255 : Int64)).toInt32 := own_by _
      refine gicN B148 X261 at_198 (teq c198_267).2 (pc' := 201) rfl ?_
      refine gaload B148 X261 at_201 rfl rfl (pc' := 203) rfl ?_
      refine gcallV B148 X261 O266.1 (hw _ (List.mem_of_getElem? (i := 38) rfl)) (hw _ (List.mem_of_getElem? (i := 39) rfl)) (hw _ (List.mem_of_getElem? (i := 41) rfl)) (hw _ (List.mem_of_getElem? (i := 40) rfl)) (hw _ (List.mem_of_getElem? (i := 4) rfl)) (hw _ (List.mem_of_getElem? (i := 42) rfl)) rfl (by decide) (mtrem l Z a0 hw a131 a75 w152 (8 : Int32) ((6 : Int32) + (1 : Int32)) h259 O266) pd___I rfl (argsL := []) (st := []) rfl rfl (W := 0) (Nat.le_of_eq rfl) (by decide) (by decide) (by decide) (by decide) (fun x q => nomatch q) at_203 (pc' := 206) rfl (pureG rfl rfl fun T268 X269 => ?_)
      refine gbipush B148 X269 at_206 (v := (7 : Int32)) rfl (pc' := 208) rfl ?_
      refine giload B148 X269 at_208 rfl (pc' := 210) rfl ?_
      refine gisub B148 X269 at_210 (v := (1 : Int32)) (by decide) (pc' := 211) rfl ?_
      have c211_270 : ((8 : Int32) - ((6 : Int32) + (1 : Int32))) = (1 : Int32) := by decide
      refine gicN B148 X269 at_211 (teq c211_270).2 (pc' := 214) rfl ?_
      refine giconst B148 X269 at_214 (v := (1 : Int32)) rfl (pc' := 215) rfl ?_
      refine ggoto B148 X269 (pc' := 219) at_215 (by decide) ?_
      exact gretNW B148 X269 S149 F265 (z' := (1 : Int32)) (by simp) (rfl) at_219 (by decide) (by decide) (rfl)
    · skip
      refine glloadN B148 X177 at_177 rfl (pc' := 178) rfl ?_
      refine gbipush B148 X177 at_178 (v := (8 : Int32)) rfl (pc' := 180) rfl ?_
      refine giload B148 X177 at_180 rfl (pc' := 182) rfl ?_
      refine gimul B148 X177 at_182 (v := (56 : Int32)) (by decide) (pc' := 183) rfl ?_
      refine glushr B148 X177 at_183 rfl (pc' := 184) rfl ?_
      refine gldc2 B148 X177 (v := (255 : Int64)) (hw _ (List.mem_of_getElem? (i := 43) rfl)) at_184 (pc' := 187) rfl ?_
      refine gland B148 X177 at_187 rfl (pc' := 188) rfl ?_
      refine gl2i B148 X177 at_188 rfl (pc' := 189) rfl ?_
      refine gistore B148 X177 at_189 (Ls' := #[.val (.long p0), .second, .val (.int p1), .val (.int p2), .val (.ref a75), .val (.int qk1), .val (.int qk2), .val (.ref a131), .val (.int (7 : Int32)), .val (.int (((p0.toUInt64 >>> ((56 : Int32) &&& 0x3f).toInt64.toUInt64).toInt64) &&& (255 : Int64)).toInt32)]) rfl (pc' := 191) rfl ?_
      refine gaload B148 X177 at_191 rfl rfl (pc' := 193) rfl ?_
      refine gcallV B148 X177 O175.1 (hw _ (List.mem_of_getElem? (i := 44) rfl)) (hw _ (List.mem_of_getElem? (i := 45) rfl)) (hw _ (List.mem_of_getElem? (i := 47) rfl)) (hw _ (List.mem_of_getElem? (i := 46) rfl)) (hw _ (List.mem_of_getElem? (i := 4) rfl)) (hw _ (List.mem_of_getElem? (i := 48) rfl)) rfl (by decide) (mt7 l Z a0 hw a131 a75 w152 (8 : Int32) (7 : Int32) [(.int p0.toInt32.toInt8.toInt32), (.int ((p0.toUInt64 >>> ((8 : Int32) &&& 0x3f).toInt64.toUInt64).toInt64).toInt32.toInt8.toInt32), (.int ((p0.toUInt64 >>> ((16 : Int32) &&& 0x3f).toInt64.toUInt64).toInt64).toInt32.toInt8.toInt32), (.int ((p0.toUInt64 >>> ((24 : Int32) &&& 0x3f).toInt64.toUInt64).toInt64).toInt32.toInt8.toInt32), (.int ((p0.toUInt64 >>> ((32 : Int32) &&& 0x3f).toInt64.toUInt64).toInt64).toInt32.toInt8.toInt32), (.int ((p0.toUInt64 >>> ((40 : Int32) &&& 0x3f).toInt64.toUInt64).toInt64).toInt32.toInt8.toInt32), (.int ((p0.toUInt64 >>> ((48 : Int32) &&& 0x3f).toInt64.toUInt64).toInt64).toInt32.toInt8.toInt32), (.int ((p0.toUInt64 >>> ((56 : Int32) &&& 0x3f).toInt64.toUInt64).toInt64).toInt32.toInt8.toInt32)] 8 ((p0.toUInt64 >>> ((56 : Int32) &&& 0x3f).toInt64.toUInt64).toInt64).toInt32.toInt8.toInt32 h167 O175 F172 rfl (Ne.symm n138) (by decide) (by decide) rfl) pd___I rfl (argsL := []) (st := []) rfl rfl (W := 0) (Nat.le_of_eq rfl) (by decide) (by decide) (by decide) (by decide) (allS (Or.inr z_a131) all0) at_193 (pc' := 196) rfl fun T271 h272 v273 X274 K275 Q276 => ?_
      have F277 := F172.keep K275 (ninS n138 nin0)
      have F278 := F173.keep K275 trivial
      obtain ⟨rfl, O279⟩ := Q276
      show Go p e below _ _ _ _ T271 (mkF m 196 #[.val (.long p0), .second, .val (.int p1), .val (.int p2), .val (.ref a75), .val (.int qk1), .val (.int qk2), .val (.ref a131), .val (.int (7 : Int32)), .val (.int (((p0.toUInt64 >>> ((56 : Int32) &&& 0x3f).toInt64.toUInt64).toInt64) &&& (255 : Int64)).toInt32)] [(.int (((p0.toUInt64 >>> ((56 : Int32) &&& 0x3f).toInt64.toUInt64).toInt64).toInt32.toInt8.toInt32 &&& (255 : Int32)))])
      refine giload B148 X274 at_196 rfl (pc' := 198) rfl ?_
      have c198_280 : (((p0.toUInt64 >>> ((56 : Int32) &&& 0x3f).toInt64.toUInt64).toInt64).toInt32.toInt8.toInt32 &&& (255 : Int32)) = (((p0.toUInt64 >>> ((56 : Int32) &&& 0x3f).toInt64.toUInt64).toInt64) &&& (255 : Int64)).toInt32 := own_by _
      refine gicN B148 X274 at_198 (teq c198_280).2 (pc' := 201) rfl ?_
      refine gaload B148 X274 at_201 rfl rfl (pc' := 203) rfl ?_
      refine gcallV B148 X274 O279.1 (hw _ (List.mem_of_getElem? (i := 38) rfl)) (hw _ (List.mem_of_getElem? (i := 39) rfl)) (hw _ (List.mem_of_getElem? (i := 41) rfl)) (hw _ (List.mem_of_getElem? (i := 40) rfl)) (hw _ (List.mem_of_getElem? (i := 4) rfl)) (hw _ (List.mem_of_getElem? (i := 42) rfl)) rfl (by decide) (mtrem l Z a0 hw a131 a75 w152 (8 : Int32) ((7 : Int32) + (1 : Int32)) h272 O279) pd___I rfl (argsL := []) (st := []) rfl rfl (W := 0) (Nat.le_of_eq rfl) (by decide) (by decide) (by decide) (by decide) (fun x q => nomatch q) at_203 (pc' := 206) rfl (pureG rfl rfl fun T281 X282 => ?_)
      refine gbipush B148 X282 at_206 (v := (7 : Int32)) rfl (pc' := 208) rfl ?_
      refine giload B148 X282 at_208 rfl (pc' := 210) rfl ?_
      refine gisub B148 X282 at_210 (v := (0 : Int32)) (by decide) (pc' := 211) rfl ?_
      have c211_283 : ((8 : Int32) - ((7 : Int32) + (1 : Int32))) = (0 : Int32) := by decide
      refine gicN B148 X282 at_211 (teq c211_283).2 (pc' := 214) rfl ?_
      refine giconst B148 X282 at_214 (v := (1 : Int32)) rfl (pc' := 215) rfl ?_
      refine ggoto B148 X282 (pc' := 219) at_215 (by decide) ?_
      exact gretNW B148 X282 S149 F278 (z' := (1 : Int32)) (by simp) (rfl) at_219 (by decide) (by decide) (rfl)
set_option maxRecDepth 65536 in
set_option maxHeartbeats 4000000 in
theorem comes_1 {Post : Tables → Env → Array Value → State → Outcome → State → Prop} (hpost : ∀ tb e args s v u, (limb_1_1.after args s (.returned v) u = true ∧ limb_1_2.after args s (.returned v) u = true ∧ True) → ReturnedEndW s (.returned v) u (Jvm.fieldLocs frame_1_writes args s ++ Jvm.arrayLocs frame_1_arrays args s ++ Jvm.staticLocs frame_1_statics s) 16 1152 → Post tb e args s (.returned v) u) :
    ArmFor flags0 classFile x code maxLocals ret World_1 tables_1 room_1 Calls_1 rest_1 Pre_1 Post := by
  intro l hfl _ _ p e ha hc hk s m args below hf hA hF happ hP
  obtain ⟨hcalls, hrest, hpre⟩ := hP
  obtain ⟨-, -, -, hnamed, -, -, -, hat⟩ := (Spec.applies_iff hf).mp happ
  obtain ⟨hg, hn⟩ := and_e (Cond.before_iff.mp (show (Jvm.Cond.and given_1 narrow_1).before args s = true from hpre))
  obtain ⟨g2, g3⟩ := and_e hg
  obtain ⟨g4, g5⟩ := and_e g3
  obtain ⟨g6, g7⟩ := and_e g5
  obtain ⟨w0, w1, w2, rfl⟩ : ∃ w0 w1 w2 : Value, args = #[w0, w1, w2] := by
    have hs : args.size = 3 := by simpa [Cond.value, given_1] using g2
    obtain ⟨L⟩ := args
    match L, hs with
    | [w0, w1, w2], _ => exact ⟨w0, w1, w2, rfl⟩
  have hw := fun d (hd : d ∈ tables_1) => atoms_spec (ws := Jvm.Cond.code x code maxLocals ret :: tables_1) hat d (List.mem_cons_of_mem _ hd)
  obtain ⟨i0, ei0⟩ := isL_v g4
  obtain rfl : w0 = (.long i0) := Option.some.inj ei0
  obtain ⟨i1, ei1⟩ := is_v g6
  obtain rfl : w1 = (.int i1) := Option.some.inj ei1
  obtain ⟨i2, ei2⟩ := is_v g7
  obtain rfl : w2 = (.int i2) := Option.some.inj ei2
  obtain ⟨n, o, h1, h2, h3, _, L, rfl, ⟨rfl, N, N2⟩, hq⟩ := mt0 l s _ hw i0 i1 i2 s.heap tables_1 p e ha hc hk s m _ below hf ((Spec.applies_iff_loose hf).mp happ).1 ⟨rfl, State.Warmed39.refl s, rfl⟩ trivial
  refine ⟨n, _, h1, h2, h3, hpost _ _ _ _ _ _ ⟨Cond.after_iff.mpr rfl, Cond.after_iff.mpr (eq_i res_at (Term.int_eval (1)) rfl), trivial⟩ ⟨hq.1, hq.2.1, hq.2.2.1, (hq.2.2.2.sift fun y hy => Or.inr ((N2 y hy).elim (fun z => nomatch z) id)).mono (by decide) (by decide)⟩⟩
theorem main_1_1 : Claimed_1_1 := comes_1 fun _ _ _ _ _ _ h hF => ⟨h.1, hF⟩
theorem main_1_2 : Claimed_1_2 := comes_1 fun _ _ _ _ _ _ h hF => ⟨h.2.1, hF⟩
end Jvm.Pilot.@@N@@
namespace Jvm.Pilot.@@N@@
open Jvm Jvm.ClassFile Sem Op Lib Jvm.Free Jvm.Stand Jvm.Pilot.@@N@@.Jvm.D
/-! MADE BY PROGRAM (witnessworld.py) out of the Statement's table words and the real class files: 14 classes; the members and pool entries that the words name. The judged class is class 1, her method 1. -/
namespace start1
open Jvm.ClassFile
def u (s : String) : CpInfo := .utf8 (stringToUtf16 s)
/-- a pool by its gaps: so many unusable entries, then the entry; so many at the end -/
def gap : Nat → List CpInfo → List CpInfo
  | 0, r => r
  | n + 1, r => .unusable :: gap n r
def poolList (es : List (Nat × CpInfo)) (last : Nat) : List CpInfo := es.foldr (fun e r => gap e.1 (e.2 :: r)) (gap last [])
def pool (es : List (Nat × CpInfo)) (last : Nat) : Array CpInfo := ⟨poolList es last⟩
def fileOf (pool : Array CpInfo) (this : Nat) (attrs : Array Attribute := #[]) (ms : Array MethodInfo := #[]) (fl : Nat := 33) (sup : Nat := 0) (ifs : Array Nat := #[]) (fds : Array FieldInfo := #[]) : ClassFile where
  minorVersion := 0
  majorVersion := 65
  constantPool := pool
  accessFlags := fl
  thisClass := this
  superClass := sup
  interfaces := ifs
  fields := fds
  methods := ms
  attributes := attrs
def plain (name : String) (sup : Option ClassId) : Class where
  name := name
  kind := .ordinary
  loader := none
  accessFlags := 33
  super := sup
  interfaces := #[]
  cf := none
  fields := #[]
  methods := #[]
  instanceTypes := #[]
  staticTypes := #[]
  resolved := #[]
  callSites := []
  init := .initialized
  statics := none
  mirror := none

def pool0 : Array CpInfo := pool [(5, u "<init>"), (0, u "()V"), (1, .class_ 10), (1, u "java/lang/Object")] 113

def k0c0 : Code := { maxStack := 0, maxLocals := 1, code := object_method_1_code, exceptionTable := #[], attributes := #[] }
def k0m0 : Method := { name := "<init>", desc := "()V", sig := { parameters := [], returnType := none }, accessFlags := 1, code := some k0c0 }
/-- java/lang/Object -/
def k0 : Class := { plain "java/lang/Object" none with
  accessFlags := 33
  interfaces := #[]
  cf := some (fileOf pool0 8 #[] #[{ accessFlags := 1, nameIndex := 5, descriptorIndex := 6, attributes := #[] }] 33 0 #[] #[])
  fields := #[]
  methods := #[k0m0]
  instanceTypes := #[]
  staticTypes := #[]
  resolved := Array.replicate 124 none
  statics := none }

def pool1 : Array CpInfo := pool [(2, .class_ 4), (1, u "java/lang/Object"), (0, u "<init>"), (0, u "()V"), (0, .integer 2147483647), (0, .class_ 9), (0, u "com/example/dowelgraph/dowelgraph/artifact/ClassFileInput"), (0, .methodref 8 11), (0, .nameAndType 5 12), (0, u "([B)V"), (0, .methodref 8 14), (0, .nameAndType 15 16), (0, u "skip"), (0, u "(I)V"), (0, .methodref 8 18), (0, .nameAndType 19 20), (0, u "remaining"), (0, u "()I"), (0, .long 255), (1, .methodref 8 24), (0, .nameAndType 25 20), (0, u "u1"), (0, .class_ 27), (0, u "com/example/dowelgraph/dowelgraph/artifact/ClassFileInputSkipPinLaw"), (2, u "law"), (0, u "(JII)Z")] 8

def k1m0 : Method := { name := "<init>", desc := "()V", sig := { parameters := [], returnType := none }, accessFlags := 1, code := none }
def k1c1 : Code := { maxStack := 5, maxLocals := 10, code := code, exceptionTable := #[], attributes := #[] }
def k1m1 : Method := { name := "law", desc := "(JII)Z", sig := { parameters := [.long, .int, .int], returnType := some .boolean }, accessFlags := 9, code := some k1c1 }
/-- com/example/dowelgraph/dowelgraph/artifact/ClassFileInputSkipPinLaw -/
def k1 : Class := { plain "com/example/dowelgraph/dowelgraph/artifact/ClassFileInputSkipPinLaw" (some 0) with
  accessFlags := 49
  interfaces := #[]
  cf := some (fileOf pool1 26 #[] #[{ accessFlags := 1, nameIndex := 5, descriptorIndex := 6, attributes := #[] }, { accessFlags := 9, nameIndex := 30, descriptorIndex := 31, attributes := #[] }] 49 2 #[] #[])
  fields := #[]
  methods := #[k1m0, k1m1]
  instanceTypes := #[]
  staticTypes := #[]
  resolved := Array.replicate 40 none
  statics := none }

def pool2 : Array CpInfo := pool [(1, .string 2), (0, u "the class file"), (0, .methodref 4 5), (0, .class_ 6), (0, .nameAndType 7 8), (0, u "com/example/dowelgraph/dowelgraph/artifact/ClassFileInput"), (0, u "<init>"), (0, u "([BIILjava/lang/String;)V"), (0, .methodref 10 11), (0, .class_ 12), (0, .nameAndType 7 13), (0, u "java/lang/Object"), (0, u "()V"), (0, .fieldref 4 15), (0, .nameAndType 16 17), (0, u "bytes"), (0, u "[B"), (0, .fieldref 4 19), (0, .nameAndType 20 21), (0, u "position"), (0, u "I"), (0, .fieldref 4 23), (0, .nameAndType 24 21), (0, u "end"), (0, .fieldref 4 26), (0, .nameAndType 27 28), (0, u "what"), (0, u "Ljava/lang/String;"), (0, .methodref 4 30), (0, .nameAndType 31 32), (0, u "require"), (0, u "(I)V"), (2, u "u1"), (0, u "()I"), (41, u "([B)V"), (7, u "remaining"), (0, u "skip")] 26

def k2c0 : Code := { maxStack := 5, maxLocals := 2, code := prog_23_method_1_code, exceptionTable := #[], attributes := #[] }
def k2m0 : Method := { name := "<init>", desc := "([B)V", sig := { parameters := [(.array .byte)], returnType := none }, accessFlags := 0, code := some k2c0 }
def k2c1 : Code := { maxStack := 2, maxLocals := 5, code := prog_23_method_2_code, exceptionTable := #[], attributes := #[] }
def k2m1 : Method := { name := "<init>", desc := "([BIILjava/lang/String;)V", sig := { parameters := [(.array .byte), .int, .int, (.object "java/lang/String")], returnType := none }, accessFlags := 2, code := some k2c1 }
def k2c2 : Code := { maxStack := 5, maxLocals := 1, code := prog_23_method_3_code, exceptionTable := #[], attributes := #[] }
def k2m2 : Method := { name := "u1", desc := "()I", sig := { parameters := [], returnType := some .int }, accessFlags := 0, code := some k2c2 }
def k2c3 : Code := { maxStack := 2, maxLocals := 1, code := prog_23_method_7_code, exceptionTable := #[], attributes := #[] }
def k2m3 : Method := { name := "remaining", desc := "()I", sig := { parameters := [], returnType := some .int }, accessFlags := 0, code := some k2c3 }
def k2c4 : Code := { maxStack := 3, maxLocals := 2, code := prog_23_method_8_code, exceptionTable := #[], attributes := #[] }
def k2m4 : Method := { name := "skip", desc := "(I)V", sig := { parameters := [.int], returnType := none }, accessFlags := 0, code := some k2c4 }
def k2c5 : Code := { maxStack := 3, maxLocals := 2, code := prog_23_method_13_code, exceptionTable := #[], attributes := #[] }
def k2m5 : Method := { name := "require", desc := "(I)V", sig := { parameters := [.int], returnType := none }, accessFlags := 2, code := some k2c5 }
/-- com/example/dowelgraph/dowelgraph/artifact/ClassFileInput -/
def k2 : Class := { plain "com/example/dowelgraph/dowelgraph/artifact/ClassFileInput" (some 0) with
  accessFlags := 48
  interfaces := #[]
  cf := some (fileOf pool2 4 #[] #[{ accessFlags := 0, nameIndex := 7, descriptorIndex := 78, attributes := #[] }, { accessFlags := 2, nameIndex := 7, descriptorIndex := 8, attributes := #[] }, { accessFlags := 0, nameIndex := 35, descriptorIndex := 36, attributes := #[] }, { accessFlags := 0, nameIndex := 86, descriptorIndex := 36, attributes := #[] }, { accessFlags := 0, nameIndex := 87, descriptorIndex := 32, attributes := #[] }, { accessFlags := 2, nameIndex := 31, descriptorIndex := 32, attributes := #[] }] 48 10 #[] #[{ accessFlags := 18, nameIndex := 16, descriptorIndex := 17, attributes := #[] }, { accessFlags := 18, nameIndex := 24, descriptorIndex := 21, attributes := #[] }, { accessFlags := 18, nameIndex := 27, descriptorIndex := 28, attributes := #[] }, { accessFlags := 2, nameIndex := 20, descriptorIndex := 21, attributes := #[] }])
  fields := #[{ name := "bytes", type := (.array .byte), accessFlags := 18, slot := 0, constantValue := 0 }, { name := "end", type := .int, accessFlags := 18, slot := 1, constantValue := 0 }, { name := "what", type := (.object "java/lang/String"), accessFlags := 18, slot := 2, constantValue := 0 }, { name := "position", type := .int, accessFlags := 2, slot := 3, constantValue := 0 }]
  methods := #[k2m0, k2m1, k2m2, k2m3, k2m4, k2m5]
  instanceTypes := #[(.array .byte), .int, (.object "java/lang/String"), .int]
  staticTypes := #[]
  resolved := Array.replicate 114 none
  statics := none }

def pool3 : Array CpInfo := pool [(1, .class_ 2), (0, u "java/io/Serializable"), (0, .class_ 4), (0, u "java/lang/Object")] 2

/-- java/io/Serializable -/
def k3 : Class := { plain "java/io/Serializable" (some 0) with
  accessFlags := 1537
  interfaces := #[]
  cf := some (fileOf pool3 1 #[] #[] 1537 3 #[] #[])
  fields := #[]
  methods := #[]
  instanceTypes := #[]
  staticTypes := #[]
  resolved := Array.replicate 7 none
  statics := none }

def pool4 : Array CpInfo := pool [(1, .class_ 2), (0, u "java/lang/Comparable"), (0, .class_ 4), (0, u "java/lang/Object")] 7

/-- java/lang/Comparable -/
def k4 : Class := { plain "java/lang/Comparable" (some 0) with
  accessFlags := 1537
  interfaces := #[]
  cf := some (fileOf pool4 1 #[] #[] 1537 3 #[] #[])
  fields := #[]
  methods := #[]
  instanceTypes := #[]
  staticTypes := #[]
  resolved := Array.replicate 12 none
  statics := none }

def pool5 : Array CpInfo := pool [(2, .class_ 4), (1, u "java/lang/CharSequence"), (42, .class_ 48), (0, u "java/lang/CharSequence$1CodePointIterator"), (10, .class_ 60), (0, u "java/lang/CharSequence$1CharIterator"), (5, .class_ 67), (0, u "java/lang/Object")] 63

/-- java/lang/CharSequence -/
def k5 : Class := { plain "java/lang/CharSequence" (some 0) with
  accessFlags := 1537
  interfaces := #[]
  cf := some (fileOf pool5 2 #[.nestMembers #[47, 59]] #[] 1537 66 #[] #[])
  fields := #[]
  methods := #[]
  instanceTypes := #[]
  staticTypes := #[]
  resolved := Array.replicate 131 none
  statics := none }

def pool6 : Array CpInfo := pool [(1, .class_ 2), (0, u "java/lang/constant/Constable"), (0, .class_ 4), (0, u "java/lang/Object")] 6

/-- java/lang/constant/Constable -/
def k6 : Class := { plain "java/lang/constant/Constable" (some 0) with
  accessFlags := 1537
  interfaces := #[]
  cf := some (fileOf pool6 1 #[] #[] 1537 3 #[] #[])
  fields := #[]
  methods := #[]
  instanceTypes := #[]
  staticTypes := #[]
  resolved := Array.replicate 11 none
  statics := none }

def pool7 : Array CpInfo := pool [(1, .class_ 2), (0, u "java/lang/constant/ConstantDesc"), (0, .class_ 4), (0, u "java/lang/Object")] 32

/-- java/lang/constant/ConstantDesc -/
def k7 : Class := { plain "java/lang/constant/ConstantDesc" (some 0) with
  accessFlags := 1537
  interfaces := #[]
  cf := some (fileOf pool7 1 #[] #[] 1537 3 #[] #[])
  fields := #[]
  methods := #[]
  instanceTypes := #[]
  staticTypes := #[]
  resolved := Array.replicate 37 none
  statics := none }

def pool8 : Array CpInfo := pool [(2, .class_ 4), (1, u "java/lang/Object"), (0, u "<init>"), (0, u "()V"), (3, .class_ 12), (1, u "java/lang/String"), (0, u "value"), (0, u "[B"), (2, u "coder"), (0, u "B"), (2, u "hash"), (0, u "I"), (2, u "hashIsZero"), (0, u "Z"), (13, u "COMPACT_STRINGS"), (534, .class_ 576), (0, u "java/lang/CharSequence"), (22, u "CASE_INSENSITIVE_ORDER"), (0, u "Ljava/util/Comparator;"), (500, u "serialPersistentFields"), (0, u "[Ljava/io/ObjectStreamField;"), (0, .class_ 1104), (0, u "java/lang/String$CaseInsensitiveComparator"), (1, .class_ 1107), (0, u "java/io/Serializable"), (0, .class_ 1109), (0, u "java/lang/Comparable"), (0, .class_ 1111), (0, u "java/lang/constant/Constable"), (0, .class_ 1113), (0, u "java/lang/constant/ConstantDesc"), (2, u "serialVersionUID"), (0, u "J"), (3, u "REPL"), (0, u "C"), (2, u "LATIN1"), (1, u "UTF16")] 323

def k8m0 : Method := { name := "<init>", desc := "()V", sig := { parameters := [], returnType := none }, accessFlags := 1, code := none }
/-- java/lang/String -/
def k8 : Class := { plain "java/lang/String" (some 0) with
  accessFlags := 49
  interfaces := #[3, 4, 5, 6, 7]
  cf := some (fileOf pool8 10 #[.nestMembers #[1103]] #[{ accessFlags := 1, nameIndex := 5, descriptorIndex := 6, attributes := #[] }] 49 2 #[1106, 1108, 575, 1110, 1112] #[{ accessFlags := 18, nameIndex := 13, descriptorIndex := 14, attributes := #[] }, { accessFlags := 18, nameIndex := 17, descriptorIndex := 18, attributes := #[] }, { accessFlags := 2, nameIndex := 21, descriptorIndex := 22, attributes := #[] }, { accessFlags := 2, nameIndex := 25, descriptorIndex := 26, attributes := #[] }, { accessFlags := 26, nameIndex := 1116, descriptorIndex := 1117, attributes := #[] }, { accessFlags := 24, nameIndex := 40, descriptorIndex := 26, attributes := #[] }, { accessFlags := 26, nameIndex := 1101, descriptorIndex := 1102, attributes := #[] }, { accessFlags := 26, nameIndex := 1121, descriptorIndex := 1122, attributes := #[] }, { accessFlags := 25, nameIndex := 599, descriptorIndex := 600, attributes := #[] }, { accessFlags := 24, nameIndex := 1125, descriptorIndex := 18, attributes := #[] }, { accessFlags := 24, nameIndex := 1127, descriptorIndex := 18, attributes := #[] }])
  fields := #[{ name := "value", type := (.array .byte), accessFlags := 18, slot := 0, constantValue := 0 }, { name := "coder", type := .byte, accessFlags := 18, slot := 1, constantValue := 0 }, { name := "hash", type := .int, accessFlags := 2, slot := 2, constantValue := 0 }, { name := "hashIsZero", type := .boolean, accessFlags := 2, slot := 3, constantValue := 0 }, { name := "serialVersionUID", type := .long, accessFlags := 26, slot := 0, constantValue := 0 }, { name := "COMPACT_STRINGS", type := .boolean, accessFlags := 24, slot := 1, constantValue := 0 }, { name := "serialPersistentFields", type := (.array (.object "java/io/ObjectStreamField")), accessFlags := 26, slot := 2, constantValue := 0 }, { name := "REPL", type := .char, accessFlags := 26, slot := 3, constantValue := 0 }, { name := "CASE_INSENSITIVE_ORDER", type := (.object "java/util/Comparator"), accessFlags := 25, slot := 4, constantValue := 0 }, { name := "LATIN1", type := .byte, accessFlags := 24, slot := 5, constantValue := 0 }, { name := "UTF16", type := .byte, accessFlags := 24, slot := 6, constantValue := 0 }]
  methods := #[k8m0]
  instanceTypes := #[(.array .byte), .byte, .int, .boolean]
  staticTypes := #[.long, .boolean, (.array (.object "java/io/ObjectStreamField")), .char, (.object "java/util/Comparator"), .byte, .byte]
  resolved := Array.replicate 1451 none
  statics := none }

def pool9 : Array CpInfo := pool [(1, u "java/lang/Cloneable"), (0, .class_ 1), (0, u "java/lang/Object"), (0, .class_ 3)] 3

/-- java/lang/Cloneable -/
def k9 : Class := { plain "java/lang/Cloneable" (some 0) with
  accessFlags := 1537
  interfaces := #[]
  cf := some (fileOf pool9 2 #[] #[] 1537 4 #[] #[])
  fields := #[]
  methods := #[]
  instanceTypes := #[]
  staticTypes := #[]
  resolved := Array.replicate 8 none
  statics := none }

/-- the primitive byte -/
def k10 : Class := { plain "byte" none with kind := .primitive 'B', accessFlags := 0x411 }
/-- [B -/
def k11 : Class := { plain "[B" (some 0) with kind := .array 10 .byte, interfaces := #[9, 3], accessFlags := 1041 }

/-- the primitive int -/
def k12 : Class := { plain "int" none with kind := .primitive 'I', accessFlags := 0x411 }
/-- [I -/
def k13 : Class := { plain "[I" (some 0) with kind := .array 12 .int, interfaces := #[9, 3], accessFlags := 1041 }

def heap : Heap := #[]
def classes : Array Class := #[k0, k1, k2, k3, k4, k5, k6, k7, k8, k9, k10, k11, k12, k13]
def interned : List (Array UInt16 × Addr) := []
def slotsUsed : Nat := 0
def theMethod : MethodId := ⟨1, 1⟩
def args0 : Array Value := #[.long 5, .int 300, .int 7]
def aboutOver (below : List Frame) : State where
  vm := { classes := classes, interned := interned.toArray }
  heap := heap
  slotsUsed := slotsUsed
  threads := #[{ frames := .invoking theMethod args0 :: below }]
def below0 : List Frame := [.native { method := ⟨0, 0⟩, args := #[] }]
def about1 : State := aboutOver below0
def p0 : Program := .bare "" "" ""
def e0 : Env := launch0.env 0 0 0
theorem w_frames : about1.frames = Frame.invoking theMethod args0 :: below0 := rfl
set_option maxRecDepth 65536 in
theorem w_args : argsFit about1.vm theMethod args0 = true := by decide +kernel
set_option maxRecDepth 65536 in
theorem w_heap : heapFits about1 = true := by decide +kernel
set_option maxRecDepth 65536 in
theorem w_runnable : about1.curStatus? = some .runnable := by decide +kernel
set_option maxRecDepth 65536 in
theorem w_alone : about1.alone = true := by decide +kernel
set_option maxRecDepth 65536 in
theorem w_named : about1.methodNamed? x = some theMethod := by decide +kernel
set_option maxRecDepth 65536 in
theorem w_hears : about1.hears theMethod below0 = true := by decide +kernel
set_option maxRecDepth 65536 in
theorem w_ripe : about1.ripe theMethod args0 below0 = true := by decide +kernel
theorem w_running : about1.status = .running := rfl
set_option maxRecDepth 65536 in
theorem w_room : about1.hasRoom e0.platform room_1 = true :=
  launch0.hasRoom_least _ room_1 (by decide +kernel) (by decide +kernel) (by decide +kernel) (by decide +kernel) (by decide +kernel) (by decide +kernel)
theorem allAtoms_all (ts : List Jvm.Cond) (a : Array Jvm.Value) (st : Jvm.State) : (allAtoms ts).before a st = ts.all (fun c => c.before a st) := by
  induction ts with
  | nil => rfl
  | cons c t ih =>
    show (Jvm.Cond.and c (allAtoms t)).before a st = _
    rw [Jvm.Cond.before_and, ih, List.all_cons]
def words1 : List Jvm.Cond := Jvm.Cond.code x code maxLocals ret :: tables_1
/-- a 'code' word, met by the world's own term for the bytes: nothing is compared byte by byte -/
theorem code_word {y : MethodName} {bytes : ByteArray} {mx : Nat} {rt : Option FieldType} {a : Array Value} {s : State} {m : MethodId} {meth : Method} {c : Code} (h1 : s.methodNamed? y = some m) (h2 : s.vm.method? m = some meth) (h3 : meth.code = some c) (h4 : c.code = bytes)
    (h5 : (c.maxLocals == mx && c.exceptionTable.isEmpty && decide (c.maxStack ≤ mostOperands) && decide (meth.sig.returnType = rt) && !meth.locks && decide (parseMethodDescriptor y.desc = some meth.sig)) = true) : (Jvm.Cond.code y bytes mx rt).before a s = true := by
  simp only [Bool.and_eq_true, beq_iff_eq, Bool.not_eq_true', decide_eq_true_eq] at h5
  obtain ⟨⟨⟨⟨⟨g1, g2⟩, g3⟩, g4⟩, g5⟩, g6⟩ := h5
  simp [Cond.before, Cond.holds, Cond.value, h1, h2, h3, h4, g1, g2, g3, g4, g5, g6]
def isCode : Jvm.Cond → Bool
  | .code _ _ _ _ => true
  | _ => false
theorem all_split {L : List Jvm.Cond} {P : Jvm.Cond → Bool} (h1 : L.all (fun c => isCode c || P c) = true) (h2 : ∀ c ∈ L.filter isCode, P c = true) : L.all P = true := by
  refine List.all_eq_true.mpr fun c hc => ?_
  have h := List.all_eq_true.mp h1 c hc
  rcases Bool.eq_false_or_eq_true (isCode c) with hi | hi
  · exact h2 c (List.mem_filter.mpr ⟨hc, hi⟩)
  · simpa [hi] using h
set_option maxRecDepth 65536 in
theorem w_c0 : (Jvm.Cond.code x code maxLocals ret).before args0 about1 = true := code_word (m := ⟨1, 1⟩) (meth := k1m1) (c := k1c1) (by decide +kernel) rfl rfl rfl (by decide +kernel)
set_option maxRecDepth 65536 in
theorem w_c1 : (Jvm.Cond.code ({ cls := "com/example/dowelgraph/dowelgraph/artifact/ClassFileInput", name := "<init>", desc := "([B)V" } : Jvm.MethodName) prog_23_method_1_code (2 : Nat) (Option.none : Option Jvm.ClassFile.FieldType)).before args0 about1 = true := code_word (m := ⟨2, 0⟩) (meth := k2m0) (c := k2c0) (by decide +kernel) rfl rfl rfl (by decide +kernel)
set_option maxRecDepth 65536 in
theorem w_c2 : (Jvm.Cond.code ({ cls := "com/example/dowelgraph/dowelgraph/artifact/ClassFileInput", name := "<init>", desc := "([BIILjava/lang/String;)V" } : Jvm.MethodName) prog_23_method_2_code (5 : Nat) (Option.none : Option Jvm.ClassFile.FieldType)).before args0 about1 = true := code_word (m := ⟨2, 1⟩) (meth := k2m1) (c := k2c1) (by decide +kernel) rfl rfl rfl (by decide +kernel)
set_option maxRecDepth 65536 in
theorem w_c3 : (Jvm.Cond.code ({ cls := "java/lang/Object", name := "<init>", desc := "()V" } : Jvm.MethodName) object_method_1_code (1 : Nat) (Option.none : Option Jvm.ClassFile.FieldType)).before args0 about1 = true := code_word (m := ⟨0, 0⟩) (meth := k0m0) (c := k0c0) (by decide +kernel) rfl rfl rfl (by decide +kernel)
set_option maxRecDepth 65536 in
theorem w_c4 : (Jvm.Cond.code ({ cls := "com/example/dowelgraph/dowelgraph/artifact/ClassFileInput", name := "skip", desc := "(I)V" } : Jvm.MethodName) prog_23_method_8_code (2 : Nat) (Option.none : Option Jvm.ClassFile.FieldType)).before args0 about1 = true := code_word (m := ⟨2, 4⟩) (meth := k2m4) (c := k2c4) (by decide +kernel) rfl rfl rfl (by decide +kernel)
set_option maxRecDepth 65536 in
theorem w_c5 : (Jvm.Cond.code ({ cls := "com/example/dowelgraph/dowelgraph/artifact/ClassFileInput", name := "require", desc := "(I)V" } : Jvm.MethodName) prog_23_method_13_code (2 : Nat) (Option.none : Option Jvm.ClassFile.FieldType)).before args0 about1 = true := code_word (m := ⟨2, 5⟩) (meth := k2m5) (c := k2c5) (by decide +kernel) rfl rfl rfl (by decide +kernel)
set_option maxRecDepth 65536 in
theorem w_c6 : (Jvm.Cond.code ({ cls := "com/example/dowelgraph/dowelgraph/artifact/ClassFileInput", name := "remaining", desc := "()I" } : Jvm.MethodName) prog_23_method_7_code (1 : Nat) (Option.some Jvm.ClassFile.FieldType.int)).before args0 about1 = true := code_word (m := ⟨2, 3⟩) (meth := k2m3) (c := k2c3) (by decide +kernel) rfl rfl rfl (by decide +kernel)
set_option maxRecDepth 65536 in
theorem w_c7 : (Jvm.Cond.code ({ cls := "com/example/dowelgraph/dowelgraph/artifact/ClassFileInput", name := "u1", desc := "()I" } : Jvm.MethodName) prog_23_method_3_code (1 : Nat) (Option.some Jvm.ClassFile.FieldType.int)).before args0 about1 = true := code_word (m := ⟨2, 2⟩) (meth := k2m2) (c := k2c2) (by decide +kernel) rfl rfl rfl (by decide +kernel)
def codes1 : List Jvm.Cond := [Jvm.Cond.code x code maxLocals ret, Jvm.Cond.code ({ cls := "com/example/dowelgraph/dowelgraph/artifact/ClassFileInput", name := "<init>", desc := "([B)V" } : Jvm.MethodName) prog_23_method_1_code (2 : Nat) (Option.none : Option Jvm.ClassFile.FieldType), Jvm.Cond.code ({ cls := "com/example/dowelgraph/dowelgraph/artifact/ClassFileInput", name := "<init>", desc := "([BIILjava/lang/String;)V" } : Jvm.MethodName) prog_23_method_2_code (5 : Nat) (Option.none : Option Jvm.ClassFile.FieldType), Jvm.Cond.code ({ cls := "java/lang/Object", name := "<init>", desc := "()V" } : Jvm.MethodName) object_method_1_code (1 : Nat) (Option.none : Option Jvm.ClassFile.FieldType), Jvm.Cond.code ({ cls := "com/example/dowelgraph/dowelgraph/artifact/ClassFileInput", name := "skip", desc := "(I)V" } : Jvm.MethodName) prog_23_method_8_code (2 : Nat) (Option.none : Option Jvm.ClassFile.FieldType), Jvm.Cond.code ({ cls := "com/example/dowelgraph/dowelgraph/artifact/ClassFileInput", name := "require", desc := "(I)V" } : Jvm.MethodName) prog_23_method_13_code (2 : Nat) (Option.none : Option Jvm.ClassFile.FieldType), Jvm.Cond.code ({ cls := "com/example/dowelgraph/dowelgraph/artifact/ClassFileInput", name := "remaining", desc := "()I" } : Jvm.MethodName) prog_23_method_7_code (1 : Nat) (Option.some Jvm.ClassFile.FieldType.int), Jvm.Cond.code ({ cls := "com/example/dowelgraph/dowelgraph/artifact/ClassFileInput", name := "u1", desc := "()I" } : Jvm.MethodName) prog_23_method_3_code (1 : Nat) (Option.some Jvm.ClassFile.FieldType.int)]
set_option maxRecDepth 65536 in
theorem codes_eq : words1.filter isCode = codes1 := rfl
theorem w_codes : ∀ c ∈ words1.filter isCode, c.before args0 about1 = true := by
  rw [codes_eq]
  intro c hc
  simp only [codes1, List.mem_cons, List.not_mem_nil, or_false] at hc
  rcases hc with rfl | rfl | rfl | rfl | rfl | rfl | rfl | rfl
  · exact w_c0
  · exact w_c1
  · exact w_c2
  · exact w_c3
  · exact w_c4
  · exact w_c5
  · exact w_c6
  · exact w_c7
set_option maxRecDepth 65536 in
theorem w_t1 : (words1.take 24).all (fun c => isCode c || c.before args0 about1) = true := by decide +kernel
set_option maxRecDepth 65536 in
theorem w_t2 : ((words1.drop 24).take 24).all (fun c => isCode c || c.before args0 about1) = true := by decide +kernel
set_option maxRecDepth 65536 in
theorem w_t3 : ((words1.drop 24).drop 24).all (fun c => isCode c || c.before args0 about1) = true := by decide +kernel
theorem w_tables : (allAtoms (Jvm.Cond.code x code maxLocals ret :: tables_1)).before args0 about1 = true := by
  rw [allAtoms_all]
  show words1.all (fun c => c.before args0 about1) = true
  refine all_split ?_ w_codes
  rw [← List.take_append_drop 24 words1, List.all_append, w_t1, ← List.take_append_drop 24 (words1.drop 24), List.all_append, w_t2, w_t3]
  rfl
set_option maxRecDepth 65536 in
theorem w_case : (Jvm.Cond.and given_1 narrow_1).before args0 about1 = true := by decide +kernel
theorem w_applies : (headSpec (Jvm.Cond.code x code maxLocals ret :: tables_1) room_1).applies x e0.platform about1 = true :=
  (Spec.applies_iff w_frames).mpr ⟨w_running, w_runnable, w_alone, w_named, w_hears, w_ripe, w_room, w_tables⟩
theorem atStart : AtStart classFile x code maxLocals ret World_1 tables_1 room_1 Calls_1 rest_1 Pre_1 launch0 p0 e0 about1 theMethod args0 below0 :=
  ⟨lists_1, trivial, launch0.admits_env _ _ _, launch0.least_env, fairChoices_fair.cas, fairChoices_fair.clock, w_frames, w_args, w_heap, w_applies, trivial, trivial, w_case⟩
end start1
theorem witness_1 : WitnessClaimed_1 := ⟨start1.p0, start1.e0, start1.about1, start1.theMethod, start1.args0, start1.below0, start1.atStart⟩
end Jvm.Pilot.@@N@@
