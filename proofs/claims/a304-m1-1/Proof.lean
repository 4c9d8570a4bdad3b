import JvmDerived
import JvmDerived.Pilot.@@N@@Statement
import JvmDerived.Pilot.@@N@@Code
set_option linter.unusedVariables false
set_option linter.unusedSimpArgs false
namespace Jvm.OwnKit
open Sem ClassFile Op Lib Jvm.Stand Jvm.Free Jvm.LawKit Jvm.RoadKit
/-- every written place is one of ws or new -/
def FrW (h0 : Heap) (ws : List Addr) (L : List Loc) : Prop := ∀ y ∈ L, y.base ∈ ws ∨ h0.size ≤ y.base
/-- what stays fixed while a body runs -/
def Fix (p : Program) (Z s : State) (m : MethodId) (meth : Method) (c : Code) (bytes : ByteArray) (maxL : Nat) (own nm : String) (ret : Option FieldType) : Prop :=
  p.tables.exec = Jvm.exec ∧ Z.Warmed39 s.vm ∧ c.code = bytes ∧ c.maxLocals = maxL ∧ s.vm.findClass own = some m.cls ∧ meth.name = nm ∧ meth.sig.returnType = ret ∧ meth.locks = false
/-- where the run stands: its heap h, what was kept since h0 -/
def St (p : Program) (l : Launch) (e : Env) (R : Room) (s : State) (m : MethodId) (args : Array Value) (below : List Frame) (meth : Method) (c : Code) (h0 : Heap) (ws : List Addr) (T : State) (h : Heap) (cells slots : Nat) : Prop :=
  ∃ locs, Stand p l e R s m args below meth c T locs cells slots ∧ T.heap = h ∧ Keep h0 h ws ∧ FrW h0 ws locs
/-- from T with the top frame f the body comes to its end, and Q holds there -/
def Go (p : Program) (e : Env) (below : List Frame) (F : State → Outcome → List Loc → Prop) (h0 : Heap) (ws : List Addr) (Q : Option Value → Heap → Prop) (T : State) (f : JFrame) : Prop :=
  ∃ t o, Steps p.tables e below (T.setTop f) t ∧ t.status = .running ∧ Ended t below o ∧ ∃ v L, o = .returned v ∧ (Q v t.heap ∧ Keep h0 t.heap ws ∧ FrW h0 ws L) ∧ F t o L
/-- the narrow end and the wide one (strings may have been interned) -/
abbrev EndN (s : State) (K N : Nat) : State → Outcome → List Loc → Prop := fun t o L => FrameEnd s o t L K N
abbrev EndW (s : State) (K N : Nat) : State → Outcome → List Loc → Prop := fun t o L => ReturnedEndW s o t L K N
/-- the wide contract -/
def MethW (l : Launch) (Z : State) (y : MethodName) (bytes : ByteArray) (maxL : Nat) (ret : Option FieldType) (rm : Room) (as' : Array Value) (h0 : Heap) (ws : List Addr) (Q : Option Value → Heap → Prop) : Prop :=
  ∀ wl, MetFree l y (head1 (Cond.code y bytes maxL ret :: wl) rm) (fun a U => a = as' ∧ Z.Warmed39 U.vm ∧ U.heap = h0) (fun _ _ _ _ _ => True) (fun _ U o U' => ∃ v L, o = .returned v ∧ (Q v U'.heap ∧ Keep h0 U'.heap ws ∧ FrW h0 ws L) ∧ ReturnedEndW U o U' L rm.cells rm.slots)
/-- the heap hasn't shrunk below n -/
def Sz (n : Nat) (h : Heap) : Prop := n ≤ h.size
theorem Sz.ext {n : Nat} {h h' : Heap} (F : Sz n h) (E : Ext h h') : Sz n h' := Nat.le_trans F E.1
theorem Sz.other {n : Nat} {h h' : Heap} {a : Addr} {sl : Nat} {v : Value} (F : Sz n h) (W : Wr h h' a sl v) (_ : True) : Sz n h' := by unfold Sz at *; rw [W.size]; exact F
theorem Sz.keep {n : Nat} {h h' : Heap} {ws : List Addr} (F : Sz n h) (K : Keep h h' ws) (_ : True) : Sz n h' := Nat.le_trans F K.1
/-- a method's contract: called with as' at the heap h0 it returns, writes ws and new cells alone, and Q holds -/
def Meth (l : Launch) (Z : State) (y : MethodName) (bytes : ByteArray) (maxL : Nat) (ret : Option FieldType) (rm : Room) (as' : Array Value) (h0 : Heap) (ws : List Addr) (Q : Option Value → Heap → Prop) : Prop :=
  ∀ wl, MetFree l y (head1 (Cond.code y bytes maxL ret :: wl) rm) (fun a U => a = as' ∧ Z.Warmed39 U.vm ∧ U.heap = h0) (fun _ _ _ _ _ => True) (fun _ U o U' => ∃ v L, o = .returned v ∧ (Q v U'.heap ∧ Keep h0 U'.heap ws ∧ FrW h0 ws L) ∧ FrameEnd U o U' L rm.cells rm.slots)
/-- an array of the kind ty that holds vs -/
def VA (Z : State) (h : Heap) (a : Addr) (ty : FieldType) (vs : List Value) : Prop := ∃ c : Cell, Arr Z h a c ty ∧ c.slots = vs.toArray ∧ vs.length < 2 ^ 31
section Arrays
variable {Z : State} {h h' : Heap} {a b : Addr} {ty : FieldType} {vs : List Value} {sl : Nat} {v : Value} {ws : List Addr}
theorem VA.lt (F : VA Z h a ty vs) : a < h.size := by obtain ⟨c, A, -⟩ := F; exact A.lt
theorem VA.ext (F : VA Z h a ty vs) (E : Ext h h') : VA Z h' a ty vs := by obtain ⟨c, A, r⟩ := F; exact ⟨c, A.ext E, r⟩
theorem VA.other (F : VA Z h b ty vs) (W : Wr h h' a sl v) (q : b ≠ a) : VA Z h' b ty vs := by obtain ⟨c, A, r⟩ := F; exact ⟨c, A.other W q, r⟩
theorem VA.keep (F : VA Z h a ty vs) (K : Keep h h' ws) (q : a ∉ ws) : VA Z h' a ty vs := by obtain ⟨c, A, r⟩ := F; exact ⟨c, ⟨K.2.1 a c A.1 q, A.2⟩, r⟩
theorem VA.set (F : VA Z h a ty vs) (W : Wr h h' a sl v) : VA Z h' a ty (vs.set sl v) := by
  obtain ⟨c, A, r, n⟩ := F
  refine ⟨_, A.same W, ?_, by simpa using n⟩
  show c.slots.setIfInBounds sl v = _
  rw [r]; simp
theorem VA.new {k : ClassId} {n : Int32} (A : Arr Z h a (newA k ty n) ty) (q : ¬ n < 0) : VA Z h a ty (List.replicate n.toNatClampNeg (defaultValue ty)) :=
  ⟨_, A, by simp [newA], by rw [List.length_replicate]; exact (back32 q).2⟩
theorem VA.len31 (F : VA Z h a ty vs) : vs.length < 2 ^ 31 := by obtain ⟨c, A, r, n⟩ := F; exact n
theorem inb {n : Nat} {j : Int32} (hj : 0 ≤ j.toInt ∧ j.toInt < n) : ¬ (j < 0 ∨ n ≤ j.toNatClampNeg) := by
  simp only [Int32.lt_iff_toInt_lt, Int32.toNatClampNeg, Int32.reduceToInt]; omega
theorem own_at {xs : List Int32} {j : Nat} (hj : j < xs.length) : (xs.map Value.int)[j]? = some (.int (xs.getD j 0)) := by
  simp [List.getElem?_eq_getElem hj]
theorem own_atL {xs : List Int64} {j : Nat} (hj : j < xs.length) : (xs.map Value.long)[j]? = some (.long (xs.getD j 0)) := by
  simp [List.getElem?_eq_getElem hj]
theorem own_set (xs : List Int32) (i : Nat) (v : Int32) : (xs.map Value.int).set i (.int v) = (xs.set i v).map Value.int := by simp [List.map_set]
theorem own_setL (xs : List Int64) (i : Nat) (v : Int64) : (xs.map Value.long).set i (.long v) = (xs.set i v).map Value.long := by simp [List.map_set]
theorem own_nat {j : Int32} {n : Nat} (h : 0 ≤ j.toInt ∧ j.toInt < n) : j.toNatClampNeg < n := by simp only [Int32.toNatClampNeg]; omega
end Arrays
section Go
variable {p : Program} {l : Launch} {e : Env} {R : Room} {s : State} {m : MethodId} {args : Array Value} {below : List Frame} {meth : Method} {c : Code} {Z : State} {bytes : ByteArray} {maxL : Nat} {own nm : String} {ret : Option FieldType} {h0 : Heap} {ws : List Addr} {T T' : State} {locs : List Loc} {h : Heap} {cells slots K N : Nat} {FE : State → Outcome → List Loc → Prop} {Q : Option Value → Heap → Prop} {pc pc' : Nat} {vm1 : Vm} {Ls Ls' : Array Slot} {st : List Value} {a0 : Array Value}
theorem Go.to {f f' : JFrame} (k : ∀ t, Steps p.tables e below (T'.setTop f') t → Steps p.tables e below (T.setTop f) t) (g : Go p e below FE h0 ws Q T' f') : Go p e below FE h0 ws Q T f := by
  obtain ⟨t, o, a, r⟩ := g; exact ⟨t, o, k t a, r⟩
theorem Go.mono {Q' : Option Value → Heap → Prop} {f : JFrame} (g : Go p e below FE h0 ws Q T f) (hq : ∀ v h, Q v h → Q' v h) : Go p e below FE h0 ws Q' T f := by
  obtain ⟨t, o, a, b, d, v, L, e1, ⟨q, r⟩, z⟩ := g; exact ⟨t, o, a, b, d, v, L, e1, ⟨hq _ _ q, r⟩, z⟩
theorem Go.entry {f f' : JFrame} (q : f = f') (g : Go p e below FE h0 ws Q T f') : Go p e below FE h0 ws Q T f := q ▸ g
theorem St.more (X : St p l e R s m args below meth c h0 ws T h cells slots) {cells' slots' : Nat} (h1 : cells ≤ cells') (h2 : slots ≤ slots') : St p l e R s m args below meth c h0 ws T h cells' slots' := by
  obtain ⟨L, X, r⟩ := X; exact ⟨L, X.more h1 h2, r⟩
theorem St.kept (X : St p l e R s m args below meth c h0 ws T h cells slots) : Keep h0 h ws := by obtain ⟨L, X, e1, k, f⟩ := X; exact k
theorem St.here (X : St p l e R s m args below meth c h0 ws T h cells slots) : At T m c below := by obtain ⟨L, X, r⟩ := X; exact X.here
theorem Meth.mono {y : MethodName} {rm : Room} {as' : Array Value} {Q' : Option Value → Heap → Prop} (M : Meth l Z y bytes maxL ret rm as' h0 ws Q) (hq : ∀ v h, Q v h → Q' v h) : Meth l Z y bytes maxL ret rm as' h0 ws Q' := by
  intro wl p e ha hc hk s m args below hf happ hP hK
  obtain ⟨n, o, a, b, d, v, L, e1, ⟨q, r⟩, z⟩ := M wl p e ha hc hk s m args below hf happ hP hK
  exact ⟨n, o, a, b, d, v, L, e1, ⟨hq _ _ q, r⟩, z⟩
theorem Meth.of {y : MethodName} {rm : Room} {as' : Array Value} (hpl : plainFor y = true)
    (body : ∀ (p : Program) (e : Env) (s : State) (m : MethodId) (below : List Frame) (meth : Method) (c : Code) (T : State), Fix p Z s m meth c bytes maxL y.cls y.name ret → St p l e rm s m as' below meth c h0 ws T h0 0 0 → Go p e below (EndN s rm.cells rm.slots) h0 ws Q T (entryFrame m as' maxL)) :
    Meth l Z y bytes maxL ret rm as' h0 ws Q := by
  intro wl
  refine MetFree.of_bodySF hpl hisR ?_
  intro p e s m args below meth c s₁ Bd hml0 hP hK
  obtain ⟨rfl, hZ, hh⟩ := hP
  have X0 : Stand p l e rm s m _ below meth c s₁ [] 0 0 := Stand.of_body Bd
  have e0 : s₁.heap = h0 := by rw [← hh, Bd.state]; rfl
  exact body p e s m below meth c s₁ ⟨Bd.exec, hZ, Bd.bytes, hml0, findClass_of_methodNamed Bd.named, (name_of_methodNamed Bd.named Bd.method).1, Bd.returns, Bd.notSynchronized⟩ ⟨[], X0, e0, Keep.refl _ _, fun y hy => nomatch hy⟩

theorem giload (B : Fix p Z s m meth c bytes maxL own nm ret) (X : St p l e R s m args below meth c h0 ws T h cells slots) {k : Nat} {v : Int32} (hd : decode bytes pc = .ok (.iload k, 2)) (hl : Ls[k]? = some (.val (.int v))) (hp : pc' = pc + 2) (g : Go p e below FE h0 ws Q T (mkF m pc' Ls (.int v :: st))) : Go p e below FE h0 ws Q T (mkF m pc Ls st) := by
  subst hp; obtain ⟨L, X, -⟩ := X; exact Go.to (fun t k => XS.iload X.here B.1 rfl (hb B.2.2.1 hd) hl k) g
theorem giloadN (B : Fix p Z s m meth c bytes maxL own nm ret) (X : St p l e R s m args below meth c h0 ws T h cells slots) {k : Fin 4} {v : Int32} (hd : decode bytes pc = .ok (.iload_n k, 1)) (hl : Ls[k.val]? = some (.val (.int v))) (hp : pc' = pc + 1) (g : Go p e below FE h0 ws Q T (mkF m pc' Ls (.int v :: st))) : Go p e below FE h0 ws Q T (mkF m pc Ls st) := by
  subst hp; obtain ⟨L, X, -⟩ := X; exact Go.to (fun t k => XS.iloadN X.here B.1 rfl (hb B.2.2.1 hd) hl k) g
theorem gistore (B : Fix p Z s m meth c bytes maxL own nm ret) (X : St p l e R s m args below meth c h0 ws T h cells slots) {k : Nat} {v : Int32} (hd : decode bytes pc = .ok (.istore k, 2)) (hl : storeLocals Ls k (.int v) = some Ls') (hp : pc' = pc + 2) (g : Go p e below FE h0 ws Q T (mkF m pc' Ls' st)) : Go p e below FE h0 ws Q T (mkF m pc Ls (.int v :: st)) := by
  subst hp; obtain ⟨L, X, -⟩ := X; exact Go.to (fun t k => XS.istore X.here B.1 rfl (hb B.2.2.1 hd) rfl hl k) g
theorem gistoreN (B : Fix p Z s m meth c bytes maxL own nm ret) (X : St p l e R s m args below meth c h0 ws T h cells slots) {k : Fin 4} {v : Int32} (hd : decode bytes pc = .ok (.istore_n k, 1)) (hl : storeLocals Ls k.val (.int v) = some Ls') (hp : pc' = pc + 1) (g : Go p e below FE h0 ws Q T (mkF m pc' Ls' st)) : Go p e below FE h0 ws Q T (mkF m pc Ls (.int v :: st)) := by
  subst hp; obtain ⟨L, X, -⟩ := X; exact Go.to (fun t k => XS.istoreN X.here B.1 rfl (hb B.2.2.1 hd) rfl hl k) g
theorem glload (B : Fix p Z s m meth c bytes maxL own nm ret) (X : St p l e R s m args below meth c h0 ws T h cells slots) {k : Nat} {v : Int64} (hd : decode bytes pc = .ok (.lload k, 2)) (hl : Ls[k]? = some (.val (.long v))) (hp : pc' = pc + 2) (g : Go p e below FE h0 ws Q T (mkF m pc' Ls (.long v :: st))) : Go p e below FE h0 ws Q T (mkF m pc Ls st) := by
  subst hp; obtain ⟨L, X, -⟩ := X; exact Go.to (fun t k => XS.lload X.here B.1 rfl (hb B.2.2.1 hd) hl k) g
theorem glloadN (B : Fix p Z s m meth c bytes maxL own nm ret) (X : St p l e R s m args below meth c h0 ws T h cells slots) {k : Fin 4} {v : Int64} (hd : decode bytes pc = .ok (.lload_n k, 1)) (hl : Ls[k.val]? = some (.val (.long v))) (hp : pc' = pc + 1) (g : Go p e below FE h0 ws Q T (mkF m pc' Ls (.long v :: st))) : Go p e below FE h0 ws Q T (mkF m pc Ls st) := by
  subst hp; obtain ⟨L, X, -⟩ := X; exact Go.to (fun t k => XS.lloadN X.here B.1 rfl (hb B.2.2.1 hd) hl k) g
theorem glstore (B : Fix p Z s m meth c bytes maxL own nm ret) (X : St p l e R s m args below meth c h0 ws T h cells slots) {k : Nat} {v : Int64} (hd : decode bytes pc = .ok (.lstore k, 2)) (hl : storeLocals Ls k (.long v) = some Ls') (hp : pc' = pc + 2) (g : Go p e below FE h0 ws Q T (mkF m pc' Ls' st)) : Go p e below FE h0 ws Q T (mkF m pc Ls (.long v :: st)) := by
  subst hp; obtain ⟨L, X, -⟩ := X; exact Go.to (fun t k => XS.lstore X.here B.1 rfl (hb B.2.2.1 hd) rfl hl k) g
theorem glstoreN (B : Fix p Z s m meth c bytes maxL own nm ret) (X : St p l e R s m args below meth c h0 ws T h cells slots) {k : Fin 4} {v : Int64} (hd : decode bytes pc = .ok (.lstore_n k, 1)) (hl : storeLocals Ls k.val (.long v) = some Ls') (hp : pc' = pc + 1) (g : Go p e below FE h0 ws Q T (mkF m pc' Ls' st)) : Go p e below FE h0 ws Q T (mkF m pc Ls (.long v :: st)) := by
  subst hp; obtain ⟨L, X, -⟩ := X; exact Go.to (fun t k => XS.lstoreN X.here B.1 rfl (hb B.2.2.1 hd) rfl hl k) g
theorem gaload (B : Fix p Z s m meth c bytes maxL own nm ret) (X : St p l e R s m args below meth c h0 ws T h cells slots) {k : Nat} {v : Value} (hd : decode bytes pc = .ok (.aload k, 2)) (hl : Ls[k]? = some (.val v)) (hv : v.isRef = true) (hp : pc' = pc + 2) (g : Go p e below FE h0 ws Q T (mkF m pc' Ls (v :: st))) : Go p e below FE h0 ws Q T (mkF m pc Ls st) := by
  subst hp; obtain ⟨L, X, -⟩ := X; exact Go.to (fun t k => XS.aload X.here B.1 rfl (hb B.2.2.1 hd) hl hv k) g
theorem galoadN (B : Fix p Z s m meth c bytes maxL own nm ret) (X : St p l e R s m args below meth c h0 ws T h cells slots) {k : Fin 4} {v : Value} (hd : decode bytes pc = .ok (.aload_n k, 1)) (hl : Ls[k.val]? = some (.val v)) (hv : v.isRef = true) (hp : pc' = pc + 1) (g : Go p e below FE h0 ws Q T (mkF m pc' Ls (v :: st))) : Go p e below FE h0 ws Q T (mkF m pc Ls st) := by
  subst hp; obtain ⟨L, X, -⟩ := X; exact Go.to (fun t k => XS.aloadN X.here B.1 rfl (hb B.2.2.1 hd) hl hv k) g
theorem gastore (B : Fix p Z s m meth c bytes maxL own nm ret) (X : St p l e R s m args below meth c h0 ws T h cells slots) {k : Nat} {v : Value} (hd : decode bytes pc = .ok (.astore k, 2)) (hv : v.isRef = true) (hl : storeLocals Ls k v = some Ls') (hp : pc' = pc + 2) (g : Go p e below FE h0 ws Q T (mkF m pc' Ls' st)) : Go p e below FE h0 ws Q T (mkF m pc Ls (v :: st)) := by
  subst hp; obtain ⟨L, X, -⟩ := X; exact Go.to (fun t k => XS.astore X.here B.1 rfl (hb B.2.2.1 hd) rfl hv hl k) g
theorem gastoreN (B : Fix p Z s m meth c bytes maxL own nm ret) (X : St p l e R s m args below meth c h0 ws T h cells slots) {k : Fin 4} {v : Value} (hd : decode bytes pc = .ok (.astore_n k, 1)) (hv : v.isRef = true) (hl : storeLocals Ls k.val v = some Ls') (hp : pc' = pc + 1) (g : Go p e below FE h0 ws Q T (mkF m pc' Ls' st)) : Go p e below FE h0 ws Q T (mkF m pc Ls (v :: st)) := by
  subst hp; obtain ⟨L, X, -⟩ := X; exact Go.to (fun t k => XS.astoreN X.here B.1 rfl (hb B.2.2.1 hd) rfl hv hl k) g
theorem giconst (B : Fix p Z s m meth c bytes maxL own nm ret) (X : St p l e R s m args below meth c h0 ws T h cells slots) {i : Int} {v : Int32} (hd : decode bytes pc = .ok (.iconst i, 1)) (hv : Int32.ofInt i = v) (hp : pc' = pc + 1) (g : Go p e below FE h0 ws Q T (mkF m pc' Ls (.int v :: st))) : Go p e below FE h0 ws Q T (mkF m pc Ls st) := by
  subst hp; subst hv; obtain ⟨L, X, -⟩ := X; exact Go.to (fun t k => XS.iconst X.here B.1 rfl (hb B.2.2.1 hd) k) g
theorem gbipush (B : Fix p Z s m meth c bytes maxL own nm ret) (X : St p l e R s m args below meth c h0 ws T h cells slots) {i : Int} {v : Int32} (hd : decode bytes pc = .ok (.bipush i, 2)) (hv : (Int8.ofInt i).toInt32 = v) (hp : pc' = pc + 2) (g : Go p e below FE h0 ws Q T (mkF m pc' Ls (.int v :: st))) : Go p e below FE h0 ws Q T (mkF m pc Ls st) := by
  subst hp; subst hv; obtain ⟨L, X, -⟩ := X; exact Go.to (fun t k => XS.bipush X.here B.1 rfl (hb B.2.2.1 hd) k) g
theorem gsipush (B : Fix p Z s m meth c bytes maxL own nm ret) (X : St p l e R s m args below meth c h0 ws T h cells slots) {i : Int} {v : Int32} (hd : decode bytes pc = .ok (.sipush i, 3)) (hv : (Int16.ofInt i).toInt32 = v) (hp : pc' = pc + 3) (g : Go p e below FE h0 ws Q T (mkF m pc' Ls (.int v :: st))) : Go p e below FE h0 ws Q T (mkF m pc Ls st) := by
  subst hp; subst hv; obtain ⟨L, X, -⟩ := X; exact Go.to (fun t k => XS.sipush X.here B.1 rfl (hb B.2.2.1 hd) k) g
theorem glconst (B : Fix p Z s m meth c bytes maxL own nm ret) (X : St p l e R s m args below meth c h0 ws T h cells slots) {k : Fin 2} {v : Int64} (hd : decode bytes pc = .ok (.lconst k, 1)) (hv : Int64.ofNat k = v) (hp : pc' = pc + 1) (g : Go p e below FE h0 ws Q T (mkF m pc' Ls (.long v :: st))) : Go p e below FE h0 ws Q T (mkF m pc Ls st) := by
  subst hp; subst hv; obtain ⟨L, X, -⟩ := X; exact Go.to (fun t k => XS.lconst X.here B.1 rfl (hb B.2.2.1 hd) k) g
theorem gnull (B : Fix p Z s m meth c bytes maxL own nm ret) (X : St p l e R s m args below meth c h0 ws T h cells slots)  (hd : decode bytes pc = .ok (.aconst_null, 1))  (hp : pc' = pc + 1) (g : Go p e below FE h0 ws Q T (mkF m pc' Ls (.null :: st))) : Go p e below FE h0 ws Q T (mkF m pc Ls st) := by
  subst hp; obtain ⟨L, X, -⟩ := X; exact Go.to (fun t k => XS.aconstNull X.here B.1 rfl (hb B.2.2.1 hd)  k) g
theorem giadd (B : Fix p Z s m meth c bytes maxL own nm ret) (X : St p l e R s m args below meth c h0 ws T h cells slots) {x y : Int32} {v : Int32} (hd : decode bytes pc = .ok (.iadd, 1))  (hv : x + y = v) (hp : pc' = pc + 1) (g : Go p e below FE h0 ws Q T (mkF m pc' Ls (.int v :: st))) : Go p e below FE h0 ws Q T (mkF m pc Ls (.int y :: .int x :: st)) := by
  subst hp; subst hv; obtain ⟨L, X, -⟩ := X; exact Go.to (fun t k => XS.iadd X.here B.1 rfl (hb B.2.2.1 hd) rfl k) g
theorem gladd (B : Fix p Z s m meth c bytes maxL own nm ret) (X : St p l e R s m args below meth c h0 ws T h cells slots) {x y : Int64} {v : Int64} (hd : decode bytes pc = .ok (.ladd, 1))  (hv : x + y = v) (hp : pc' = pc + 1) (g : Go p e below FE h0 ws Q T (mkF m pc' Ls (.long v :: st))) : Go p e below FE h0 ws Q T (mkF m pc Ls (.long y :: .long x :: st)) := by
  subst hp; subst hv; obtain ⟨L, X, -⟩ := X; exact Go.to (fun t k => XS.ladd X.here B.1 rfl (hb B.2.2.1 hd) rfl k) g
theorem gisub (B : Fix p Z s m meth c bytes maxL own nm ret) (X : St p l e R s m args below meth c h0 ws T h cells slots) {x y : Int32} {v : Int32} (hd : decode bytes pc = .ok (.isub, 1))  (hv : x - y = v) (hp : pc' = pc + 1) (g : Go p e below FE h0 ws Q T (mkF m pc' Ls (.int v :: st))) : Go p e below FE h0 ws Q T (mkF m pc Ls (.int y :: .int x :: st)) := by
  subst hp; subst hv; obtain ⟨L, X, -⟩ := X; exact Go.to (fun t k => XS.isub X.here B.1 rfl (hb B.2.2.1 hd) rfl k) g
theorem glsub (B : Fix p Z s m meth c bytes maxL own nm ret) (X : St p l e R s m args below meth c h0 ws T h cells slots) {x y : Int64} {v : Int64} (hd : decode bytes pc = .ok (.lsub, 1))  (hv : x - y = v) (hp : pc' = pc + 1) (g : Go p e below FE h0 ws Q T (mkF m pc' Ls (.long v :: st))) : Go p e below FE h0 ws Q T (mkF m pc Ls (.long y :: .long x :: st)) := by
  subst hp; subst hv; obtain ⟨L, X, -⟩ := X; exact Go.to (fun t k => XS.lsub X.here B.1 rfl (hb B.2.2.1 hd) rfl k) g
theorem gimul (B : Fix p Z s m meth c bytes maxL own nm ret) (X : St p l e R s m args below meth c h0 ws T h cells slots) {x y : Int32} {v : Int32} (hd : decode bytes pc = .ok (.imul, 1))  (hv : x * y = v) (hp : pc' = pc + 1) (g : Go p e below FE h0 ws Q T (mkF m pc' Ls (.int v :: st))) : Go p e below FE h0 ws Q T (mkF m pc Ls (.int y :: .int x :: st)) := by
  subst hp; subst hv; obtain ⟨L, X, -⟩ := X; exact Go.to (fun t k => XS.imul X.here B.1 rfl (hb B.2.2.1 hd) rfl k) g
theorem glmul (B : Fix p Z s m meth c bytes maxL own nm ret) (X : St p l e R s m args below meth c h0 ws T h cells slots) {x y : Int64} {v : Int64} (hd : decode bytes pc = .ok (.lmul, 1))  (hv : x * y = v) (hp : pc' = pc + 1) (g : Go p e below FE h0 ws Q T (mkF m pc' Ls (.long v :: st))) : Go p e below FE h0 ws Q T (mkF m pc Ls (.long y :: .long x :: st)) := by
  subst hp; subst hv; obtain ⟨L, X, -⟩ := X; exact Go.to (fun t k => XS.lmul X.here B.1 rfl (hb B.2.2.1 hd) rfl k) g
theorem giand (B : Fix p Z s m meth c bytes maxL own nm ret) (X : St p l e R s m args below meth c h0 ws T h cells slots) {x y : Int32} {v : Int32} (hd : decode bytes pc = .ok (.iand, 1))  (hv : x &&& y = v) (hp : pc' = pc + 1) (g : Go p e below FE h0 ws Q T (mkF m pc' Ls (.int v :: st))) : Go p e below FE h0 ws Q T (mkF m pc Ls (.int y :: .int x :: st)) := by
  subst hp; subst hv; obtain ⟨L, X, -⟩ := X; exact Go.to (fun t k => XS.iand X.here B.1 rfl (hb B.2.2.1 hd) rfl k) g
theorem gland (B : Fix p Z s m meth c bytes maxL own nm ret) (X : St p l e R s m args below meth c h0 ws T h cells slots) {x y : Int64} {v : Int64} (hd : decode bytes pc = .ok (.land, 1))  (hv : x &&& y = v) (hp : pc' = pc + 1) (g : Go p e below FE h0 ws Q T (mkF m pc' Ls (.long v :: st))) : Go p e below FE h0 ws Q T (mkF m pc Ls (.long y :: .long x :: st)) := by
  subst hp; subst hv; obtain ⟨L, X, -⟩ := X; exact Go.to (fun t k => XS.land X.here B.1 rfl (hb B.2.2.1 hd) rfl k) g
theorem gior (B : Fix p Z s m meth c bytes maxL own nm ret) (X : St p l e R s m args below meth c h0 ws T h cells slots) {x y : Int32} {v : Int32} (hd : decode bytes pc = .ok (.ior, 1))  (hv : x ||| y = v) (hp : pc' = pc + 1) (g : Go p e below FE h0 ws Q T (mkF m pc' Ls (.int v :: st))) : Go p e below FE h0 ws Q T (mkF m pc Ls (.int y :: .int x :: st)) := by
  subst hp; subst hv; obtain ⟨L, X, -⟩ := X; exact Go.to (fun t k => XS.ior X.here B.1 rfl (hb B.2.2.1 hd) rfl k) g
theorem glor (B : Fix p Z s m meth c bytes maxL own nm ret) (X : St p l e R s m args below meth c h0 ws T h cells slots) {x y : Int64} {v : Int64} (hd : decode bytes pc = .ok (.lor, 1))  (hv : x ||| y = v) (hp : pc' = pc + 1) (g : Go p e below FE h0 ws Q T (mkF m pc' Ls (.long v :: st))) : Go p e below FE h0 ws Q T (mkF m pc Ls (.long y :: .long x :: st)) := by
  subst hp; subst hv; obtain ⟨L, X, -⟩ := X; exact Go.to (fun t k => XS.lor X.here B.1 rfl (hb B.2.2.1 hd) rfl k) g
theorem gixor (B : Fix p Z s m meth c bytes maxL own nm ret) (X : St p l e R s m args below meth c h0 ws T h cells slots) {x y : Int32} {v : Int32} (hd : decode bytes pc = .ok (.ixor, 1))  (hv : x ^^^ y = v) (hp : pc' = pc + 1) (g : Go p e below FE h0 ws Q T (mkF m pc' Ls (.int v :: st))) : Go p e below FE h0 ws Q T (mkF m pc Ls (.int y :: .int x :: st)) := by
  subst hp; subst hv; obtain ⟨L, X, -⟩ := X; exact Go.to (fun t k => XS.ixor X.here B.1 rfl (hb B.2.2.1 hd) rfl k) g
theorem glxor (B : Fix p Z s m meth c bytes maxL own nm ret) (X : St p l e R s m args below meth c h0 ws T h cells slots) {x y : Int64} {v : Int64} (hd : decode bytes pc = .ok (.lxor, 1))  (hv : x ^^^ y = v) (hp : pc' = pc + 1) (g : Go p e below FE h0 ws Q T (mkF m pc' Ls (.long v :: st))) : Go p e below FE h0 ws Q T (mkF m pc Ls (.long y :: .long x :: st)) := by
  subst hp; subst hv; obtain ⟨L, X, -⟩ := X; exact Go.to (fun t k => XS.lxor X.here B.1 rfl (hb B.2.2.1 hd) rfl k) g
theorem gidiv (B : Fix p Z s m meth c bytes maxL own nm ret) (X : St p l e R s m args below meth c h0 ws T h cells slots) {x y : Int32} {v : Int32} (hd : decode bytes pc = .ok (.idiv, 1)) (hy : y ≠ 0) (hv : x / y = v) (hp : pc' = pc + 1) (g : Go p e below FE h0 ws Q T (mkF m pc' Ls (.int v :: st))) : Go p e below FE h0 ws Q T (mkF m pc Ls (.int y :: .int x :: st)) := by
  subst hp; subst hv; obtain ⟨L, X, -⟩ := X; exact Go.to (fun t k => XS.idiv X.here B.1 rfl (hb B.2.2.1 hd) rfl hy k) g
theorem gldiv (B : Fix p Z s m meth c bytes maxL own nm ret) (X : St p l e R s m args below meth c h0 ws T h cells slots) {x y : Int64} {v : Int64} (hd : decode bytes pc = .ok (.ldiv, 1)) (hy : y ≠ 0) (hv : x / y = v) (hp : pc' = pc + 1) (g : Go p e below FE h0 ws Q T (mkF m pc' Ls (.long v :: st))) : Go p e below FE h0 ws Q T (mkF m pc Ls (.long y :: .long x :: st)) := by
  subst hp; subst hv; obtain ⟨L, X, -⟩ := X; exact Go.to (fun t k => XS.ldiv X.here B.1 rfl (hb B.2.2.1 hd) rfl hy k) g
theorem girem (B : Fix p Z s m meth c bytes maxL own nm ret) (X : St p l e R s m args below meth c h0 ws T h cells slots) {x y v : Int32} (hd : decode bytes pc = .ok (.irem, 1)) (hy : y ≠ 0) (hv : x % y = v) (hp : pc' = pc + 1) (g : Go p e below FE h0 ws Q T (mkF m pc' Ls (.int v :: st))) : Go p e below FE h0 ws Q T (mkF m pc Ls (.int y :: .int x :: st)) := by
  subst hp; subst hv; obtain ⟨L, X, -⟩ := X; exact Go.to (fun t k => iremM X B.1 rfl (hb B.2.2.1 hd) rfl hy k) g
theorem glrem (B : Fix p Z s m meth c bytes maxL own nm ret) (X : St p l e R s m args below meth c h0 ws T h cells slots) {x y v : Int64} (hd : decode bytes pc = .ok (.lrem, 1)) (hy : y ≠ 0) (hv : x % y = v) (hp : pc' = pc + 1) (g : Go p e below FE h0 ws Q T (mkF m pc' Ls (.long v :: st))) : Go p e below FE h0 ws Q T (mkF m pc Ls (.long y :: .long x :: st)) := by
  subst hp; subst hv; obtain ⟨L, X, -⟩ := X; exact Go.to (fun t k => XS.lrem X.here B.1 rfl (hb B.2.2.1 hd) rfl hy (by rw [lrem_mod]; exact k)) g
theorem gishl (B : Fix p Z s m meth c bytes maxL own nm ret) (X : St p l e R s m args below meth c h0 ws T h cells slots) {x y : Int32} {v : Int32} (hd : decode bytes pc = .ok (.ishl, 1))  (hv : x <<< (y &&& 31) = v) (hp : pc' = pc + 1) (g : Go p e below FE h0 ws Q T (mkF m pc' Ls (.int v :: st))) : Go p e below FE h0 ws Q T (mkF m pc Ls (.int y :: .int x :: st)) := by
  subst hp; subst hv; obtain ⟨L, X, -⟩ := X; exact Go.to (fun t k => XS.ishl X.here B.1 rfl (hb B.2.2.1 hd) rfl k) g
theorem gishr (B : Fix p Z s m meth c bytes maxL own nm ret) (X : St p l e R s m args below meth c h0 ws T h cells slots) {x y : Int32} {v : Int32} (hd : decode bytes pc = .ok (.ishr, 1))  (hv : x >>> (y &&& 31) = v) (hp : pc' = pc + 1) (g : Go p e below FE h0 ws Q T (mkF m pc' Ls (.int v :: st))) : Go p e below FE h0 ws Q T (mkF m pc Ls (.int y :: .int x :: st)) := by
  subst hp; subst hv; obtain ⟨L, X, -⟩ := X; exact Go.to (fun t k => XS.ishr X.here B.1 rfl (hb B.2.2.1 hd) rfl k) g
theorem giushr (B : Fix p Z s m meth c bytes maxL own nm ret) (X : St p l e R s m args below meth c h0 ws T h cells slots) {x y : Int32} {v : Int32} (hd : decode bytes pc = .ok (.iushr, 1))  (hv : (x.toUInt32 >>> (y &&& 31).toUInt32).toInt32 = v) (hp : pc' = pc + 1) (g : Go p e below FE h0 ws Q T (mkF m pc' Ls (.int v :: st))) : Go p e below FE h0 ws Q T (mkF m pc Ls (.int y :: .int x :: st)) := by
  subst hp; subst hv; obtain ⟨L, X, -⟩ := X; exact Go.to (fun t k => XS.iushr X.here B.1 rfl (hb B.2.2.1 hd) rfl k) g
theorem glshl (B : Fix p Z s m meth c bytes maxL own nm ret) (X : St p l e R s m args below meth c h0 ws T h cells slots) {x : Int64} {y : Int32} {v : Int64} (hd : decode bytes pc = .ok (.lshl, 1))  (hv : x <<< (y &&& 0x3f).toInt64 = v) (hp : pc' = pc + 1) (g : Go p e below FE h0 ws Q T (mkF m pc' Ls (.long v :: st))) : Go p e below FE h0 ws Q T (mkF m pc Ls (.int y :: .long x :: st)) := by
  subst hp; subst hv; obtain ⟨L, X, -⟩ := X; exact Go.to (fun t k => XS.lshl X.here B.1 rfl (hb B.2.2.1 hd) rfl k) g
theorem glshr (B : Fix p Z s m meth c bytes maxL own nm ret) (X : St p l e R s m args below meth c h0 ws T h cells slots) {x : Int64} {y : Int32} {v : Int64} (hd : decode bytes pc = .ok (.lshr, 1))  (hv : x >>> (y &&& 0x3f).toInt64 = v) (hp : pc' = pc + 1) (g : Go p e below FE h0 ws Q T (mkF m pc' Ls (.long v :: st))) : Go p e below FE h0 ws Q T (mkF m pc Ls (.int y :: .long x :: st)) := by
  subst hp; subst hv; obtain ⟨L, X, -⟩ := X; exact Go.to (fun t k => XS.lshr X.here B.1 rfl (hb B.2.2.1 hd) rfl k) g
theorem glushr (B : Fix p Z s m meth c bytes maxL own nm ret) (X : St p l e R s m args below meth c h0 ws T h cells slots) {x : Int64} {y : Int32} {v : Int64} (hd : decode bytes pc = .ok (.lushr, 1))  (hv : (x.toUInt64 >>> (y &&& 0x3f).toInt64.toUInt64).toInt64 = v) (hp : pc' = pc + 1) (g : Go p e below FE h0 ws Q T (mkF m pc' Ls (.long v :: st))) : Go p e below FE h0 ws Q T (mkF m pc Ls (.int y :: .long x :: st)) := by
  subst hp; subst hv; obtain ⟨L, X, -⟩ := X; exact Go.to (fun t k => XS.lushr X.here B.1 rfl (hb B.2.2.1 hd) rfl k) g
theorem gineg (B : Fix p Z s m meth c bytes maxL own nm ret) (X : St p l e R s m args below meth c h0 ws T h cells slots) {x : Int32} {v : Int32} (hd : decode bytes pc = .ok (.ineg, 1))  (hv : -x = v) (hp : pc' = pc + 1) (g : Go p e below FE h0 ws Q T (mkF m pc' Ls (.int v :: st))) : Go p e below FE h0 ws Q T (mkF m pc Ls (.int x :: st)) := by
  subst hp; subst hv; obtain ⟨L, X, -⟩ := X; exact Go.to (fun t k => XS.ineg X.here B.1 rfl (hb B.2.2.1 hd) rfl k) g
theorem glneg (B : Fix p Z s m meth c bytes maxL own nm ret) (X : St p l e R s m args below meth c h0 ws T h cells slots) {x : Int64} {v : Int64} (hd : decode bytes pc = .ok (.lneg, 1))  (hv : -x = v) (hp : pc' = pc + 1) (g : Go p e below FE h0 ws Q T (mkF m pc' Ls (.long v :: st))) : Go p e below FE h0 ws Q T (mkF m pc Ls (.long x :: st)) := by
  subst hp; subst hv; obtain ⟨L, X, -⟩ := X; exact Go.to (fun t k => XS.lneg X.here B.1 rfl (hb B.2.2.1 hd) rfl k) g
theorem gi2l (B : Fix p Z s m meth c bytes maxL own nm ret) (X : St p l e R s m args below meth c h0 ws T h cells slots) {x : Int32} {v : Int64} (hd : decode bytes pc = .ok (.i2l, 1))  (hv : x.toInt64 = v) (hp : pc' = pc + 1) (g : Go p e below FE h0 ws Q T (mkF m pc' Ls (.long v :: st))) : Go p e below FE h0 ws Q T (mkF m pc Ls (.int x :: st)) := by
  subst hp; subst hv; obtain ⟨L, X, -⟩ := X; exact Go.to (fun t k => XS.i2l X.here B.1 rfl (hb B.2.2.1 hd) rfl k) g
theorem gl2i (B : Fix p Z s m meth c bytes maxL own nm ret) (X : St p l e R s m args below meth c h0 ws T h cells slots) {x : Int64} {v : Int32} (hd : decode bytes pc = .ok (.l2i, 1))  (hv : x.toInt32 = v) (hp : pc' = pc + 1) (g : Go p e below FE h0 ws Q T (mkF m pc' Ls (.int v :: st))) : Go p e below FE h0 ws Q T (mkF m pc Ls (.long x :: st)) := by
  subst hp; subst hv; obtain ⟨L, X, -⟩ := X; exact Go.to (fun t k => XS.l2i X.here B.1 rfl (hb B.2.2.1 hd) rfl k) g
theorem gi2b (B : Fix p Z s m meth c bytes maxL own nm ret) (X : St p l e R s m args below meth c h0 ws T h cells slots) {x : Int32} {v : Int32} (hd : decode bytes pc = .ok (.i2b, 1))  (hv : x.toInt8.toInt32 = v) (hp : pc' = pc + 1) (g : Go p e below FE h0 ws Q T (mkF m pc' Ls (.int v :: st))) : Go p e below FE h0 ws Q T (mkF m pc Ls (.int x :: st)) := by
  subst hp; subst hv; obtain ⟨L, X, -⟩ := X; exact Go.to (fun t k => XS.i2b X.here B.1 rfl (hb B.2.2.1 hd) rfl k) g
theorem gi2s (B : Fix p Z s m meth c bytes maxL own nm ret) (X : St p l e R s m args below meth c h0 ws T h cells slots) {x : Int32} {v : Int32} (hd : decode bytes pc = .ok (.i2s, 1))  (hv : x.toInt16.toInt32 = v) (hp : pc' = pc + 1) (g : Go p e below FE h0 ws Q T (mkF m pc' Ls (.int v :: st))) : Go p e below FE h0 ws Q T (mkF m pc Ls (.int x :: st)) := by
  subst hp; subst hv; obtain ⟨L, X, -⟩ := X; exact Go.to (fun t k => XS.i2s X.here B.1 rfl (hb B.2.2.1 hd) rfl k) g
theorem gi2c (B : Fix p Z s m meth c bytes maxL own nm ret) (X : St p l e R s m args below meth c h0 ws T h cells slots) {x : Int32} {v : Int32} (hd : decode bytes pc = .ok (.i2c, 1))  (hv : x.toUInt32.toUInt16.toUInt32.toInt32 = v) (hp : pc' = pc + 1) (g : Go p e below FE h0 ws Q T (mkF m pc' Ls (.int v :: st))) : Go p e below FE h0 ws Q T (mkF m pc Ls (.int x :: st)) := by
  subst hp; subst hv; obtain ⟨L, X, -⟩ := X; exact Go.to (fun t k => XS.i2c X.here B.1 rfl (hb B.2.2.1 hd) rfl k) g
theorem glcmp (B : Fix p Z s m meth c bytes maxL own nm ret) (X : St p l e R s m args below meth c h0 ws T h cells slots) {x y : Int64} (hd : decode bytes pc = .ok (.lcmp, 1))  (hp : pc' = pc + 1) (g : Go p e below FE h0 ws Q T (mkF m pc' Ls (.int (lcmpW x y) :: st))) : Go p e below FE h0 ws Q T (mkF m pc Ls (.long y :: .long x :: st)) := by
  subst hp; obtain ⟨L, X, -⟩ := X; exact Go.to (fun t k => XS.lcmp X.here B.1 rfl (hb B.2.2.1 hd) rfl k) g
theorem gdup (B : Fix p Z s m meth c bytes maxL own nm ret) (X : St p l e R s m args below meth c h0 ws T h cells slots) {x : Value} (hd : decode bytes pc = .ok (.dup, 1)) (hc : x.category = 1) (hp : pc' = pc + 1) (g : Go p e below FE h0 ws Q T (mkF m pc' Ls (x :: x :: st))) : Go p e below FE h0 ws Q T (mkF m pc Ls (x :: st)) := by
  subst hp; obtain ⟨L, X, -⟩ := X; exact Go.to (fun t k => XS.dup X.here B.1 rfl (hb B.2.2.1 hd) rfl hc k) g
theorem gpop (B : Fix p Z s m meth c bytes maxL own nm ret) (X : St p l e R s m args below meth c h0 ws T h cells slots) {x : Value} (hd : decode bytes pc = .ok (.pop, 1)) (hc : x.category = 1) (hp : pc' = pc + 1) (g : Go p e below FE h0 ws Q T (mkF m pc' Ls st)) : Go p e below FE h0 ws Q T (mkF m pc Ls (x :: st)) := by
  subst hp; obtain ⟨L, X, -⟩ := X; exact Go.to (fun t k => XS.pop X.here B.1 rfl (hb B.2.2.1 hd) rfl hc k) g
theorem gdup_x1 (B : Fix p Z s m meth c bytes maxL own nm ret) (X : St p l e R s m args below meth c h0 ws T h cells slots) {x y : Value} (hd : decode bytes pc = .ok (.dup_x1, 1)) (hc : x.category = 1) (hc2 : y.category = 1) (hp : pc' = pc + 1) (g : Go p e below FE h0 ws Q T (mkF m pc' Ls (x :: y :: x :: st))) : Go p e below FE h0 ws Q T (mkF m pc Ls (x :: y :: st)) := by
  subst hp; obtain ⟨L, X, -⟩ := X; exact Go.to (fun t k => XS.dupX1 X.here B.1 rfl (hb B.2.2.1 hd) rfl hc hc2 k) g
theorem gdup2 (B : Fix p Z s m meth c bytes maxL own nm ret) (X : St p l e R s m args below meth c h0 ws T h cells slots) {x y : Value} (hd : decode bytes pc = .ok (.dup2, 1)) (hc : x.category = 1) (hc2 : y.category = 1) (hp : pc' = pc + 1) (g : Go p e below FE h0 ws Q T (mkF m pc' Ls (x :: y :: x :: y :: st))) : Go p e below FE h0 ws Q T (mkF m pc Ls (x :: y :: st)) := by
  subst hp; obtain ⟨L, X, -⟩ := X; exact Go.to (fun t k => Jvm.Free.XT.dup2 X.here B.1 rfl (hb B.2.2.1 hd) rfl hc hc2 k) g
theorem xdup_x2 {tb : Tables} [Ours tb] {target : State} {g : JFrame} (h : At T m c below) (hx : tb.exec = Jvm.exec) (hg : g.method = m) {x y z : Value} {rest : List Value} (hd : decode c.code g.pc = .ok (.dup_x2, 1)) (hs : g.stack = x :: y :: z :: rest) (hc : x.category = 1) (hc' : y.category = 1) (hc2 : z.category = 1)
    (hr : Steps tb e below (T.setTop { g with pc := g.pc + 1, stack := x :: y :: z :: x :: rest }) target) : Steps tb e below (T.setTop g) target := by
  subst hg
  jvm_step h [h.top, hx, hd, hs, hc, hc', hc2]
  exact hr
theorem gdup_x2 (B : Fix p Z s m meth c bytes maxL own nm ret) (X : St p l e R s m args below meth c h0 ws T h cells slots) {x y z : Value} (hd : decode bytes pc = .ok (.dup_x2, 1)) (hc : x.category = 1) (hc2 : y.category = 1) (hc3 : z.category = 1) (hp : pc' = pc + 1) (g : Go p e below FE h0 ws Q T (mkF m pc' Ls (x :: y :: z :: x :: st))) : Go p e below FE h0 ws Q T (mkF m pc Ls (x :: y :: z :: st)) := by
  subst hp; obtain ⟨L, X, -⟩ := X; exact Go.to (fun t k => xdup_x2 X.here B.1 rfl (hb B.2.2.1 hd) rfl hc hc2 hc3 k) g
theorem giinc (B : Fix p Z s m meth c bytes maxL own nm ret) (X : St p l e R s m args below meth c h0 ws T h cells slots) {k : Nat} {cst : Int} {x v : Int32} (hd : decode bytes pc = .ok (.iinc k cst, 3)) (hl : Ls[k]? = some (.val (.int x))) (hv : x + Int32.ofInt cst = v) (hl' : storeLocals Ls k (.int v) = some Ls') (hp : pc' = pc + 3) (g : Go p e below FE h0 ws Q T (mkF m pc' Ls' st)) : Go p e below FE h0 ws Q T (mkF m pc Ls st) := by
  subst hp; subst hv; obtain ⟨L, X, -⟩ := X; exact Go.to (fun t k => XS.iinc X.here B.1 rfl (hb B.2.2.1 hd) hl hl' k) g
theorem ggoto (B : Fix p Z s m meth c bytes maxL own nm ret) (X : St p l e R s m args below meth c h0 ws T h cells slots) {o : Int} (hd : decode bytes pc = .ok (.goto o, 3)) (ho : 0 ≤ (pc : Int) + o ∧ ((pc : Int) + o).toNat = pc') (g : Go p e below FE h0 ws Q T (mkF m pc' Ls st)) : Go p e below FE h0 ws Q T (mkF m pc Ls st) := by
  obtain ⟨L, X, -⟩ := X; exact Go.to (fun t k => XS.goto X.here B.1 rfl (pc0 := pc) rfl (hb B.2.2.1 hd) ho.1 ho.2 k) g
theorem gifY (B : Fix p Z s m meth c bytes maxL own nm ret) (X : St p l e R s m args below meth c h0 ws T h cells slots) {cd : ClassFile.Cond} {o : Int} {x : Int32} (hd : decode bytes pc = .ok (.ifCond cd o, 3)) (hc : ifCond.holds cd x = true) (ho : 0 ≤ (pc : Int) + o ∧ ((pc : Int) + o).toNat = pc') (g : Go p e below FE h0 ws Q T (mkF m pc' Ls st)) : Go p e below FE h0 ws Q T (mkF m pc Ls (.int x :: st)) := by
  obtain ⟨L, X, -⟩ := X; exact Go.to (fun t k => XS.ifYes X.here B.1 rfl (pc0 := pc) rfl (hb B.2.2.1 hd) rfl hc ho.1 ho.2 k) g
theorem gifN (B : Fix p Z s m meth c bytes maxL own nm ret) (X : St p l e R s m args below meth c h0 ws T h cells slots) {cd : ClassFile.Cond} {o : Int} {x : Int32} (hd : decode bytes pc = .ok (.ifCond cd o, 3)) (hc : ifCond.holds cd x = false) (hp : pc' = pc + 3) (g : Go p e below FE h0 ws Q T (mkF m pc' Ls st)) : Go p e below FE h0 ws Q T (mkF m pc Ls (.int x :: st)) := by
  subst hp; obtain ⟨L, X, -⟩ := X; exact Go.to (fun t k => XS.ifNo X.here B.1 rfl (hb B.2.2.1 hd) rfl hc k) g
theorem gicY (B : Fix p Z s m meth c bytes maxL own nm ret) (X : St p l e R s m args below meth c h0 ws T h cells slots) {cd : ClassFile.Cond} {o : Int} {x y : Int32} (hd : decode bytes pc = .ok (.if_icmp cd o, 3)) (hc : if_icmp.holds cd x y = true) (ho : 0 ≤ (pc : Int) + o ∧ ((pc : Int) + o).toNat = pc') (g : Go p e below FE h0 ws Q T (mkF m pc' Ls st)) : Go p e below FE h0 ws Q T (mkF m pc Ls (.int y :: .int x :: st)) := by
  obtain ⟨L, X, -⟩ := X; exact Go.to (fun t k => XS.icmpYes X.here B.1 rfl (pc0 := pc) rfl (hb B.2.2.1 hd) rfl hc ho.1 ho.2 k) g
theorem gicN (B : Fix p Z s m meth c bytes maxL own nm ret) (X : St p l e R s m args below meth c h0 ws T h cells slots) {cd : ClassFile.Cond} {o : Int} {x y : Int32} (hd : decode bytes pc = .ok (.if_icmp cd o, 3)) (hc : if_icmp.holds cd x y = false) (hp : pc' = pc + 3) (g : Go p e below FE h0 ws Q T (mkF m pc' Ls st)) : Go p e below FE h0 ws Q T (mkF m pc Ls (.int y :: .int x :: st)) := by
  subst hp; obtain ⟨L, X, -⟩ := X; exact Go.to (fun t k => XS.icmpNo X.here B.1 rfl (hb B.2.2.1 hd) rfl hc k) g
theorem gnullN (B : Fix p Z s m meth c bytes maxL own nm ret) (X : St p l e R s m args below meth c h0 ws T h cells slots) {a : Addr} {o : Int} (hd : decode bytes pc = .ok (.ifnull o, 3)) (hp : pc' = pc + 3) (g : Go p e below FE h0 ws Q T (mkF m pc' Ls st)) : Go p e below FE h0 ws Q T (mkF m pc Ls (.ref a :: st)) := by
  subst hp; obtain ⟨L, X, -⟩ := X; exact Go.to (fun t k => XS.ifnullNo X.here B.1 rfl (hb B.2.2.1 hd) rfl k) g
theorem gldc (B : Fix p Z s m meth c bytes maxL own nm ret) (X : St p l e R s m args below meth c h0 ws T h cells slots) {i : Nat} {v : Int32} (w : (Cond.constant own i v).before a0 Z = true) (hd : decode bytes pc = .ok (.ldc i, 2)) (hp : pc' = pc + 2) (g : Go p e below FE h0 ws Q T (mkF m pc' Ls (.int v :: st))) : Go p e below FE h0 ws Q T (mkF m pc Ls st) := by
  subst hp; obtain ⟨L, X, -⟩ := X; exact Go.to (fun t k => X.ldcInt B.1 B.2.2.2.2.1 (mvT B.2.1 w) (g := mkF m pc Ls st) rfl (hb B.2.2.1 hd) t k) g
theorem gldcw (B : Fix p Z s m meth c bytes maxL own nm ret) (X : St p l e R s m args below meth c h0 ws T h cells slots) {i : Nat} {v : Int32} (w : (Cond.constant own i v).before a0 Z = true) (hd : decode bytes pc = .ok (.ldc_w i, 3)) (hp : pc' = pc + 3) (g : Go p e below FE h0 ws Q T (mkF m pc' Ls (.int v :: st))) : Go p e below FE h0 ws Q T (mkF m pc Ls st) := by
  subst hp; obtain ⟨L, X, -⟩ := X; exact Go.to (fun t k => X.ldcwInt B.1 B.2.2.2.2.1 (mvT B.2.1 w) (g := mkF m pc Ls st) rfl (hb B.2.2.1 hd) t k) g
theorem gldc2 (B : Fix p Z s m meth c bytes maxL own nm ret) (X : St p l e R s m args below meth c h0 ws T h cells slots) {i : Nat} {v : Int64} (w : (Cond.constantLong own i v).before a0 Z = true) (hd : decode bytes pc = .ok (.ldc2_w i, 3)) (hp : pc' = pc + 3) (g : Go p e below FE h0 ws Q T (mkF m pc' Ls (.long v :: st))) : Go p e below FE h0 ws Q T (mkF m pc Ls st) := by
  subst hp; obtain ⟨L, X, -⟩ := X; exact Go.to (fun t k => X.ldc2Long B.1 B.2.2.2.2.1 (mvT B.2.1 w) (g := mkF m pc Ls st) rfl (hb B.2.2.1 hd) t k) g
theorem giaload (B : Fix p Z s m meth c bytes maxL own nm ret) (X : St p l e R s m args below meth c h0 ws T h cells slots) {a : Addr} {vs : List Value} {j : Int32} {v : Value} {n : Nat} (A : VA Z h a .int vs) (hn : vs.length = n) (hj : 0 ≤ j.toInt ∧ j.toInt < n) (hv : vs[j.toNatClampNeg]? = some v) (hd : decode bytes pc = .ok (.iaload, 1)) (hp : pc' = pc + 1) (g : Go p e below FE h0 ws Q T (mkF m pc' Ls (v :: st))) : Go p e below FE h0 ws Q T (mkF m pc Ls (.int j :: .ref a :: st)) := by
  subst hp; subst hn; obtain ⟨L, X, eT, -⟩ := X; obtain ⟨cl, A, r, n⟩ := A
  exact Go.to (fun t k => X.iaload B.1 (by rw [eT]; exact A.1) (State.isArrayOf_alike B.2.1.alike A.2.1) A.2.2 (by rw [r]; exact inb (by simpa using hj)) (by rw [r]; simpa using hv) (g := mkF m pc Ls (.int j :: .ref a :: st)) rfl rfl (hb B.2.2.1 hd) t k) g
theorem glaload (B : Fix p Z s m meth c bytes maxL own nm ret) (X : St p l e R s m args below meth c h0 ws T h cells slots) {a : Addr} {vs : List Value} {j : Int32} {v : Value} {n : Nat} (A : VA Z h a .long vs) (hn : vs.length = n) (hj : 0 ≤ j.toInt ∧ j.toInt < n) (hv : vs[j.toNatClampNeg]? = some v) (hd : decode bytes pc = .ok (.laload, 1)) (hp : pc' = pc + 1) (g : Go p e below FE h0 ws Q T (mkF m pc' Ls (v :: st))) : Go p e below FE h0 ws Q T (mkF m pc Ls (.int j :: .ref a :: st)) := by
  subst hp; subst hn; obtain ⟨L, X, eT, -⟩ := X; obtain ⟨cl, A, r, n⟩ := A
  exact Go.to (fun t k => X.laload B.1 (by rw [eT]; exact A.1) (State.isArrayOf_alike B.2.1.alike A.2.1) A.2.2 (by rw [r]; exact inb (by simpa using hj)) (by rw [r]; simpa using hv) (g := mkF m pc Ls (.int j :: .ref a :: st)) rfl rfl (hb B.2.2.1 hd) t k) g
theorem gbaload (B : Fix p Z s m meth c bytes maxL own nm ret) (X : St p l e R s m args below meth c h0 ws T h cells slots) {a : Addr} {vs : List Value} {j : Int32} {v : Value} {n : Nat} (A : VA Z h a .byte vs) (hn : vs.length = n) (hj : 0 ≤ j.toInt ∧ j.toInt < n) (hv : vs[j.toNatClampNeg]? = some v) (hd : decode bytes pc = .ok (.baload, 1)) (hp : pc' = pc + 1) (g : Go p e below FE h0 ws Q T (mkF m pc' Ls (v :: st))) : Go p e below FE h0 ws Q T (mkF m pc Ls (.int j :: .ref a :: st)) := by
  subst hp; subst hn; obtain ⟨L, X, eT, -⟩ := X; obtain ⟨cl, A, r, n⟩ := A
  exact Go.to (fun t k => X.baloadBytes B.1 (by rw [eT]; exact A.1) (State.isArrayOf_alike B.2.1.alike A.2.1) A.2.2 (by rw [r]; exact inb (by simpa using hj)) (by rw [r]; simpa using hv) (g := mkF m pc Ls (.int j :: .ref a :: st)) rfl rfl (hb B.2.2.1 hd) t k) g
theorem gzaload (B : Fix p Z s m meth c bytes maxL own nm ret) (X : St p l e R s m args below meth c h0 ws T h cells slots) {a : Addr} {vs : List Value} {j : Int32} {v : Value} {n : Nat} (A : VA Z h a .boolean vs) (hn : vs.length = n) (hj : 0 ≤ j.toInt ∧ j.toInt < n) (hv : vs[j.toNatClampNeg]? = some v) (hd : decode bytes pc = .ok (.baload, 1)) (hp : pc' = pc + 1) (g : Go p e below FE h0 ws Q T (mkF m pc' Ls (v :: st))) : Go p e below FE h0 ws Q T (mkF m pc Ls (.int j :: .ref a :: st)) := by
  subst hp; subst hn; obtain ⟨L, X, eT, -⟩ := X; obtain ⟨cl, A, r, n⟩ := A
  exact Go.to (fun t k => X.baloadBooleans B.1 (by rw [eT]; exact A.1) (State.isArrayOf_alike B.2.1.alike A.2.1) A.2.2 (by rw [r]; exact inb (by simpa using hj)) (by rw [r]; simpa using hv) (g := mkF m pc Ls (.int j :: .ref a :: st)) rfl rfl (hb B.2.2.1 hd) t k) g
theorem glength (B : Fix p Z s m meth c bytes maxL own nm ret) (X : St p l e R s m args below meth c h0 ws T h cells slots) {a : Addr} {ty : FieldType} {vs : List Value} {n : Int32} {k : Nat} (A : VA Z h a ty vs) (hk : vs.length = k) (hn : n.toInt = k) (hd : decode bytes pc = .ok (.arraylength, 1)) (hp : pc' = pc + 1) (g : Go p e below FE h0 ws Q T (mkF m pc' Ls (.int n :: st))) : Go p e below FE h0 ws Q T (mkF m pc Ls (.ref a :: st)) := by
  subst hp; subst hk; obtain ⟨L, X, eT, -⟩ := X; obtain ⟨cl, A, r, q⟩ := A
  have e1 : cl.slots.size.toInt32 = n := by rw [r]; apply Int32.toInt_inj.mp; rw [len_toInt (by simpa using q), hn]; simp
  exact Go.to (fun t k => X.arraylength B.1 (by rw [eT]; exact A.1) (State.isArrayOf_alike B.2.1.alike A.2.1) (g := mkF m pc Ls (.ref a :: st)) rfl rfl (hb B.2.2.1 hd) t (by rw [e1]; exact k)) g
theorem giastore (B : Fix p Z s m meth c bytes maxL own nm ret) (X : St p l e R s m args below meth c h0 ws T h cells slots) {a : Addr} {vs vs' : List Value} {j : Int32} {x : Int32} {i n : Nat} (A : VA Z h a .int vs) (hn : vs.length = n) (hj : 0 ≤ j.toInt ∧ j.toInt < n) (hi : j.toNatClampNeg = i) (hvs : vs.set i (.int x) = vs') (ha : a ∈ ws ∨ h0.size ≤ a) (hd : decode bytes pc = .ok (.iastore, 1)) (hp : pc' = pc + 1) (g : ∀ T' h', St p l e R s m args below meth c h0 ws T' h' cells slots → Wr h h' a i (.int x) → VA Z h' a .int vs' → Go p e below FE h0 ws Q T' (mkF m pc' Ls st)) : Go p e below FE h0 ws Q T (mkF m pc Ls (.int x :: .int j :: .ref a :: st)) := by
  subst hp; subst hi; subst hvs; subst hn; obtain ⟨L, X, eT, KK, FF⟩ := X; have A0 := A; obtain ⟨cl, A, r, n⟩ := A
  obtain ⟨T', h', X', e', W, k⟩ := stI X B.1 B.2.1 eT A (by rw [r]; exact inb (by simpa using hj)) (g := mkF m pc Ls (.int x :: .int j :: .ref a :: st)) rfl rfl (hb B.2.2.1 hd)
  exact Go.to k (g T' h' ⟨_, X', e', KK.wr W ha, fun y hy => (List.mem_append.mp hy).elim (FF y) fun q => by cases List.mem_singleton.mp q; exact ha⟩ W (A0.set W))
theorem glastore (B : Fix p Z s m meth c bytes maxL own nm ret) (X : St p l e R s m args below meth c h0 ws T h cells slots) {a : Addr} {vs vs' : List Value} {j : Int32} {x : Int64} {i n : Nat} (A : VA Z h a .long vs) (hn : vs.length = n) (hj : 0 ≤ j.toInt ∧ j.toInt < n) (hi : j.toNatClampNeg = i) (hvs : vs.set i (.long x) = vs') (ha : a ∈ ws ∨ h0.size ≤ a) (hd : decode bytes pc = .ok (.lastore, 1)) (hp : pc' = pc + 1) (g : ∀ T' h', St p l e R s m args below meth c h0 ws T' h' cells slots → Wr h h' a i (.long x) → VA Z h' a .long vs' → Go p e below FE h0 ws Q T' (mkF m pc' Ls st)) : Go p e below FE h0 ws Q T (mkF m pc Ls (.long x :: .int j :: .ref a :: st)) := by
  subst hp; subst hi; subst hvs; subst hn; obtain ⟨L, X, eT, KK, FF⟩ := X; have A0 := A; obtain ⟨cl, A, r, n⟩ := A
  obtain ⟨T', h', X', e', W, k⟩ := stJ X B.1 B.2.1 eT A (by rw [r]; exact inb (by simpa using hj)) (g := mkF m pc Ls (.long x :: .int j :: .ref a :: st)) rfl rfl (hb B.2.2.1 hd)
  exact Go.to k (g T' h' ⟨_, X', e', KK.wr W ha, fun y hy => (List.mem_append.mp hy).elim (FF y) fun q => by cases List.mem_singleton.mp q; exact ha⟩ W (A0.set W))
theorem gbastore (B : Fix p Z s m meth c bytes maxL own nm ret) (X : St p l e R s m args below meth c h0 ws T h cells slots) {a : Addr} {vs vs' : List Value} {j : Int32} {x : Int32} {i n : Nat} (A : VA Z h a .byte vs) (hn : vs.length = n) (hj : 0 ≤ j.toInt ∧ j.toInt < n) (hi : j.toNatClampNeg = i) (hvs : vs.set i (.int x.toInt8.toInt32) = vs') (ha : a ∈ ws ∨ h0.size ≤ a) (hd : decode bytes pc = .ok (.bastore, 1)) (hp : pc' = pc + 1) (g : ∀ T' h', St p l e R s m args below meth c h0 ws T' h' cells slots → Wr h h' a i (.int x.toInt8.toInt32) → VA Z h' a .byte vs' → Go p e below FE h0 ws Q T' (mkF m pc' Ls st)) : Go p e below FE h0 ws Q T (mkF m pc Ls (.int x :: .int j :: .ref a :: st)) := by
  subst hp; subst hi; subst hvs; subst hn; obtain ⟨L, X, eT, KK, FF⟩ := X; have A0 := A; obtain ⟨cl, A, r, n⟩ := A
  obtain ⟨T', h', X', e', W, k⟩ := stB X B.1 B.2.1 eT A (by rw [r]; exact inb (by simpa using hj)) (g := mkF m pc Ls (.int x :: .int j :: .ref a :: st)) rfl rfl (hb B.2.2.1 hd)
  exact Go.to k (g T' h' ⟨_, X', e', KK.wr W ha, fun y hy => (List.mem_append.mp hy).elim (FF y) fun q => by cases List.mem_singleton.mp q; exact ha⟩ W (A0.set W))
theorem gzastore (B : Fix p Z s m meth c bytes maxL own nm ret) (X : St p l e R s m args below meth c h0 ws T h cells slots) {a : Addr} {vs vs' : List Value} {j : Int32} {x : Int32} {i n : Nat} (A : VA Z h a .boolean vs) (hn : vs.length = n) (hj : 0 ≤ j.toInt ∧ j.toInt < n) (hi : j.toNatClampNeg = i) (hvs : vs.set i (.int (x &&& 1)) = vs') (ha : a ∈ ws ∨ h0.size ≤ a) (hd : decode bytes pc = .ok (.bastore, 1)) (hp : pc' = pc + 1) (g : ∀ T' h', St p l e R s m args below meth c h0 ws T' h' cells slots → Wr h h' a i (.int (x &&& 1)) → VA Z h' a .boolean vs' → Go p e below FE h0 ws Q T' (mkF m pc' Ls st)) : Go p e below FE h0 ws Q T (mkF m pc Ls (.int x :: .int j :: .ref a :: st)) := by
  subst hp; subst hi; subst hvs; subst hn; obtain ⟨L, X, eT, KK, FF⟩ := X; have A0 := A; obtain ⟨cl, A, r, n⟩ := A
  obtain ⟨T', h', X', e', W, k⟩ := stZ X B.1 B.2.1 eT A (by rw [r]; exact inb (by simpa using hj)) (g := mkF m pc Ls (.int x :: .int j :: .ref a :: st)) rfl rfl (hb B.2.2.1 hd)
  exact Go.to k (g T' h' ⟨_, X', e', KK.wr W ha, fun y hy => (List.mem_append.mp hy).elim (FF y) fun q => by cases List.mem_singleton.mp q; exact ha⟩ W (A0.set W))
theorem gnewarray (B : Fix p Z s m meth c bytes maxL own nm ret) (X : St p l e R s m args below meth c h0 ws T h cells slots) {aty : ArrayType} {n : Int32} {cap : Nat} {vs : List Value} {ty : FieldType} (hty : newarray.typeOf aty = ty) (hvs : List.replicate n.toNatClampNeg (defaultValue ty) = vs) (w : (Cond.arrayClass ty).before a0 Z = true) (hn : 0 ≤ n.toInt) (hcap : n.toInt ≤ cap) (hb8 : cap * 8 ≤ 536870912) (hc : cells + 1 ≤ R.cells) (hl : slots + cap ≤ R.slots) (hd : decode bytes pc = .ok (.newarray aty, 2)) (hp : pc' = pc + 2) (g : ∀ T' h' a, St p l e R s m args below meth c h0 ws T' h' (cells + 1) (slots + cap) → a = h.size → Ext h h' → h0.size ≤ a → VA Z h' a ty vs → Go p e below FE h0 ws Q T' (mkF m pc' Ls (.ref a :: st))) : Go p e below FE h0 ws Q T (mkF m pc Ls (.int n :: st)) := by
  subst hp; subst hty; subst hvs; obtain ⟨L, X, eT, KK, FF⟩ := X
  have hn' : ¬ n < 0 := by rw [Int32.lt_iff_toInt_lt, show (0 : Int32).toInt = 0 from rfl]; omega
  obtain ⟨T', h', cA, X', e', E, A, k⟩ := newP X B.1 B.2.1 w eT (g := mkF m pc Ls (.int n :: st)) rfl (hb B.2.2.1 hd) rfl hn' (cap := cap) (by simp only [Int32.toNatClampNeg]; omega) hb8 hc hl
  exact Go.to k (g T' h' _ ⟨_, X', e', KK.ext E, FF⟩ rfl E KK.1 (VA.new A hn'))
theorem gnewarrayE (B : Fix p Z s m meth c bytes maxL own nm ret) (X : St p l e R s m args below meth c h0 ws T h cells slots) {aty : ArrayType} {n : Int32} {cap : Nat} {vs : List Value} {ty : FieldType} {ad : String} (had : "[" ++ ty.toString = ad) (hty : newarray.typeOf aty = ty) (hvs : List.replicate n.toNatClampNeg (defaultValue ty) = vs) (w : (Cond.arrayClass ty).before a0 Z = true) (hn : 0 ≤ n.toInt) (hcap : n.toInt ≤ cap) (hb8 : cap * 8 ≤ 536870912) (hc : cells + 1 ≤ R.cells) (hl : slots + cap ≤ R.slots) (hd : decode bytes pc = .ok (.newarray aty, 2)) (hp : pc' = pc + 2) (g : ∀ T' h' a, St p l e R s m args below meth c h0 ws T' h' (cells + 1) (slots + cap) → a = h.size → Ext h h' → h0.size ≤ a → VA Z h' a ty vs → Exa Z h' a ad → Go p e below FE h0 ws Q T' (mkF m pc' Ls (.ref a :: st))) : Go p e below FE h0 ws Q T (mkF m pc Ls (.int n :: st)) := by
  subst hp; subst hty; subst hvs; obtain ⟨L, X, eT, KK, FF⟩ := X
  have hn' : ¬ n < 0 := by rw [Int32.lt_iff_toInt_lt, show (0 : Int32).toInt = 0 from rfl]; omega
  obtain ⟨T', h', cA, X', e', E, A, EA, k⟩ := newPE X B.1 B.2.1 w eT (g := mkF m pc Ls (.int n :: st)) rfl (hb B.2.2.1 hd) rfl hn' (cap := cap) (by simp only [Int32.toNatClampNeg]; omega) hb8 hc hl had
  exact Go.to k (g T' h' _ ⟨_, X', e', KK.ext E, FF⟩ rfl E KK.1 (VA.new A hn') EA)
theorem gclone (B : Fix p Z s m meth c bytes maxL own nm ret) (X : St p l e R s m args below meth c h0 ws T h cells slots) {a : Addr} {i W cap n : Nat} {vs : List Value} {ty : FieldType} {ad : String} (w1 : (Cond.methodLink own i ⟨ad, "clone", "()Ljava/lang/Object;"⟩).before a0 Z = true) (w2 : (Cond.sameMethod ad "java/lang/Object" "clone" "()Ljava/lang/Object;").before a0 Z = true) (w3 : (Cond.native ⟨"java/lang/Object", "clone", "()Ljava/lang/Object;"⟩).before a0 Z = true) (w4 : (Cond.instanceMethod ⟨"java/lang/Object", "clone", "()Ljava/lang/Object;"⟩).before a0 Z = true) (w5 : (Cond.selects ad ⟨ad, "clone", "()Ljava/lang/Object;"⟩ ⟨"java/lang/Object", "clone", "()Ljava/lang/Object;"⟩).before a0 Z = true) (w6 : (Cond.castable ad "java/lang/Cloneable").before a0 Z = true) (A : VA Z h a ty vs) (E : Exa Z h a ad) (hf : ∀ v ∈ vs, fits ty v = true) (hn : vs.length = n) (hcap : n ≤ cap) (hsz : Ls.size = maxL) (hfr : 1 ≤ R.frames) (hW : (st.map fun v => v.category).sum ≤ W) (hl : W + 14 ≤ R.locals) (hc : cells + 1 ≤ R.cells) (hs : slots + cap ≤ R.slots) (hd : decode bytes pc = .ok (.invokevirtual i, 3)) (hp : pc' = pc + 3) (g : ∀ T' h' a', St p l e R s m args below meth c h0 ws T' h' (cells + 1) (slots + cap) → a' = h.size → Ext h h' → h0.size ≤ a' → VA Z h' a' ty vs → Exa Z h' a' ad → Go p e below FE h0 ws Q T' (mkF m pc' Ls (.ref a' :: st))) : Go p e below FE h0 ws Q T (mkF m pc Ls (.ref a :: st)) := by
  subst hp; subst hn; obtain ⟨L0, X, eT, KK, FF⟩ := X; obtain ⟨cl, A, r, q⟩ := A
  have FC : FitC Z cl := fitC_of A fun i hi v hv => hf v (by rw [r] at hv; simp at hv; exact List.mem_of_getElem? hv)
  obtain ⟨T', h', X', e', E1, A', EA, k⟩ := cloneA X B.1 B.2.1 B.2.2.2.2.1 w1 w2 w3 w4 w5 w6 eT A E FC (g := mkF m pc Ls (.ref a :: st)) rfl (hsz.trans B.2.2.2.1.symm) rfl (hb B.2.2.1 hd) hfr (W := W) (cap := cap) (by show 2 * 0 + _ ≤ _; rw [Nat.mul_zero, Nat.zero_add]; exact hW) hl (by rw [r]; simpa using hcap) hc hs
  exact Go.to k (g T' h' _ ⟨_, X', e', KK.ext E1, FF⟩ rfl E1 KK.1 ⟨_, A', r, q⟩ EA)
theorem gcast (B : Fix p Z s m meth c bytes maxL own nm ret) (X : St p l e R s m args below meth c h0 ws T h cells slots) {a : Addr} {i : Nat} {K0 : String} (w : (Cond.classLink own i K0).before a0 Z = true) (F : Ins Z h a K0 true) (hd : decode bytes pc = .ok (.checkcast i, 3)) (hp : pc' = pc + 3) (g : ∀ T', St p l e R s m args below meth c h0 ws T' h cells slots → Go p e below FE h0 ws Q T' (mkF m pc' Ls (.ref a :: st))) : Go p e below FE h0 ws Q T (mkF m pc Ls (.ref a :: st)) := by
  subst hp; obtain ⟨L0, X, eT, r⟩ := X
  obtain ⟨T', X', e', k⟩ := castY X B.1 B.2.1 B.2.2.2.2.1 w eT F (g := mkF m pc Ls (.ref a :: st)) rfl rfl (hb B.2.2.1 hd)
  exact Go.to k (g T' ⟨L0, X', e', r⟩)
theorem gget (B : Fix p Z s m meth c bytes maxL own nm ret) (X : St p l e R s m args below meth c h0 ws T h cells slots) {a : Addr} {i : Nat} {C n d : String} {v : Value} (w : (Cond.fieldLink own i C n d).before a0 Z = true) (F : Fld Z h a C n d v) (hd : decode bytes pc = .ok (.getfield i, 3)) (hp : pc' = pc + 3) (g : ∀ T', St p l e R s m args below meth c h0 ws T' h cells slots → Go p e below FE h0 ws Q T' (mkF m pc' Ls (v :: st))) : Go p e below FE h0 ws Q T (mkF m pc Ls (.ref a :: st)) := by
  subst hp; obtain ⟨L, X, eT, r⟩ := X
  obtain ⟨T', X', e', k⟩ := getF X B.1 B.2.1 B.2.2.2.2.1 (host := "") (Or.inl w) Via.refl eT F (g := mkF m pc Ls (.ref a :: st)) rfl rfl (hb B.2.2.1 hd)
  exact Go.to k (g T' ⟨L, X', e', r⟩)
theorem gput (B : Fix p Z s m meth c bytes maxL own nm ret) (X : St p l e R s m args below meth c h0 ws T h cells slots) {a : Addr} {i kk : Nat} {C O n d : String} {ty : FieldType} {v old : Value} (w : (Cond.fieldLink own i O n d).before a0 Z = true) (F : Fld Z h a O n d old) (E : Exa Z h a C) (L : (Cond.lays C O n d).before a0 Z = true ∨ ((Cond.laysFinal C O n d).before a0 Z = true ∧ own = O ∧ nm = "<init>")) (wi : (Cond.instantiable C kk).before a0 Z = true) (hty : parseFieldDescriptor d = some ty) (hn : narrow ty v = v) (hf : fits ty v = true) (ha : a ∈ ws ∨ h0.size ≤ a) (hd : decode bytes pc = .ok (.putfield i, 3)) (hp : pc' = pc + 3) (g : ∀ T' h', St p l e R s m args below meth c h0 ws T' h' cells slots → Wr h h' a (Jvm.RoadKit.slotOf Z O n d) v → Go p e below FE h0 ws Q T' (mkF m pc' Ls st)) : Go p e below FE h0 ws Q T (mkF m pc Ls (v :: .ref a :: st)) := by
  subst hp; obtain ⟨L0, X, eT, KK, FF⟩ := X
  obtain ⟨T', h', X', e', W, k⟩ := putF X B.1 B.2.1 B.2.2.2.2.1 (host := "") (Or.inl w) Via.refl eT F E (L.imp id fun q => ⟨q.1, q.2.1, B.2.2.2.2.2.1.trans q.2.2⟩) wi hty hn hf (g := mkF m pc Ls (v :: .ref a :: st)) rfl rfl (hb B.2.2.1 hd)
  exact Go.to k (g T' h' ⟨_, X', e', KK.wr W ha, fun y hy => (List.mem_append.mp hy).elim (FF y) fun q => by cases List.mem_singleton.mp q; exact ha⟩ W)
theorem gnew (B : Fix p Z s m meth c bytes maxL own nm ret) (X : St p l e R s m args below meth c h0 ws T h cells slots) {i n : Nat} {C : String} (w : (Cond.classLink own i C).before a0 Z = true) (wi : (Cond.instantiable C n).before a0 Z = true) (wz : (Cond.initialized C).before a0 Z = true) (hc : cells + 1 ≤ R.cells) (hl : slots + n ≤ R.slots) (hd : decode bytes pc = .ok (.new i, 3)) (hp : pc' = pc + 3) (g : ∀ T' h' a, St p l e R s m args below meth c h0 ws T' h' (cells + 1) (slots + n) → a = h.size → Ext h h' → h0.size ≤ a → Exa Z h' a C → (∀ {O nm d : String} {ty : FieldType}, Laid Z a0 C O nm d → parseFieldDescriptor d = some ty → Fld Z h' a O nm d (defaultValue ty)) → Go p e below FE h0 ws Q T' (mkF m pc' Ls (.ref a :: st))) : Go p e below FE h0 ws Q T (mkF m pc Ls st) := by
  subst hp; obtain ⟨L0, X, eT, KK, FF⟩ := X
  obtain ⟨T', h', X', e', E, A, D, -, k⟩ := newO X B.1 B.2.1 B.2.2.2.2.1 w wi wz eT (g := mkF m pc Ls st) rfl (hb B.2.2.1 hd) hc hl
  exact Go.to k (g T' h' _ ⟨_, X', e', KK.ext E, FF⟩ rfl E KK.1 A D)
theorem ginitO (B : Fix p Z s m meth c bytes maxL own nm ret) (X : St p l e R s m args below meth c h0 ws T h cells slots) {a : Addr} {i W : Nat} (w1 : (Cond.methodLink own i Lib.objectInit).before a0 Z = true) (w2 : (Cond.instanceMethod Lib.objectInit).before a0 Z = true) (w3 : (Cond.code Lib.objectInit ⟨#[0xb1]⟩ 1 none).before a0 Z = true) (hsz : Ls.size = maxL) (hf : 1 ≤ R.frames) (hW : (st.map fun v => v.category).sum ≤ W) (hl : W + 12 ≤ R.locals) (hd : decode bytes pc = .ok (.invokespecial i, 3)) (hp : pc' = pc + 3) (g : ∀ T', St p l e R s m args below meth c h0 ws T' h cells slots → Go p e below FE h0 ws Q T' (mkF m pc' Ls st)) : Go p e below FE h0 ws Q T (mkF m pc Ls (.ref a :: st)) := by
  subst hp; obtain ⟨L0, X, eT, r⟩ := X
  obtain ⟨T', X', e', k⟩ := initO X B.1 B.2.1 B.2.2.2.2.1 w1 w2 w3 eT (g := mkF m pc Ls (.ref a :: st)) rfl (hsz.trans B.2.2.2.1.symm) rfl (hb B.2.2.1 hd) hf (W := W) (by show 2 * 0 + _ ≤ _; rw [Nat.mul_zero, Nat.zero_add]; exact hW) hl
  exact Go.to k (g T' ⟨L0, X', e', r⟩)
theorem gcallS (B : Fix p Z s m meth c bytes maxL own nm ret) (X : St p l e R s m args below meth c h0 ws T h cells slots) {y : MethodName} {bytes' : ByteArray} {maxL' : Nat} {ret' : Option FieldType} {rm : Room} {ws' : List Addr} {Q' : Option Value → Heap → Prop} {stk argsL : List Value} {i W : Nat} {ps : List FieldType} {rr : Option FieldType}  (w1 : (Cond.methodLink own i y).before a0 Z = true) (w2 : (Cond.static y).before a0 Z = true) (w3 : (Cond.initialized y.cls).before a0 Z = true) (w4 : (Cond.code y bytes' maxL' ret').before a0 Z = true) (hy : y.cls ≠ "java/lang/invoke/MethodHandle" ∧ y.cls ≠ "java/lang/invoke/VarHandle") (M : Meth l Z y bytes' maxL' ret' rm argsL.toArray h ws' Q') (hpd : parseMethodDescriptor y.desc = some ⟨ps, rr⟩) (hlen : argsL.length = ps.length) (hstk : stk = argsL.reverse ++ st) (hsz : Ls.size = maxL) (hW : (st.map fun v => v.category).sum ≤ W) (hfr : rm.frames + 1 ≤ R.frames) (hlo : W + (maxL' + 11) + rm.locals ≤ R.locals) (hcs : cells + rm.cells ≤ R.cells) (hss : slots + rm.slots ≤ R.slots) (hws : ∀ x ∈ ws', x ∈ ws ∨ h0.size ≤ x) (hd : decode bytes pc = .ok (.invokestatic i, 3)) (hp : pc' = pc + 3)
    (g : ∀ T' h' v, St p l e R s m args below meth c h0 ws T' h' (cells + rm.cells) (slots + rm.slots) → Keep h h' ws' → Q' v h' → Go p e below FE h0 ws Q T' (mkF m pc' Ls (v.toList ++ st))) : Go p e below FE h0 ws Q T (mkF m pc Ls stk) := by
  subst hp; subst hstk; obtain ⟨L0, X, eT, KK, FF⟩ := X
  obtain ⟨v2, _, ⟨T2, L2, c2, n2⟩, -, X2, ⟨Lc2, hq, l2, y2, z2⟩, k2⟩ := Jvm.LawKit.callS X B.1 (y := y) B.2.2.2.2.1 (mvT B.2.1 w1) (mvT B.2.1 w2) (mvT B.2.1 w3) (mvT B.2.1 w4) hy (backOf (W := W) (Q := fun v h' L => Q' v h' ∧ Keep h h' ws' ∧ FrW h ws' L) (M []) B.2.1 w4 w3 hfr hlo) (g := mkF m pc Ls (argsL.reverse ++ st)) rfl (hsz.trans B.2.2.2.1.symm) (argsL := argsL) (rest := st) (lenOf hpd hlen) rfl (by show 2 * 0 + _ ≤ _; rw [Nat.mul_zero, Nat.zero_add]; exact hW) (hb B.2.2.1 hd) (fun _ _ => ⟨rfl, eT, hcs, hss⟩)
  dsimp only [Pt.U, Pt.locs, Pt.cells, Pt.slots] at X2 l2 y2 z2 k2 hq
  subst l2 y2 z2
  refine Go.to k2 (g T2 T2.heap v2 ⟨_, X2, rfl, KK.trans hq.2.1 hws, fun y hy => (List.mem_append.mp hy).elim (FF y) fun q => ?_⟩ hq.2.1 hq.1)
  exact (hq.2.2 y q).elim (fun z => hws _ z) fun z => Or.inr (Nat.le_trans KK.1 z)
theorem gcallI (B : Fix p Z s m meth c bytes maxL own nm ret) (X : St p l e R s m args below meth c h0 ws T h cells slots) {y : MethodName} {bytes' : ByteArray} {maxL' : Nat} {ret' : Option FieldType} {rm : Room} {ws' : List Addr} {Q' : Option Value → Heap → Prop} {stk argsL : List Value} {i W : Nat} {ps : List FieldType} {rr : Option FieldType} {a : Addr} (hni : y.name = "<init>") (hret : ret' = none) (w1 : (Cond.methodLink own i y).before a0 Z = true) (w2 : (Cond.instanceMethod y).before a0 Z = true) (w3 : (Cond.initialized y.cls).before a0 Z = true) (w4 : (Cond.code y bytes' maxL' ret').before a0 Z = true) (hy : y.cls ≠ "java/lang/invoke/MethodHandle" ∧ y.cls ≠ "java/lang/invoke/VarHandle") (M : Meth l Z y bytes' maxL' ret' rm (.ref a :: argsL).toArray h ws' Q') (hpd : parseMethodDescriptor y.desc = some ⟨ps, rr⟩) (hlen : argsL.length = ps.length) (hstk : stk = argsL.reverse ++ .ref a :: st) (hsz : Ls.size = maxL) (hW : (st.map fun v => v.category).sum ≤ W) (hfr : rm.frames + 1 ≤ R.frames) (hlo : W + (maxL' + 11) + rm.locals ≤ R.locals) (hcs : cells + rm.cells ≤ R.cells) (hss : slots + rm.slots ≤ R.slots) (hws : ∀ x ∈ ws', x ∈ ws ∨ h0.size ≤ x) (hd : decode bytes pc = .ok (.invokespecial i, 3)) (hp : pc' = pc + 3)
    (g : ∀ T' h' v, St p l e R s m args below meth c h0 ws T' h' (cells + rm.cells) (slots + rm.slots) → Keep h h' ws' → Q' v h' → Go p e below FE h0 ws Q T' (mkF m pc' Ls (v.toList ++ st))) : Go p e below FE h0 ws Q T (mkF m pc Ls stk) := by
  subst hp; subst hstk; obtain ⟨L0, X, eT, KK, FF⟩ := X
  subst hret
  obtain ⟨v2, _, ⟨T2, L2, c2, n2⟩, -, X2, ⟨Lc2, hq, l2, y2, z2⟩, k2⟩ := X.specialBack B.1 (y := y) hni B.2.2.2.2.1 (mvT B.2.1 w1) (mvT B.2.1 w2) (mvT B.2.1 w4) hy (backOf (W := W) (Q := fun v h' L => Q' v h' ∧ Keep h h' ws' ∧ FrW h ws' L) (M []) B.2.1 w4 w3 hfr hlo) (g := mkF m pc Ls (argsL.reverse ++ .ref a :: st)) rfl (hsz.trans B.2.2.2.1.symm) (Steps.refl _) (a := a) (argsL := argsL) (rest := st) (lenOf hpd hlen) rfl (by show 2 * 0 + _ ≤ _; rw [Nat.mul_zero, Nat.zero_add]; exact hW) (hb B.2.2.1 hd) (fun _ _ => ⟨rfl, eT, hcs, hss⟩)
  dsimp only [Pt.U, Pt.locs, Pt.cells, Pt.slots] at X2 l2 y2 z2 k2 hq
  subst l2 y2 z2
  refine Go.to (fun t kt => k2.trans kt) (g T2 T2.heap v2 ⟨_, X2, rfl, KK.trans hq.2.1 hws, fun y hy => (List.mem_append.mp hy).elim (FF y) fun q => ?_⟩ hq.2.1 hq.1)
  exact (hq.2.2 y q).elim (fun z => hws _ z) fun z => Or.inr (Nat.le_trans KK.1 z)
theorem gcallV (B : Fix p Z s m meth c bytes maxL own nm ret) (X : St p l e R s m args below meth c h0 ws T h cells slots) {y : MethodName} {bytes' : ByteArray} {maxL' : Nat} {ret' : Option FieldType} {rm : Room} {ws' : List Addr} {Q' : Option Value → Heap → Prop} {stk argsL : List Value} {i W : Nat} {ps : List FieldType} {rr : Option FieldType} {a : Addr} {z : MethodName} {C : String} (E : Exa Z h a C) (w1 : (Cond.methodLink own i y).before a0 Z = true) (w2 : (Cond.declares y).before a0 Z = true) (w5 : (Cond.selects C y z).before a0 Z = true) (w6 : (Cond.instanceMethod z).before a0 Z = true) (w3 : (Cond.initialized z.cls).before a0 Z = true) (w4 : (Cond.code z bytes' maxL' ret').before a0 Z = true) (hyz : y = z) (hy : y.cls ≠ "java/lang/invoke/MethodHandle" ∧ y.cls ≠ "java/lang/invoke/VarHandle") (M : Meth l Z z bytes' maxL' ret' rm (.ref a :: argsL).toArray h ws' Q') (hpd : parseMethodDescriptor y.desc = some ⟨ps, rr⟩) (hlen : argsL.length = ps.length) (hstk : stk = argsL.reverse ++ .ref a :: st) (hsz : Ls.size = maxL) (hW : (st.map fun v => v.category).sum ≤ W) (hfr : rm.frames + 1 ≤ R.frames) (hlo : W + (maxL' + 11) + rm.locals ≤ R.locals) (hcs : cells + rm.cells ≤ R.cells) (hss : slots + rm.slots ≤ R.slots) (hws : ∀ x ∈ ws', x ∈ ws ∨ h0.size ≤ x) (hd : decode bytes pc = .ok (.invokevirtual i, 3)) (hp : pc' = pc + 3)
    (g : ∀ T' h' v, St p l e R s m args below meth c h0 ws T' h' (cells + rm.cells) (slots + rm.slots) → Keep h h' ws' → Q' v h' → Go p e below FE h0 ws Q T' (mkF m pc' Ls (v.toList ++ st))) : Go p e below FE h0 ws Q T (mkF m pc Ls stk) := by
  subst hp; subst hstk; obtain ⟨L0, X, eT, KK, FF⟩ := X
  subst hyz
  obtain ⟨cq, kq, qa, qb, qc⟩ := isOf B.2.1 eT E
  obtain ⟨v2, _, ⟨T2, L2, c2, n2⟩, -, X2, ⟨Lc2, hq, l2, y2, z2⟩, k2⟩ := X.virtualBack B.1 (y := y) (z := y) B.2.2.2.2.1 (mvT B.2.1 w1) (mvT B.2.1 w2) (notFace_of_selects (args := #[]) (mvT B.2.1 w5)) (mvT B.2.1 w5) (mvT B.2.1 w6) hy (backOf (W := W) (Q := fun v h' L => Q' v h' ∧ Keep h h' ws' ∧ FrW h ws' L) (M []) B.2.1 w4 w3 hfr hlo) qa qc (g := mkF m pc Ls (argsL.reverse ++ .ref a :: st)) rfl (hsz.trans B.2.2.2.1.symm) (Steps.refl _) (argsL := argsL) (rest := st) (lenOf hpd hlen) rfl (by show 2 * 0 + _ ≤ _; rw [Nat.mul_zero, Nat.zero_add]; exact hW) (hb B.2.2.1 hd) (fun _ _ => ⟨rfl, eT, hcs, hss⟩)
  dsimp only [Pt.U, Pt.locs, Pt.cells, Pt.slots] at X2 l2 y2 z2 k2 hq
  subst l2 y2 z2
  refine Go.to (fun t kt => k2.trans kt) (g T2 T2.heap v2 ⟨_, X2, rfl, KK.trans hq.2.1 hws, fun y hy => (List.mem_append.mp hy).elim (FF y) fun q => ?_⟩ hq.2.1 hq.1)
  exact (hq.2.2 y q).elim (fun z => hws _ z) fun z => Or.inr (Nat.le_trans KK.1 z)
theorem gcallP (B : Fix p Z s m meth c bytes maxL own nm ret) (X : St p l e R s m args below meth c h0 ws T h cells slots) {y : MethodName} {bytes' : ByteArray} {maxL' : Nat} {ret' : Option FieldType} {rm : Room} {ws' : List Addr} {Q' : Option Value → Heap → Prop} {stk argsL : List Value} {i W : Nat} {ps : List FieldType} {rr : Option FieldType} {a : Addr} {C : String} (E : Exa Z h a C) (w1 : (Cond.methodLink own i y).before a0 Z = true) (w2 : (Cond.instanceMethod y).before a0 Z = true) {nn : Nat} (w5 : (Cond.instantiable y.cls nn).before a0 Z = true) (w6 : (Cond.privateMethod y).before a0 Z = true) (w3 : (Cond.initialized y.cls).before a0 Z = true) (w4 : (Cond.code y bytes' maxL' ret').before a0 Z = true) (hy : y.cls ≠ "java/lang/invoke/MethodHandle" ∧ y.cls ≠ "java/lang/invoke/VarHandle") (M : Meth l Z y bytes' maxL' ret' rm (.ref a :: argsL).toArray h ws' Q') (hpd : parseMethodDescriptor y.desc = some ⟨ps, rr⟩) (hlen : argsL.length = ps.length) (hstk : stk = argsL.reverse ++ .ref a :: st) (hsz : Ls.size = maxL) (hW : (st.map fun v => v.category).sum ≤ W) (hfr : rm.frames + 1 ≤ R.frames) (hlo : W + (maxL' + 11) + rm.locals ≤ R.locals) (hcs : cells + rm.cells ≤ R.cells) (hss : slots + rm.slots ≤ R.slots) (hws : ∀ x ∈ ws', x ∈ ws ∨ h0.size ≤ x) (hd : decode bytes pc = .ok (.invokevirtual i, 3)) (hp : pc' = pc + 3)
    (g : ∀ T' h' v, St p l e R s m args below meth c h0 ws T' h' (cells + rm.cells) (slots + rm.slots) → Keep h h' ws' → Q' v h' → Go p e below FE h0 ws Q T' (mkF m pc' Ls (v.toList ++ st))) : Go p e below FE h0 ws Q T (mkF m pc Ls stk) := by
  subst hp; subst hstk; obtain ⟨L0, X, eT, KK, FF⟩ := X
  obtain ⟨cq, q, q'⟩ := E.cell
  obtain ⟨ci, ki, i1, i2, -, i4, -⟩ := Cond.instantiable_spec (mvT (args := args) B.2.1 w5)
  have w5' : (Cond.selects y.cls y y).before args s = true := selects_self_of_private i1 i2 (by simp only [Bool.or_eq_false_iff] at i4; exact i4.1) (Cond.privateMethod_at (mvP B.2.1 w6 (args := #[]))) (mvT B.2.1 w2) hy
  obtain ⟨v2, _, ⟨T2, L2, c2, n2⟩, -, X2, ⟨Lc2, hq, l2, y2, z2⟩, k2⟩ := X.privateBack B.1 (y := y) B.2.2.2.2.1 (mvT B.2.1 w1) (mvT B.2.1 w2) w5' (Cond.privateMethod_at (mvP B.2.1 w6 (args := #[]))) (mvT B.2.1 w4) hy (backOf (W := W) (Q := fun v h' L => Q' v h' ∧ Keep h h' ws' ∧ FrW h ws' L) (M []) B.2.1 w4 w3 hfr hlo) (g := mkF m pc Ls (argsL.reverse ++ .ref a :: st)) rfl (hsz.trans B.2.2.2.1.symm) (Steps.refl _) (a := a) (by rw [eT]; exact q) q' (argsL := argsL) (rest := st) (lenOf hpd hlen) rfl (by show 2 * 0 + _ ≤ _; rw [Nat.mul_zero, Nat.zero_add]; exact hW) (hb B.2.2.1 hd) (fun _ _ => ⟨rfl, eT, hcs, hss⟩)
  dsimp only [Pt.U, Pt.locs, Pt.cells, Pt.slots] at X2 l2 y2 z2 k2 hq
  subst l2 y2 z2
  refine Go.to (fun t kt => k2.trans kt) (g T2 T2.heap v2 ⟨_, X2, rfl, KK.trans hq.2.1 hws, fun y hy => (List.mem_append.mp hy).elim (FF y) fun q => ?_⟩ hq.2.1 hq.1)
  exact (hq.2.2 y q).elim (fun z => hws _ z) fun z => Or.inr (Nat.le_trans KK.1 z)
theorem pureG {rm : Room} {r : Value} {ws' : List Addr} (hc : rm.cells = 0) (hs : rm.slots = 0) (g : ∀ T', St p l e R s m args below meth c h0 ws T' h cells slots → Go p e below FE h0 ws Q T' (mkF m pc' Ls (r :: st))) : ∀ T' h' v, St p l e R s m args below meth c h0 ws T' h' (cells + rm.cells) (slots + rm.slots) → Keep h h' ws' → (v = some r ∧ h' = h) → Go p e below FE h0 ws Q T' (mkF m pc' Ls (v.toList ++ st)) := by
  rintro T' h' v X k ⟨rfl, rfl⟩
  rw [hc, hs] at X; exact g T' X
theorem pureV {rm : Room} {ws' : List Addr} (hc : rm.cells = 0) (hs : rm.slots = 0) (g : ∀ T', St p l e R s m args below meth c h0 ws T' h cells slots → Go p e below FE h0 ws Q T' (mkF m pc' Ls st)) : ∀ T' h' v, St p l e R s m args below meth c h0 ws T' h' (cells + rm.cells) (slots + rm.slots) → Keep h h' ws' → (v = none ∧ h' = h) → Go p e below FE h0 ws Q T' (mkF m pc' Ls (v.toList ++ st)) := by
  rintro T' h' v X k ⟨rfl, rfl⟩
  rw [hc, hs] at X; exact g T' X
theorem joinH (X : St p l e R s m args below meth c h0 ws T h cells slots) {J : JFrame} {P : Heap → Prop} {cells' slots' : Nat} (b : (∀ T' h', St p l e R s m args below meth c h0 ws T' h' cells' slots' → P h' → Go p e below FE h0 ws Q T' J) → Go p e below FE h0 ws Q T (mkF m pc Ls st)) (k : ∀ T' h', St p l e R s m args below meth c h0 ws T' h' cells' slots' → P h' → Go p e below FE h0 ws Q T' J) : Go p e below FE h0 ws Q T (mkF m pc Ls st) := b k
theorem joinG {α : Type} (B : Fix p Z s m meth c bytes maxL own nm ret) (X : St p l e R s m args below meth c h0 ws T h cells slots) {J : α → JFrame} {r : α} {f : JFrame} (b : (∀ T', St p l e R s m args below meth c h0 ws T' h cells slots → Go p e below FE h0 ws Q T' (J r)) → Go p e below FE h0 ws Q T f) (k : ∀ T', St p l e R s m args below meth c h0 ws T' h cells slots → Go p e below FE h0 ws Q T' (J r)) : Go p e below FE h0 ws Q T f := b k
theorem nbb (x : Int32) : x.toInt8.toInt32.toInt8.toInt32 = x.toInt8.toInt32 := by simp
theorem nb (x : Int32) : nar .byte x.toInt8.toInt32 = x.toInt8.toInt32 := by simp [nar]
theorem retI (X : Stand p l e R s m args below meth c T locs cells slots) (hx : p.tables.exec = Jvm.exec) {z : Int32} {rest : List Value} (hret : meth.sig.returnType = some .int) (hd : decode c.code pc = .ok (.ireturn, 1)) {fs : List Frame}
    (hl : ∀ (f : JFrame) (acts : List Action), f.method = m → f.locked = none → f.entered = [] → (doReturn e (T.setTop f) acts (some (.int z))).1 = T.setFrames fs) : Steps p.tables e below (T.setTop (mkF m pc Ls (.int z :: rest))) (T.setFrames fs) := by
  have hm' : T.vm.method? m = some meth := X.method'
  have hn : narrow .int (.int z) = .int z := rfl
  show Steps p.tables e below (T.setTop { method := m, pc := pc, locals := Ls, stack := _ :: rest, locked := none }) _
  jvm_step X.here [X.here.top, hx, hd, hm', hret, hn]
  first | (intro acts; rw [hl _ acts rfl rfl rfl]) | rw [hl _ _ rfl rfl rfl]
  exact Steps.refl _
theorem gretI (B : Fix p Z s m meth c bytes maxL own nm (some .int)) (X : St p l e R s m args below meth c h0 ws T h cells slots)  {z : Int32} (hd : decode bytes pc = .ok (.ireturn, 1)) (hk : cells ≤ K) (hn : slots ≤ N) (hQ : Q (some (.int z)) h) : Go p e below (EndN s K N) h0 ws Q T (mkF m pc Ls (.int z :: st)) := by
  obtain ⟨L0, X, eT, KK, FF⟩ := X; have hlk := B.2.2.2.2.2.2.2; have hrt := B.2.2.2.2.2.2.1
  obtain ⟨fs, hr, hrun, hended, hW, hsame⟩ := X.leave (v := some (.int z)) (fun h => by rw [hrt] at h; cases h) hlk
  exact ⟨_, _, retI X B.1 hrt (hb B.2.2.1 hd) hr, hrun, hended, _, _, rfl, ⟨by show Q _ T.heap; rw [eT]; exact hQ, by show Keep h0 T.heap ws; rw [eT]; exact KK, FF⟩, ⟨_, rfl⟩, hW, hsame.mono hk hn⟩
theorem gretIW (B : Fix p Z (s.setVm vm1) m meth c bytes maxL own nm (some .int)) (X : St p l e R (s.setVm vm1) m args below meth c h0 ws T h cells slots) {n1 : Nat} (hS : s.Since vm1 n1) (hz : Sz n1 h) {z : Int32} (hd : decode bytes pc = .ok (.ireturn, 1)) (hk : cells ≤ K) (hn : slots ≤ N) (hQ : Q (some (.int z)) h) : Go p e below (EndW s K N) h0 ws Q T (mkF m pc Ls (.int z :: st)) := by
  obtain ⟨L0, X, eT, KK, FF⟩ := X; have hlk := B.2.2.2.2.2.2.2; have hrt := B.2.2.2.2.2.2.1
  obtain ⟨fs, hr, hrun, hended, hend⟩ := X.leaveW hS (by rw [eT]; exact hz) (v := some (.int z)) (fun h => by rw [hrt] at h; cases h) hlk
  exact ⟨_, _, retI X B.1 hrt (hb B.2.2.1 hd) hr, hrun, hended, _, _, rfl, ⟨by show Q _ T.heap; rw [eT]; exact hQ, by show Keep h0 T.heap ws; rw [eT]; exact KK, FF⟩, hend.1, hend.2.1, hend.2.2.1, hend.2.2.2.mono hk hn⟩
theorem gretN {t : FieldType} (B : Fix p Z s m meth c bytes maxL own nm (some t)) (X : St p l e R s m args below meth c h0 ws T h cells slots)  {z z' : Int32} (ht : t = .boolean ∨ t = .byte ∨ t = .char ∨ t = .short) (hz' : nar t z = z') (hd : decode bytes pc = .ok (.ireturn, 1)) (hk : cells ≤ K) (hn : slots ≤ N) (hQ : Q (some (.int z')) h) : Go p e below (EndN s K N) h0 ws Q T (mkF m pc Ls (.int z :: st)) := by
  subst hz'; obtain ⟨L0, X, eT, KK, FF⟩ := X; have hlk := B.2.2.2.2.2.2.2; have hrt := B.2.2.2.2.2.2.1
  obtain ⟨fs, hr, hrun, hended, hW, hsame⟩ := X.leave (v := some (.int (nar t z))) (fun h => by rw [hrt] at h; cases h) hlk
  exact ⟨_, _, retN X B.1 hrt ht (hb B.2.2.1 hd) hr, hrun, hended, _, _, rfl, ⟨by show Q _ T.heap; rw [eT]; exact hQ, by show Keep h0 T.heap ws; rw [eT]; exact KK, FF⟩, ⟨_, rfl⟩, hW, hsame.mono hk hn⟩
theorem gretNW {t : FieldType} (B : Fix p Z (s.setVm vm1) m meth c bytes maxL own nm (some t)) (X : St p l e R (s.setVm vm1) m args below meth c h0 ws T h cells slots) {n1 : Nat} (hS : s.Since vm1 n1) (hz : Sz n1 h) {z z' : Int32} (ht : t = .boolean ∨ t = .byte ∨ t = .char ∨ t = .short) (hz' : nar t z = z') (hd : decode bytes pc = .ok (.ireturn, 1)) (hk : cells ≤ K) (hn : slots ≤ N) (hQ : Q (some (.int z')) h) : Go p e below (EndW s K N) h0 ws Q T (mkF m pc Ls (.int z :: st)) := by
  subst hz'; obtain ⟨L0, X, eT, KK, FF⟩ := X; have hlk := B.2.2.2.2.2.2.2; have hrt := B.2.2.2.2.2.2.1
  obtain ⟨fs, hr, hrun, hended, hend⟩ := X.leaveW hS (by rw [eT]; exact hz) (v := some (.int (nar t z))) (fun h => by rw [hrt] at h; cases h) hlk
  exact ⟨_, _, retN X B.1 hrt ht (hb B.2.2.1 hd) hr, hrun, hended, _, _, rfl, ⟨by show Q _ T.heap; rw [eT]; exact hQ, by show Keep h0 T.heap ws; rw [eT]; exact KK, FF⟩, hend.1, hend.2.1, hend.2.2.1, hend.2.2.2.mono hk hn⟩
theorem gretL (B : Fix p Z s m meth c bytes maxL own nm (some .long)) (X : St p l e R s m args below meth c h0 ws T h cells slots)  {z : Int64} (hd : decode bytes pc = .ok (.lreturn, 1)) (hk : cells ≤ K) (hn : slots ≤ N) (hQ : Q (some (.long z)) h) : Go p e below (EndN s K N) h0 ws Q T (mkF m pc Ls (.long z :: st)) := by
  obtain ⟨L0, X, eT, KK, FF⟩ := X; have hlk := B.2.2.2.2.2.2.2; have hrt := B.2.2.2.2.2.2.1
  obtain ⟨fs, hr, hrun, hended, hW, hsame⟩ := X.leave (v := some (.long z)) (fun h => by rw [hrt] at h; cases h) hlk
  exact ⟨_, _, retOut X B.1 hrt rfl (Or.inr (Or.inl ⟨rfl, rfl, _, rfl⟩)) (hb B.2.2.1 hd) hr, hrun, hended, _, _, rfl, ⟨by show Q _ T.heap; rw [eT]; exact hQ, by show Keep h0 T.heap ws; rw [eT]; exact KK, FF⟩, ⟨_, rfl⟩, hW, hsame.mono hk hn⟩
theorem gretLW (B : Fix p Z (s.setVm vm1) m meth c bytes maxL own nm (some .long)) (X : St p l e R (s.setVm vm1) m args below meth c h0 ws T h cells slots) {n1 : Nat} (hS : s.Since vm1 n1) (hz : Sz n1 h) {z : Int64} (hd : decode bytes pc = .ok (.lreturn, 1)) (hk : cells ≤ K) (hn : slots ≤ N) (hQ : Q (some (.long z)) h) : Go p e below (EndW s K N) h0 ws Q T (mkF m pc Ls (.long z :: st)) := by
  obtain ⟨L0, X, eT, KK, FF⟩ := X; have hlk := B.2.2.2.2.2.2.2; have hrt := B.2.2.2.2.2.2.1
  obtain ⟨fs, hr, hrun, hended, hend⟩ := X.leaveW hS (by rw [eT]; exact hz) (v := some (.long z)) (fun h => by rw [hrt] at h; cases h) hlk
  exact ⟨_, _, retOut X B.1 hrt rfl (Or.inr (Or.inl ⟨rfl, rfl, _, rfl⟩)) (hb B.2.2.1 hd) hr, hrun, hended, _, _, rfl, ⟨by show Q _ T.heap; rw [eT]; exact hQ, by show Keep h0 T.heap ws; rw [eT]; exact KK, FF⟩, hend.1, hend.2.1, hend.2.2.1, hend.2.2.2.mono hk hn⟩
theorem gretA {t : FieldType} (B : Fix p Z s m meth c bytes maxL own nm (some t)) (X : St p l e R s m args below meth c h0 ws T h cells slots)  {a : Addr} (ht : t.isReference = true) (hnn : narrow t (.ref a) = .ref a) (hd : decode bytes pc = .ok (.areturn, 1)) (hk : cells ≤ K) (hn : slots ≤ N) (hQ : Q (some (.ref a)) h) : Go p e below (EndN s K N) h0 ws Q T (mkF m pc Ls (.ref a :: st)) := by
  obtain ⟨L0, X, eT, KK, FF⟩ := X; have hlk := B.2.2.2.2.2.2.2; have hrt := B.2.2.2.2.2.2.1
  obtain ⟨fs, hr, hrun, hended, hW, hsame⟩ := X.leave (v := some (.ref a)) (fun h => by rw [hrt] at h; cases h) hlk
  exact ⟨_, _, retOut X B.1 hrt hnn (Or.inr (Or.inr (Or.inr (Or.inr ⟨rfl, ht, rfl⟩)))) (hb B.2.2.1 hd) hr, hrun, hended, _, _, rfl, ⟨by show Q _ T.heap; rw [eT]; exact hQ, by show Keep h0 T.heap ws; rw [eT]; exact KK, FF⟩, ⟨_, rfl⟩, hW, hsame.mono hk hn⟩
theorem gretAW {t : FieldType} (B : Fix p Z (s.setVm vm1) m meth c bytes maxL own nm (some t)) (X : St p l e R (s.setVm vm1) m args below meth c h0 ws T h cells slots) {n1 : Nat} (hS : s.Since vm1 n1) (hz : Sz n1 h) {a : Addr} (ht : t.isReference = true) (hnn : narrow t (.ref a) = .ref a) (hd : decode bytes pc = .ok (.areturn, 1)) (hk : cells ≤ K) (hn : slots ≤ N) (hQ : Q (some (.ref a)) h) : Go p e below (EndW s K N) h0 ws Q T (mkF m pc Ls (.ref a :: st)) := by
  obtain ⟨L0, X, eT, KK, FF⟩ := X; have hlk := B.2.2.2.2.2.2.2; have hrt := B.2.2.2.2.2.2.1
  obtain ⟨fs, hr, hrun, hended, hend⟩ := X.leaveW hS (by rw [eT]; exact hz) (v := some (.ref a)) (fun h => by rw [hrt] at h; cases h) hlk
  exact ⟨_, _, retOut X B.1 hrt hnn (Or.inr (Or.inr (Or.inr (Or.inr ⟨rfl, ht, rfl⟩)))) (hb B.2.2.1 hd) hr, hrun, hended, _, _, rfl, ⟨by show Q _ T.heap; rw [eT]; exact hQ, by show Keep h0 T.heap ws; rw [eT]; exact KK, FF⟩, hend.1, hend.2.1, hend.2.2.1, hend.2.2.2.mono hk hn⟩
theorem gretV (B : Fix p Z s m meth c bytes maxL own nm none) (X : St p l e R s m args below meth c h0 ws T h cells slots)   (hd : decode bytes pc = .ok (.return_, 1)) (hk : cells ≤ K) (hn : slots ≤ N) (hQ : Q (none) h) : Go p e below (EndN s K N) h0 ws Q T (mkF m pc Ls []) := by
  obtain ⟨L0, X, eT, KK, FF⟩ := X; have hlk := B.2.2.2.2.2.2.2; have hrt := B.2.2.2.2.2.2.1
  obtain ⟨fs, hr, hrun, hended, hW, hsame⟩ := X.leave (v := none) (fun h => rfl) hlk
  exact ⟨_, _, X.returnOut B.1 hrt (hb B.2.2.1 hd) hr, hrun, hended, _, _, rfl, ⟨by show Q _ T.heap; rw [eT]; exact hQ, by show Keep h0 T.heap ws; rw [eT]; exact KK, FF⟩, ⟨_, rfl⟩, hW, hsame.mono hk hn⟩
theorem gretVW (B : Fix p Z (s.setVm vm1) m meth c bytes maxL own nm none) (X : St p l e R (s.setVm vm1) m args below meth c h0 ws T h cells slots) {n1 : Nat} (hS : s.Since vm1 n1) (hz : Sz n1 h)  (hd : decode bytes pc = .ok (.return_, 1)) (hk : cells ≤ K) (hn : slots ≤ N) (hQ : Q (none) h) : Go p e below (EndW s K N) h0 ws Q T (mkF m pc Ls []) := by
  obtain ⟨L0, X, eT, KK, FF⟩ := X; have hlk := B.2.2.2.2.2.2.2; have hrt := B.2.2.2.2.2.2.1
  obtain ⟨fs, hr, hrun, hended, hend⟩ := X.leaveW hS (by rw [eT]; exact hz) (v := none) (fun h => rfl) hlk
  exact ⟨_, _, X.returnOut B.1 hrt (hb B.2.2.1 hd) hr, hrun, hended, _, _, rfl, ⟨by show Q _ T.heap; rw [eT]; exact hQ, by show Keep h0 T.heap ws; rw [eT]; exact KK, FF⟩, hend.1, hend.2.1, hend.2.2.1, hend.2.2.2.mono hk hn⟩
theorem MethW.of {y : MethodName} {rm : Room} {as' : Array Value} (hpl : plainFor y = true)
    (body : ∀ (p : Program) (e : Env) (s : State) (m : MethodId) (below : List Frame) (meth : Method) (c : Code) (T : State), Fix p Z (s.setVm s.vm) m meth c bytes maxL y.cls y.name ret → St p l e rm (s.setVm s.vm) m as' below meth c h0 ws T h0 0 0 → s.Since s.vm 0 → Go p e below (EndW s rm.cells rm.slots) h0 ws Q T (entryFrame m as' maxL)) :
    MethW l Z y bytes maxL ret rm as' h0 ws Q := by
  intro wl
  refine MetFree.of_bodySF hpl hisR ?_
  intro p e s m args below meth c s₁ Bd hml0 hP hK
  obtain ⟨rfl, hZ, hh⟩ := hP
  have X0 : Stand p l e rm s m _ below meth c s₁ [] 0 0 := Stand.of_body Bd
  have e0 : s₁.heap = h0 := by rw [← hh, Bd.state]; rfl
  exact body p e s m below meth c s₁ ⟨Bd.exec, hZ, Bd.bytes, hml0, findClass_of_methodNamed Bd.named, (name_of_methodNamed Bd.named Bd.method).1, Bd.returns, Bd.notSynchronized⟩ ⟨[], X0, e0, Keep.refl _ _, fun y hy => nomatch hy⟩ ((State.WarmedH.refl s).since 0)
theorem gldcS (B : Fix p Z (s.setVm vm1) m meth c bytes maxL own nm ret) (X : St p l e R (s.setVm vm1) m args below meth c h0 ws T h cells slots) {n1 : Nat} (hS : s.Since vm1 n1) (hz : Sz n1 h) {i n : Nat} {text : String} (w : (Cond.stringLink own i text).before a0 Z = true) (wS : ∀ a ∈ Bundle.stringAtoms, a.before a0 Z = true) (hn : 4 * text.toList.length ≤ n) (hbig : n ≤ 536870912) (hc : cells + 2 ≤ R.cells) (hl : slots + (n + 4) ≤ R.slots) (hd : decode bytes pc = .ok (.ldc i, 2)) (hp : pc' = pc + 2) (g : ∀ (a : Addr) T' h' vm2, Fix p Z (s.setVm vm2) m meth c bytes maxL own nm ret → St p l e R (s.setVm vm2) m args below meth c h0 ws T' h' (cells + 2) (slots + (n + 4)) → s.Since vm2 h'.size → Ext h h' → Go p e below FE h0 ws Q T' (mkF m pc' Ls (.ref a :: st))) : Go p e below FE h0 ws Q T (mkF m pc Ls st) := by
  subst hp; obtain ⟨L0, X, eT, KK, FF⟩ := X
  obtain ⟨a, T', h', k1, X', e', E, S', hk1, hZ', ho', k⟩ := ldcS X B.1 B.2.1 B.2.2.2.2.1 w wS eT hS hz (g := mkF m pc Ls st) rfl (hb B.2.2.1 hd) hn hbig hc hl
  exact Go.to k (g a T' h' T'.vm ⟨B.1, hZ', B.2.2.1, B.2.2.2.1, ho', B.2.2.2.2.2.1, B.2.2.2.2.2.2.1, B.2.2.2.2.2.2.2⟩ ⟨L0, X', e', KK.ext E, FF⟩ ⟨S'.1, fun j q hj hq => ⟨(S'.2 j q hj hq).1, Nat.lt_of_lt_of_le (S'.2 j q hj hq).2 hk1⟩⟩ E)
theorem gcallIW (B : Fix p Z (s.setVm vm1) m meth c bytes maxL own nm ret) (X : St p l e R (s.setVm vm1) m args below meth c h0 ws T h cells slots) {n1 : Nat} (hS : s.Since vm1 n1) (hz : Sz n1 h) {y : MethodName} {bytes' : ByteArray} {maxL' : Nat} {ret' : Option FieldType} {rm : Room} {ws' : List Addr} {Q' : Option Value → Heap → Prop} {stk argsL : List Value} {i W : Nat} {ps : List FieldType} {rr : Option FieldType} {a : Addr} (hni : y.name = "<init>") (hret : ret' = none) (w1 : (Cond.methodLink own i y).before a0 Z = true) (w2 : (Cond.instanceMethod y).before a0 Z = true) (w3 : (Cond.initialized y.cls).before a0 Z = true) (w4 : (Cond.code y bytes' maxL' ret').before a0 Z = true) (hy : y.cls ≠ "java/lang/invoke/MethodHandle" ∧ y.cls ≠ "java/lang/invoke/VarHandle") (M : MethW l Z y bytes' maxL' ret' rm (.ref a :: argsL).toArray h ws' Q') (hpd : parseMethodDescriptor y.desc = some ⟨ps, rr⟩) (hlen : argsL.length = ps.length) (hstk : stk = argsL.reverse ++ .ref a :: st) (hsz : Ls.size = maxL) (hW : (st.map fun v => v.category).sum ≤ W) (hfr : rm.frames + 1 ≤ R.frames) (hlo : W + (maxL' + 11) + rm.locals ≤ R.locals) (hcs : cells + rm.cells ≤ R.cells) (hss : slots + rm.slots ≤ R.slots) (hws : ∀ x ∈ ws', x ∈ ws ∨ h0.size ≤ x) (hd : decode bytes pc = .ok (.invokespecial i, 3)) (hp : pc' = pc + 3)
    (g : ∀ T' h' v vm2, Fix p Z (s.setVm vm2) m meth c bytes maxL own nm ret → St p l e R (s.setVm vm2) m args below meth c h0 ws T' h' (cells + rm.cells) (slots + rm.slots) → s.Since vm2 h'.size → Keep h h' ws' → Q' v h' → Go p e below FE h0 ws Q T' (mkF m pc' Ls (v.toList ++ st))) : Go p e below FE h0 ws Q T (mkF m pc Ls stk) := by
  subst hp; subst hstk; obtain ⟨L0, X, eT, KK, FF⟩ := X
  subst hret
  obtain ⟨v2, _, ⟨T2, L2, c2, n2⟩, -, X2, S2, G2, ⟨Lc2, hq, l2, y2, z2⟩, k2⟩ := X.specialBackS B.1 (y := y) hni B.2.2.2.2.1 (mvT B.2.1 w1) (mvT B.2.1 w2) (mvT B.2.1 w4) hy (backOfS (W := W) (Q := fun v h' L => Q' v h' ∧ Keep h h' ws' ∧ FrW h ws' L) (M []) B.2.1 w4 w3 hfr hlo) (g := mkF m pc Ls (argsL.reverse ++ .ref a :: st)) rfl (hsz.trans B.2.2.2.1.symm) (Steps.refl _) (a := a) (argsL := argsL) (rest := st) (lenOf hpd hlen) rfl (by show 2 * 0 + _ ≤ _; rw [Nat.mul_zero, Nat.zero_add]; exact hW) (hb B.2.2.1 hd) (fun _ _ => ⟨rfl, eT, hcs, hss⟩)
  dsimp only [Pt.U, Pt.locs, Pt.cells, Pt.slots] at X2 S2 G2 l2 y2 z2 k2 hq
  subst l2 y2 z2
  obtain ⟨X3, S3, hZ3, ho3⟩ := rebS hS (Nat.le_trans hz (Nat.le_of_eq (congrArg Array.size eT.symm))) X2 S2 G2 B.2.1 B.2.2.2.2.1
  refine Go.to (fun t kt => k2.trans kt) (g T2 T2.heap v2 T2.vm ⟨B.1, hZ3, B.2.2.1, B.2.2.2.1, ho3, B.2.2.2.2.2.1, B.2.2.2.2.2.2.1, B.2.2.2.2.2.2.2⟩ ⟨_, X3, rfl, KK.trans hq.2.1 hws, fun y hy => (List.mem_append.mp hy).elim (FF y) fun q => ?_⟩ S3 hq.2.1 hq.1)
  exact (hq.2.2 y q).elim (fun z => hws _ z) fun z => Or.inr (Nat.le_trans KK.1 z)
end Go
end Jvm.OwnKit
namespace Jvm.Pilot.@@N@@
open Jvm Jvm.ClassFile Sem Op Lib Jvm.Free Jvm.Stand Jvm.LawKit Jvm.RoadKit Jvm.OwnKit Bundle Jvm.Pilot.@@N@@.Jvm.D
def opows : List Int64 := [1, 10, 100, 1000, 10000, 100000, 1000000, 10000000, 100000000, 1000000000, 10000000000]
def opow (x : Nat) : Int64 := opows.getD x 0
def odig (w : Int64) (x : Nat) : Int32 := ((48 : Int32) + ((w / opow x) % (10 : Int64)).toInt32).toInt8.toInt32
def oput (bs : List Int32) (sN i kN : Nat) (w : Int64) (t : Int32) : List Int32 := if i < kN then bs.set (sN + i) (odig w (kN - 1 - i)) else if i = kN then bs.set (sN + i) t else bs
def orec (bs : List Int32) (sN kN : Nat) (w : Int64) (t : Int32) : Nat → List Int32
  | 0 => bs
  | i + 1 => oput (orec bs sN kN w t i) sN i kN w t
def oacc (bs : List Int32) (sN : Nat) : Nat → Int32
  | 0 => 0
  | i + 1 => (10 : Int32) * oacc bs sN i + (bs.getD (sN + i) 0 - (48 : Int32))
def ores (st kk sg : Int32) (kN : Nat) (ac : Int32) : Int64 := if kN = 0 ∨ 9 < kN then (-1 : Int64) else (((st + kk).toInt64 <<< ((32 : Int32) &&& 0x3f).toInt64) ||| ((if sg = (0 : Int32) then ac else (-ac)).toInt64 &&& (4294967295 : Int64)))
theorem own_clamp {x : Int32} {n : Nat} (h : x.toInt = n) : x.toNatClampNeg = n := by simp only [Int32.toNatClampNeg]; omega
theorem own_pw {x : Int32} {eN : Nat} (he : x.toInt = eN) (h : eN < 11) : (opows.map Value.long)[x.toNatClampNeg]? = some (.long (opow eN)) := by
  rw [own_clamp he]; exact own_atL h
theorem own_p10 : ∀ x : Fin 11, (opow x.1).toInt = ((10 ^ x.1 : Nat) : Int) ∧ opow x.1 ≠ 0 ∧ opow x.1 ≠ -1 := by decide
theorem own_add {x y : Int32} {a b : Nat} (hx : x.toInt = a) (hy : y.toInt = b) (h : a + b < 1000) : (x + y).toInt = ((a + b : Nat) : Int) := by
  have h1 := c_iadd x y; have h2 := rng32 (x + y); omega
theorem own_subN {x y : Int32} {a b : Nat} (hx : x.toInt = a) (hy : y.toInt = b) (ha : a < 1000) (h : b ≤ a) : (x - y).toInt = ((a - b : Nat) : Int) := by
  have h1 := c_isub x y; have h2 := rng32 (x - y); omega
theorem own_ltN {x y : Int32} {a b : Nat} (hx : x.toInt = a) (hy : y.toInt = b) : x < y ↔ a < b := by rw [Int32.lt_iff_toInt_lt]; omega
theorem own_eqN {x y : Int32} {a b : Nat} (hx : x.toInt = a) (hy : y.toInt = b) : x = y ↔ a = b := by rw [← Int32.toInt_inj]; omega
theorem own_ke {k i : Int32} {kN iN : Nat} (hk : k.toInt = kN) (hi : i.toInt = iN) (hk11 : kN ≤ 11) (h : i < k) : (k - (1 : Int32) - i).toInt = ((kN - 1 - iN : Nat) : Int) := by
  have h3 := (own_ltN hi hk).mp h
  exact own_subN (own_subN hk (b := 1) rfl (by omega) (by omega)) hi (by omega) (by omega)
theorem own_len (bs : List Int32) (sN kN : Nat) (w : Int64) (t : Int32) (i : Nat) : (orec bs sN kN w t i).length = bs.length := by
  induction i with
  | zero => rfl
  | succ i ih =>
    show (oput _ _ _ _ _ _).length = _
    unfold oput
    split
    · rw [List.length_set, ih]
    · split
      · rw [List.length_set, ih]
      · exact ih
theorem own_getset (bs : List Int32) (i j : Nat) (x : Int32) (hi : i < bs.length) : (bs.set i x).getD j 0 = if i = j then x else bs.getD j 0 := by
  rw [List.getD_eq_getElem?_getD, List.getElem?_set, List.getD_eq_getElem?_getD]
  by_cases h : i = j
  · subst h; rw [if_pos rfl, if_pos hi, if_pos rfl]; rfl
  · rw [if_neg h, if_neg h]
def ofin (bs : List Int32) (sN kN : Nat) (w : Int64) (t : Int32) (j : Nat) : Int32 := if j < kN then odig w (kN - 1 - j) else if j = kN then t else bs.getD (sN + j) 0
theorem own_rec (bs : List Int32) (sN kN : Nat) (w : Int64) (t : Int32) (i : Nat) (hb : sN + i ≤ bs.length) : ∀ j, (orec bs sN kN w t i).getD j 0 = if sN ≤ j ∧ j < sN + i then ofin bs sN kN w t (j - sN) else bs.getD j 0 := by
  induction i with
  | zero => intro j; rw [if_neg (by omega)]; rfl
  | succ i ih =>
    intro j
    have ih := ih (by omega) j
    have hl : sN + i < (orec bs sN kN w t i).length := by rw [own_len]; omega
    show (oput _ _ _ _ _ _).getD j 0 = _
    unfold oput
    by_cases e : sN + i = j
    · have e2 : j - sN = i := by omega
      rw [if_pos (show sN ≤ j ∧ j < sN + (i + 1) by omega), e2]
      unfold ofin
      by_cases c : i < kN
      · rw [if_pos c, if_pos c, own_getset _ _ _ _ hl, if_pos e]
      · rw [if_neg c, if_neg c]
        by_cases c2 : i = kN
        · rw [if_pos c2, if_pos c2, own_getset _ _ _ _ hl, if_pos e]
        · rw [if_neg c2, if_neg c2, ih, if_neg (by omega), e]
    · have : (if sN ≤ j ∧ j < sN + (i + 1) then ofin bs sN kN w t (j - sN) else bs.getD j 0) = if sN ≤ j ∧ j < sN + i then ofin bs sN kN w t (j - sN) else bs.getD j 0 := by
        by_cases c : sN ≤ j ∧ j < sN + i
        · rw [if_pos c, if_pos (by omega)]
        · rw [if_neg c, if_neg (by omega)]
      rw [this, ← ih]
      by_cases c : i < kN
      · rw [if_pos c, own_getset _ _ _ _ hl, if_neg e]
      · rw [if_neg c]
        by_cases c2 : i = kN
        · rw [if_pos c2, own_getset _ _ _ _ hl, if_neg e]
        · rw [if_neg c2]
theorem own_dig {w : Int64} {wN x : Nat} (hw : w.toInt = wN) (hx : x < 11) : (odig w x).toInt = ((48 + (wN / 10 ^ x) % 10 : Nat) : Int) := by
  obtain ⟨h1, h2, h3⟩ := own_p10 ⟨x, hx⟩
  have q := (c_ldiv w (opow x) _ h1 h3).1 (by omega)
  have q2 : (w / opow x).toInt = ((wN / 10 ^ x : Nat) : Int) := by rw [q, hw]; rfl
  have r : ((w / opow x) % 10).toInt = ((wN / 10 ^ x % 10 : Nat) : Int) := by
    have := (c_lrem (w / opow x) 10 10 (by decide)).1 (by rw [q2]; exact Int.natCast_nonneg _)
    rw [lrem_mod] at this
    rw [this, q2]; rfl
  have dl := Nat.mod_lt (wN / 10 ^ x) (show 10 > 0 by decide)
  unfold odig
  generalize wN / 10 ^ x % 10 = d at r dl ⊢
  generalize (w / opow x) % 10 = y at r ⊢
  have l1 := c_l2i y; have l2 := rng32 y.toInt32
  have a1 := c_iadd 48 y.toInt32; have a2 := rng32 (48 + y.toInt32)
  have b1 := c_i2b (48 + y.toInt32)
  have z : (48 : Int32).toInt = 48 := rfl
  omega
theorem own_acc {bs : List Int32} {sN kN wN : Nat} {w : Int64} (hw : w.toInt = wN) (hk : kN ≤ 9) (hd : ∀ j, j < kN → bs.getD (sN + j) 0 = odig w (kN - 1 - j)) : ∀ n, n ≤ kN → (oacc bs sN n).toInt = (((wN / 10 ^ (kN - n)) % 10 ^ n : Nat) : Int) := by
  intro n
  induction n with
  | zero => intro _; simp [oacc, Nat.mod_one]
  | succ n ih =>
    intro hn
    have ih := ih (by omega)
    have e1 : kN - n = (kN - (n + 1)) + 1 := by omega
    have e2 : kN - 1 - n = kN - (n + 1) := by omega
    rw [e1, Nat.pow_succ, ← Nat.div_div_eq_div_mul] at ih
    have d1 := own_dig (x := kN - (n + 1)) hw (by omega)
    rw [← e2, ← hd n (by omega), e2] at d1
    generalize wN / 10 ^ (kN - (n + 1)) = y at ih d1 ⊢
    have hm : y % 10 ^ (n + 1) = y % 10 + 10 * (y / 10 % 10 ^ n) := by rw [Nat.pow_succ', Nat.mod_mul]
    have hp : 10 ^ n ≤ 10 ^ 8 := Nat.pow_le_pow_right (by decide) (by omega)
    have hl := Nat.mod_lt (y / 10) (show 10 ^ n > 0 from Nat.pow_pos (by decide))
    rw [hm]
    generalize y / 10 % 10 ^ n = u at ih hl ⊢
    have dl := Nat.mod_lt y (show 10 > 0 by decide)
    generalize y % 10 = d at d1 dl ⊢
    show ((10 : Int32) * oacc bs sN n + (bs.getD (sN + n) 0 - (48 : Int32))).toInt = _
    generalize oacc bs sN n = ac at ih ⊢
    generalize bs.getD (sN + n) 0 = x at d1 ⊢
    have z : (48 : Int32).toInt = 48 := rfl
    have z2 : (10 : Int32).toInt = 10 := rfl
    have s1 := c_isub x 48; have s2 := rng32 (x - 48)
    have m1 := c_imul 10 ac; have m2 := rng32 (10 * ac)
    have a1 := c_iadd (10 * ac) (x - 48); have a2 := rng32 (10 * ac + (x - 48))
    rw [z2, ih] at m1
    omega
theorem own_val {bs : List Int32} {sN kN wN : Nat} {w : Int64} (hw : w.toInt = wN) (hk : kN ≤ 9) (hd : ∀ j, j < kN → bs.getD (sN + j) 0 = odig w (kN - 1 - j)) : oacc bs sN kN = (w % opow kN).toInt32 := by
  have h := own_acc hw hk hd kN (Nat.le_refl _)
  rw [Nat.sub_self, Nat.pow_zero, Nat.div_one] at h
  obtain ⟨h1, h2, h3⟩ := own_p10 ⟨kN, by omega⟩
  have r : (w % opow kN).toInt = ((wN % 10 ^ kN : Nat) : Int) := by
    have := (c_lrem w (opow kN) _ h1).1 (by omega)
    rw [lrem_mod] at this
    rw [this, hw]; rfl
  have hp : 10 ^ kN ≤ 10 ^ 9 := Nat.pow_le_pow_right (by decide) hk
  have hl := Nat.mod_lt wN (show 10 ^ kN > 0 from Nat.pow_pos (by decide))
  have l1 := c_l2i (w % opow kN); have l2 := rng32 (w % opow kN).toInt32
  apply Int32.toInt_inj.mp
  omega
theorem own_k (x : Int32) : ∃ kN : Nat, ((x &&& (2147483647 : Int32)) % (12 : Int32)).toInt = kN ∧ kN ≤ 11 := by
  have h := c_mask x 2147483647 31 (by decide) (by decide)
  have h2 := (c_irem (x &&& 2147483647) 12 12 (by decide)).1 (by rw [h]; omega)
  exact ⟨((x &&& (2147483647 : Int32)) % (12 : Int32)).toInt.toNat, by omega, by omega⟩
theorem own_w (x : Int64) : ∃ wN : Nat, (x &&& (9223372036854775807 : Int64)).toInt = wN := by
  have h := c_maskL x 9223372036854775807 63 (by decide) (by decide)
  exact ⟨(x &&& (9223372036854775807 : Int64)).toInt.toNat, by omega⟩
theorem own_and3 (x : Int32) : x &&& 3 = 0 ∨ x &&& 3 = 1 ∨ x &&& 3 = 2 ∨ x &&& 3 = 3 := by
  have h := c_mask x 3 2 (by decide) (by decide)
  simp only [← Int32.toInt_inj, h, Int32.reduceToInt]; omega
theorem own_neg (x : Int32) : (x ||| (-2147483648 : Int32)) < 0 := by
  rw [Int32.lt_iff_toInt_lt]; exact (c_orS x (-2147483648)).2.2 (by decide)
/-- what the number's text is: a run of kN digits from sN on, and no digit behind -/
def Run (bs : List Int32) (sN kN : Nat) : Prop := bs.length = 18 ∧ sN ≤ 4 ∧ kN ≤ 11 ∧ (∀ j, j < kN → 48 ≤ (bs.getD (sN + j) 0).toInt ∧ (bs.getD (sN + j) 0).toInt ≤ 57) ∧ ¬ (48 ≤ (bs.getD (sN + kN) 0).toInt ∧ (bs.getD (sN + kN) 0).toInt ≤ 57)
section tail
variable {pos st kk sg : Int32} {sN kN n : Nat} {ac : Int32}
theorem own_t0 (hp : pos.toInt = ((sN + n : Nat) : Int)) (hs : st.toInt = sN) (hs4 : sN ≤ 4) (hn : n ≤ 10) : (pos - st).toInt = (n : Int) := by
  have := own_subN hp hs (by omega) (by omega); omega
theorem own_r1 (hk : n = kN ∨ (n = 10 ∧ 10 ≤ kN)) (h : (pos - st).toInt = (n : Int)) (q : pos - st = (0 : Int32)) : ores st kk sg kN ac = (-1 : Int64) := by
  rw [q] at h; have z : (0 : Int32).toInt = 0 := rfl
  exact if_pos (by omega)
theorem own_r2 (hk : n = kN ∨ (n = 10 ∧ 10 ≤ kN)) (h : (pos - st).toInt = (n : Int)) (q : (9 : Int32) < pos - st) : ores st kk sg kN ac = (-1 : Int64) := by
  rw [Int32.lt_iff_toInt_lt, h] at q; have z : (9 : Int32).toInt = 9 := rfl
  exact if_pos (by omega)
theorem own_r3 (hk : n = kN ∨ (n = 10 ∧ 10 ≤ kN)) (h : (pos - st).toInt = (n : Int)) (q0 : ¬ pos - st = (0 : Int32)) (q : ¬ (9 : Int32) < pos - st) : n = kN ∧ ¬ (kN = 0 ∨ 9 < kN) := by
  rw [Int32.lt_iff_toInt_lt, h] at q; have z : (9 : Int32).toInt = 9 := rfl
  rw [← Int32.toInt_inj, h] at q0; have z0 : (0 : Int32).toInt = 0 := rfl
  omega
theorem own_pos (hp : pos.toInt = ((sN + kN : Nat) : Int)) (hs : st.toInt = sN) (hs4 : sN ≤ 4) (hkk : kk.toInt = kN) (hk : kN ≤ 11) : pos = st + kk := by
  apply Int32.toInt_inj.mp; rw [own_add hs hkk (by omega), hp]
end tail

theorem d2_0 : decode method_2_code 0 = .ok (.bipush 11, 2) := by decide +kernel
theorem d2_2 : decode method_2_code 2 = .ok (.newarray .long, 2) := by decide +kernel
theorem d2_4 : decode method_2_code 4 = .ok (.dup, 1) := by decide +kernel
theorem d2_5 : decode method_2_code 5 = .ok (.iconst 0, 1) := by decide +kernel
theorem d2_6 : decode method_2_code 6 = .ok (.lconst 1, 1) := by decide +kernel
theorem d2_7 : decode method_2_code 7 = .ok (.lastore, 1) := by decide +kernel
theorem d2_8 : decode method_2_code 8 = .ok (.dup, 1) := by decide +kernel
theorem d2_9 : decode method_2_code 9 = .ok (.iconst 1, 1) := by decide +kernel
theorem d2_10 : decode method_2_code 10 = .ok (.ldc2_w 7, 3) := by decide +kernel
theorem d2_13 : decode method_2_code 13 = .ok (.lastore, 1) := by decide +kernel
theorem d2_14 : decode method_2_code 14 = .ok (.dup, 1) := by decide +kernel
theorem d2_15 : decode method_2_code 15 = .ok (.iconst 2, 1) := by decide +kernel
theorem d2_16 : decode method_2_code 16 = .ok (.ldc2_w 9, 3) := by decide +kernel
theorem d2_19 : decode method_2_code 19 = .ok (.lastore, 1) := by decide +kernel
theorem d2_20 : decode method_2_code 20 = .ok (.dup, 1) := by decide +kernel
theorem d2_21 : decode method_2_code 21 = .ok (.iconst 3, 1) := by decide +kernel
theorem d2_22 : decode method_2_code 22 = .ok (.ldc2_w 11, 3) := by decide +kernel
theorem d2_25 : decode method_2_code 25 = .ok (.lastore, 1) := by decide +kernel
theorem d2_26 : decode method_2_code 26 = .ok (.dup, 1) := by decide +kernel
theorem d2_27 : decode method_2_code 27 = .ok (.iconst 4, 1) := by decide +kernel
theorem d2_28 : decode method_2_code 28 = .ok (.ldc2_w 13, 3) := by decide +kernel
theorem d2_31 : decode method_2_code 31 = .ok (.lastore, 1) := by decide +kernel
theorem d2_32 : decode method_2_code 32 = .ok (.dup, 1) := by decide +kernel
theorem d2_33 : decode method_2_code 33 = .ok (.iconst 5, 1) := by decide +kernel
theorem d2_34 : decode method_2_code 34 = .ok (.ldc2_w 15, 3) := by decide +kernel
theorem d2_37 : decode method_2_code 37 = .ok (.lastore, 1) := by decide +kernel
theorem d2_38 : decode method_2_code 38 = .ok (.dup, 1) := by decide +kernel
theorem d2_39 : decode method_2_code 39 = .ok (.bipush 6, 2) := by decide +kernel
theorem d2_41 : decode method_2_code 41 = .ok (.ldc2_w 17, 3) := by decide +kernel
theorem d2_44 : decode method_2_code 44 = .ok (.lastore, 1) := by decide +kernel
theorem d2_45 : decode method_2_code 45 = .ok (.dup, 1) := by decide +kernel
theorem d2_46 : decode method_2_code 46 = .ok (.bipush 7, 2) := by decide +kernel
theorem d2_48 : decode method_2_code 48 = .ok (.ldc2_w 19, 3) := by decide +kernel
theorem d2_51 : decode method_2_code 51 = .ok (.lastore, 1) := by decide +kernel
theorem d2_52 : decode method_2_code 52 = .ok (.dup, 1) := by decide +kernel
theorem d2_53 : decode method_2_code 53 = .ok (.bipush 8, 2) := by decide +kernel
theorem d2_55 : decode method_2_code 55 = .ok (.ldc2_w 21, 3) := by decide +kernel
theorem d2_58 : decode method_2_code 58 = .ok (.lastore, 1) := by decide +kernel
theorem d2_59 : decode method_2_code 59 = .ok (.dup, 1) := by decide +kernel
theorem d2_60 : decode method_2_code 60 = .ok (.bipush 9, 2) := by decide +kernel
theorem d2_62 : decode method_2_code 62 = .ok (.ldc2_w 23, 3) := by decide +kernel
theorem d2_65 : decode method_2_code 65 = .ok (.lastore, 1) := by decide +kernel
theorem d2_66 : decode method_2_code 66 = .ok (.dup, 1) := by decide +kernel
theorem d2_67 : decode method_2_code 67 = .ok (.bipush 10, 2) := by decide +kernel
theorem d2_69 : decode method_2_code 69 = .ok (.ldc2_w 25, 3) := by decide +kernel
theorem d2_72 : decode method_2_code 72 = .ok (.lastore, 1) := by decide +kernel
theorem d2_73 : decode method_2_code 73 = .ok (.astore_n 1, 1) := by decide +kernel
theorem d2_74 : decode method_2_code 74 = .ok (.aload_n 1, 1) := by decide +kernel
theorem d2_75 : decode method_2_code 75 = .ok (.iload_n 0, 1) := by decide +kernel
theorem d2_76 : decode method_2_code 76 = .ok (.laload, 1) := by decide +kernel
theorem d2_77 : decode method_2_code 77 = .ok (.lreturn, 1) := by decide +kernel
theorem pn2 : plainFor (⟨"com/example/nabu/nabu/protocol/PlainFieldsNumberPinLaw", "pow10", "(I)J"⟩ : MethodName) = true := plainFor_of_name (by first | (simp [plainName, overriddenIn]; done) | decide +kernel)
theorem ef2_I (m : MethodId) (x0 : Int32) : entryFrame m #[(.int x0)] 2 = mkF m 0 #[.val (.int x0), .unset] [] := by first | (simp [entryFrame, mkF, argsToLocals, Value.category]; done) | rfl
def rmr2 : Room := { frames := 0, cells := 1, slots := 11, locals := 0 }
set_option maxRecDepth 65536 in
set_option maxHeartbeats 4000000 in
theorem mt2 (l : Launch) (Z : State) (a0 : Array Value) (hw : ∀ d ∈ tables_1, d.before a0 Z = true) (x : Int32) (eN : Nat) (h0 : Heap) (he : x.toInt = eN) (he2 : eN < 11) : Meth l Z (⟨"com/example/nabu/nabu/protocol/PlainFieldsNumberPinLaw", "pow10", "(I)J"⟩ : MethodName) method_2_code 2 (some .long) rmr2 #[(.int x)] h0 [] (fun v h' => v = some (.long (opow eN))) := by
  refine Meth.of pn2 ?_
  intro p e s m below meth c T B X
  refine Go.entry (ef2_I m x) ?_
  refine gbipush B X d2_0 (v := (11 : Int32)) rfl (pc' := 2) rfl ?_
  refine gnewarray B X (cap := 11) (vs := [(.long (0 : Int64)), (.long (0 : Int64)), (.long (0 : Int64)), (.long (0 : Int64)), (.long (0 : Int64)), (.long (0 : Int64)), (.long (0 : Int64)), (.long (0 : Int64)), (.long (0 : Int64)), (.long (0 : Int64)), (.long (0 : Int64))]) (ty := .long) rfl rfl (hw _ (List.mem_of_getElem? (i := 10) rfl)) (by decide) (by decide) (by decide) (by decide) (by decide) d2_2 (pc' := 4) rfl fun T1 h2 a3 X4 q5 E6 z_a3 A7 => ?_
  refine gdup B X4 d2_4 rfl (pc' := 5) rfl ?_
  refine giconst B X4 d2_5 (v := (0 : Int32)) rfl (pc' := 6) rfl ?_
  refine glconst B X4 d2_6 (v := (1 : Int64)) rfl (pc' := 7) rfl ?_
  refine glastore B X4 (i := 0) (n := 11) A7 rfl (by decide) rfl (vs' := [(.long (1 : Int64)), (.long (0 : Int64)), (.long (0 : Int64)), (.long (0 : Int64)), (.long (0 : Int64)), (.long (0 : Int64)), (.long (0 : Int64)), (.long (0 : Int64)), (.long (0 : Int64)), (.long (0 : Int64)), (.long (0 : Int64))]) rfl (Or.inr z_a3) d2_7 (pc' := 8) rfl fun T8 h9 X10 W11 A12 => ?_
  refine gdup B X10 d2_8 rfl (pc' := 9) rfl ?_
  refine giconst B X10 d2_9 (v := (1 : Int32)) rfl (pc' := 10) rfl ?_
  refine gldc2 B X10 (v := (10 : Int64)) (hw _ (List.mem_of_getElem? (i := 11) rfl)) d2_10 (pc' := 13) rfl ?_
  refine glastore B X10 (i := 1) (n := 11) A12 rfl (by decide) rfl (vs' := [(.long (1 : Int64)), (.long (10 : Int64)), (.long (0 : Int64)), (.long (0 : Int64)), (.long (0 : Int64)), (.long (0 : Int64)), (.long (0 : Int64)), (.long (0 : Int64)), (.long (0 : Int64)), (.long (0 : Int64)), (.long (0 : Int64))]) rfl (Or.inr z_a3) d2_13 (pc' := 14) rfl fun T13 h14 X15 W16 A17 => ?_
  refine gdup B X15 d2_14 rfl (pc' := 15) rfl ?_
  refine giconst B X15 d2_15 (v := (2 : Int32)) rfl (pc' := 16) rfl ?_
  refine gldc2 B X15 (v := (100 : Int64)) (hw _ (List.mem_of_getElem? (i := 12) rfl)) d2_16 (pc' := 19) rfl ?_
  refine glastore B X15 (i := 2) (n := 11) A17 rfl (by decide) rfl (vs' := [(.long (1 : Int64)), (.long (10 : Int64)), (.long (100 : Int64)), (.long (0 : Int64)), (.long (0 : Int64)), (.long (0 : Int64)), (.long (0 : Int64)), (.long (0 : Int64)), (.long (0 : Int64)), (.long (0 : Int64)), (.long (0 : Int64))]) rfl (Or.inr z_a3) d2_19 (pc' := 20) rfl fun T18 h19 X20 W21 A22 => ?_
  refine gdup B X20 d2_20 rfl (pc' := 21) rfl ?_
  refine giconst B X20 d2_21 (v := (3 : Int32)) rfl (pc' := 22) rfl ?_
  refine gldc2 B X20 (v := (1000 : Int64)) (hw _ (List.mem_of_getElem? (i := 13) rfl)) d2_22 (pc' := 25) rfl ?_
  refine glastore B X20 (i := 3) (n := 11) A22 rfl (by decide) rfl (vs' := [(.long (1 : Int64)), (.long (10 : Int64)), (.long (100 : Int64)), (.long (1000 : Int64)), (.long (0 : Int64)), (.long (0 : Int64)), (.long (0 : Int64)), (.long (0 : Int64)), (.long (0 : Int64)), (.long (0 : Int64)), (.long (0 : Int64))]) rfl (Or.inr z_a3) d2_25 (pc' := 26) rfl fun T23 h24 X25 W26 A27 => ?_
  refine gdup B X25 d2_26 rfl (pc' := 27) rfl ?_
  refine giconst B X25 d2_27 (v := (4 : Int32)) rfl (pc' := 28) rfl ?_
  refine gldc2 B X25 (v := (10000 : Int64)) (hw _ (List.mem_of_getElem? (i := 14) rfl)) d2_28 (pc' := 31) rfl ?_
  refine glastore B X25 (i := 4) (n := 11) A27 rfl (by decide) rfl (vs' := [(.long (1 : Int64)), (.long (10 : Int64)), (.long (100 : Int64)), (.long (1000 : Int64)), (.long (10000 : Int64)), (.long (0 : Int64)), (.long (0 : Int64)), (.long (0 : Int64)), (.long (0 : Int64)), (.long (0 : Int64)), (.long (0 : Int64))]) rfl (Or.inr z_a3) d2_31 (pc' := 32) rfl fun T28 h29 X30 W31 A32 => ?_
  refine gdup B X30 d2_32 rfl (pc' := 33) rfl ?_
  refine giconst B X30 d2_33 (v := (5 : Int32)) rfl (pc' := 34) rfl ?_
  refine gldc2 B X30 (v := (100000 : Int64)) (hw _ (List.mem_of_getElem? (i := 15) rfl)) d2_34 (pc' := 37) rfl ?_
  refine glastore B X30 (i := 5) (n := 11) A32 rfl (by decide) rfl (vs' := [(.long (1 : Int64)), (.long (10 : Int64)), (.long (100 : Int64)), (.long (1000 : Int64)), (.long (10000 : Int64)), (.long (100000 : Int64)), (.long (0 : Int64)), (.long (0 : Int64)), (.long (0 : Int64)), (.long (0 : Int64)), (.long (0 : Int64))]) rfl (Or.inr z_a3) d2_37 (pc' := 38) rfl fun T33 h34 X35 W36 A37 => ?_
  refine gdup B X35 d2_38 rfl (pc' := 39) rfl ?_
  refine gbipush B X35 d2_39 (v := (6 : Int32)) rfl (pc' := 41) rfl ?_
  refine gldc2 B X35 (v := (1000000 : Int64)) (hw _ (List.mem_of_getElem? (i := 16) rfl)) d2_41 (pc' := 44) rfl ?_
  refine glastore B X35 (i := 6) (n := 11) A37 rfl (by decide) rfl (vs' := [(.long (1 : Int64)), (.long (10 : Int64)), (.long (100 : Int64)), (.long (1000 : Int64)), (.long (10000 : Int64)), (.long (100000 : Int64)), (.long (1000000 : Int64)), (.long (0 : Int64)), (.long (0 : Int64)), (.long (0 : Int64)), (.long (0 : Int64))]) rfl (Or.inr z_a3) d2_44 (pc' := 45) rfl fun T38 h39 X40 W41 A42 => ?_
  refine gdup B X40 d2_45 rfl (pc' := 46) rfl ?_
  refine gbipush B X40 d2_46 (v := (7 : Int32)) rfl (pc' := 48) rfl ?_
  refine gldc2 B X40 (v := (10000000 : Int64)) (hw _ (List.mem_of_getElem? (i := 17) rfl)) d2_48 (pc' := 51) rfl ?_
  refine glastore B X40 (i := 7) (n := 11) A42 rfl (by decide) rfl (vs' := [(.long (1 : Int64)), (.long (10 : Int64)), (.long (100 : Int64)), (.long (1000 : Int64)), (.long (10000 : Int64)), (.long (100000 : Int64)), (.long (1000000 : Int64)), (.long (10000000 : Int64)), (.long (0 : Int64)), (.long (0 : Int64)), (.long (0 : Int64))]) rfl (Or.inr z_a3) d2_51 (pc' := 52) rfl fun T43 h44 X45 W46 A47 => ?_
  refine gdup B X45 d2_52 rfl (pc' := 53) rfl ?_
  refine gbipush B X45 d2_53 (v := (8 : Int32)) rfl (pc' := 55) rfl ?_
  refine gldc2 B X45 (v := (100000000 : Int64)) (hw _ (List.mem_of_getElem? (i := 18) rfl)) d2_55 (pc' := 58) rfl ?_
  refine glastore B X45 (i := 8) (n := 11) A47 rfl (by decide) rfl (vs' := [(.long (1 : Int64)), (.long (10 : Int64)), (.long (100 : Int64)), (.long (1000 : Int64)), (.long (10000 : Int64)), (.long (100000 : Int64)), (.long (1000000 : Int64)), (.long (10000000 : Int64)), (.long (100000000 : Int64)), (.long (0 : Int64)), (.long (0 : Int64))]) rfl (Or.inr z_a3) d2_58 (pc' := 59) rfl fun T48 h49 X50 W51 A52 => ?_
  refine gdup B X50 d2_59 rfl (pc' := 60) rfl ?_
  refine gbipush B X50 d2_60 (v := (9 : Int32)) rfl (pc' := 62) rfl ?_
  refine gldc2 B X50 (v := (1000000000 : Int64)) (hw _ (List.mem_of_getElem? (i := 19) rfl)) d2_62 (pc' := 65) rfl ?_
  refine glastore B X50 (i := 9) (n := 11) A52 rfl (by decide) rfl (vs' := [(.long (1 : Int64)), (.long (10 : Int64)), (.long (100 : Int64)), (.long (1000 : Int64)), (.long (10000 : Int64)), (.long (100000 : Int64)), (.long (1000000 : Int64)), (.long (10000000 : Int64)), (.long (100000000 : Int64)), (.long (1000000000 : Int64)), (.long (0 : Int64))]) rfl (Or.inr z_a3) d2_65 (pc' := 66) rfl fun T53 h54 X55 W56 A57 => ?_
  refine gdup B X55 d2_66 rfl (pc' := 67) rfl ?_
  refine gbipush B X55 d2_67 (v := (10 : Int32)) rfl (pc' := 69) rfl ?_
  refine gldc2 B X55 (v := (10000000000 : Int64)) (hw _ (List.mem_of_getElem? (i := 20) rfl)) d2_69 (pc' := 72) rfl ?_
  refine glastore B X55 (i := 10) (n := 11) A57 rfl (by decide) rfl (vs' := [(.long (1 : Int64)), (.long (10 : Int64)), (.long (100 : Int64)), (.long (1000 : Int64)), (.long (10000 : Int64)), (.long (100000 : Int64)), (.long (1000000 : Int64)), (.long (10000000 : Int64)), (.long (100000000 : Int64)), (.long (1000000000 : Int64)), (.long (10000000000 : Int64))]) rfl (Or.inr z_a3) d2_72 (pc' := 73) rfl fun T58 h59 X60 W61 A62 => ?_
  refine gastoreN B X60 d2_73 rfl (Ls' := #[.val (.int x), .val (.ref a3)]) rfl (pc' := 74) rfl ?_
  refine galoadN B X60 d2_74 rfl rfl (pc' := 75) rfl ?_
  refine giloadN B X60 d2_75 rfl (pc' := 76) rfl ?_
  refine glaload B X60 A62 (n := 11) rfl ⟨by rw [he]; exact Int.natCast_nonneg _, by rw [he]; exact Int.ofNat_lt.mpr he2⟩ (v := (.long (opow eN))) (own_pw he he2) d2_76 (pc' := 77) rfl ?_
  exact gretL B X60 d2_77 (by decide) (by decide) (rfl)
theorem d1_0 : decode method_3_code 0 = .ok (.iload_n 2, 1) := by decide +kernel
theorem d1_1 : decode method_3_code 1 = .ok (.iload_n 3, 1) := by decide +kernel
theorem d1_2 : decode method_3_code 2 = .ok (.if_icmp .ge 31, 3) := by decide +kernel
theorem d1_5 : decode method_3_code 5 = .ok (.aload_n 0, 1) := by decide +kernel
theorem d1_6 : decode method_3_code 6 = .ok (.iload_n 1, 1) := by decide +kernel
theorem d1_7 : decode method_3_code 7 = .ok (.iload_n 2, 1) := by decide +kernel
theorem d1_8 : decode method_3_code 8 = .ok (.iadd, 1) := by decide +kernel
theorem d1_9 : decode method_3_code 9 = .ok (.bipush 48, 2) := by decide +kernel
theorem d1_11 : decode method_3_code 11 = .ok (.lload 4, 2) := by decide +kernel
theorem d1_13 : decode method_3_code 13 = .ok (.iload_n 3, 1) := by decide +kernel
theorem d1_14 : decode method_3_code 14 = .ok (.iconst 1, 1) := by decide +kernel
theorem d1_15 : decode method_3_code 15 = .ok (.isub, 1) := by decide +kernel
theorem d1_16 : decode method_3_code 16 = .ok (.iload_n 2, 1) := by decide +kernel
theorem d1_17 : decode method_3_code 17 = .ok (.isub, 1) := by decide +kernel
theorem d1_18 : decode method_3_code 18 = .ok (.invokestatic 27, 3) := by decide +kernel
theorem d1_21 : decode method_3_code 21 = .ok (.ldiv, 1) := by decide +kernel
theorem d1_22 : decode method_3_code 22 = .ok (.ldc2_w 7, 3) := by decide +kernel
theorem d1_25 : decode method_3_code 25 = .ok (.lrem, 1) := by decide +kernel
theorem d1_26 : decode method_3_code 26 = .ok (.l2i, 1) := by decide +kernel
theorem d1_27 : decode method_3_code 27 = .ok (.iadd, 1) := by decide +kernel
theorem d1_28 : decode method_3_code 28 = .ok (.i2b, 1) := by decide +kernel
theorem d1_29 : decode method_3_code 29 = .ok (.bastore, 1) := by decide +kernel
theorem d1_30 : decode method_3_code 30 = .ok (.goto 15, 3) := by decide +kernel
theorem d1_33 : decode method_3_code 33 = .ok (.iload_n 2, 1) := by decide +kernel
theorem d1_34 : decode method_3_code 34 = .ok (.iload_n 3, 1) := by decide +kernel
theorem d1_35 : decode method_3_code 35 = .ok (.if_icmp .ne 10, 3) := by decide +kernel
theorem d1_38 : decode method_3_code 38 = .ok (.aload_n 0, 1) := by decide +kernel
theorem d1_39 : decode method_3_code 39 = .ok (.iload_n 1, 1) := by decide +kernel
theorem d1_40 : decode method_3_code 40 = .ok (.iload_n 2, 1) := by decide +kernel
theorem d1_41 : decode method_3_code 41 = .ok (.iadd, 1) := by decide +kernel
theorem d1_42 : decode method_3_code 42 = .ok (.iload 6, 2) := by decide +kernel
theorem d1_44 : decode method_3_code 44 = .ok (.bastore, 1) := by decide +kernel
theorem d1_45 : decode method_3_code 45 = .ok (.return_, 1) := by decide +kernel
theorem pn1 : plainFor (⟨"com/example/nabu/nabu/protocol/PlainFieldsNumberPinLaw", "put", "([BIIIJB)V"⟩ : MethodName) = true := plainFor_of_name (by first | (simp [plainName, overriddenIn]; done) | decide +kernel)
theorem ef1_RIIIJI (m : MethodId) (x0 : Addr) (x1 : Int32) (x2 : Int32) (x3 : Int32) (x4 : Int64) (x5 : Int32) : entryFrame m #[(.ref x0), (.int x1), (.int x2), (.int x3), (.long x4), (.int x5)] 7 = mkF m 0 #[.val (.ref x0), .val (.int x1), .val (.int x2), .val (.int x3), .val (.long x4), .second, .val (.int x5)] [] := by first | (simp [entryFrame, mkF, argsToLocals, Value.category]; done) | rfl
theorem pd__I_J : parseMethodDescriptor "(I)J" = some ⟨[.int], some .long⟩ := by decide +kernel
def rmr1 : Room := { frames := 1, cells := 1, slots := 11, locals := 18 }
set_option maxRecDepth 65536 in
set_option maxHeartbeats 4000000 in
theorem mt1 (l : Launch) (Z : State) (a0 : Array Value) (hw : ∀ d ∈ tables_1, d.before a0 Z = true) (ar : Addr) (ss : Int32) (ii : Int32) (kk : Int32) (ww : Int64) (tt : Int32) (bs : List Int32) (sN iN kN : Nat) (h0 : Heap) (FA : VA Z h0 ar .byte (bs.map Value.int)) (hL : bs.length = 18) (hs : ss.toInt = sN) (hs4 : sN ≤ 4) (hi : ii.toInt = iN) (hi11 : iN ≤ 11) (hk : kk.toInt = kN) (hk11 : kN ≤ 11) (ht : tt.toInt8.toInt32 = tt) : Meth l Z (⟨"com/example/nabu/nabu/protocol/PlainFieldsNumberPinLaw", "put", "([BIIIJB)V"⟩ : MethodName) method_3_code 7 none rmr1 #[(.ref ar), (.int ss), (.int ii), (.int kk), (.long ww), (.int tt)] h0 [ar] (fun v h' => v = none ∧ VA Z h' ar .byte ((oput bs sN iN kN ww tt).map Value.int)) := by
  refine Meth.of pn1 ?_
  intro p e s m below meth c T B X
  refine Go.entry (ef1_RIIIJI m ar ss ii kk ww tt) ?_
  refine giloadN B X d1_0 rfl (pc' := 1) rfl ?_
  refine giloadN B X d1_1 rfl (pc' := 2) rfl ?_
  by_cases c2_63 : ii < kk
  · refine gicN B X d1_2 (tlt c2_63).2.1 (pc' := 5) rfl ?_
    refine galoadN B X d1_5 rfl rfl (pc' := 6) rfl ?_
    refine giloadN B X d1_6 rfl (pc' := 7) rfl ?_
    refine giloadN B X d1_7 rfl (pc' := 8) rfl ?_
    refine giadd B X d1_8 rfl (pc' := 9) rfl ?_
    refine gbipush B X d1_9 (v := (48 : Int32)) rfl (pc' := 11) rfl ?_
    refine glload B X d1_11 rfl (pc' := 13) rfl ?_
    refine giloadN B X d1_13 rfl (pc' := 14) rfl ?_
    refine giconst B X d1_14 (v := (1 : Int32)) rfl (pc' := 15) rfl ?_
    refine gisub B X d1_15 rfl (pc' := 16) rfl ?_
    refine giloadN B X d1_16 rfl (pc' := 17) rfl ?_
    refine gisub B X d1_17 rfl (pc' := 18) rfl ?_
    refine gcallS B X (hw _ (List.mem_of_getElem? (i := 7) rfl)) (hw _ (List.mem_of_getElem? (i := 8) rfl)) (hw _ (List.mem_of_getElem? (i := 5) rfl)) (hw _ (List.mem_of_getElem? (i := 9) rfl)) (by decide) (mt2 l Z a0 hw ((kk - (1 : Int32)) - ii) (kN - 1 - iN) h0 (own_ke hk hi hk11 c2_63) (by omega)) pd__I_J rfl (argsL := [(.int ((kk - (1 : Int32)) - ii))]) (st := [(.long ww), (.int (48 : Int32)), (.int (ss + ii)), (.ref ar)]) rfl rfl (W := 5) (Nat.le_of_eq rfl) (by decide) (by decide) (by decide) (by decide) (fun x q => nomatch q) d1_18 (pc' := 21) rfl fun T64 h65 v66 X67 K68 Q69 => ?_
    have F70 := FA.keep K68 nin0
    obtain rfl := Q69
    show Go p e below _ _ _ _ T64 (mkF m 21 #[.val (.ref ar), .val (.int ss), .val (.int ii), .val (.int kk), .val (.long ww), .second, .val (.int tt)] [(.long (opow (kN - 1 - iN))), (.long ww), (.int (48 : Int32)), (.int (ss + ii)), (.ref ar)])
    refine gldiv B X67 d1_21 (own_p10 ⟨kN - 1 - iN, by omega⟩).2.1 rfl (pc' := 22) rfl ?_
    refine gldc2 B X67 (v := (10 : Int64)) (hw _ (List.mem_of_getElem? (i := 11) rfl)) d1_22 (pc' := 25) rfl ?_
    refine glrem B X67 d1_25 (by decide) rfl (pc' := 26) rfl ?_
    refine gl2i B X67 d1_26 rfl (pc' := 27) rfl ?_
    refine giadd B X67 d1_27 rfl (pc' := 28) rfl ?_
    refine gi2b B X67 d1_28 rfl (pc' := 29) rfl ?_
    refine gbastore B X67 (i := (sN + iN)) F70 (n := 18) (by rw [List.length_map]; exact hL) (by have a := own_add hs hi (by omega); omega) (own_clamp (own_add hs hi (by omega))) (vs' := ((oput bs sN iN kN ww tt).map Value.int)) (by rw [nbb, own_set, oput, if_pos ((own_ltN hi hk).mp c2_63)]; rfl) (Or.inl (List.mem_of_getElem? (i := 0) rfl)) d1_29 (pc' := 30) rfl fun T71 h72 X73 W74 A75 => ?_
    refine ggoto B X73 (pc' := 45) d1_30 (by decide) ?_
    exact gretV B X73 d1_45 (by decide) (by decide) (⟨rfl, A75⟩)
  · refine gicY B X (pc' := 33) d1_2 (flt c2_63).2.1 (by decide) ?_
    refine giloadN B X d1_33 rfl (pc' := 34) rfl ?_
    refine giloadN B X d1_34 rfl (pc' := 35) rfl ?_
    by_cases c35_76 : ii = kk
    · refine gicN B X d1_35 (teq c35_76).2 (pc' := 38) rfl ?_
      refine galoadN B X d1_38 rfl rfl (pc' := 39) rfl ?_
      refine giloadN B X d1_39 rfl (pc' := 40) rfl ?_
      refine giloadN B X d1_40 rfl (pc' := 41) rfl ?_
      refine giadd B X d1_41 rfl (pc' := 42) rfl ?_
      refine giload B X d1_42 rfl (pc' := 44) rfl ?_
      refine gbastore B X (i := (sN + iN)) FA (n := 18) (by rw [List.length_map]; exact hL) (by have a := own_add hs hi (by omega); omega) (own_clamp (own_add hs hi (by omega))) (vs' := ((oput bs sN iN kN ww tt).map Value.int)) (by rw [ht, own_set, oput, if_neg (mt (own_ltN hi hk).mpr c2_63), if_pos ((own_eqN hi hk).mp c35_76)]) (Or.inl (List.mem_of_getElem? (i := 0) rfl)) d1_44 (pc' := 45) rfl fun T77 h78 X79 W80 A81 => ?_
      exact gretV B X79 d1_45 (by decide) (by decide) (⟨rfl, A81⟩)
    · refine gicY B X (pc' := 45) d1_35 (feq c35_76).2 (by decide) ?_
      exact gretV B X d1_45 (by decide) (by decide) (⟨rfl, by rw [oput, if_neg (mt (own_ltN hi hk).mpr c2_63), if_neg (mt (own_eqN hi hk).mpr c35_76)]; exact FA⟩)
theorem d3_0 : decode prog_49_method_3_code 0 = .ok (.iload_n 1, 1) := by decide +kernel
theorem d3_1 : decode prog_49_method_3_code 1 = .ok (.ifCond .lt 11, 3) := by decide +kernel
theorem d3_4 : decode prog_49_method_3_code 4 = .ok (.aload_n 0, 1) := by decide +kernel
theorem d3_5 : decode prog_49_method_3_code 5 = .ok (.iload_n 1, 1) := by decide +kernel
theorem d3_6 : decode prog_49_method_3_code 6 = .ok (.baload, 1) := by decide +kernel
theorem d3_7 : decode prog_49_method_3_code 7 = .ok (.bipush 32, 2) := by decide +kernel
theorem d3_9 : decode prog_49_method_3_code 9 = .ok (.if_icmp .eq 7, 3) := by decide +kernel
theorem d3_12 : decode prog_49_method_3_code 12 = .ok (.ldc2_w 9, 3) := by decide +kernel
theorem d3_15 : decode prog_49_method_3_code 15 = .ok (.lreturn, 1) := by decide +kernel
theorem d3_16 : decode prog_49_method_3_code 16 = .ok (.iload_n 1, 1) := by decide +kernel
theorem d3_17 : decode prog_49_method_3_code 17 = .ok (.iconst 1, 1) := by decide +kernel
theorem d3_18 : decode prog_49_method_3_code 18 = .ok (.iadd, 1) := by decide +kernel
theorem d3_19 : decode prog_49_method_3_code 19 = .ok (.istore_n 2, 1) := by decide +kernel
theorem d3_20 : decode prog_49_method_3_code 20 = .ok (.aload_n 0, 1) := by decide +kernel
theorem d3_21 : decode prog_49_method_3_code 21 = .ok (.iload_n 2, 1) := by decide +kernel
theorem d3_22 : decode prog_49_method_3_code 22 = .ok (.baload, 1) := by decide +kernel
theorem d3_23 : decode prog_49_method_3_code 23 = .ok (.bipush 45, 2) := by decide +kernel
theorem d3_25 : decode prog_49_method_3_code 25 = .ok (.if_icmp .ne 7, 3) := by decide +kernel
theorem d3_28 : decode prog_49_method_3_code 28 = .ok (.iconst 1, 1) := by decide +kernel
theorem d3_29 : decode prog_49_method_3_code 29 = .ok (.goto 4, 3) := by decide +kernel
theorem d3_32 : decode prog_49_method_3_code 32 = .ok (.iconst 0, 1) := by decide +kernel
theorem d3_33 : decode prog_49_method_3_code 33 = .ok (.istore_n 3, 1) := by decide +kernel
theorem d3_34 : decode prog_49_method_3_code 34 = .ok (.iload_n 3, 1) := by decide +kernel
theorem d3_35 : decode prog_49_method_3_code 35 = .ok (.ifCond .eq 6, 3) := by decide +kernel
theorem d3_38 : decode prog_49_method_3_code 38 = .ok (.iinc 2 1, 3) := by decide +kernel
theorem d3_41 : decode prog_49_method_3_code 41 = .ok (.iload_n 2, 1) := by decide +kernel
theorem d3_42 : decode prog_49_method_3_code 42 = .ok (.istore 4, 2) := by decide +kernel
theorem d3_44 : decode prog_49_method_3_code 44 = .ok (.iconst 0, 1) := by decide +kernel
theorem d3_45 : decode prog_49_method_3_code 45 = .ok (.istore 5, 2) := by decide +kernel
theorem d3_47 : decode prog_49_method_3_code 47 = .ok (.iload_n 2, 1) := by decide +kernel
theorem d3_48 : decode prog_49_method_3_code 48 = .ok (.iload 4, 2) := by decide +kernel
theorem d3_50 : decode prog_49_method_3_code 50 = .ok (.isub, 1) := by decide +kernel
theorem d3_51 : decode prog_49_method_3_code 51 = .ok (.bipush 9, 2) := by decide +kernel
theorem d3_53 : decode prog_49_method_3_code 53 = .ok (.if_icmp .gt 42, 3) := by decide +kernel
theorem d3_56 : decode prog_49_method_3_code 56 = .ok (.aload_n 0, 1) := by decide +kernel
theorem d3_57 : decode prog_49_method_3_code 57 = .ok (.iload_n 2, 1) := by decide +kernel
theorem d3_58 : decode prog_49_method_3_code 58 = .ok (.baload, 1) := by decide +kernel
theorem d3_59 : decode prog_49_method_3_code 59 = .ok (.bipush 48, 2) := by decide +kernel
theorem d3_61 : decode prog_49_method_3_code 61 = .ok (.isub, 1) := by decide +kernel
theorem d3_62 : decode prog_49_method_3_code 62 = .ok (.istore 6, 2) := by decide +kernel
theorem d3_64 : decode prog_49_method_3_code 64 = .ok (.iload 6, 2) := by decide +kernel
theorem d3_66 : decode prog_49_method_3_code 66 = .ok (.ifCond .lt 29, 3) := by decide +kernel
theorem d3_69 : decode prog_49_method_3_code 69 = .ok (.iload 6, 2) := by decide +kernel
theorem d3_71 : decode prog_49_method_3_code 71 = .ok (.bipush 9, 2) := by decide +kernel
theorem d3_73 : decode prog_49_method_3_code 73 = .ok (.if_icmp .le 6, 3) := by decide +kernel
theorem d3_76 : decode prog_49_method_3_code 76 = .ok (.goto 19, 3) := by decide +kernel
theorem d3_79 : decode prog_49_method_3_code 79 = .ok (.bipush 10, 2) := by decide +kernel
theorem d3_81 : decode prog_49_method_3_code 81 = .ok (.iload 5, 2) := by decide +kernel
theorem d3_83 : decode prog_49_method_3_code 83 = .ok (.imul, 1) := by decide +kernel
theorem d3_84 : decode prog_49_method_3_code 84 = .ok (.iload 6, 2) := by decide +kernel
theorem d3_86 : decode prog_49_method_3_code 86 = .ok (.iadd, 1) := by decide +kernel
theorem d3_87 : decode prog_49_method_3_code 87 = .ok (.istore 5, 2) := by decide +kernel
theorem d3_89 : decode prog_49_method_3_code 89 = .ok (.iinc 2 1, 3) := by decide +kernel
theorem d3_92 : decode prog_49_method_3_code 92 = .ok (.goto (-45), 3) := by decide +kernel
theorem d3_95 : decode prog_49_method_3_code 95 = .ok (.iload_n 2, 1) := by decide +kernel
theorem d3_96 : decode prog_49_method_3_code 96 = .ok (.iload 4, 2) := by decide +kernel
theorem d3_98 : decode prog_49_method_3_code 98 = .ok (.isub, 1) := by decide +kernel
theorem d3_99 : decode prog_49_method_3_code 99 = .ok (.istore 6, 2) := by decide +kernel
theorem d3_101 : decode prog_49_method_3_code 101 = .ok (.iload 6, 2) := by decide +kernel
theorem d3_103 : decode prog_49_method_3_code 103 = .ok (.ifCond .eq 10, 3) := by decide +kernel
theorem d3_106 : decode prog_49_method_3_code 106 = .ok (.iload 6, 2) := by decide +kernel
theorem d3_108 : decode prog_49_method_3_code 108 = .ok (.bipush 9, 2) := by decide +kernel
theorem d3_110 : decode prog_49_method_3_code 110 = .ok (.if_icmp .le 7, 3) := by decide +kernel
theorem d3_113 : decode prog_49_method_3_code 113 = .ok (.ldc2_w 9, 3) := by decide +kernel
theorem d3_116 : decode prog_49_method_3_code 116 = .ok (.lreturn, 1) := by decide +kernel
theorem d3_117 : decode prog_49_method_3_code 117 = .ok (.iload_n 2, 1) := by decide +kernel
theorem d3_118 : decode prog_49_method_3_code 118 = .ok (.i2l, 1) := by decide +kernel
theorem d3_119 : decode prog_49_method_3_code 119 = .ok (.bipush 32, 2) := by decide +kernel
theorem d3_121 : decode prog_49_method_3_code 121 = .ok (.lshl, 1) := by decide +kernel
theorem d3_122 : decode prog_49_method_3_code 122 = .ok (.iload_n 3, 1) := by decide +kernel
theorem d3_123 : decode prog_49_method_3_code 123 = .ok (.ifCond .eq 9, 3) := by decide +kernel
theorem d3_126 : decode prog_49_method_3_code 126 = .ok (.iload 5, 2) := by decide +kernel
theorem d3_128 : decode prog_49_method_3_code 128 = .ok (.ineg, 1) := by decide +kernel
theorem d3_129 : decode prog_49_method_3_code 129 = .ok (.goto 5, 3) := by decide +kernel
theorem d3_132 : decode prog_49_method_3_code 132 = .ok (.iload 5, 2) := by decide +kernel
theorem d3_134 : decode prog_49_method_3_code 134 = .ok (.i2l, 1) := by decide +kernel
theorem d3_135 : decode prog_49_method_3_code 135 = .ok (.ldc2_w 11, 3) := by decide +kernel
theorem d3_138 : decode prog_49_method_3_code 138 = .ok (.land, 1) := by decide +kernel
theorem d3_139 : decode prog_49_method_3_code 139 = .ok (.lor, 1) := by decide +kernel
theorem d3_140 : decode prog_49_method_3_code 140 = .ok (.lreturn, 1) := by decide +kernel
theorem pn3 : plainFor (⟨"com/example/nabu/nabu/protocol/PlainFields", "number", "([BI)J"⟩ : MethodName) = true := plainFor_of_name (by first | (simp [plainName, overriddenIn]; done) | decide +kernel)
def rmr3 : Room := { frames := 0, cells := 0, slots := 0, locals := 0 }
set_option maxHeartbeats 4000000 in
theorem tl3 (l : Launch) (Z : State) (a0 : Array Value) (hw : ∀ d ∈ tables_1, d.before a0 Z = true) (ar : Addr) (av st kk sg : Int32) (bs : List Int32) (sN kN : Nat) (h0 : Heap) (FA : VA Z h0 ar .byte (bs.map Value.int)) (RU : Run bs sN kN) (hst : st.toInt = sN) (hkk : kk.toInt = kN) {p : Program} {e : Env} {s : State} {m : MethodId} {below : List Frame} {meth : Method} {c : Code} {as' : Array Value} (B : Fix p Z s m meth c prog_49_method_3_code 7 "com/example/nabu/nabu/protocol/PlainFields" "number" (some .long)) (n : Nat) (T : State) (pos : Int32) (sl : Slot) (hn : n ≤ 10) (hkn : n = kN ∨ (n = 10 ∧ 10 ≤ kN)) (hp : pos.toInt = ((sN + n : Nat) : Int)) (hsl : (sl = .unset ∨ ∃ x, sl = .val (.int x))) : St p l e rmr3 s m as' below meth c h0 [] T h0 0 0 → Go p e below (EndN s rmr3.cells rmr3.slots) h0 [] (fun v h' => v = some (.long (ores st kk sg kN (oacc bs sN kN))) ∧ h' = h0) T (mkF m 95 #[.val (.ref ar), .val (.int av), .val (.int pos), .val (.int sg), .val (.int st), .val (.int (oacc bs sN n)), sl] []) := by
  intro X
  rcases hsl with rfl | ⟨x6, rfl⟩
  · refine giloadN B X d3_95 rfl (pc' := 96) rfl ?_
    refine giload B X d3_96 rfl (pc' := 98) rfl ?_
    refine gisub B X d3_98 rfl (pc' := 99) rfl ?_
    refine gistore B X d3_99 (Ls' := #[.val (.ref ar), .val (.int av), .val (.int pos), .val (.int sg), .val (.int st), .val (.int (oacc bs sN n)), .val (.int (pos - st))]) rfl (pc' := 101) rfl ?_
    refine giload B X d3_101 rfl (pc' := 103) rfl ?_
    by_cases c103_82 : (pos - st) = (0 : Int32)
    · refine gifY B X (pc' := 113) d3_103 ((if0 _ _).trans (teq c103_82).1) (by decide) ?_
      refine gldc2 B X (v := (-1 : Int64)) (hw _ (List.mem_of_getElem? (i := 26) rfl)) d3_113 (pc' := 116) rfl ?_
      exact gretL B X d3_116 (by decide) (by decide) (⟨by rw [own_r1 hkn (own_t0 hp hst RU.2.1 hn) c103_82], rfl⟩)
    · refine gifN B X d3_103 ((if0 _ _).trans (feq c103_82).1) (pc' := 106) rfl ?_
      refine giload B X d3_106 rfl (pc' := 108) rfl ?_
      refine gbipush B X d3_108 (v := (9 : Int32)) rfl (pc' := 110) rfl ?_
      by_cases c110_83 : (9 : Int32) < (pos - st)
      · refine gicN B X d3_110 (tlt c110_83).2.2.2 (pc' := 113) rfl ?_
        refine gldc2 B X (v := (-1 : Int64)) (hw _ (List.mem_of_getElem? (i := 26) rfl)) d3_113 (pc' := 116) rfl ?_
        exact gretL B X d3_116 (by decide) (by decide) (⟨by rw [own_r2 hkn (own_t0 hp hst RU.2.1 hn) c110_83], rfl⟩)
      · refine gicY B X (pc' := 117) d3_110 (flt c110_83).2.2.2 (by decide) ?_
        refine giloadN B X d3_117 rfl (pc' := 118) rfl ?_
        refine gi2l B X d3_118 rfl (pc' := 119) rfl ?_
        refine gbipush B X d3_119 (v := (32 : Int32)) rfl (pc' := 121) rfl ?_
        refine glshl B X d3_121 rfl (pc' := 122) rfl ?_
        refine giloadN B X d3_122 rfl (pc' := 123) rfl ?_
        by_cases c123_84 : sg = (0 : Int32)
        · refine gifY B X (pc' := 132) d3_123 ((if0 _ _).trans (teq c123_84).1) (by decide) ?_
          refine giload B X d3_132 rfl (pc' := 134) rfl ?_
          refine gi2l B X d3_134 rfl (pc' := 135) rfl ?_
          refine gldc2 B X (v := (4294967295 : Int64)) (hw _ (List.mem_of_getElem? (i := 29) rfl)) d3_135 (pc' := 138) rfl ?_
          refine gland B X d3_138 rfl (pc' := 139) rfl ?_
          refine glor B X d3_139 rfl (pc' := 140) rfl ?_
          exact gretL B X d3_140 (by decide) (by decide) (⟨by obtain ⟨e_n, q⟩ := own_r3 hkn (own_t0 hp hst RU.2.1 hn) c103_82 c110_83; rw [e_n] at hp; rw [ores, if_neg q, if_pos c123_84, ← own_pos hp hst RU.2.1 hkk RU.2.2.1, e_n], rfl⟩)
        · refine gifN B X d3_123 ((if0 _ _).trans (feq c123_84).1) (pc' := 126) rfl ?_
          refine giload B X d3_126 rfl (pc' := 128) rfl ?_
          refine gineg B X d3_128 rfl (pc' := 129) rfl ?_
          refine ggoto B X (pc' := 134) d3_129 (by decide) ?_
          refine gi2l B X d3_134 rfl (pc' := 135) rfl ?_
          refine gldc2 B X (v := (4294967295 : Int64)) (hw _ (List.mem_of_getElem? (i := 29) rfl)) d3_135 (pc' := 138) rfl ?_
          refine gland B X d3_138 rfl (pc' := 139) rfl ?_
          refine glor B X d3_139 rfl (pc' := 140) rfl ?_
          exact gretL B X d3_140 (by decide) (by decide) (⟨by obtain ⟨e_n, q⟩ := own_r3 hkn (own_t0 hp hst RU.2.1 hn) c103_82 c110_83; rw [e_n] at hp; rw [ores, if_neg q, if_neg c123_84, ← own_pos hp hst RU.2.1 hkk RU.2.2.1, e_n], rfl⟩)
  · refine giloadN B X d3_95 rfl (pc' := 96) rfl ?_
    refine giload B X d3_96 rfl (pc' := 98) rfl ?_
    refine gisub B X d3_98 rfl (pc' := 99) rfl ?_
    refine gistore B X d3_99 (Ls' := #[.val (.ref ar), .val (.int av), .val (.int pos), .val (.int sg), .val (.int st), .val (.int (oacc bs sN n)), .val (.int (pos - st))]) rfl (pc' := 101) rfl ?_
    refine giload B X d3_101 rfl (pc' := 103) rfl ?_
    by_cases c103_85 : (pos - st) = (0 : Int32)
    · refine gifY B X (pc' := 113) d3_103 ((if0 _ _).trans (teq c103_85).1) (by decide) ?_
      refine gldc2 B X (v := (-1 : Int64)) (hw _ (List.mem_of_getElem? (i := 26) rfl)) d3_113 (pc' := 116) rfl ?_
      exact gretL B X d3_116 (by decide) (by decide) (⟨by rw [own_r1 hkn (own_t0 hp hst RU.2.1 hn) c103_85], rfl⟩)
    · refine gifN B X d3_103 ((if0 _ _).trans (feq c103_85).1) (pc' := 106) rfl ?_
      refine giload B X d3_106 rfl (pc' := 108) rfl ?_
      refine gbipush B X d3_108 (v := (9 : Int32)) rfl (pc' := 110) rfl ?_
      by_cases c110_86 : (9 : Int32) < (pos - st)
      · refine gicN B X d3_110 (tlt c110_86).2.2.2 (pc' := 113) rfl ?_
        refine gldc2 B X (v := (-1 : Int64)) (hw _ (List.mem_of_getElem? (i := 26) rfl)) d3_113 (pc' := 116) rfl ?_
        exact gretL B X d3_116 (by decide) (by decide) (⟨by rw [own_r2 hkn (own_t0 hp hst RU.2.1 hn) c110_86], rfl⟩)
      · refine gicY B X (pc' := 117) d3_110 (flt c110_86).2.2.2 (by decide) ?_
        refine giloadN B X d3_117 rfl (pc' := 118) rfl ?_
        refine gi2l B X d3_118 rfl (pc' := 119) rfl ?_
        refine gbipush B X d3_119 (v := (32 : Int32)) rfl (pc' := 121) rfl ?_
        refine glshl B X d3_121 rfl (pc' := 122) rfl ?_
        refine giloadN B X d3_122 rfl (pc' := 123) rfl ?_
        by_cases c123_87 : sg = (0 : Int32)
        · refine gifY B X (pc' := 132) d3_123 ((if0 _ _).trans (teq c123_87).1) (by decide) ?_
          refine giload B X d3_132 rfl (pc' := 134) rfl ?_
          refine gi2l B X d3_134 rfl (pc' := 135) rfl ?_
          refine gldc2 B X (v := (4294967295 : Int64)) (hw _ (List.mem_of_getElem? (i := 29) rfl)) d3_135 (pc' := 138) rfl ?_
          refine gland B X d3_138 rfl (pc' := 139) rfl ?_
          refine glor B X d3_139 rfl (pc' := 140) rfl ?_
          exact gretL B X d3_140 (by decide) (by decide) (⟨by obtain ⟨e_n, q⟩ := own_r3 hkn (own_t0 hp hst RU.2.1 hn) c103_85 c110_86; rw [e_n] at hp; rw [ores, if_neg q, if_pos c123_87, ← own_pos hp hst RU.2.1 hkk RU.2.2.1, e_n], rfl⟩)
        · refine gifN B X d3_123 ((if0 _ _).trans (feq c123_87).1) (pc' := 126) rfl ?_
          refine giload B X d3_126 rfl (pc' := 128) rfl ?_
          refine gineg B X d3_128 rfl (pc' := 129) rfl ?_
          refine ggoto B X (pc' := 134) d3_129 (by decide) ?_
          refine gi2l B X d3_134 rfl (pc' := 135) rfl ?_
          refine gldc2 B X (v := (4294967295 : Int64)) (hw _ (List.mem_of_getElem? (i := 29) rfl)) d3_135 (pc' := 138) rfl ?_
          refine gland B X d3_138 rfl (pc' := 139) rfl ?_
          refine glor B X d3_139 rfl (pc' := 140) rfl ?_
          exact gretL B X d3_140 (by decide) (by decide) (⟨by obtain ⟨e_n, q⟩ := own_r3 hkn (own_t0 hp hst RU.2.1 hn) c103_85 c110_86; rw [e_n] at hp; rw [ores, if_neg q, if_neg c123_87, ← own_pos hp hst RU.2.1 hkk RU.2.2.1, e_n], rfl⟩)
theorem own_l1 {pos st : Int32} {sN n : Nat} (hp : pos.toInt = ((sN + n : Nat) : Int)) (hs : st.toInt = sN) (hs4 : sN ≤ 4) (hn : n ≤ 10) : (9 : Int32) < (pos - st) ↔ 9 < n := by
  have := own_t0 hp hs hs4 hn; rw [Int32.lt_iff_toInt_lt, this]; have z : (9 : Int32).toInt = 9 := rfl
  omega
theorem own_d (x : Int32) : (x - (48 : Int32) < (0 : Int32) ∨ (9 : Int32) < x - (48 : Int32)) ↔ ¬ (48 ≤ x.toInt ∧ x.toInt ≤ 57) := by
  have h1 := c_isub x 48; have h2 := rng32 (x - 48); have h3 := rng32 x
  have z : (48 : Int32).toInt = 48 := rfl
  have z9 : (9 : Int32).toInt = 9 := rfl
  have z0 : (0 : Int32).toInt = 0 := rfl
  have k : (x - 48).toInt = x.toInt - 48 ∨ (x.toInt < -2147483600 ∧ (x - 48).toInt = x.toInt - 48 + 4294967296) := by omega
  simp only [Int32.lt_iff_toInt_lt]
  omega
set_option maxHeartbeats 4000000 in
theorem lp3 (l : Launch) (Z : State) (a0 : Array Value) (hw : ∀ d ∈ tables_1, d.before a0 Z = true) (ar : Addr) (av st kk sg : Int32) (bs : List Int32) (sN kN : Nat) (h0 : Heap) (FA : VA Z h0 ar .byte (bs.map Value.int)) (RU : Run bs sN kN) (hst : st.toInt = sN) (hkk : kk.toInt = kN) {p : Program} {e : Env} {s : State} {m : MethodId} {below : List Frame} {meth : Method} {c : Code} {as' : Array Value} (B : Fix p Z s m meth c prog_49_method_3_code 7 "com/example/nabu/nabu/protocol/PlainFields" "number" (some .long)) (fuel : Nat) : ∀ (n : Nat) (T : State) (pos : Int32) (sl : Slot), fuel + n = 10 → n ≤ kN → pos.toInt = ((sN + n : Nat) : Int) → (sl = .unset ∨ ∃ x, sl = .val (.int x)) → St p l e rmr3 s m as' below meth c h0 [] T h0 0 0 → Go p e below (EndN s rmr3.cells rmr3.slots) h0 [] (fun v h' => v = some (.long (ores st kk sg kN (oacc bs sN kN))) ∧ h' = h0) T (mkF m 47 #[.val (.ref ar), .val (.int av), .val (.int pos), .val (.int sg), .val (.int st), .val (.int (oacc bs sN n)), sl] []) := by
  induction fuel with
  | zero =>
    intro n T pos sl hf hn hp hsl X
    refine giloadN B X d3_47 rfl (pc' := 48) rfl ?_
    refine giload B X d3_48 rfl (pc' := 50) rfl ?_
    refine gisub B X d3_50 rfl (pc' := 51) rfl ?_
    refine gbipush B X d3_51 (v := (9 : Int32)) rfl (pc' := 53) rfl ?_
    have c53_88 : (9 : Int32) < (pos - st) := (own_l1 hp hst RU.2.1 (by omega)).mpr (by omega)
    refine gicY B X (pc' := 95) d3_53 (tlt c53_88).2.2.1 (by decide) ?_
    exact tl3 l Z a0 hw ar av st kk sg bs sN kN h0 FA RU hst hkk B n _ pos _ (by omega) (by omega) hp hsl X
  | succ f ih =>
    intro n T pos sl hf hn hp hsl X
    have c53 : ¬ (9 : Int32) < (pos - st) := mt (own_l1 hp hst RU.2.1 (by omega)).mp (by omega)
    by_cases hnk : n = kN
    · have hb := RU.2.2.2.2
      rw [← hnk] at hb
      rcases hsl with rfl | ⟨x6, rfl⟩
      · refine giloadN B X d3_47 rfl (pc' := 48) rfl ?_
        refine giload B X d3_48 rfl (pc' := 50) rfl ?_
        refine gisub B X d3_50 rfl (pc' := 51) rfl ?_
        refine gbipush B X d3_51 (v := (9 : Int32)) rfl (pc' := 53) rfl ?_
        have c53_89 : ¬ ((9 : Int32) < (pos - st)) := c53
        refine gicN B X d3_53 (flt c53_89).2.2.1 (pc' := 56) rfl ?_
        refine galoadN B X d3_56 rfl rfl (pc' := 57) rfl ?_
        refine giloadN B X d3_57 rfl (pc' := 58) rfl ?_
        refine gbaload B X FA (n := 18) (by rw [List.length_map]; exact RU.1) (by have a := RU.2.1; omega) (v := (.int (bs.getD (sN + n) 0))) (by have a := RU.2.1; rw [own_clamp hp]; exact own_at (by rw [RU.1]; omega)) d3_58 (pc' := 59) rfl ?_
        refine gbipush B X d3_59 (v := (48 : Int32)) rfl (pc' := 61) rfl ?_
        refine gisub B X d3_61 rfl (pc' := 62) rfl ?_
        refine gistore B X d3_62 (Ls' := #[.val (.ref ar), .val (.int av), .val (.int pos), .val (.int sg), .val (.int st), .val (.int (oacc bs sN n)), .val (.int ((bs.getD (sN + n) 0) - (48 : Int32)))]) rfl (pc' := 64) rfl ?_
        refine giload B X d3_64 rfl (pc' := 66) rfl ?_
        by_cases c66_90 : ((bs.getD (sN + n) 0) - (48 : Int32)) < (0 : Int32)
        · refine gifY B X (pc' := 95) d3_66 ((if0 _ _).trans (tlt c66_90).1) (by decide) ?_
          exact tl3 l Z a0 hw ar av st kk sg bs sN kN h0 FA RU hst hkk B n _ pos _ (by omega) (by omega) hp (Or.inr ⟨_, rfl⟩) X
        · refine gifN B X d3_66 ((if0 _ _).trans (flt c66_90).1) (pc' := 69) rfl ?_
          refine giload B X d3_69 rfl (pc' := 71) rfl ?_
          refine gbipush B X d3_71 (v := (9 : Int32)) rfl (pc' := 73) rfl ?_
          have c73_91 : (9 : Int32) < ((bs.getD (sN + n) 0) - (48 : Int32)) := ((own_d _).mpr hb).resolve_left c66_90
          refine gicN B X d3_73 (tlt c73_91).2.2.2 (pc' := 76) rfl ?_
          refine ggoto B X (pc' := 95) d3_76 (by decide) ?_
          exact tl3 l Z a0 hw ar av st kk sg bs sN kN h0 FA RU hst hkk B n _ pos _ (by omega) (by omega) hp (Or.inr ⟨_, rfl⟩) X
      · refine giloadN B X d3_47 rfl (pc' := 48) rfl ?_
        refine giload B X d3_48 rfl (pc' := 50) rfl ?_
        refine gisub B X d3_50 rfl (pc' := 51) rfl ?_
        refine gbipush B X d3_51 (v := (9 : Int32)) rfl (pc' := 53) rfl ?_
        have c53_92 : ¬ ((9 : Int32) < (pos - st)) := c53
        refine gicN B X d3_53 (flt c53_92).2.2.1 (pc' := 56) rfl ?_
        refine galoadN B X d3_56 rfl rfl (pc' := 57) rfl ?_
        refine giloadN B X d3_57 rfl (pc' := 58) rfl ?_
        refine gbaload B X FA (n := 18) (by rw [List.length_map]; exact RU.1) (by have a := RU.2.1; omega) (v := (.int (bs.getD (sN + n) 0))) (by have a := RU.2.1; rw [own_clamp hp]; exact own_at (by rw [RU.1]; omega)) d3_58 (pc' := 59) rfl ?_
        refine gbipush B X d3_59 (v := (48 : Int32)) rfl (pc' := 61) rfl ?_
        refine gisub B X d3_61 rfl (pc' := 62) rfl ?_
        refine gistore B X d3_62 (Ls' := #[.val (.ref ar), .val (.int av), .val (.int pos), .val (.int sg), .val (.int st), .val (.int (oacc bs sN n)), .val (.int ((bs.getD (sN + n) 0) - (48 : Int32)))]) rfl (pc' := 64) rfl ?_
        refine giload B X d3_64 rfl (pc' := 66) rfl ?_
        by_cases c66_93 : ((bs.getD (sN + n) 0) - (48 : Int32)) < (0 : Int32)
        · refine gifY B X (pc' := 95) d3_66 ((if0 _ _).trans (tlt c66_93).1) (by decide) ?_
          exact tl3 l Z a0 hw ar av st kk sg bs sN kN h0 FA RU hst hkk B n _ pos _ (by omega) (by omega) hp (Or.inr ⟨_, rfl⟩) X
        · refine gifN B X d3_66 ((if0 _ _).trans (flt c66_93).1) (pc' := 69) rfl ?_
          refine giload B X d3_69 rfl (pc' := 71) rfl ?_
          refine gbipush B X d3_71 (v := (9 : Int32)) rfl (pc' := 73) rfl ?_
          have c73_94 : (9 : Int32) < ((bs.getD (sN + n) 0) - (48 : Int32)) := ((own_d _).mpr hb).resolve_left c66_93
          refine gicN B X d3_73 (tlt c73_94).2.2.2 (pc' := 76) rfl ?_
          refine ggoto B X (pc' := 95) d3_76 (by decide) ?_
          exact tl3 l Z a0 hw ar av st kk sg bs sN kN h0 FA RU hst hkk B n _ pos _ (by omega) (by omega) hp (Or.inr ⟨_, rfl⟩) X
    · have hb := RU.2.2.2.1 n (by omega)
      rcases hsl with rfl | ⟨x6, rfl⟩
      · refine giloadN B X d3_47 rfl (pc' := 48) rfl ?_
        refine giload B X d3_48 rfl (pc' := 50) rfl ?_
        refine gisub B X d3_50 rfl (pc' := 51) rfl ?_
        refine gbipush B X d3_51 (v := (9 : Int32)) rfl (pc' := 53) rfl ?_
        have c53_95 : ¬ ((9 : Int32) < (pos - st)) := c53
        refine gicN B X d3_53 (flt c53_95).2.2.1 (pc' := 56) rfl ?_
        refine galoadN B X d3_56 rfl rfl (pc' := 57) rfl ?_
        refine giloadN B X d3_57 rfl (pc' := 58) rfl ?_
        refine gbaload B X FA (n := 18) (by rw [List.length_map]; exact RU.1) (by have a := RU.2.1; omega) (v := (.int (bs.getD (sN + n) 0))) (by have a := RU.2.1; rw [own_clamp hp]; exact own_at (by rw [RU.1]; omega)) d3_58 (pc' := 59) rfl ?_
        refine gbipush B X d3_59 (v := (48 : Int32)) rfl (pc' := 61) rfl ?_
        refine gisub B X d3_61 rfl (pc' := 62) rfl ?_
        refine gistore B X d3_62 (Ls' := #[.val (.ref ar), .val (.int av), .val (.int pos), .val (.int sg), .val (.int st), .val (.int (oacc bs sN n)), .val (.int ((bs.getD (sN + n) 0) - (48 : Int32)))]) rfl (pc' := 64) rfl ?_
        refine giload B X d3_64 rfl (pc' := 66) rfl ?_
        have c66_96 : ¬ (((bs.getD (sN + n) 0) - (48 : Int32)) < (0 : Int32)) := fun q => (own_d _).mp (Or.inl q) hb
        refine gifN B X d3_66 ((if0 _ _).trans (flt c66_96).1) (pc' := 69) rfl ?_
        refine giload B X d3_69 rfl (pc' := 71) rfl ?_
        refine gbipush B X d3_71 (v := (9 : Int32)) rfl (pc' := 73) rfl ?_
        have c73_97 : ¬ ((9 : Int32) < ((bs.getD (sN + n) 0) - (48 : Int32))) := fun q => (own_d _).mp (Or.inr q) hb
        refine gicY B X (pc' := 79) d3_73 (flt c73_97).2.2.2 (by decide) ?_
        refine gbipush B X d3_79 (v := (10 : Int32)) rfl (pc' := 81) rfl ?_
        refine giload B X d3_81 rfl (pc' := 83) rfl ?_
        refine gimul B X d3_83 rfl (pc' := 84) rfl ?_
        refine giload B X d3_84 rfl (pc' := 86) rfl ?_
        refine giadd B X d3_86 rfl (pc' := 87) rfl ?_
        refine gistore B X d3_87 (Ls' := #[.val (.ref ar), .val (.int av), .val (.int pos), .val (.int sg), .val (.int st), .val (.int (((10 : Int32) * (oacc bs sN n)) + ((bs.getD (sN + n) 0) - (48 : Int32)))), .val (.int ((bs.getD (sN + n) 0) - (48 : Int32)))]) rfl (pc' := 89) rfl ?_
        refine giinc B X d3_89 rfl (v := (pos + (1 : Int32))) rfl (Ls' := #[.val (.ref ar), .val (.int av), .val (.int (pos + (1 : Int32))), .val (.int sg), .val (.int st), .val (.int (((10 : Int32) * (oacc bs sN n)) + ((bs.getD (sN + n) 0) - (48 : Int32)))), .val (.int ((bs.getD (sN + n) 0) - (48 : Int32)))]) rfl (pc' := 92) rfl ?_
        refine ggoto B X (pc' := 47) d3_92 (by decide) ?_
        exact ih (n + 1) _ (pos + (1 : Int32)) _ (by omega) (by omega) (by have a := RU.2.1; rw [own_add hp (b := 1) rfl (by omega)]; rfl) (Or.inr ⟨_, rfl⟩) X
      · refine giloadN B X d3_47 rfl (pc' := 48) rfl ?_
        refine giload B X d3_48 rfl (pc' := 50) rfl ?_
        refine gisub B X d3_50 rfl (pc' := 51) rfl ?_
        refine gbipush B X d3_51 (v := (9 : Int32)) rfl (pc' := 53) rfl ?_
        have c53_98 : ¬ ((9 : Int32) < (pos - st)) := c53
        refine gicN B X d3_53 (flt c53_98).2.2.1 (pc' := 56) rfl ?_
        refine galoadN B X d3_56 rfl rfl (pc' := 57) rfl ?_
        refine giloadN B X d3_57 rfl (pc' := 58) rfl ?_
        refine gbaload B X FA (n := 18) (by rw [List.length_map]; exact RU.1) (by have a := RU.2.1; omega) (v := (.int (bs.getD (sN + n) 0))) (by have a := RU.2.1; rw [own_clamp hp]; exact own_at (by rw [RU.1]; omega)) d3_58 (pc' := 59) rfl ?_
        refine gbipush B X d3_59 (v := (48 : Int32)) rfl (pc' := 61) rfl ?_
        refine gisub B X d3_61 rfl (pc' := 62) rfl ?_
        refine gistore B X d3_62 (Ls' := #[.val (.ref ar), .val (.int av), .val (.int pos), .val (.int sg), .val (.int st), .val (.int (oacc bs sN n)), .val (.int ((bs.getD (sN + n) 0) - (48 : Int32)))]) rfl (pc' := 64) rfl ?_
        refine giload B X d3_64 rfl (pc' := 66) rfl ?_
        have c66_99 : ¬ (((bs.getD (sN + n) 0) - (48 : Int32)) < (0 : Int32)) := fun q => (own_d _).mp (Or.inl q) hb
        refine gifN B X d3_66 ((if0 _ _).trans (flt c66_99).1) (pc' := 69) rfl ?_
        refine giload B X d3_69 rfl (pc' := 71) rfl ?_
        refine gbipush B X d3_71 (v := (9 : Int32)) rfl (pc' := 73) rfl ?_
        have c73_100 : ¬ ((9 : Int32) < ((bs.getD (sN + n) 0) - (48 : Int32))) := fun q => (own_d _).mp (Or.inr q) hb
        refine gicY B X (pc' := 79) d3_73 (flt c73_100).2.2.2 (by decide) ?_
        refine gbipush B X d3_79 (v := (10 : Int32)) rfl (pc' := 81) rfl ?_
        refine giload B X d3_81 rfl (pc' := 83) rfl ?_
        refine gimul B X d3_83 rfl (pc' := 84) rfl ?_
        refine giload B X d3_84 rfl (pc' := 86) rfl ?_
        refine giadd B X d3_86 rfl (pc' := 87) rfl ?_
        refine gistore B X d3_87 (Ls' := #[.val (.ref ar), .val (.int av), .val (.int pos), .val (.int sg), .val (.int st), .val (.int (((10 : Int32) * (oacc bs sN n)) + ((bs.getD (sN + n) 0) - (48 : Int32)))), .val (.int ((bs.getD (sN + n) 0) - (48 : Int32)))]) rfl (pc' := 89) rfl ?_
        refine giinc B X d3_89 rfl (v := (pos + (1 : Int32))) rfl (Ls' := #[.val (.ref ar), .val (.int av), .val (.int (pos + (1 : Int32))), .val (.int sg), .val (.int st), .val (.int (((10 : Int32) * (oacc bs sN n)) + ((bs.getD (sN + n) 0) - (48 : Int32)))), .val (.int ((bs.getD (sN + n) 0) - (48 : Int32)))]) rfl (pc' := 92) rfl ?_
        refine ggoto B X (pc' := 47) d3_92 (by decide) ?_
        exact ih (n + 1) _ (pos + (1 : Int32)) _ (by omega) (by omega) (by have a := RU.2.1; rw [own_add hp (b := 1) rfl (by omega)]; rfl) (Or.inr ⟨_, rfl⟩) X
theorem ef3_RI (m : MethodId) (x0 : Addr) (x1 : Int32) : entryFrame m #[(.ref x0), (.int x1)] 7 = mkF m 0 #[.val (.ref x0), .val (.int x1), .unset, .unset, .unset, .unset, .unset] [] := by first | (simp [entryFrame, mkF, argsToLocals, Value.category]; done) | rfl
set_option maxHeartbeats 4000000 in
theorem mt3A (l : Launch) (Z : State) (a0 : Array Value) (hw : ∀ d ∈ tables_1, d.before a0 Z = true) (ar : Addr) (av : Int32) (bs : List Int32) (h0 : Heap) (FA : VA Z h0 ar .byte (bs.map Value.int)) (ha : av < (0 : Int32)) : Meth l Z (⟨"com/example/nabu/nabu/protocol/PlainFields", "number", "([BI)J"⟩ : MethodName) prog_49_method_3_code 7 (some .long) rmr3 #[.ref ar, .int av] h0 [] (fun v h' => v = some (.long (-1 : Int64)) ∧ h' = h0) := by
  refine Meth.of pn3 ?_
  intro p e s m below meth c T B X
  refine Go.entry (ef3_RI m ar av) ?_
  refine giloadN B X d3_0 rfl (pc' := 1) rfl ?_
  have c1_101 : av < (0 : Int32) := ha
  refine gifY B X (pc' := 12) d3_1 ((if0 _ _).trans (tlt c1_101).1) (by decide) ?_
  refine gldc2 B X (v := (-1 : Int64)) (hw _ (List.mem_of_getElem? (i := 26) rfl)) d3_12 (pc' := 15) rfl ?_
  exact gretL B X d3_15 (by decide) (by decide) (⟨rfl, rfl⟩)
set_option maxHeartbeats 4000000 in
theorem mt3B (l : Launch) (Z : State) (a0 : Array Value) (hw : ∀ d ∈ tables_1, d.before a0 Z = true) (ar : Addr) (av : Int32) (bs : List Int32) (h0 : Heap) (FA : VA Z h0 ar .byte (bs.map Value.int)) (aN : Nat) (ha : av.toInt = aN) (ha2 : aN ≤ 2) (hL : bs.length = 18) (hb : ¬ bs.getD aN 0 = (32 : Int32)) : Meth l Z (⟨"com/example/nabu/nabu/protocol/PlainFields", "number", "([BI)J"⟩ : MethodName) prog_49_method_3_code 7 (some .long) rmr3 #[.ref ar, .int av] h0 [] (fun v h' => v = some (.long (-1 : Int64)) ∧ h' = h0) := by
  refine Meth.of pn3 ?_
  intro p e s m below meth c T B X
  refine Go.entry (ef3_RI m ar av) ?_
  refine giloadN B X d3_0 rfl (pc' := 1) rfl ?_
  have c1_102 : ¬ (av < (0 : Int32)) := by rw [Int32.lt_iff_toInt_lt, ha]; have z : (0 : Int32).toInt = 0 := rfl; omega
  refine gifN B X d3_1 ((if0 _ _).trans (flt c1_102).1) (pc' := 4) rfl ?_
  refine galoadN B X d3_4 rfl rfl (pc' := 5) rfl ?_
  refine giloadN B X d3_5 rfl (pc' := 6) rfl ?_
  refine gbaload B X FA (n := 18) (by rw [List.length_map]; exact hL) (by have a := ha; omega) (v := (.int (bs.getD aN 0))) (by rw [own_clamp ha]; exact own_at (by rw [hL]; omega)) d3_6 (pc' := 7) rfl ?_
  refine gbipush B X d3_7 (v := (32 : Int32)) rfl (pc' := 9) rfl ?_
  have c9_103 : ¬ ((bs.getD aN 0) = (32 : Int32)) := hb
  refine gicN B X d3_9 (feq c9_103).1 (pc' := 12) rfl ?_
  refine gldc2 B X (v := (-1 : Int64)) (hw _ (List.mem_of_getElem? (i := 26) rfl)) d3_12 (pc' := 15) rfl ?_
  exact gretL B X d3_15 (by decide) (by decide) (⟨rfl, rfl⟩)
set_option maxHeartbeats 4000000 in
theorem mt3C1 (l : Launch) (Z : State) (a0 : Array Value) (hw : ∀ d ∈ tables_1, d.before a0 Z = true) (ar : Addr) (av : Int32) (bs : List Int32) (h0 : Heap) (FA : VA Z h0 ar .byte (bs.map Value.int)) (aN : Nat) (ha : av.toInt = aN) (ha2 : aN ≤ 2) (hL : bs.length = 18) (sN kN : Nat) (st kk a1 : Int32) (RU : Run bs sN kN) (hst : st.toInt = sN) (hkk : kk.toInt = kN) (hb : bs.getD aN 0 = (32 : Int32)) (h1 : av + (1 : Int32) = a1) (h1N : a1.toInt = ((aN + 1 : Nat) : Int)) (hsg : bs.getD (aN + 1) 0 = (45 : Int32)) (h2 : a1 + (1 : Int32) = st) : Meth l Z (⟨"com/example/nabu/nabu/protocol/PlainFields", "number", "([BI)J"⟩ : MethodName) prog_49_method_3_code 7 (some .long) rmr3 #[.ref ar, .int av] h0 [] (fun v h' => v = some (.long (ores st kk (1 : Int32) kN (oacc bs sN kN))) ∧ h' = h0) := by
  refine Meth.of pn3 ?_
  intro p e s m below meth c T B X
  refine Go.entry (ef3_RI m ar av) ?_
  refine giloadN B X d3_0 rfl (pc' := 1) rfl ?_
  have c1_104 : ¬ (av < (0 : Int32)) := by rw [Int32.lt_iff_toInt_lt, ha]; have z : (0 : Int32).toInt = 0 := rfl; omega
  refine gifN B X d3_1 ((if0 _ _).trans (flt c1_104).1) (pc' := 4) rfl ?_
  refine galoadN B X d3_4 rfl rfl (pc' := 5) rfl ?_
  refine giloadN B X d3_5 rfl (pc' := 6) rfl ?_
  refine gbaload B X FA (n := 18) (by rw [List.length_map]; exact hL) (by have a := ha; omega) (v := (.int (bs.getD aN 0))) (by rw [own_clamp ha]; exact own_at (by rw [hL]; omega)) d3_6 (pc' := 7) rfl ?_
  refine gbipush B X d3_7 (v := (32 : Int32)) rfl (pc' := 9) rfl ?_
  have c9_105 : (bs.getD aN 0) = (32 : Int32) := hb
  refine gicY B X (pc' := 16) d3_9 (teq c9_105).1 (by decide) ?_
  refine giloadN B X d3_16 rfl (pc' := 17) rfl ?_
  refine giconst B X d3_17 (v := (1 : Int32)) rfl (pc' := 18) rfl ?_
  refine giadd B X d3_18 (v := a1) (h1) (pc' := 19) rfl ?_
  refine gistoreN B X d3_19 (Ls' := #[.val (.ref ar), .val (.int av), .val (.int a1), .unset, .unset, .unset, .unset]) rfl (pc' := 20) rfl ?_
  refine galoadN B X d3_20 rfl rfl (pc' := 21) rfl ?_
  refine giloadN B X d3_21 rfl (pc' := 22) rfl ?_
  refine gbaload B X FA (n := 18) (by rw [List.length_map]; exact hL) (by have a := h1N; omega) (v := (.int (bs.getD (aN + 1) 0))) (by rw [own_clamp h1N]; exact own_at (by rw [hL]; omega)) d3_22 (pc' := 23) rfl ?_
  refine gbipush B X d3_23 (v := (45 : Int32)) rfl (pc' := 25) rfl ?_
  have c25_106 : (bs.getD (aN + 1) 0) = (45 : Int32) := hsg
  refine gicN B X d3_25 (teq c25_106).2 (pc' := 28) rfl ?_
  refine giconst B X d3_28 (v := (1 : Int32)) rfl (pc' := 29) rfl ?_
  refine ggoto B X (pc' := 33) d3_29 (by decide) ?_
  refine gistoreN B X d3_33 (Ls' := #[.val (.ref ar), .val (.int av), .val (.int a1), .val (.int (1 : Int32)), .unset, .unset, .unset]) rfl (pc' := 34) rfl ?_
  refine giloadN B X d3_34 rfl (pc' := 35) rfl ?_
  have c35_107 : ¬ ((1 : Int32) = (0 : Int32)) := (by decide)
  refine gifN B X d3_35 ((if0 _ _).trans (feq c35_107).1) (pc' := 38) rfl ?_
  refine giinc B X d3_38 rfl (v := st) (h2) (Ls' := #[.val (.ref ar), .val (.int av), .val (.int st), .val (.int (1 : Int32)), .unset, .unset, .unset]) rfl (pc' := 41) rfl ?_
  refine giloadN B X d3_41 rfl (pc' := 42) rfl ?_
  refine gistore B X d3_42 (Ls' := #[.val (.ref ar), .val (.int av), .val (.int st), .val (.int (1 : Int32)), .val (.int st), .unset, .unset]) rfl (pc' := 44) rfl ?_
  refine giconst B X d3_44 (v := (0 : Int32)) rfl (pc' := 45) rfl ?_
  refine gistore B X d3_45 (Ls' := #[.val (.ref ar), .val (.int av), .val (.int st), .val (.int (1 : Int32)), .val (.int st), .val (.int (0 : Int32)), .unset]) rfl (pc' := 47) rfl ?_
  exact lp3 l Z a0 hw ar av st kk (1 : Int32) bs sN kN h0 FA RU hst hkk B 10 0 _ st _ rfl (Nat.zero_le _) hst (Or.inl rfl) X
set_option maxHeartbeats 4000000 in
theorem mt3C0 (l : Launch) (Z : State) (a0 : Array Value) (hw : ∀ d ∈ tables_1, d.before a0 Z = true) (ar : Addr) (av : Int32) (bs : List Int32) (h0 : Heap) (FA : VA Z h0 ar .byte (bs.map Value.int)) (aN : Nat) (ha : av.toInt = aN) (ha2 : aN ≤ 2) (hL : bs.length = 18) (sN kN : Nat) (st kk : Int32) (RU : Run bs sN kN) (hst : st.toInt = sN) (hkk : kk.toInt = kN) (hb : bs.getD aN 0 = (32 : Int32)) (h1 : av + (1 : Int32) = st) (h1N : st.toInt = ((aN + 1 : Nat) : Int)) (hsg : ¬ bs.getD (aN + 1) 0 = (45 : Int32)) : Meth l Z (⟨"com/example/nabu/nabu/protocol/PlainFields", "number", "([BI)J"⟩ : MethodName) prog_49_method_3_code 7 (some .long) rmr3 #[.ref ar, .int av] h0 [] (fun v h' => v = some (.long (ores st kk (0 : Int32) kN (oacc bs sN kN))) ∧ h' = h0) := by
  refine Meth.of pn3 ?_
  intro p e s m below meth c T B X
  refine Go.entry (ef3_RI m ar av) ?_
  refine giloadN B X d3_0 rfl (pc' := 1) rfl ?_
  have c1_108 : ¬ (av < (0 : Int32)) := by rw [Int32.lt_iff_toInt_lt, ha]; have z : (0 : Int32).toInt = 0 := rfl; omega
  refine gifN B X d3_1 ((if0 _ _).trans (flt c1_108).1) (pc' := 4) rfl ?_
  refine galoadN B X d3_4 rfl rfl (pc' := 5) rfl ?_
  refine giloadN B X d3_5 rfl (pc' := 6) rfl ?_
  refine gbaload B X FA (n := 18) (by rw [List.length_map]; exact hL) (by have a := ha; omega) (v := (.int (bs.getD aN 0))) (by rw [own_clamp ha]; exact own_at (by rw [hL]; omega)) d3_6 (pc' := 7) rfl ?_
  refine gbipush B X d3_7 (v := (32 : Int32)) rfl (pc' := 9) rfl ?_
  have c9_109 : (bs.getD aN 0) = (32 : Int32) := hb
  refine gicY B X (pc' := 16) d3_9 (teq c9_109).1 (by decide) ?_
  refine giloadN B X d3_16 rfl (pc' := 17) rfl ?_
  refine giconst B X d3_17 (v := (1 : Int32)) rfl (pc' := 18) rfl ?_
  refine giadd B X d3_18 (v := st) (h1) (pc' := 19) rfl ?_
  refine gistoreN B X d3_19 (Ls' := #[.val (.ref ar), .val (.int av), .val (.int st), .unset, .unset, .unset, .unset]) rfl (pc' := 20) rfl ?_
  refine galoadN B X d3_20 rfl rfl (pc' := 21) rfl ?_
  refine giloadN B X d3_21 rfl (pc' := 22) rfl ?_
  refine gbaload B X FA (n := 18) (by rw [List.length_map]; exact hL) (by have a := h1N; omega) (v := (.int (bs.getD (aN + 1) 0))) (by rw [own_clamp h1N]; exact own_at (by rw [hL]; omega)) d3_22 (pc' := 23) rfl ?_
  refine gbipush B X d3_23 (v := (45 : Int32)) rfl (pc' := 25) rfl ?_
  have c25_110 : ¬ ((bs.getD (aN + 1) 0) = (45 : Int32)) := hsg
  refine gicY B X (pc' := 32) d3_25 (feq c25_110).2 (by decide) ?_
  refine giconst B X d3_32 (v := (0 : Int32)) rfl (pc' := 33) rfl ?_
  refine gistoreN B X d3_33 (Ls' := #[.val (.ref ar), .val (.int av), .val (.int st), .val (.int (0 : Int32)), .unset, .unset, .unset]) rfl (pc' := 34) rfl ?_
  refine giloadN B X d3_34 rfl (pc' := 35) rfl ?_
  have c35_111 : (0 : Int32) = (0 : Int32) := (by decide)
  refine gifY B X (pc' := 41) d3_35 ((if0 _ _).trans (teq c35_111).1) (by decide) ?_
  refine giloadN B X d3_41 rfl (pc' := 42) rfl ?_
  refine gistore B X d3_42 (Ls' := #[.val (.ref ar), .val (.int av), .val (.int st), .val (.int (0 : Int32)), .val (.int st), .unset, .unset]) rfl (pc' := 44) rfl ?_
  refine giconst B X d3_44 (v := (0 : Int32)) rfl (pc' := 45) rfl ?_
  refine gistore B X d3_45 (Ls' := #[.val (.ref ar), .val (.int av), .val (.int st), .val (.int (0 : Int32)), .val (.int st), .val (.int (0 : Int32)), .unset]) rfl (pc' := 47) rfl ?_
  exact lp3 l Z a0 hw ar av st kk (0 : Int32) bs sN kN h0 FA RU hst hkk B 10 0 _ st _ rfl (Nat.zero_le _) hst (Or.inl rfl) X
theorem own_run {bs0 : List Int32} {sN kN wN : Nat} {w : Int64} {t : Int32} (hL : bs0.length = 18) (hs : sN ≤ 4) (hk : kN ≤ 11) (hw : w.toInt = wN) (ht : ¬ (48 ≤ t.toInt ∧ t.toInt ≤ 57)) : (∀ j, j < kN → (orec bs0 sN kN w t 12).getD (sN + j) 0 = odig w (kN - 1 - j)) ∧ (orec bs0 sN kN w t 12).getD (sN + kN) 0 = t ∧ Run (orec bs0 sN kN w t 12) sN kN := by
  have R := own_rec bs0 sN kN w t 12 (by omega)
  have h1 : ∀ j, j < kN → (orec bs0 sN kN w t 12).getD (sN + j) 0 = odig w (kN - 1 - j) := by
    intro j hj
    rw [R, if_pos (by omega), Nat.add_sub_cancel_left, ofin, if_pos hj]
  have h2 : (orec bs0 sN kN w t 12).getD (sN + kN) 0 = t := by
    rw [R, if_pos (by omega), Nat.add_sub_cancel_left, ofin, if_neg (Nat.lt_irrefl _), if_pos rfl]
  refine ⟨h1, h2, (own_len ..).trans hL, hs, hk, fun j hj => ?_, by rw [h2]; exact ht⟩
  have d := own_dig (x := kN - 1 - j) hw (by omega)
  rw [h1 j hj, d]
  have := Nat.mod_lt (wN / 10 ^ (kN - 1 - j)) (show 10 > 0 by decide)
  omega
theorem own_low {bs0 : List Int32} {sN kN : Nat} {w : Int64} {t : Int32} (hL : bs0.length = 18) (hs : sN ≤ 4) (j : Nat) (hj : j < sN) : (orec bs0 sN kN w t 12).getD j 0 = bs0.getD j 0 := by
  rw [own_rec bs0 sN kN w t 12 (by omega), if_neg (by omega)]
theorem own_no45 {bs : List Int32} {sN kN : Nat} (R : Run bs sN kN) (hk : 0 < kN) : ¬ bs.getD sN 0 = (45 : Int32) := by
  intro q
  have h := R.2.2.2.1 0 hk
  rw [Nat.add_zero, q] at h
  exact absurd h (by decide)
theorem own_run0 {bs0 : List Int32} {sN : Nat} {w : Int64} {t : Int32} (hL : bs0.length = 18) (hs : sN ≤ 3) (h10 : bs0.getD (sN + 1) 0 = 10) : Run (orec bs0 sN 0 w t 12) (sN + 1) 0 := by
  refine ⟨(own_len ..).trans hL, by omega, by omega, fun j hj => absurd hj (by omega), ?_⟩
  rw [own_rec bs0 sN 0 w t 12 (by omega), if_pos (by omega), ofin, if_neg (by omega), if_neg (by omega)]
  rw [show sN + (sN + 1 + 0 - sN) = sN + 1 by omega, h10]
  decide
theorem own_run0' {bs0 : List Int32} {sN kN : Nat} {w : Int64} {t : Int32} (hL : bs0.length = 18) (h10 : bs0.getD (sN + 1) 0 = 10) (kz : kN = 0 ∧ sN ≤ 3) : Run (orec bs0 sN kN w t 12) (sN + 1) 0 := by
  obtain ⟨rfl, h⟩ := kz; exact own_run0 hL h h10
theorem own_t45 {bs : List Int32} {sN kN : Nat} {t : Int32} {P R : Prop} (h : P ∧ bs.getD (sN + kN) 0 = t ∧ R) (kz : kN = 0 ∧ sN ≤ 3) (q : t = 45) : bs.getD sN 0 = (45 : Int32) := by
  obtain ⟨rfl, -⟩ := kz; exact h.2.1.trans q
theorem own_tn45 {bs : List Int32} {sN kN : Nat} {t : Int32} {P R : Prop} (h : P ∧ bs.getD (sN + kN) 0 = t ∧ R) (kz : kN = 0 ∧ sN ≤ 3) (q : ¬ t = 45) : ¬ bs.getD sN 0 = (45 : Int32) := by
  obtain ⟨rfl, -⟩ := kz; exact fun z => q (h.2.1.symm.trans z)
theorem own_kz {k : Int32} {kN : Nat} (hk : k.toInt = kN) : k = (0 : Int32) ↔ kN = 0 := by rw [← Int32.toInt_inj, hk]; have z : (0 : Int32).toInt = 0 := rfl; omega
theorem own_k9 {k : Int32} {kN : Nat} (hk : k.toInt = kN) : (9 : Int32) < k ↔ 9 < kN := by rw [Int32.lt_iff_toInt_lt, hk]; have z : (9 : Int32).toInt = 9 := rfl; omega

theorem pn0 : plainFor (⟨"com/example/nabu/nabu/protocol/PlainFieldsNumberPinLaw", "law", "(IJII)Z"⟩ : MethodName) = true := plainFor_of_name (by first | (simp [plainName, overriddenIn]; done) | decide +kernel)
theorem ef0_IJII (m : MethodId) (x0 : Int32) (x1 : Int64) (x2 : Int32) (x3 : Int32) : entryFrame m #[(.int x0), (.long x1), (.int x2), (.int x3)] 22 = mkF m 0 #[.val (.int x0), .val (.long x1), .second, .val (.int x2), .val (.int x3), .unset, .unset, .unset, .unset, .unset, .unset, .unset, .unset, .unset, .unset, .unset, .unset, .unset, .unset, .unset, .unset, .unset] [] := by first | (simp [entryFrame, mkF, argsToLocals, Value.category]; done) | rfl
def ofs (x : Int32) : Int32 := if ((x >>> ((3 : Int32) &&& 31)) &&& (1 : Int32)) = (0 : Int32) then (0 : Int32) else ((1 : Int32))
def ole (x : Int32) : Int32 := if (ofs x) = (0 : Int32) then (x >>> ((4 : Int32) &&& 31)).toInt8.toInt32 else ((32 : Int32))
def ot (x : Int32) : Int32 := if x < (48 : Int32) then x else (if (57 : Int32) < x then x else ((10 : Int32)))
theorem own_le8 (x : Int32) : (ole x).toInt8.toInt32 = ole x := by unfold ole; split <;> first | rfl | exact nbb _
theorem own_t8 (x : Int32) : (ot x.toInt8.toInt32).toInt8.toInt32 = ot x.toInt8.toInt32 := by unfold ot; split <;> (try split) <;> first | rfl | exact nbb _
theorem own_tn (x : Int32) : ¬ (48 ≤ (ot x.toInt8.toInt32).toInt ∧ (ot x.toInt8.toInt32).toInt ≤ 57) := by
  unfold ot
  have z : (48 : Int32).toInt = 48 := rfl
  have z9 : (57 : Int32).toInt = 57 := rfl
  have z1 : (10 : Int32).toInt = 10 := rfl
  split
  · rename_i q; rw [Int32.lt_iff_toInt_lt] at q; omega
  · split
    · rename_i q; rw [Int32.lt_iff_toInt_lt] at q; omega
    · omega
theorem pd___BIIIJB_V : parseMethodDescriptor "([BIIIJB)V" = some ⟨[(.array .byte), .int, .int, .int, .long, .byte], none⟩ := by decide +kernel
theorem pd___BI_J : parseMethodDescriptor "([BI)J" = some ⟨[(.array .byte), .int], some .long⟩ := by decide +kernel
set_option maxRecDepth 65536 in
set_option maxHeartbeats 4000000 in
theorem mt0 (l : Launch) (Z : State) (a0 : Array Value) (hw : ∀ d ∈ tables_1, d.before a0 Z = true) (p0 : Int32) (p1 : Int64) (p2 : Int32) (p3 : Int32) (h0 : Heap) : Meth l Z x code maxLocals ret room_1 #[(.int p0), (.long p1), (.int p2), (.int p3)] h0 [] (fun v h' => v = some (.int 1)) := by
  refine Meth.of pn0 ?_
  intro p e s m below meth c T B X
  have B : Fix p Z s m meth c code 22 "com/example/nabu/nabu/protocol/PlainFieldsNumberPinLaw" "law" (some .boolean) := B
  refine Go.entry (ef0_IJII m p0 p1 p2 p3) ?_
  refine giloadN B X at_0 rfl (pc' := 1) rfl ?_
  refine gldc B X (v := (2147483647 : Int32)) (hw _ (List.mem_of_getElem? (i := 0) rfl)) at_1 (pc' := 3) rfl ?_
  refine giand B X at_3 rfl (pc' := 4) rfl ?_
  refine gbipush B X at_4 (v := (12 : Int32)) rfl (pc' := 6) rfl ?_
  refine girem B X at_6 (by decide) rfl (pc' := 7) rfl ?_
  generalize e_qk : ((p2 &&& (2147483647 : Int32)) % (12 : Int32)) = qk
  refine gistore B X at_7 (Ls' := #[.val (.int p0), .val (.long p1), .second, .val (.int p2), .val (.int p3), .val (.int qk), .unset, .unset, .unset, .unset, .unset, .unset, .unset, .unset, .unset, .unset, .unset, .unset, .unset, .unset, .unset, .unset]) rfl (pc' := 9) rfl ?_
  have hk := own_k p2; rw [e_qk] at hk; obtain ⟨kN, hk, hk11⟩ := hk
  refine glloadN B X at_9 rfl (pc' := 10) rfl ?_
  refine gldc2 B X (v := (9223372036854775807 : Int64)) (hw _ (List.mem_of_getElem? (i := 1) rfl)) at_10 (pc' := 13) rfl ?_
  refine gland B X at_13 rfl (pc' := 14) rfl ?_
  generalize e_qw : (p1 &&& (9223372036854775807 : Int64)) = qw
  refine glstore B X at_14 (Ls' := #[.val (.int p0), .val (.long p1), .second, .val (.int p2), .val (.int p3), .val (.int qk), .val (.long qw), .second, .unset, .unset, .unset, .unset, .unset, .unset, .unset, .unset, .unset, .unset, .unset, .unset, .unset, .unset]) rfl (pc' := 16) rfl ?_
  have hww := own_w p1; rw [e_qw] at hww; obtain ⟨wN, hww⟩ := hww
  refine giloadN B X at_16 rfl (pc' := 17) rfl ?_
  refine giconst B X at_17 (v := (2 : Int32)) rfl (pc' := 18) rfl ?_
  refine gishr B X at_18 rfl (pc' := 19) rfl ?_
  refine giconst B X at_19 (v := (1 : Int32)) rfl (pc' := 20) rfl ?_
  refine giand B X at_20 rfl (pc' := 21) rfl ?_
  by_cases c21_112 : ((p0 >>> ((2 : Int32) &&& 31)) &&& (1 : Int32)) = (0 : Int32)
  · refine gifY B X (pc' := 28) at_21 ((if0 _ _).trans (teq c21_112).1) (by decide) ?_
    refine giconst B X at_28 (v := (0 : Int32)) rfl (pc' := 29) rfl ?_
    refine gistore B X at_29 (Ls' := #[.val (.int p0), .val (.long p1), .second, .val (.int p2), .val (.int p3), .val (.int qk), .val (.long qw), .second, .val (.int (0 : Int32)), .unset, .unset, .unset, .unset, .unset, .unset, .unset, .unset, .unset, .unset, .unset, .unset, .unset]) rfl (pc' := 31) rfl ?_
    refine joinG B X (J := fun z => (mkF m 44 #[.val (.int p0), .val (.long p1), .second, .val (.int p2), .val (.int p3), .val (.int qk), .val (.long qw), .second, .val (.int (0 : Int32)), .unset, .unset, .unset, .unset, .unset, .unset, .unset, .unset, .unset, .unset, .unset, .unset, .unset] [(.int z)])) (r := (ofs p0)) (fun J => ?_) ?_
    · refine giloadN B X at_31 rfl (pc' := 32) rfl ?_
      refine giconst B X at_32 (v := (3 : Int32)) rfl (pc' := 33) rfl ?_
      refine gishr B X at_33 rfl (pc' := 34) rfl ?_
      refine giconst B X at_34 (v := (1 : Int32)) rfl (pc' := 35) rfl ?_
      refine giand B X at_35 rfl (pc' := 36) rfl ?_
      by_cases c36_113 : ((p0 >>> ((3 : Int32) &&& 31)) &&& (1 : Int32)) = (0 : Int32)
      · refine gifY B X (pc' := 43) at_36 ((if0 _ _).trans (teq c36_113).1) (by decide) ?_
        refine giconst B X at_43 (v := (0 : Int32)) rfl (pc' := 44) rfl ?_
        have e_J : (ofs p0) = (0 : Int32) := by rw [ofs, if_pos c36_113]
        rw [e_J] at J
        exact J _ X
      · refine gifN B X at_36 ((if0 _ _).trans (feq c36_113).1) (pc' := 39) rfl ?_
        refine giconst B X at_39 (v := (1 : Int32)) rfl (pc' := 40) rfl ?_
        refine ggoto B X (pc' := 44) at_40 (by decide) ?_
        have e_J : (ofs p0) = (1 : Int32) := by rw [ofs, if_neg c36_113]
        rw [e_J] at J
        exact J _ X
    intro T114 X115
    show Go p e below _ _ _ _ T114 (mkF m 44 #[.val (.int p0), .val (.long p1), .second, .val (.int p2), .val (.int p3), .val (.int qk), .val (.long qw), .second, .val (.int (0 : Int32)), .unset, .unset, .unset, .unset, .unset, .unset, .unset, .unset, .unset, .unset, .unset, .unset, .unset] [(.int (ofs p0))])
    refine gistore B X115 at_44 (Ls' := #[.val (.int p0), .val (.long p1), .second, .val (.int p2), .val (.int p3), .val (.int qk), .val (.long qw), .second, .val (.int (0 : Int32)), .val (.int (ofs p0)), .unset, .unset, .unset, .unset, .unset, .unset, .unset, .unset, .unset, .unset, .unset, .unset]) rfl (pc' := 46) rfl ?_
    refine joinG B X115 (J := fun z => (mkF m 60 #[.val (.int p0), .val (.long p1), .second, .val (.int p2), .val (.int p3), .val (.int qk), .val (.long qw), .second, .val (.int (0 : Int32)), .val (.int (ofs p0)), .unset, .unset, .unset, .unset, .unset, .unset, .unset, .unset, .unset, .unset, .unset, .unset] [(.int z)])) (r := (ole p0)) (fun J => ?_) ?_
    · refine giload B X115 at_46 rfl (pc' := 48) rfl ?_
      by_cases c48_116 : (ofs p0) = (0 : Int32)
      · refine gifY B X115 (pc' := 56) at_48 ((if0 _ _).trans (teq c48_116).1) (by decide) ?_
        refine giloadN B X115 at_56 rfl (pc' := 57) rfl ?_
        refine giconst B X115 at_57 (v := (4 : Int32)) rfl (pc' := 58) rfl ?_
        refine gishr B X115 at_58 rfl (pc' := 59) rfl ?_
        refine gi2b B X115 at_59 rfl (pc' := 60) rfl ?_
        have e_J : (ole p0) = (p0 >>> ((4 : Int32) &&& 31)).toInt8.toInt32 := by rw [ole, if_pos c48_116]
        rw [e_J] at J
        exact J _ X115
      · refine gifN B X115 at_48 ((if0 _ _).trans (feq c48_116).1) (pc' := 51) rfl ?_
        refine gbipush B X115 at_51 (v := (32 : Int32)) rfl (pc' := 53) rfl ?_
        refine ggoto B X115 (pc' := 60) at_53 (by decide) ?_
        have e_J : (ole p0) = (32 : Int32) := by rw [ole, if_neg c48_116]
        rw [e_J] at J
        exact J _ X115
    intro T117 X118
    show Go p e below _ _ _ _ T117 (mkF m 60 #[.val (.int p0), .val (.long p1), .second, .val (.int p2), .val (.int p3), .val (.int qk), .val (.long qw), .second, .val (.int (0 : Int32)), .val (.int (ofs p0)), .unset, .unset, .unset, .unset, .unset, .unset, .unset, .unset, .unset, .unset, .unset, .unset] [(.int (ole p0))])
    generalize e_qle : (ole p0) = qle
    refine gistore B X118 at_60 (Ls' := #[.val (.int p0), .val (.long p1), .second, .val (.int p2), .val (.int p3), .val (.int qk), .val (.long qw), .second, .val (.int (0 : Int32)), .val (.int (ofs p0)), .val (.int qle), .unset, .unset, .unset, .unset, .unset, .unset, .unset, .unset, .unset, .unset, .unset]) rfl (pc' := 62) rfl ?_
    have hle := own_le8 p0; rw [e_qle] at hle
    refine giload B X118 at_62 rfl (pc' := 64) rfl ?_
    refine gi2b B X118 at_64 rfl (pc' := 65) rfl ?_
    refine gistore B X118 at_65 (Ls' := #[.val (.int p0), .val (.long p1), .second, .val (.int p2), .val (.int p3), .val (.int qk), .val (.long qw), .second, .val (.int (0 : Int32)), .val (.int (ofs p0)), .val (.int qle), .val (.int p3.toInt8.toInt32), .unset, .unset, .unset, .unset, .unset, .unset, .unset, .unset, .unset, .unset]) rfl (pc' := 67) rfl ?_
    refine joinG B X118 (J := fun z => (mkF m 85 #[.val (.int p0), .val (.long p1), .second, .val (.int p2), .val (.int p3), .val (.int qk), .val (.long qw), .second, .val (.int (0 : Int32)), .val (.int (ofs p0)), .val (.int qle), .val (.int z), .unset, .unset, .unset, .unset, .unset, .unset, .unset, .unset, .unset, .unset] [])) (r := (ot p3.toInt8.toInt32)) (fun J => ?_) ?_
    · refine giload B X118 at_67 rfl (pc' := 69) rfl ?_
      refine gbipush B X118 at_69 (v := (48 : Int32)) rfl (pc' := 71) rfl ?_
      by_cases c71_119 : p3.toInt8.toInt32 < (48 : Int32)
      · refine gicY B X118 (pc' := 85) at_71 (tlt c71_119).1 (by decide) ?_
        have e_J : (ot p3.toInt8.toInt32) = p3.toInt8.toInt32 := by rw [ot, if_pos c71_119]
        rw [e_J] at J
        exact J _ X118
      · refine gicN B X118 at_71 (flt c71_119).1 (pc' := 74) rfl ?_
        refine giload B X118 at_74 rfl (pc' := 76) rfl ?_
        refine gbipush B X118 at_76 (v := (57 : Int32)) rfl (pc' := 78) rfl ?_
        by_cases c78_120 : (57 : Int32) < p3.toInt8.toInt32
        · refine gicY B X118 (pc' := 85) at_78 (tlt c78_120).2.2.1 (by decide) ?_
          have e_J : (ot p3.toInt8.toInt32) = p3.toInt8.toInt32 := by rw [ot, if_neg c71_119, if_pos c78_120]
          rw [e_J] at J
          exact J _ X118
        · refine gicN B X118 at_78 (flt c78_120).2.2.1 (pc' := 81) rfl ?_
          refine gbipush B X118 at_81 (v := (10 : Int32)) rfl (pc' := 83) rfl ?_
          refine gistore B X118 at_83 (Ls' := #[.val (.int p0), .val (.long p1), .second, .val (.int p2), .val (.int p3), .val (.int qk), .val (.long qw), .second, .val (.int (0 : Int32)), .val (.int (ofs p0)), .val (.int qle), .val (.int (10 : Int32)), .unset, .unset, .unset, .unset, .unset, .unset, .unset, .unset, .unset, .unset]) rfl (pc' := 85) rfl ?_
          have e_J : (ot p3.toInt8.toInt32) = (10 : Int32) := by rw [ot, if_neg c71_119, if_neg c78_120]
          rw [e_J] at J
          exact J _ X118
    intro T121 X122
    show Go p e below _ _ _ _ T121 (mkF m 85 #[.val (.int p0), .val (.long p1), .second, .val (.int p2), .val (.int p3), .val (.int qk), .val (.long qw), .second, .val (.int (0 : Int32)), .val (.int (ofs p0)), .val (.int qle), .val (.int (ot p3.toInt8.toInt32)), .unset, .unset, .unset, .unset, .unset, .unset, .unset, .unset, .unset, .unset] [])
    refine giloadN B X122 at_85 rfl (pc' := 86) rfl ?_
    have ht8 := own_t8 p3; have htn := own_tn p3
    generalize e_qt : (ot p3.toInt8.toInt32) = qt at ht8 htn ⊢
    refine giconst B X122 at_86 (v := (3 : Int32)) rfl (pc' := 87) rfl ?_
    refine giand B X122 at_87 rfl (pc' := 88) rfl ?_
    rcases own_and3 p0 with e_b | e_b | e_b | e_b
    · rw [e_b]
      refine gistore B X122 at_88 (Ls' := #[.val (.int p0), .val (.long p1), .second, .val (.int p2), .val (.int p3), .val (.int qk), .val (.long qw), .second, .val (.int (0 : Int32)), .val (.int (ofs p0)), .val (.int qle), .val (.int qt), .val (.int (0 : Int32)), .unset, .unset, .unset, .unset, .unset, .unset, .unset, .unset, .unset]) rfl (pc' := 90) rfl ?_
      refine giload B X122 at_90 rfl (pc' := 92) rfl ?_
      refine giconst B X122 at_92 (v := (3 : Int32)) rfl (pc' := 93) rfl ?_
      have c93_123 : ¬ ((0 : Int32) = (3 : Int32)) := (by decide)
      refine gicY B X122 (pc' := 100) at_93 (feq c93_123).2 (by decide) ?_
      refine giconst B X122 at_100 (v := (0 : Int32)) rfl (pc' := 101) rfl ?_
      refine gistore B X122 at_101 (Ls' := #[.val (.int p0), .val (.long p1), .second, .val (.int p2), .val (.int p3), .val (.int qk), .val (.long qw), .second, .val (.int (0 : Int32)), .val (.int (ofs p0)), .val (.int qle), .val (.int qt), .val (.int (0 : Int32)), .val (.int (0 : Int32)), .unset, .unset, .unset, .unset, .unset, .unset, .unset, .unset]) rfl (pc' := 103) rfl ?_
      refine giload B X122 at_103 rfl (pc' := 105) rfl ?_
      have c105_124 : (0 : Int32) = (0 : Int32) := (by decide)
      refine gifY B X122 (pc' := 112) at_105 ((if0 _ _).trans (teq c105_124).1) (by decide) ?_
      refine giload B X122 at_112 rfl (pc' := 114) rfl ?_
      refine gistore B X122 at_114 (Ls' := #[.val (.int p0), .val (.long p1), .second, .val (.int p2), .val (.int p3), .val (.int qk), .val (.long qw), .second, .val (.int (0 : Int32)), .val (.int (ofs p0)), .val (.int qle), .val (.int qt), .val (.int (0 : Int32)), .val (.int (0 : Int32)), .val (.int (0 : Int32)), .unset, .unset, .unset, .unset, .unset, .unset, .unset]) rfl (pc' := 116) rfl ?_
      refine giload B X122 at_116 rfl (pc' := 118) rfl ?_
      have c118_125 : (0 : Int32) = (0 : Int32) := (by decide)
      refine gifY B X122 (pc' := 128) at_118 ((if0 _ _).trans (teq c118_125).1) (by decide) ?_
      refine giload B X122 at_128 rfl (pc' := 130) rfl ?_
      refine gistore B X122 at_130 (Ls' := #[.val (.int p0), .val (.long p1), .second, .val (.int p2), .val (.int p3), .val (.int qk), .val (.long qw), .second, .val (.int (0 : Int32)), .val (.int (ofs p0)), .val (.int qle), .val (.int qt), .val (.int (0 : Int32)), .val (.int (0 : Int32)), .val (.int (0 : Int32)), .val (.int (0 : Int32)), .unset, .unset, .unset, .unset, .unset, .unset]) rfl (pc' := 132) rfl ?_
      refine gbipush B X122 at_132 (v := (18 : Int32)) rfl (pc' := 134) rfl ?_
      refine gnewarray B X122 (cap := 18) (vs := [(.int (0 : Int32)), (.int (0 : Int32)), (.int (0 : Int32)), (.int (0 : Int32)), (.int (0 : Int32)), (.int (0 : Int32)), (.int (0 : Int32)), (.int (0 : Int32)), (.int (0 : Int32)), (.int (0 : Int32)), (.int (0 : Int32)), (.int (0 : Int32)), (.int (0 : Int32)), (.int (0 : Int32)), (.int (0 : Int32)), (.int (0 : Int32)), (.int (0 : Int32)), (.int (0 : Int32))]) (ty := .byte) rfl rfl (hw _ (List.mem_of_getElem? (i := 2) rfl)) (by decide) (by decide) (by decide) (by decide) (by decide) at_134 (pc' := 136) rfl fun T126 h127 a128 X129 q130 E131 z_a128 A132 => ?_
      refine gdup B X129 at_136 rfl (pc' := 137) rfl ?_
      refine giconst B X129 at_137 (v := (0 : Int32)) rfl (pc' := 138) rfl ?_
      refine gbipush B X129 at_138 (v := (10 : Int32)) rfl (pc' := 140) rfl ?_
      refine gbastore B X129 (i := 0) (n := 18) A132 rfl (by decide) rfl (vs' := [(.int (10 : Int32)), (.int (0 : Int32)), (.int (0 : Int32)), (.int (0 : Int32)), (.int (0 : Int32)), (.int (0 : Int32)), (.int (0 : Int32)), (.int (0 : Int32)), (.int (0 : Int32)), (.int (0 : Int32)), (.int (0 : Int32)), (.int (0 : Int32)), (.int (0 : Int32)), (.int (0 : Int32)), (.int (0 : Int32)), (.int (0 : Int32)), (.int (0 : Int32)), (.int (0 : Int32))]) rfl (Or.inr z_a128) at_140 (pc' := 141) rfl fun T133 h134 X135 W136 A137 => ?_
      refine gdup B X135 at_141 rfl (pc' := 142) rfl ?_
      refine giconst B X135 at_142 (v := (1 : Int32)) rfl (pc' := 143) rfl ?_
      refine gbipush B X135 at_143 (v := (10 : Int32)) rfl (pc' := 145) rfl ?_
      refine gbastore B X135 (i := 1) (n := 18) A137 rfl (by decide) rfl (vs' := [(.int (10 : Int32)), (.int (10 : Int32)), (.int (0 : Int32)), (.int (0 : Int32)), (.int (0 : Int32)), (.int (0 : Int32)), (.int (0 : Int32)), (.int (0 : Int32)), (.int (0 : Int32)), (.int (0 : Int32)), (.int (0 : Int32)), (.int (0 : Int32)), (.int (0 : Int32)), (.int (0 : Int32)), (.int (0 : Int32)), (.int (0 : Int32)), (.int (0 : Int32)), (.int (0 : Int32))]) rfl (Or.inr z_a128) at_145 (pc' := 146) rfl fun T138 h139 X140 W141 A142 => ?_
      refine gdup B X140 at_146 rfl (pc' := 147) rfl ?_
      refine giconst B X140 at_147 (v := (2 : Int32)) rfl (pc' := 148) rfl ?_
      refine gbipush B X140 at_148 (v := (10 : Int32)) rfl (pc' := 150) rfl ?_
      refine gbastore B X140 (i := 2) (n := 18) A142 rfl (by decide) rfl (vs' := [(.int (10 : Int32)), (.int (10 : Int32)), (.int (10 : Int32)), (.int (0 : Int32)), (.int (0 : Int32)), (.int (0 : Int32)), (.int (0 : Int32)), (.int (0 : Int32)), (.int (0 : Int32)), (.int (0 : Int32)), (.int (0 : Int32)), (.int (0 : Int32)), (.int (0 : Int32)), (.int (0 : Int32)), (.int (0 : Int32)), (.int (0 : Int32)), (.int (0 : Int32)), (.int (0 : Int32))]) rfl (Or.inr z_a128) at_150 (pc' := 151) rfl fun T143 h144 X145 W146 A147 => ?_
      refine gdup B X145 at_151 rfl (pc' := 152) rfl ?_
      refine giconst B X145 at_152 (v := (3 : Int32)) rfl (pc' := 153) rfl ?_
      refine gbipush B X145 at_153 (v := (10 : Int32)) rfl (pc' := 155) rfl ?_
      refine gbastore B X145 (i := 3) (n := 18) A147 rfl (by decide) rfl (vs' := [(.int (10 : Int32)), (.int (10 : Int32)), (.int (10 : Int32)), (.int (10 : Int32)), (.int (0 : Int32)), (.int (0 : Int32)), (.int (0 : Int32)), (.int (0 : Int32)), (.int (0 : Int32)), (.int (0 : Int32)), (.int (0 : Int32)), (.int (0 : Int32)), (.int (0 : Int32)), (.int (0 : Int32)), (.int (0 : Int32)), (.int (0 : Int32)), (.int (0 : Int32)), (.int (0 : Int32))]) rfl (Or.inr z_a128) at_155 (pc' := 156) rfl fun T148 h149 X150 W151 A152 => ?_
      refine gdup B X150 at_156 rfl (pc' := 157) rfl ?_
      refine giconst B X150 at_157 (v := (4 : Int32)) rfl (pc' := 158) rfl ?_
      refine gbipush B X150 at_158 (v := (10 : Int32)) rfl (pc' := 160) rfl ?_
      refine gbastore B X150 (i := 4) (n := 18) A152 rfl (by decide) rfl (vs' := [(.int (10 : Int32)), (.int (10 : Int32)), (.int (10 : Int32)), (.int (10 : Int32)), (.int (10 : Int32)), (.int (0 : Int32)), (.int (0 : Int32)), (.int (0 : Int32)), (.int (0 : Int32)), (.int (0 : Int32)), (.int (0 : Int32)), (.int (0 : Int32)), (.int (0 : Int32)), (.int (0 : Int32)), (.int (0 : Int32)), (.int (0 : Int32)), (.int (0 : Int32)), (.int (0 : Int32))]) rfl (Or.inr z_a128) at_160 (pc' := 161) rfl fun T153 h154 X155 W156 A157 => ?_
      refine gdup B X155 at_161 rfl (pc' := 162) rfl ?_
      refine giconst B X155 at_162 (v := (5 : Int32)) rfl (pc' := 163) rfl ?_
      refine gbipush B X155 at_163 (v := (10 : Int32)) rfl (pc' := 165) rfl ?_
      refine gbastore B X155 (i := 5) (n := 18) A157 rfl (by decide) rfl (vs' := [(.int (10 : Int32)), (.int (10 : Int32)), (.int (10 : Int32)), (.int (10 : Int32)), (.int (10 : Int32)), (.int (10 : Int32)), (.int (0 : Int32)), (.int (0 : Int32)), (.int (0 : Int32)), (.int (0 : Int32)), (.int (0 : Int32)), (.int (0 : Int32)), (.int (0 : Int32)), (.int (0 : Int32)), (.int (0 : Int32)), (.int (0 : Int32)), (.int (0 : Int32)), (.int (0 : Int32))]) rfl (Or.inr z_a128) at_165 (pc' := 166) rfl fun T158 h159 X160 W161 A162 => ?_
      refine gdup B X160 at_166 rfl (pc' := 167) rfl ?_
      refine gbipush B X160 at_167 (v := (6 : Int32)) rfl (pc' := 169) rfl ?_
      refine gbipush B X160 at_169 (v := (10 : Int32)) rfl (pc' := 171) rfl ?_
      refine gbastore B X160 (i := 6) (n := 18) A162 rfl (by decide) rfl (vs' := [(.int (10 : Int32)), (.int (10 : Int32)), (.int (10 : Int32)), (.int (10 : Int32)), (.int (10 : Int32)), (.int (10 : Int32)), (.int (10 : Int32)), (.int (0 : Int32)), (.int (0 : Int32)), (.int (0 : Int32)), (.int (0 : Int32)), (.int (0 : Int32)), (.int (0 : Int32)), (.int (0 : Int32)), (.int (0 : Int32)), (.int (0 : Int32)), (.int (0 : Int32)), (.int (0 : Int32))]) rfl (Or.inr z_a128) at_171 (pc' := 172) rfl fun T163 h164 X165 W166 A167 => ?_
      refine gdup B X165 at_172 rfl (pc' := 173) rfl ?_
      refine gbipush B X165 at_173 (v := (7 : Int32)) rfl (pc' := 175) rfl ?_
      refine gbipush B X165 at_175 (v := (10 : Int32)) rfl (pc' := 177) rfl ?_
      refine gbastore B X165 (i := 7) (n := 18) A167 rfl (by decide) rfl (vs' := [(.int (10 : Int32)), (.int (10 : Int32)), (.int (10 : Int32)), (.int (10 : Int32)), (.int (10 : Int32)), (.int (10 : Int32)), (.int (10 : Int32)), (.int (10 : Int32)), (.int (0 : Int32)), (.int (0 : Int32)), (.int (0 : Int32)), (.int (0 : Int32)), (.int (0 : Int32)), (.int (0 : Int32)), (.int (0 : Int32)), (.int (0 : Int32)), (.int (0 : Int32)), (.int (0 : Int32))]) rfl (Or.inr z_a128) at_177 (pc' := 178) rfl fun T168 h169 X170 W171 A172 => ?_
      refine gdup B X170 at_178 rfl (pc' := 179) rfl ?_
      refine gbipush B X170 at_179 (v := (8 : Int32)) rfl (pc' := 181) rfl ?_
      refine gbipush B X170 at_181 (v := (10 : Int32)) rfl (pc' := 183) rfl ?_
      refine gbastore B X170 (i := 8) (n := 18) A172 rfl (by decide) rfl (vs' := [(.int (10 : Int32)), (.int (10 : Int32)), (.int (10 : Int32)), (.int (10 : Int32)), (.int (10 : Int32)), (.int (10 : Int32)), (.int (10 : Int32)), (.int (10 : Int32)), (.int (10 : Int32)), (.int (0 : Int32)), (.int (0 : Int32)), (.int (0 : Int32)), (.int (0 : Int32)), (.int (0 : Int32)), (.int (0 : Int32)), (.int (0 : Int32)), (.int (0 : Int32)), (.int (0 : Int32))]) rfl (Or.inr z_a128) at_183 (pc' := 184) rfl fun T173 h174 X175 W176 A177 => ?_
      refine gdup B X175 at_184 rfl (pc' := 185) rfl ?_
      refine gbipush B X175 at_185 (v := (9 : Int32)) rfl (pc' := 187) rfl ?_
      refine gbipush B X175 at_187 (v := (10 : Int32)) rfl (pc' := 189) rfl ?_
      refine gbastore B X175 (i := 9) (n := 18) A177 rfl (by decide) rfl (vs' := [(.int (10 : Int32)), (.int (10 : Int32)), (.int (10 : Int32)), (.int (10 : Int32)), (.int (10 : Int32)), (.int (10 : Int32)), (.int (10 : Int32)), (.int (10 : Int32)), (.int (10 : Int32)), (.int (10 : Int32)), (.int (0 : Int32)), (.int (0 : Int32)), (.int (0 : Int32)), (.int (0 : Int32)), (.int (0 : Int32)), (.int (0 : Int32)), (.int (0 : Int32)), (.int (0 : Int32))]) rfl (Or.inr z_a128) at_189 (pc' := 190) rfl fun T178 h179 X180 W181 A182 => ?_
      refine gdup B X180 at_190 rfl (pc' := 191) rfl ?_
      refine gbipush B X180 at_191 (v := (10 : Int32)) rfl (pc' := 193) rfl ?_
      refine gbipush B X180 at_193 (v := (10 : Int32)) rfl (pc' := 195) rfl ?_
      refine gbastore B X180 (i := 10) (n := 18) A182 rfl (by decide) rfl (vs' := [(.int (10 : Int32)), (.int (10 : Int32)), (.int (10 : Int32)), (.int (10 : Int32)), (.int (10 : Int32)), (.int (10 : Int32)), (.int (10 : Int32)), (.int (10 : Int32)), (.int (10 : Int32)), (.int (10 : Int32)), (.int (10 : Int32)), (.int (0 : Int32)), (.int (0 : Int32)), (.int (0 : Int32)), (.int (0 : Int32)), (.int (0 : Int32)), (.int (0 : Int32)), (.int (0 : Int32))]) rfl (Or.inr z_a128) at_195 (pc' := 196) rfl fun T183 h184 X185 W186 A187 => ?_
      refine gdup B X185 at_196 rfl (pc' := 197) rfl ?_
      refine gbipush B X185 at_197 (v := (11 : Int32)) rfl (pc' := 199) rfl ?_
      refine gbipush B X185 at_199 (v := (10 : Int32)) rfl (pc' := 201) rfl ?_
      refine gbastore B X185 (i := 11) (n := 18) A187 rfl (by decide) rfl (vs' := [(.int (10 : Int32)), (.int (10 : Int32)), (.int (10 : Int32)), (.int (10 : Int32)), (.int (10 : Int32)), (.int (10 : Int32)), (.int (10 : Int32)), (.int (10 : Int32)), (.int (10 : Int32)), (.int (10 : Int32)), (.int (10 : Int32)), (.int (10 : Int32)), (.int (0 : Int32)), (.int (0 : Int32)), (.int (0 : Int32)), (.int (0 : Int32)), (.int (0 : Int32)), (.int (0 : Int32))]) rfl (Or.inr z_a128) at_201 (pc' := 202) rfl fun T188 h189 X190 W191 A192 => ?_
      refine gdup B X190 at_202 rfl (pc' := 203) rfl ?_
      refine gbipush B X190 at_203 (v := (12 : Int32)) rfl (pc' := 205) rfl ?_
      refine gbipush B X190 at_205 (v := (10 : Int32)) rfl (pc' := 207) rfl ?_
      refine gbastore B X190 (i := 12) (n := 18) A192 rfl (by decide) rfl (vs' := [(.int (10 : Int32)), (.int (10 : Int32)), (.int (10 : Int32)), (.int (10 : Int32)), (.int (10 : Int32)), (.int (10 : Int32)), (.int (10 : Int32)), (.int (10 : Int32)), (.int (10 : Int32)), (.int (10 : Int32)), (.int (10 : Int32)), (.int (10 : Int32)), (.int (10 : Int32)), (.int (0 : Int32)), (.int (0 : Int32)), (.int (0 : Int32)), (.int (0 : Int32)), (.int (0 : Int32))]) rfl (Or.inr z_a128) at_207 (pc' := 208) rfl fun T193 h194 X195 W196 A197 => ?_
      refine gdup B X195 at_208 rfl (pc' := 209) rfl ?_
      refine gbipush B X195 at_209 (v := (13 : Int32)) rfl (pc' := 211) rfl ?_
      refine gbipush B X195 at_211 (v := (10 : Int32)) rfl (pc' := 213) rfl ?_
      refine gbastore B X195 (i := 13) (n := 18) A197 rfl (by decide) rfl (vs' := [(.int (10 : Int32)), (.int (10 : Int32)), (.int (10 : Int32)), (.int (10 : Int32)), (.int (10 : Int32)), (.int (10 : Int32)), (.int (10 : Int32)), (.int (10 : Int32)), (.int (10 : Int32)), (.int (10 : Int32)), (.int (10 : Int32)), (.int (10 : Int32)), (.int (10 : Int32)), (.int (10 : Int32)), (.int (0 : Int32)), (.int (0 : Int32)), (.int (0 : Int32)), (.int (0 : Int32))]) rfl (Or.inr z_a128) at_213 (pc' := 214) rfl fun T198 h199 X200 W201 A202 => ?_
      refine gdup B X200 at_214 rfl (pc' := 215) rfl ?_
      refine gbipush B X200 at_215 (v := (14 : Int32)) rfl (pc' := 217) rfl ?_
      refine gbipush B X200 at_217 (v := (10 : Int32)) rfl (pc' := 219) rfl ?_
      refine gbastore B X200 (i := 14) (n := 18) A202 rfl (by decide) rfl (vs' := [(.int (10 : Int32)), (.int (10 : Int32)), (.int (10 : Int32)), (.int (10 : Int32)), (.int (10 : Int32)), (.int (10 : Int32)), (.int (10 : Int32)), (.int (10 : Int32)), (.int (10 : Int32)), (.int (10 : Int32)), (.int (10 : Int32)), (.int (10 : Int32)), (.int (10 : Int32)), (.int (10 : Int32)), (.int (10 : Int32)), (.int (0 : Int32)), (.int (0 : Int32)), (.int (0 : Int32))]) rfl (Or.inr z_a128) at_219 (pc' := 220) rfl fun T203 h204 X205 W206 A207 => ?_
      refine gdup B X205 at_220 rfl (pc' := 221) rfl ?_
      refine gbipush B X205 at_221 (v := (15 : Int32)) rfl (pc' := 223) rfl ?_
      refine gbipush B X205 at_223 (v := (10 : Int32)) rfl (pc' := 225) rfl ?_
      refine gbastore B X205 (i := 15) (n := 18) A207 rfl (by decide) rfl (vs' := [(.int (10 : Int32)), (.int (10 : Int32)), (.int (10 : Int32)), (.int (10 : Int32)), (.int (10 : Int32)), (.int (10 : Int32)), (.int (10 : Int32)), (.int (10 : Int32)), (.int (10 : Int32)), (.int (10 : Int32)), (.int (10 : Int32)), (.int (10 : Int32)), (.int (10 : Int32)), (.int (10 : Int32)), (.int (10 : Int32)), (.int (10 : Int32)), (.int (0 : Int32)), (.int (0 : Int32))]) rfl (Or.inr z_a128) at_225 (pc' := 226) rfl fun T208 h209 X210 W211 A212 => ?_
      refine gdup B X210 at_226 rfl (pc' := 227) rfl ?_
      refine gbipush B X210 at_227 (v := (16 : Int32)) rfl (pc' := 229) rfl ?_
      refine gbipush B X210 at_229 (v := (10 : Int32)) rfl (pc' := 231) rfl ?_
      refine gbastore B X210 (i := 16) (n := 18) A212 rfl (by decide) rfl (vs' := [(.int (10 : Int32)), (.int (10 : Int32)), (.int (10 : Int32)), (.int (10 : Int32)), (.int (10 : Int32)), (.int (10 : Int32)), (.int (10 : Int32)), (.int (10 : Int32)), (.int (10 : Int32)), (.int (10 : Int32)), (.int (10 : Int32)), (.int (10 : Int32)), (.int (10 : Int32)), (.int (10 : Int32)), (.int (10 : Int32)), (.int (10 : Int32)), (.int (10 : Int32)), (.int (0 : Int32))]) rfl (Or.inr z_a128) at_231 (pc' := 232) rfl fun T213 h214 X215 W216 A217 => ?_
      refine gdup B X215 at_232 rfl (pc' := 233) rfl ?_
      refine gbipush B X215 at_233 (v := (17 : Int32)) rfl (pc' := 235) rfl ?_
      refine gbipush B X215 at_235 (v := (10 : Int32)) rfl (pc' := 237) rfl ?_
      refine gbastore B X215 (i := 17) (n := 18) A217 rfl (by decide) rfl (vs' := [(.int (10 : Int32)), (.int (10 : Int32)), (.int (10 : Int32)), (.int (10 : Int32)), (.int (10 : Int32)), (.int (10 : Int32)), (.int (10 : Int32)), (.int (10 : Int32)), (.int (10 : Int32)), (.int (10 : Int32)), (.int (10 : Int32)), (.int (10 : Int32)), (.int (10 : Int32)), (.int (10 : Int32)), (.int (10 : Int32)), (.int (10 : Int32)), (.int (10 : Int32)), (.int (10 : Int32))]) rfl (Or.inr z_a128) at_237 (pc' := 238) rfl fun T218 h219 X220 W221 A222 => ?_
      refine gastore B X220 at_238 rfl (Ls' := #[.val (.int p0), .val (.long p1), .second, .val (.int p2), .val (.int p3), .val (.int qk), .val (.long qw), .second, .val (.int (0 : Int32)), .val (.int (ofs p0)), .val (.int qle), .val (.int qt), .val (.int (0 : Int32)), .val (.int (0 : Int32)), .val (.int (0 : Int32)), .val (.int (0 : Int32)), .val (.ref a128), .unset, .unset, .unset, .unset, .unset]) rfl (pc' := 240) rfl ?_
      refine gaload B X220 at_240 rfl rfl (pc' := 242) rfl ?_
      refine giconst B X220 at_242 (v := (0 : Int32)) rfl (pc' := 243) rfl ?_
      refine gbipush B X220 at_243 (v := (57 : Int32)) rfl (pc' := 245) rfl ?_
      refine gbastore B X220 (i := 0) (n := 18) A222 rfl (by decide) rfl (vs' := [(.int (57 : Int32)), (.int (10 : Int32)), (.int (10 : Int32)), (.int (10 : Int32)), (.int (10 : Int32)), (.int (10 : Int32)), (.int (10 : Int32)), (.int (10 : Int32)), (.int (10 : Int32)), (.int (10 : Int32)), (.int (10 : Int32)), (.int (10 : Int32)), (.int (10 : Int32)), (.int (10 : Int32)), (.int (10 : Int32)), (.int (10 : Int32)), (.int (10 : Int32)), (.int (10 : Int32))]) rfl (Or.inr z_a128) at_245 (pc' := 246) rfl fun T223 h224 X225 W226 A227 => ?_
      refine gaload B X225 at_246 rfl rfl (pc' := 248) rfl ?_
      refine giconst B X225 at_248 (v := (1 : Int32)) rfl (pc' := 249) rfl ?_
      refine gbipush B X225 at_249 (v := (57 : Int32)) rfl (pc' := 251) rfl ?_
      refine gbastore B X225 (i := 1) (n := 18) A227 rfl (by decide) rfl (vs' := [(.int (57 : Int32)), (.int (57 : Int32)), (.int (10 : Int32)), (.int (10 : Int32)), (.int (10 : Int32)), (.int (10 : Int32)), (.int (10 : Int32)), (.int (10 : Int32)), (.int (10 : Int32)), (.int (10 : Int32)), (.int (10 : Int32)), (.int (10 : Int32)), (.int (10 : Int32)), (.int (10 : Int32)), (.int (10 : Int32)), (.int (10 : Int32)), (.int (10 : Int32)), (.int (10 : Int32))]) rfl (Or.inr z_a128) at_251 (pc' := 252) rfl fun T228 h229 X230 W231 A232 => ?_
      refine gaload B X230 at_252 rfl rfl (pc' := 254) rfl ?_
      refine giload B X230 at_254 rfl (pc' := 256) rfl ?_
      refine giload B X230 at_256 rfl (pc' := 258) rfl ?_
      refine gbastore B X230 (i := 0) A232 (n := 18) rfl (by decide) rfl (vs' := (([qle, 57, 10, 10, 10, 10, 10, 10, 10, 10, 10, 10, 10, 10, 10, 10, 10, 10] : List Int32).map Value.int)) (by rw [hle]; rfl) (Or.inr z_a128) at_258 (pc' := 259) rfl fun T233 h234 X235 W236 A237 => ?_
      refine giload B X235 at_259 rfl (pc' := 261) rfl ?_
      refine giconst B X235 at_261 (v := (1 : Int32)) rfl (pc' := 262) rfl ?_
      refine giadd B X235 at_262 (v := (1 : Int32)) (by decide) (pc' := 263) rfl ?_
      refine gistore B X235 at_263 (Ls' := #[.val (.int p0), .val (.long p1), .second, .val (.int p2), .val (.int p3), .val (.int qk), .val (.long qw), .second, .val (.int (0 : Int32)), .val (.int (ofs p0)), .val (.int qle), .val (.int qt), .val (.int (0 : Int32)), .val (.int (0 : Int32)), .val (.int (0 : Int32)), .val (.int (0 : Int32)), .val (.ref a128), .val (.int (1 : Int32)), .unset, .unset, .unset, .unset]) rfl (pc' := 265) rfl ?_
      refine giload B X235 at_265 rfl (pc' := 267) rfl ?_
      have c267_238 : (0 : Int32) = (0 : Int32) := (by decide)
      refine gifY B X235 (pc' := 283) at_267 ((if0 _ _).trans (teq c267_238).1) (by decide) ?_
      have hL0 : ([qle, 57, 10, 10, 10, 10, 10, 10, 10, 10, 10, 10, 10, 10, 10, 10, 10, 10] : List Int32).length = 18 := rfl
      have ha0 : ([qle, 57, 10, 10, 10, 10, 10, 10, 10, 10, 10, 10, 10, 10, 10, 10, 10, 10] : List Int32).getD 0 0 = qle := rfl
      have hb0 : ([qle, 57, 10, 10, 10, 10, 10, 10, 10, 10, 10, 10, 10, 10, 10, 10, 10, 10] : List Int32).getD 2 0 = 10 := rfl
      generalize ([qle, 57, 10, 10, 10, 10, 10, 10, 10, 10, 10, 10, 10, 10, 10, 10, 10, 10] : List Int32) = bs0 at hL0 ha0 hb0 A237
      have A239 : VA Z h234 a128 .byte ((orec bs0 1 kN qw qt 0).map Value.int) := A237
      refine gaload B X235 at_283 rfl rfl (pc' := 285) rfl ?_
      refine giload B X235 at_285 rfl (pc' := 287) rfl ?_
      refine giconst B X235 at_287 (v := (0 : Int32)) rfl (pc' := 288) rfl ?_
      refine giload B X235 at_288 rfl (pc' := 290) rfl ?_
      refine glload B X235 at_290 rfl (pc' := 292) rfl ?_
      refine giload B X235 at_292 rfl (pc' := 294) rfl ?_
      refine gcallS B X235 (hw _ (List.mem_of_getElem? (i := 3) rfl)) (hw _ (List.mem_of_getElem? (i := 4) rfl)) (hw _ (List.mem_of_getElem? (i := 5) rfl)) (hw _ (List.mem_of_getElem? (i := 6) rfl)) (by decide) (mt1 l Z a0 hw a128 (1 : Int32) (0 : Int32) qk qw qt (orec bs0 1 kN qw qt 0) 1 0 kN h234 A239 ((own_len ..).trans hL0) (by decide) (by decide) (by decide) (by decide) hk hk11 ht8) pd___BIIIJB_V rfl (argsL := [(.ref a128), (.int (1 : Int32)), (.int (0 : Int32)), (.int qk), (.long qw), (.int qt)]) (st := []) rfl rfl (W := 0) (Nat.le_of_eq rfl) (by decide) (by decide) (by decide) (by decide) (allS (Or.inr z_a128) all0) at_294 (pc' := 297) rfl fun T240 h241 v242 X243 K244 Q245 => ?_
      obtain ⟨rfl, A246⟩ := Q245
      have A247 : VA Z h241 a128 .byte ((orec bs0 1 kN qw qt 1).map Value.int) := A246
      show Go p e below _ _ _ _ T240 (mkF m 297 #[.val (.int p0), .val (.long p1), .second, .val (.int p2), .val (.int p3), .val (.int qk), .val (.long qw), .second, .val (.int (0 : Int32)), .val (.int (ofs p0)), .val (.int qle), .val (.int qt), .val (.int (0 : Int32)), .val (.int (0 : Int32)), .val (.int (0 : Int32)), .val (.int (0 : Int32)), .val (.ref a128), .val (.int (1 : Int32)), .unset, .unset, .unset, .unset] [])
      refine gaload B X243 at_297 rfl rfl (pc' := 299) rfl ?_
      refine giload B X243 at_299 rfl (pc' := 301) rfl ?_
      refine giconst B X243 at_301 (v := (1 : Int32)) rfl (pc' := 302) rfl ?_
      refine giload B X243 at_302 rfl (pc' := 304) rfl ?_
      refine glload B X243 at_304 rfl (pc' := 306) rfl ?_
      refine giload B X243 at_306 rfl (pc' := 308) rfl ?_
      refine gcallS B X243 (hw _ (List.mem_of_getElem? (i := 3) rfl)) (hw _ (List.mem_of_getElem? (i := 4) rfl)) (hw _ (List.mem_of_getElem? (i := 5) rfl)) (hw _ (List.mem_of_getElem? (i := 6) rfl)) (by decide) (mt1 l Z a0 hw a128 (1 : Int32) (1 : Int32) qk qw qt (orec bs0 1 kN qw qt 1) 1 1 kN h241 A247 ((own_len ..).trans hL0) (by decide) (by decide) (by decide) (by decide) hk hk11 ht8) pd___BIIIJB_V rfl (argsL := [(.ref a128), (.int (1 : Int32)), (.int (1 : Int32)), (.int qk), (.long qw), (.int qt)]) (st := []) rfl rfl (W := 0) (Nat.le_of_eq rfl) (by decide) (by decide) (by decide) (by decide) (allS (Or.inr z_a128) all0) at_308 (pc' := 311) rfl fun T248 h249 v250 X251 K252 Q253 => ?_
      obtain ⟨rfl, A254⟩ := Q253
      have A255 : VA Z h249 a128 .byte ((orec bs0 1 kN qw qt 2).map Value.int) := A254
      show Go p e below _ _ _ _ T248 (mkF m 311 #[.val (.int p0), .val (.long p1), .second, .val (.int p2), .val (.int p3), .val (.int qk), .val (.long qw), .second, .val (.int (0 : Int32)), .val (.int (ofs p0)), .val (.int qle), .val (.int qt), .val (.int (0 : Int32)), .val (.int (0 : Int32)), .val (.int (0 : Int32)), .val (.int (0 : Int32)), .val (.ref a128), .val (.int (1 : Int32)), .unset, .unset, .unset, .unset] [])
      refine gaload B X251 at_311 rfl rfl (pc' := 313) rfl ?_
      refine giload B X251 at_313 rfl (pc' := 315) rfl ?_
      refine giconst B X251 at_315 (v := (2 : Int32)) rfl (pc' := 316) rfl ?_
      refine giload B X251 at_316 rfl (pc' := 318) rfl ?_
      refine glload B X251 at_318 rfl (pc' := 320) rfl ?_
      refine giload B X251 at_320 rfl (pc' := 322) rfl ?_
      refine gcallS B X251 (hw _ (List.mem_of_getElem? (i := 3) rfl)) (hw _ (List.mem_of_getElem? (i := 4) rfl)) (hw _ (List.mem_of_getElem? (i := 5) rfl)) (hw _ (List.mem_of_getElem? (i := 6) rfl)) (by decide) (mt1 l Z a0 hw a128 (1 : Int32) (2 : Int32) qk qw qt (orec bs0 1 kN qw qt 2) 1 2 kN h249 A255 ((own_len ..).trans hL0) (by decide) (by decide) (by decide) (by decide) hk hk11 ht8) pd___BIIIJB_V rfl (argsL := [(.ref a128), (.int (1 : Int32)), (.int (2 : Int32)), (.int qk), (.long qw), (.int qt)]) (st := []) rfl rfl (W := 0) (Nat.le_of_eq rfl) (by decide) (by decide) (by decide) (by decide) (allS (Or.inr z_a128) all0) at_322 (pc' := 325) rfl fun T256 h257 v258 X259 K260 Q261 => ?_
      obtain ⟨rfl, A262⟩ := Q261
      have A263 : VA Z h257 a128 .byte ((orec bs0 1 kN qw qt 3).map Value.int) := A262
      show Go p e below _ _ _ _ T256 (mkF m 325 #[.val (.int p0), .val (.long p1), .second, .val (.int p2), .val (.int p3), .val (.int qk), .val (.long qw), .second, .val (.int (0 : Int32)), .val (.int (ofs p0)), .val (.int qle), .val (.int qt), .val (.int (0 : Int32)), .val (.int (0 : Int32)), .val (.int (0 : Int32)), .val (.int (0 : Int32)), .val (.ref a128), .val (.int (1 : Int32)), .unset, .unset, .unset, .unset] [])
      refine gaload B X259 at_325 rfl rfl (pc' := 327) rfl ?_
      refine giload B X259 at_327 rfl (pc' := 329) rfl ?_
      refine giconst B X259 at_329 (v := (3 : Int32)) rfl (pc' := 330) rfl ?_
      refine giload B X259 at_330 rfl (pc' := 332) rfl ?_
      refine glload B X259 at_332 rfl (pc' := 334) rfl ?_
      refine giload B X259 at_334 rfl (pc' := 336) rfl ?_
      refine gcallS B X259 (hw _ (List.mem_of_getElem? (i := 3) rfl)) (hw _ (List.mem_of_getElem? (i := 4) rfl)) (hw _ (List.mem_of_getElem? (i := 5) rfl)) (hw _ (List.mem_of_getElem? (i := 6) rfl)) (by decide) (mt1 l Z a0 hw a128 (1 : Int32) (3 : Int32) qk qw qt (orec bs0 1 kN qw qt 3) 1 3 kN h257 A263 ((own_len ..).trans hL0) (by decide) (by decide) (by decide) (by decide) hk hk11 ht8) pd___BIIIJB_V rfl (argsL := [(.ref a128), (.int (1 : Int32)), (.int (3 : Int32)), (.int qk), (.long qw), (.int qt)]) (st := []) rfl rfl (W := 0) (Nat.le_of_eq rfl) (by decide) (by decide) (by decide) (by decide) (allS (Or.inr z_a128) all0) at_336 (pc' := 339) rfl fun T264 h265 v266 X267 K268 Q269 => ?_
      obtain ⟨rfl, A270⟩ := Q269
      have A271 : VA Z h265 a128 .byte ((orec bs0 1 kN qw qt 4).map Value.int) := A270
      show Go p e below _ _ _ _ T264 (mkF m 339 #[.val (.int p0), .val (.long p1), .second, .val (.int p2), .val (.int p3), .val (.int qk), .val (.long qw), .second, .val (.int (0 : Int32)), .val (.int (ofs p0)), .val (.int qle), .val (.int qt), .val (.int (0 : Int32)), .val (.int (0 : Int32)), .val (.int (0 : Int32)), .val (.int (0 : Int32)), .val (.ref a128), .val (.int (1 : Int32)), .unset, .unset, .unset, .unset] [])
      refine gaload B X267 at_339 rfl rfl (pc' := 341) rfl ?_
      refine giload B X267 at_341 rfl (pc' := 343) rfl ?_
      refine giconst B X267 at_343 (v := (4 : Int32)) rfl (pc' := 344) rfl ?_
      refine giload B X267 at_344 rfl (pc' := 346) rfl ?_
      refine glload B X267 at_346 rfl (pc' := 348) rfl ?_
      refine giload B X267 at_348 rfl (pc' := 350) rfl ?_
      refine gcallS B X267 (hw _ (List.mem_of_getElem? (i := 3) rfl)) (hw _ (List.mem_of_getElem? (i := 4) rfl)) (hw _ (List.mem_of_getElem? (i := 5) rfl)) (hw _ (List.mem_of_getElem? (i := 6) rfl)) (by decide) (mt1 l Z a0 hw a128 (1 : Int32) (4 : Int32) qk qw qt (orec bs0 1 kN qw qt 4) 1 4 kN h265 A271 ((own_len ..).trans hL0) (by decide) (by decide) (by decide) (by decide) hk hk11 ht8) pd___BIIIJB_V rfl (argsL := [(.ref a128), (.int (1 : Int32)), (.int (4 : Int32)), (.int qk), (.long qw), (.int qt)]) (st := []) rfl rfl (W := 0) (Nat.le_of_eq rfl) (by decide) (by decide) (by decide) (by decide) (allS (Or.inr z_a128) all0) at_350 (pc' := 353) rfl fun T272 h273 v274 X275 K276 Q277 => ?_
      obtain ⟨rfl, A278⟩ := Q277
      have A279 : VA Z h273 a128 .byte ((orec bs0 1 kN qw qt 5).map Value.int) := A278
      show Go p e below _ _ _ _ T272 (mkF m 353 #[.val (.int p0), .val (.long p1), .second, .val (.int p2), .val (.int p3), .val (.int qk), .val (.long qw), .second, .val (.int (0 : Int32)), .val (.int (ofs p0)), .val (.int qle), .val (.int qt), .val (.int (0 : Int32)), .val (.int (0 : Int32)), .val (.int (0 : Int32)), .val (.int (0 : Int32)), .val (.ref a128), .val (.int (1 : Int32)), .unset, .unset, .unset, .unset] [])
      refine gaload B X275 at_353 rfl rfl (pc' := 355) rfl ?_
      refine giload B X275 at_355 rfl (pc' := 357) rfl ?_
      refine giconst B X275 at_357 (v := (5 : Int32)) rfl (pc' := 358) rfl ?_
      refine giload B X275 at_358 rfl (pc' := 360) rfl ?_
      refine glload B X275 at_360 rfl (pc' := 362) rfl ?_
      refine giload B X275 at_362 rfl (pc' := 364) rfl ?_
      refine gcallS B X275 (hw _ (List.mem_of_getElem? (i := 3) rfl)) (hw _ (List.mem_of_getElem? (i := 4) rfl)) (hw _ (List.mem_of_getElem? (i := 5) rfl)) (hw _ (List.mem_of_getElem? (i := 6) rfl)) (by decide) (mt1 l Z a0 hw a128 (1 : Int32) (5 : Int32) qk qw qt (orec bs0 1 kN qw qt 5) 1 5 kN h273 A279 ((own_len ..).trans hL0) (by decide) (by decide) (by decide) (by decide) hk hk11 ht8) pd___BIIIJB_V rfl (argsL := [(.ref a128), (.int (1 : Int32)), (.int (5 : Int32)), (.int qk), (.long qw), (.int qt)]) (st := []) rfl rfl (W := 0) (Nat.le_of_eq rfl) (by decide) (by decide) (by decide) (by decide) (allS (Or.inr z_a128) all0) at_364 (pc' := 367) rfl fun T280 h281 v282 X283 K284 Q285 => ?_
      obtain ⟨rfl, A286⟩ := Q285
      have A287 : VA Z h281 a128 .byte ((orec bs0 1 kN qw qt 6).map Value.int) := A286
      show Go p e below _ _ _ _ T280 (mkF m 367 #[.val (.int p0), .val (.long p1), .second, .val (.int p2), .val (.int p3), .val (.int qk), .val (.long qw), .second, .val (.int (0 : Int32)), .val (.int (ofs p0)), .val (.int qle), .val (.int qt), .val (.int (0 : Int32)), .val (.int (0 : Int32)), .val (.int (0 : Int32)), .val (.int (0 : Int32)), .val (.ref a128), .val (.int (1 : Int32)), .unset, .unset, .unset, .unset] [])
      refine gaload B X283 at_367 rfl rfl (pc' := 369) rfl ?_
      refine giload B X283 at_369 rfl (pc' := 371) rfl ?_
      refine gbipush B X283 at_371 (v := (6 : Int32)) rfl (pc' := 373) rfl ?_
      refine giload B X283 at_373 rfl (pc' := 375) rfl ?_
      refine glload B X283 at_375 rfl (pc' := 377) rfl ?_
      refine giload B X283 at_377 rfl (pc' := 379) rfl ?_
      refine gcallS B X283 (hw _ (List.mem_of_getElem? (i := 3) rfl)) (hw _ (List.mem_of_getElem? (i := 4) rfl)) (hw _ (List.mem_of_getElem? (i := 5) rfl)) (hw _ (List.mem_of_getElem? (i := 6) rfl)) (by decide) (mt1 l Z a0 hw a128 (1 : Int32) (6 : Int32) qk qw qt (orec bs0 1 kN qw qt 6) 1 6 kN h281 A287 ((own_len ..).trans hL0) (by decide) (by decide) (by decide) (by decide) hk hk11 ht8) pd___BIIIJB_V rfl (argsL := [(.ref a128), (.int (1 : Int32)), (.int (6 : Int32)), (.int qk), (.long qw), (.int qt)]) (st := []) rfl rfl (W := 0) (Nat.le_of_eq rfl) (by decide) (by decide) (by decide) (by decide) (allS (Or.inr z_a128) all0) at_379 (pc' := 382) rfl fun T288 h289 v290 X291 K292 Q293 => ?_
      obtain ⟨rfl, A294⟩ := Q293
      have A295 : VA Z h289 a128 .byte ((orec bs0 1 kN qw qt 7).map Value.int) := A294
      show Go p e below _ _ _ _ T288 (mkF m 382 #[.val (.int p0), .val (.long p1), .second, .val (.int p2), .val (.int p3), .val (.int qk), .val (.long qw), .second, .val (.int (0 : Int32)), .val (.int (ofs p0)), .val (.int qle), .val (.int qt), .val (.int (0 : Int32)), .val (.int (0 : Int32)), .val (.int (0 : Int32)), .val (.int (0 : Int32)), .val (.ref a128), .val (.int (1 : Int32)), .unset, .unset, .unset, .unset] [])
      refine gaload B X291 at_382 rfl rfl (pc' := 384) rfl ?_
      refine giload B X291 at_384 rfl (pc' := 386) rfl ?_
      refine gbipush B X291 at_386 (v := (7 : Int32)) rfl (pc' := 388) rfl ?_
      refine giload B X291 at_388 rfl (pc' := 390) rfl ?_
      refine glload B X291 at_390 rfl (pc' := 392) rfl ?_
      refine giload B X291 at_392 rfl (pc' := 394) rfl ?_
      refine gcallS B X291 (hw _ (List.mem_of_getElem? (i := 3) rfl)) (hw _ (List.mem_of_getElem? (i := 4) rfl)) (hw _ (List.mem_of_getElem? (i := 5) rfl)) (hw _ (List.mem_of_getElem? (i := 6) rfl)) (by decide) (mt1 l Z a0 hw a128 (1 : Int32) (7 : Int32) qk qw qt (orec bs0 1 kN qw qt 7) 1 7 kN h289 A295 ((own_len ..).trans hL0) (by decide) (by decide) (by decide) (by decide) hk hk11 ht8) pd___BIIIJB_V rfl (argsL := [(.ref a128), (.int (1 : Int32)), (.int (7 : Int32)), (.int qk), (.long qw), (.int qt)]) (st := []) rfl rfl (W := 0) (Nat.le_of_eq rfl) (by decide) (by decide) (by decide) (by decide) (allS (Or.inr z_a128) all0) at_394 (pc' := 397) rfl fun T296 h297 v298 X299 K300 Q301 => ?_
      obtain ⟨rfl, A302⟩ := Q301
      have A303 : VA Z h297 a128 .byte ((orec bs0 1 kN qw qt 8).map Value.int) := A302
      show Go p e below _ _ _ _ T296 (mkF m 397 #[.val (.int p0), .val (.long p1), .second, .val (.int p2), .val (.int p3), .val (.int qk), .val (.long qw), .second, .val (.int (0 : Int32)), .val (.int (ofs p0)), .val (.int qle), .val (.int qt), .val (.int (0 : Int32)), .val (.int (0 : Int32)), .val (.int (0 : Int32)), .val (.int (0 : Int32)), .val (.ref a128), .val (.int (1 : Int32)), .unset, .unset, .unset, .unset] [])
      refine gaload B X299 at_397 rfl rfl (pc' := 399) rfl ?_
      refine giload B X299 at_399 rfl (pc' := 401) rfl ?_
      refine gbipush B X299 at_401 (v := (8 : Int32)) rfl (pc' := 403) rfl ?_
      refine giload B X299 at_403 rfl (pc' := 405) rfl ?_
      refine glload B X299 at_405 rfl (pc' := 407) rfl ?_
      refine giload B X299 at_407 rfl (pc' := 409) rfl ?_
      refine gcallS B X299 (hw _ (List.mem_of_getElem? (i := 3) rfl)) (hw _ (List.mem_of_getElem? (i := 4) rfl)) (hw _ (List.mem_of_getElem? (i := 5) rfl)) (hw _ (List.mem_of_getElem? (i := 6) rfl)) (by decide) (mt1 l Z a0 hw a128 (1 : Int32) (8 : Int32) qk qw qt (orec bs0 1 kN qw qt 8) 1 8 kN h297 A303 ((own_len ..).trans hL0) (by decide) (by decide) (by decide) (by decide) hk hk11 ht8) pd___BIIIJB_V rfl (argsL := [(.ref a128), (.int (1 : Int32)), (.int (8 : Int32)), (.int qk), (.long qw), (.int qt)]) (st := []) rfl rfl (W := 0) (Nat.le_of_eq rfl) (by decide) (by decide) (by decide) (by decide) (allS (Or.inr z_a128) all0) at_409 (pc' := 412) rfl fun T304 h305 v306 X307 K308 Q309 => ?_
      obtain ⟨rfl, A310⟩ := Q309
      have A311 : VA Z h305 a128 .byte ((orec bs0 1 kN qw qt 9).map Value.int) := A310
      show Go p e below _ _ _ _ T304 (mkF m 412 #[.val (.int p0), .val (.long p1), .second, .val (.int p2), .val (.int p3), .val (.int qk), .val (.long qw), .second, .val (.int (0 : Int32)), .val (.int (ofs p0)), .val (.int qle), .val (.int qt), .val (.int (0 : Int32)), .val (.int (0 : Int32)), .val (.int (0 : Int32)), .val (.int (0 : Int32)), .val (.ref a128), .val (.int (1 : Int32)), .unset, .unset, .unset, .unset] [])
      refine gaload B X307 at_412 rfl rfl (pc' := 414) rfl ?_
      refine giload B X307 at_414 rfl (pc' := 416) rfl ?_
      refine gbipush B X307 at_416 (v := (9 : Int32)) rfl (pc' := 418) rfl ?_
      refine giload B X307 at_418 rfl (pc' := 420) rfl ?_
      refine glload B X307 at_420 rfl (pc' := 422) rfl ?_
      refine giload B X307 at_422 rfl (pc' := 424) rfl ?_
      refine gcallS B X307 (hw _ (List.mem_of_getElem? (i := 3) rfl)) (hw _ (List.mem_of_getElem? (i := 4) rfl)) (hw _ (List.mem_of_getElem? (i := 5) rfl)) (hw _ (List.mem_of_getElem? (i := 6) rfl)) (by decide) (mt1 l Z a0 hw a128 (1 : Int32) (9 : Int32) qk qw qt (orec bs0 1 kN qw qt 9) 1 9 kN h305 A311 ((own_len ..).trans hL0) (by decide) (by decide) (by decide) (by decide) hk hk11 ht8) pd___BIIIJB_V rfl (argsL := [(.ref a128), (.int (1 : Int32)), (.int (9 : Int32)), (.int qk), (.long qw), (.int qt)]) (st := []) rfl rfl (W := 0) (Nat.le_of_eq rfl) (by decide) (by decide) (by decide) (by decide) (allS (Or.inr z_a128) all0) at_424 (pc' := 427) rfl fun T312 h313 v314 X315 K316 Q317 => ?_
      obtain ⟨rfl, A318⟩ := Q317
      have A319 : VA Z h313 a128 .byte ((orec bs0 1 kN qw qt 10).map Value.int) := A318
      show Go p e below _ _ _ _ T312 (mkF m 427 #[.val (.int p0), .val (.long p1), .second, .val (.int p2), .val (.int p3), .val (.int qk), .val (.long qw), .second, .val (.int (0 : Int32)), .val (.int (ofs p0)), .val (.int qle), .val (.int qt), .val (.int (0 : Int32)), .val (.int (0 : Int32)), .val (.int (0 : Int32)), .val (.int (0 : Int32)), .val (.ref a128), .val (.int (1 : Int32)), .unset, .unset, .unset, .unset] [])
      refine gaload B X315 at_427 rfl rfl (pc' := 429) rfl ?_
      refine giload B X315 at_429 rfl (pc' := 431) rfl ?_
      refine gbipush B X315 at_431 (v := (10 : Int32)) rfl (pc' := 433) rfl ?_
      refine giload B X315 at_433 rfl (pc' := 435) rfl ?_
      refine glload B X315 at_435 rfl (pc' := 437) rfl ?_
      refine giload B X315 at_437 rfl (pc' := 439) rfl ?_
      refine gcallS B X315 (hw _ (List.mem_of_getElem? (i := 3) rfl)) (hw _ (List.mem_of_getElem? (i := 4) rfl)) (hw _ (List.mem_of_getElem? (i := 5) rfl)) (hw _ (List.mem_of_getElem? (i := 6) rfl)) (by decide) (mt1 l Z a0 hw a128 (1 : Int32) (10 : Int32) qk qw qt (orec bs0 1 kN qw qt 10) 1 10 kN h313 A319 ((own_len ..).trans hL0) (by decide) (by decide) (by decide) (by decide) hk hk11 ht8) pd___BIIIJB_V rfl (argsL := [(.ref a128), (.int (1 : Int32)), (.int (10 : Int32)), (.int qk), (.long qw), (.int qt)]) (st := []) rfl rfl (W := 0) (Nat.le_of_eq rfl) (by decide) (by decide) (by decide) (by decide) (allS (Or.inr z_a128) all0) at_439 (pc' := 442) rfl fun T320 h321 v322 X323 K324 Q325 => ?_
      obtain ⟨rfl, A326⟩ := Q325
      have A327 : VA Z h321 a128 .byte ((orec bs0 1 kN qw qt 11).map Value.int) := A326
      show Go p e below _ _ _ _ T320 (mkF m 442 #[.val (.int p0), .val (.long p1), .second, .val (.int p2), .val (.int p3), .val (.int qk), .val (.long qw), .second, .val (.int (0 : Int32)), .val (.int (ofs p0)), .val (.int qle), .val (.int qt), .val (.int (0 : Int32)), .val (.int (0 : Int32)), .val (.int (0 : Int32)), .val (.int (0 : Int32)), .val (.ref a128), .val (.int (1 : Int32)), .unset, .unset, .unset, .unset] [])
      refine gaload B X323 at_442 rfl rfl (pc' := 444) rfl ?_
      refine giload B X323 at_444 rfl (pc' := 446) rfl ?_
      refine gbipush B X323 at_446 (v := (11 : Int32)) rfl (pc' := 448) rfl ?_
      refine giload B X323 at_448 rfl (pc' := 450) rfl ?_
      refine glload B X323 at_450 rfl (pc' := 452) rfl ?_
      refine giload B X323 at_452 rfl (pc' := 454) rfl ?_
      refine gcallS B X323 (hw _ (List.mem_of_getElem? (i := 3) rfl)) (hw _ (List.mem_of_getElem? (i := 4) rfl)) (hw _ (List.mem_of_getElem? (i := 5) rfl)) (hw _ (List.mem_of_getElem? (i := 6) rfl)) (by decide) (mt1 l Z a0 hw a128 (1 : Int32) (11 : Int32) qk qw qt (orec bs0 1 kN qw qt 11) 1 11 kN h321 A327 ((own_len ..).trans hL0) (by decide) (by decide) (by decide) (by decide) hk hk11 ht8) pd___BIIIJB_V rfl (argsL := [(.ref a128), (.int (1 : Int32)), (.int (11 : Int32)), (.int qk), (.long qw), (.int qt)]) (st := []) rfl rfl (W := 0) (Nat.le_of_eq rfl) (by decide) (by decide) (by decide) (by decide) (allS (Or.inr z_a128) all0) at_454 (pc' := 457) rfl fun T328 h329 v330 X331 K332 Q333 => ?_
      obtain ⟨rfl, A334⟩ := Q333
      have A335 : VA Z h329 a128 .byte ((orec bs0 1 kN qw qt 12).map Value.int) := A334
      show Go p e below _ _ _ _ T328 (mkF m 457 #[.val (.int p0), .val (.long p1), .second, .val (.int p2), .val (.int p3), .val (.int qk), .val (.long qw), .second, .val (.int (0 : Int32)), .val (.int (ofs p0)), .val (.int qle), .val (.int qt), .val (.int (0 : Int32)), .val (.int (0 : Int32)), .val (.int (0 : Int32)), .val (.int (0 : Int32)), .val (.ref a128), .val (.int (1 : Int32)), .unset, .unset, .unset, .unset] [])
      refine giload B X331 at_457 rfl (pc' := 459) rfl ?_
      have c459_336 : (0 : Int32) = (0 : Int32) := (by decide)
      refine gifN B X331 at_459 ((if0 _ _).trans (teq c459_336).2) (pc' := 462) rfl ?_
      refine giload B X331 at_462 rfl (pc' := 464) rfl ?_
      refine gbipush B X331 at_464 (v := (32 : Int32)) rfl (pc' := 466) rfl ?_
      by_cases c466_337 : qle = (32 : Int32)
      · refine gicN B X331 at_466 (teq c466_337).2 (pc' := 469) rfl ?_
        refine giload B X331 at_469 rfl (pc' := 471) rfl ?_
        by_cases c471_338 : qk = (0 : Int32)
        · refine gifY B X331 (pc' := 481) at_471 ((if0 _ _).trans (teq c471_338).1) (by decide) ?_
          refine gldc2 B X331 (v := (-1 : Int64)) (hw _ (List.mem_of_getElem? (i := 21) rfl)) at_481 (pc' := 484) rfl ?_
          refine glstore B X331 at_484 (Ls' := #[.val (.int p0), .val (.long p1), .second, .val (.int p2), .val (.int p3), .val (.int qk), .val (.long qw), .second, .val (.int (0 : Int32)), .val (.int (ofs p0)), .val (.int qle), .val (.int qt), .val (.int (0 : Int32)), .val (.int (0 : Int32)), .val (.int (0 : Int32)), .val (.int (0 : Int32)), .val (.ref a128), .val (.int (1 : Int32)), .val (.long (-1 : Int64)), .second, .unset, .unset]) rfl (pc' := 486) rfl ?_
          refine ggoto B X331 (pc' := 534) at_486 (by decide) ?_
          have kz : kN = 0 ∧ 1 ≤ 3 := ⟨(own_kz hk).mp c471_338, by decide⟩
          by_cases c45 : qt = 45
          · skip
            refine gaload B X331 at_534 rfl rfl (pc' := 536) rfl ?_
            refine giload B X331 at_536 rfl (pc' := 538) rfl ?_
            have hru := own_run (sN := 1) hL0 (by decide) hk11 hww htn
            refine gcallS B X331 (hw _ (List.mem_of_getElem? (i := 22) rfl)) (hw _ (List.mem_of_getElem? (i := 23) rfl)) (hw _ (List.mem_of_getElem? (i := 24) rfl)) (hw _ (List.mem_of_getElem? (i := 25) rfl)) (by decide) (mt3C1 l Z a0 hw a128 (0 : Int32) (orec bs0 1 kN qw qt 12) h329 A335 0 (by decide) (by decide) ((own_len ..).trans hL0) 2 0 (2 : Int32) (0 : Int32) (1 : Int32) (own_run0' hL0 hb0 kz) (by decide) (by decide) (((own_low hL0 (by decide) 0 (by decide)).trans ha0).trans c466_337) (by decide) (by decide) (own_t45 hru kz c45) (by decide)) pd___BI_J rfl (argsL := [(.ref a128), (.int (0 : Int32))]) (st := []) rfl rfl (W := 0) (Nat.le_of_eq rfl) (by decide) (by decide) (by decide) (by decide) (fun x q => nomatch q) at_538 (pc' := 541) rfl (pureG rfl rfl fun T339 X340 => ?_)
            refine glload B X340 at_541 rfl (pc' := 543) rfl ?_
            refine glcmp B X340 at_543 (pc' := 544) rfl ?_
            have c544_341 : (ores (2 : Int32) (0 : Int32) (1 : Int32) 0 (oacc (orec bs0 1 kN qw qt 12) 2 0)) = (-1 : Int64) := rfl
            refine gifN B X340 at_544 ((if0 _ _).trans (teq (((lw_eq (ores (2 : Int32) (0 : Int32) (1 : Int32) 0 (oacc (orec bs0 1 kN qw qt 12) 2 0)) (-1 : Int64))).mpr c544_341)).2) (pc' := 547) rfl ?_
            refine giconst B X340 at_547 (v := (1 : Int32)) rfl (pc' := 548) rfl ?_
            refine ggoto B X340 (pc' := 552) at_548 (by decide) ?_
            exact gretN B X340 (z' := (1 : Int32)) (by simp) (rfl) at_552 (by decide) (by decide) (rfl)
          · skip
            refine gaload B X331 at_534 rfl rfl (pc' := 536) rfl ?_
            refine giload B X331 at_536 rfl (pc' := 538) rfl ?_
            have hru := own_run (sN := 1) hL0 (by decide) hk11 hww htn
            refine gcallS B X331 (hw _ (List.mem_of_getElem? (i := 22) rfl)) (hw _ (List.mem_of_getElem? (i := 23) rfl)) (hw _ (List.mem_of_getElem? (i := 24) rfl)) (hw _ (List.mem_of_getElem? (i := 25) rfl)) (by decide) (mt3C0 l Z a0 hw a128 (0 : Int32) (orec bs0 1 kN qw qt 12) h329 A335 0 (by decide) (by decide) ((own_len ..).trans hL0) 1 kN (1 : Int32) qk hru.2.2 (by decide) hk (((own_low hL0 (by decide) 0 (by decide)).trans ha0).trans c466_337) (by decide) (by decide) (own_tn45 hru kz c45)) pd___BI_J rfl (argsL := [(.ref a128), (.int (0 : Int32))]) (st := []) rfl rfl (W := 0) (Nat.le_of_eq rfl) (by decide) (by decide) (by decide) (by decide) (fun x q => nomatch q) at_538 (pc' := 541) rfl (pureG rfl rfl fun T342 X343 => ?_)
            refine glload B X343 at_541 rfl (pc' := 543) rfl ?_
            refine glcmp B X343 at_543 (pc' := 544) rfl ?_
            have c544_344 : (ores (1 : Int32) qk (0 : Int32) kN (oacc (orec bs0 1 kN qw qt 12) 1 kN)) = (-1 : Int64) := if_pos (Or.inl kz.1)
            refine gifN B X343 at_544 ((if0 _ _).trans (teq (((lw_eq (ores (1 : Int32) qk (0 : Int32) kN (oacc (orec bs0 1 kN qw qt 12) 1 kN)) (-1 : Int64))).mpr c544_344)).2) (pc' := 547) rfl ?_
            refine giconst B X343 at_547 (v := (1 : Int32)) rfl (pc' := 548) rfl ?_
            refine ggoto B X343 (pc' := 552) at_548 (by decide) ?_
            exact gretN B X343 (z' := (1 : Int32)) (by simp) (rfl) at_552 (by decide) (by decide) (rfl)
        · refine gifN B X331 at_471 ((if0 _ _).trans (feq c471_338).1) (pc' := 474) rfl ?_
          refine giload B X331 at_474 rfl (pc' := 476) rfl ?_
          refine gbipush B X331 at_476 (v := (9 : Int32)) rfl (pc' := 478) rfl ?_
          by_cases c478_345 : (9 : Int32) < qk
          · refine gicN B X331 at_478 (tlt c478_345).2.2.2 (pc' := 481) rfl ?_
            refine gldc2 B X331 (v := (-1 : Int64)) (hw _ (List.mem_of_getElem? (i := 21) rfl)) at_481 (pc' := 484) rfl ?_
            refine glstore B X331 at_484 (Ls' := #[.val (.int p0), .val (.long p1), .second, .val (.int p2), .val (.int p3), .val (.int qk), .val (.long qw), .second, .val (.int (0 : Int32)), .val (.int (ofs p0)), .val (.int qle), .val (.int qt), .val (.int (0 : Int32)), .val (.int (0 : Int32)), .val (.int (0 : Int32)), .val (.int (0 : Int32)), .val (.ref a128), .val (.int (1 : Int32)), .val (.long (-1 : Int64)), .second, .unset, .unset]) rfl (pc' := 486) rfl ?_
            refine ggoto B X331 (pc' := 534) at_486 (by decide) ?_
            have hkp : 0 < kN := Nat.pos_of_ne_zero (mt (own_kz hk).mpr c471_338)
            refine gaload B X331 at_534 rfl rfl (pc' := 536) rfl ?_
            refine giload B X331 at_536 rfl (pc' := 538) rfl ?_
            have hru := own_run (sN := 1) hL0 (by decide) hk11 hww htn
            refine gcallS B X331 (hw _ (List.mem_of_getElem? (i := 22) rfl)) (hw _ (List.mem_of_getElem? (i := 23) rfl)) (hw _ (List.mem_of_getElem? (i := 24) rfl)) (hw _ (List.mem_of_getElem? (i := 25) rfl)) (by decide) (mt3C0 l Z a0 hw a128 (0 : Int32) (orec bs0 1 kN qw qt 12) h329 A335 0 (by decide) (by decide) ((own_len ..).trans hL0) 1 kN (1 : Int32) qk hru.2.2 (by decide) hk (((own_low hL0 (by decide) 0 (by decide)).trans ha0).trans c466_337) (by decide) (by decide) (own_no45 hru.2.2 hkp)) pd___BI_J rfl (argsL := [(.ref a128), (.int (0 : Int32))]) (st := []) rfl rfl (W := 0) (Nat.le_of_eq rfl) (by decide) (by decide) (by decide) (by decide) (fun x q => nomatch q) at_538 (pc' := 541) rfl (pureG rfl rfl fun T346 X347 => ?_)
            refine glload B X347 at_541 rfl (pc' := 543) rfl ?_
            refine glcmp B X347 at_543 (pc' := 544) rfl ?_
            have c544_348 : (ores (1 : Int32) qk (0 : Int32) kN (oacc (orec bs0 1 kN qw qt 12) 1 kN)) = (-1 : Int64) := if_pos (Or.inr ((own_k9 hk).mp c478_345))
            refine gifN B X347 at_544 ((if0 _ _).trans (teq (((lw_eq (ores (1 : Int32) qk (0 : Int32) kN (oacc (orec bs0 1 kN qw qt 12) 1 kN)) (-1 : Int64))).mpr c544_348)).2) (pc' := 547) rfl ?_
            refine giconst B X347 at_547 (v := (1 : Int32)) rfl (pc' := 548) rfl ?_
            refine ggoto B X347 (pc' := 552) at_548 (by decide) ?_
            exact gretN B X347 (z' := (1 : Int32)) (by simp) (rfl) at_552 (by decide) (by decide) (rfl)
          · refine gicY B X331 (pc' := 489) at_478 (flt c478_345).2.2.2 (by decide) ?_
            refine glload B X331 at_489 rfl (pc' := 491) rfl ?_
            refine giload B X331 at_491 rfl (pc' := 493) rfl ?_
            have hk9 := mt (own_k9 hk).mpr c478_345
            refine gcallS B X331 (hw _ (List.mem_of_getElem? (i := 7) rfl)) (hw _ (List.mem_of_getElem? (i := 8) rfl)) (hw _ (List.mem_of_getElem? (i := 5) rfl)) (hw _ (List.mem_of_getElem? (i := 9) rfl)) (by decide) (mt2 l Z a0 hw qk kN h329 hk (by omega)) pd__I_J rfl (argsL := [(.int qk)]) (st := [(.long qw)]) rfl rfl (W := 2) (Nat.le_of_eq rfl) (by decide) (by decide) (by decide) (by decide) (fun x q => nomatch q) at_493 (pc' := 496) rfl fun T349 h350 v351 X352 K353 Q354 => ?_
            have F355 := A335.keep K353 nin0
            obtain rfl := Q354
            show Go p e below _ _ _ _ T349 (mkF m 496 #[.val (.int p0), .val (.long p1), .second, .val (.int p2), .val (.int p3), .val (.int qk), .val (.long qw), .second, .val (.int (0 : Int32)), .val (.int (ofs p0)), .val (.int qle), .val (.int qt), .val (.int (0 : Int32)), .val (.int (0 : Int32)), .val (.int (0 : Int32)), .val (.int (0 : Int32)), .val (.ref a128), .val (.int (1 : Int32)), .unset, .unset, .unset, .unset] [(.long (opow kN)), (.long qw)])
            refine glrem B X352 at_496 (own_p10 ⟨kN, by omega⟩).2.1 rfl (pc' := 497) rfl ?_
            refine gl2i B X352 at_497 rfl (pc' := 498) rfl ?_
            refine gistore B X352 at_498 (Ls' := #[.val (.int p0), .val (.long p1), .second, .val (.int p2), .val (.int p3), .val (.int qk), .val (.long qw), .second, .val (.int (0 : Int32)), .val (.int (ofs p0)), .val (.int qle), .val (.int qt), .val (.int (0 : Int32)), .val (.int (0 : Int32)), .val (.int (0 : Int32)), .val (.int (0 : Int32)), .val (.ref a128), .val (.int (1 : Int32)), .unset, .unset, .val (.int (qw % (opow kN)).toInt32), .unset]) rfl (pc' := 500) rfl ?_
            refine giload B X352 at_500 rfl (pc' := 502) rfl ?_
            have c502_356 : (0 : Int32) = (0 : Int32) := (by decide)
            refine gifY B X352 (pc' := 511) at_502 ((if0 _ _).trans (teq c502_356).1) (by decide) ?_
            refine giload B X352 at_511 rfl (pc' := 513) rfl ?_
            refine gistore B X352 at_513 (Ls' := #[.val (.int p0), .val (.long p1), .second, .val (.int p2), .val (.int p3), .val (.int qk), .val (.long qw), .second, .val (.int (0 : Int32)), .val (.int (ofs p0)), .val (.int qle), .val (.int qt), .val (.int (0 : Int32)), .val (.int (0 : Int32)), .val (.int (0 : Int32)), .val (.int (0 : Int32)), .val (.ref a128), .val (.int (1 : Int32)), .unset, .unset, .val (.int (qw % (opow kN)).toInt32), .val (.int (qw % (opow kN)).toInt32)]) rfl (pc' := 515) rfl ?_
            refine giload B X352 at_515 rfl (pc' := 517) rfl ?_
            refine giload B X352 at_517 rfl (pc' := 519) rfl ?_
            refine giadd B X352 at_519 rfl (pc' := 520) rfl ?_
            refine gi2l B X352 at_520 rfl (pc' := 521) rfl ?_
            refine gbipush B X352 at_521 (v := (32 : Int32)) rfl (pc' := 523) rfl ?_
            refine glshl B X352 at_523 rfl (pc' := 524) rfl ?_
            refine giload B X352 at_524 rfl (pc' := 526) rfl ?_
            refine gi2l B X352 at_526 rfl (pc' := 527) rfl ?_
            refine gldc2 B X352 (v := (4294967295 : Int64)) (hw _ (List.mem_of_getElem? (i := 28) rfl)) at_527 (pc' := 530) rfl ?_
            refine gland B X352 at_530 rfl (pc' := 531) rfl ?_
            refine glor B X352 at_531 rfl (pc' := 532) rfl ?_
            refine glstore B X352 at_532 (Ls' := #[.val (.int p0), .val (.long p1), .second, .val (.int p2), .val (.int p3), .val (.int qk), .val (.long qw), .second, .val (.int (0 : Int32)), .val (.int (ofs p0)), .val (.int qle), .val (.int qt), .val (.int (0 : Int32)), .val (.int (0 : Int32)), .val (.int (0 : Int32)), .val (.int (0 : Int32)), .val (.ref a128), .val (.int (1 : Int32)), .val (.long ((((1 : Int32) + qk).toInt64 <<< ((32 : Int32) &&& 0x3f).toInt64) ||| ((qw % (opow kN)).toInt32.toInt64 &&& (4294967295 : Int64)))), .second, .val (.int (qw % (opow kN)).toInt32), .val (.int (qw % (opow kN)).toInt32)]) rfl (pc' := 534) rfl ?_
            have hkp : 0 < kN := Nat.pos_of_ne_zero (mt (own_kz hk).mpr c471_338)
            refine gaload B X352 at_534 rfl rfl (pc' := 536) rfl ?_
            refine giload B X352 at_536 rfl (pc' := 538) rfl ?_
            have hru := own_run (sN := 1) hL0 (by decide) hk11 hww htn
            refine gcallS B X352 (hw _ (List.mem_of_getElem? (i := 22) rfl)) (hw _ (List.mem_of_getElem? (i := 23) rfl)) (hw _ (List.mem_of_getElem? (i := 24) rfl)) (hw _ (List.mem_of_getElem? (i := 25) rfl)) (by decide) (mt3C0 l Z a0 hw a128 (0 : Int32) (orec bs0 1 kN qw qt 12) h350 F355 0 (by decide) (by decide) ((own_len ..).trans hL0) 1 kN (1 : Int32) qk hru.2.2 (by decide) hk (((own_low hL0 (by decide) 0 (by decide)).trans ha0).trans c466_337) (by decide) (by decide) (own_no45 hru.2.2 hkp)) pd___BI_J rfl (argsL := [(.ref a128), (.int (0 : Int32))]) (st := []) rfl rfl (W := 0) (Nat.le_of_eq rfl) (by decide) (by decide) (by decide) (by decide) (fun x q => nomatch q) at_538 (pc' := 541) rfl (pureG rfl rfl fun T357 X358 => ?_)
            refine glload B X358 at_541 rfl (pc' := 543) rfl ?_
            refine glcmp B X358 at_543 (pc' := 544) rfl ?_
            have c544_359 : (ores (1 : Int32) qk (0 : Int32) kN (oacc (orec bs0 1 kN qw qt 12) 1 kN)) = ((((1 : Int32) + qk).toInt64 <<< ((32 : Int32) &&& 0x3f).toInt64) ||| ((qw % (opow kN)).toInt32.toInt64 &&& (4294967295 : Int64))) := by have k9 := mt (own_k9 hk).mpr c478_345; rw [ores, if_neg (by omega), own_val hww (by omega) hru.1, if_pos rfl]
            refine gifN B X358 at_544 ((if0 _ _).trans (teq (((lw_eq (ores (1 : Int32) qk (0 : Int32) kN (oacc (orec bs0 1 kN qw qt 12) 1 kN)) ((((1 : Int32) + qk).toInt64 <<< ((32 : Int32) &&& 0x3f).toInt64) ||| ((qw % (opow kN)).toInt32.toInt64 &&& (4294967295 : Int64))))).mpr c544_359)).2) (pc' := 547) rfl ?_
            refine giconst B X358 at_547 (v := (1 : Int32)) rfl (pc' := 548) rfl ?_
            refine ggoto B X358 (pc' := 552) at_548 (by decide) ?_
            exact gretN B X358 (z' := (1 : Int32)) (by simp) (rfl) at_552 (by decide) (by decide) (rfl)
      · refine gicY B X331 (pc' := 481) at_466 (feq c466_337).2 (by decide) ?_
        refine gldc2 B X331 (v := (-1 : Int64)) (hw _ (List.mem_of_getElem? (i := 21) rfl)) at_481 (pc' := 484) rfl ?_
        refine glstore B X331 at_484 (Ls' := #[.val (.int p0), .val (.long p1), .second, .val (.int p2), .val (.int p3), .val (.int qk), .val (.long qw), .second, .val (.int (0 : Int32)), .val (.int (ofs p0)), .val (.int qle), .val (.int qt), .val (.int (0 : Int32)), .val (.int (0 : Int32)), .val (.int (0 : Int32)), .val (.int (0 : Int32)), .val (.ref a128), .val (.int (1 : Int32)), .val (.long (-1 : Int64)), .second, .unset, .unset]) rfl (pc' := 486) rfl ?_
        refine ggoto B X331 (pc' := 534) at_486 (by decide) ?_
        refine gaload B X331 at_534 rfl rfl (pc' := 536) rfl ?_
        refine giload B X331 at_536 rfl (pc' := 538) rfl ?_
        refine gcallS B X331 (hw _ (List.mem_of_getElem? (i := 22) rfl)) (hw _ (List.mem_of_getElem? (i := 23) rfl)) (hw _ (List.mem_of_getElem? (i := 24) rfl)) (hw _ (List.mem_of_getElem? (i := 25) rfl)) (by decide) (mt3B l Z a0 hw a128 (0 : Int32) (orec bs0 1 kN qw qt 12) h329 A335 0 (by decide) (by decide) ((own_len ..).trans hL0) (fun q => c466_337 (((own_low hL0 (by decide) 0 (by decide)).trans ha0).symm.trans q))) pd___BI_J rfl (argsL := [(.ref a128), (.int (0 : Int32))]) (st := []) rfl rfl (W := 0) (Nat.le_of_eq rfl) (by decide) (by decide) (by decide) (by decide) (fun x q => nomatch q) at_538 (pc' := 541) rfl (pureG rfl rfl fun T360 X361 => ?_)
        refine glload B X361 at_541 rfl (pc' := 543) rfl ?_
        refine glcmp B X361 at_543 (pc' := 544) rfl ?_
        have c544_362 : (-1 : Int64) = (-1 : Int64) := rfl
        refine gifN B X361 at_544 ((if0 _ _).trans (teq (((lw_eq (-1 : Int64) (-1 : Int64))).mpr c544_362)).2) (pc' := 547) rfl ?_
        refine giconst B X361 at_547 (v := (1 : Int32)) rfl (pc' := 548) rfl ?_
        refine ggoto B X361 (pc' := 552) at_548 (by decide) ?_
        exact gretN B X361 (z' := (1 : Int32)) (by simp) (rfl) at_552 (by decide) (by decide) (rfl)
    · rw [e_b]
      refine gistore B X122 at_88 (Ls' := #[.val (.int p0), .val (.long p1), .second, .val (.int p2), .val (.int p3), .val (.int qk), .val (.long qw), .second, .val (.int (0 : Int32)), .val (.int (ofs p0)), .val (.int qle), .val (.int qt), .val (.int (1 : Int32)), .unset, .unset, .unset, .unset, .unset, .unset, .unset, .unset, .unset]) rfl (pc' := 90) rfl ?_
      refine giload B X122 at_90 rfl (pc' := 92) rfl ?_
      refine giconst B X122 at_92 (v := (3 : Int32)) rfl (pc' := 93) rfl ?_
      have c93_363 : ¬ ((1 : Int32) = (3 : Int32)) := (by decide)
      refine gicY B X122 (pc' := 100) at_93 (feq c93_363).2 (by decide) ?_
      refine giconst B X122 at_100 (v := (0 : Int32)) rfl (pc' := 101) rfl ?_
      refine gistore B X122 at_101 (Ls' := #[.val (.int p0), .val (.long p1), .second, .val (.int p2), .val (.int p3), .val (.int qk), .val (.long qw), .second, .val (.int (0 : Int32)), .val (.int (ofs p0)), .val (.int qle), .val (.int qt), .val (.int (1 : Int32)), .val (.int (0 : Int32)), .unset, .unset, .unset, .unset, .unset, .unset, .unset, .unset]) rfl (pc' := 103) rfl ?_
      refine giload B X122 at_103 rfl (pc' := 105) rfl ?_
      have c105_364 : (0 : Int32) = (0 : Int32) := (by decide)
      refine gifY B X122 (pc' := 112) at_105 ((if0 _ _).trans (teq c105_364).1) (by decide) ?_
      refine giload B X122 at_112 rfl (pc' := 114) rfl ?_
      refine gistore B X122 at_114 (Ls' := #[.val (.int p0), .val (.long p1), .second, .val (.int p2), .val (.int p3), .val (.int qk), .val (.long qw), .second, .val (.int (0 : Int32)), .val (.int (ofs p0)), .val (.int qle), .val (.int qt), .val (.int (1 : Int32)), .val (.int (0 : Int32)), .val (.int (1 : Int32)), .unset, .unset, .unset, .unset, .unset, .unset, .unset]) rfl (pc' := 116) rfl ?_
      refine giload B X122 at_116 rfl (pc' := 118) rfl ?_
      have c118_365 : (0 : Int32) = (0 : Int32) := (by decide)
      refine gifY B X122 (pc' := 128) at_118 ((if0 _ _).trans (teq c118_365).1) (by decide) ?_
      refine giload B X122 at_128 rfl (pc' := 130) rfl ?_
      refine gistore B X122 at_130 (Ls' := #[.val (.int p0), .val (.long p1), .second, .val (.int p2), .val (.int p3), .val (.int qk), .val (.long qw), .second, .val (.int (0 : Int32)), .val (.int (ofs p0)), .val (.int qle), .val (.int qt), .val (.int (1 : Int32)), .val (.int (0 : Int32)), .val (.int (1 : Int32)), .val (.int (1 : Int32)), .unset, .unset, .unset, .unset, .unset, .unset]) rfl (pc' := 132) rfl ?_
      refine gbipush B X122 at_132 (v := (18 : Int32)) rfl (pc' := 134) rfl ?_
      refine gnewarray B X122 (cap := 18) (vs := [(.int (0 : Int32)), (.int (0 : Int32)), (.int (0 : Int32)), (.int (0 : Int32)), (.int (0 : Int32)), (.int (0 : Int32)), (.int (0 : Int32)), (.int (0 : Int32)), (.int (0 : Int32)), (.int (0 : Int32)), (.int (0 : Int32)), (.int (0 : Int32)), (.int (0 : Int32)), (.int (0 : Int32)), (.int (0 : Int32)), (.int (0 : Int32)), (.int (0 : Int32)), (.int (0 : Int32))]) (ty := .byte) rfl rfl (hw _ (List.mem_of_getElem? (i := 2) rfl)) (by decide) (by decide) (by decide) (by decide) (by decide) at_134 (pc' := 136) rfl fun T366 h367 a368 X369 q370 E371 z_a368 A372 => ?_
      refine gdup B X369 at_136 rfl (pc' := 137) rfl ?_
      refine giconst B X369 at_137 (v := (0 : Int32)) rfl (pc' := 138) rfl ?_
      refine gbipush B X369 at_138 (v := (10 : Int32)) rfl (pc' := 140) rfl ?_
      refine gbastore B X369 (i := 0) (n := 18) A372 rfl (by decide) rfl (vs' := [(.int (10 : Int32)), (.int (0 : Int32)), (.int (0 : Int32)), (.int (0 : Int32)), (.int (0 : Int32)), (.int (0 : Int32)), (.int (0 : Int32)), (.int (0 : Int32)), (.int (0 : Int32)), (.int (0 : Int32)), (.int (0 : Int32)), (.int (0 : Int32)), (.int (0 : Int32)), (.int (0 : Int32)), (.int (0 : Int32)), (.int (0 : Int32)), (.int (0 : Int32)), (.int (0 : Int32))]) rfl (Or.inr z_a368) at_140 (pc' := 141) rfl fun T373 h374 X375 W376 A377 => ?_
      refine gdup B X375 at_141 rfl (pc' := 142) rfl ?_
      refine giconst B X375 at_142 (v := (1 : Int32)) rfl (pc' := 143) rfl ?_
      refine gbipush B X375 at_143 (v := (10 : Int32)) rfl (pc' := 145) rfl ?_
      refine gbastore B X375 (i := 1) (n := 18) A377 rfl (by decide) rfl (vs' := [(.int (10 : Int32)), (.int (10 : Int32)), (.int (0 : Int32)), (.int (0 : Int32)), (.int (0 : Int32)), (.int (0 : Int32)), (.int (0 : Int32)), (.int (0 : Int32)), (.int (0 : Int32)), (.int (0 : Int32)), (.int (0 : Int32)), (.int (0 : Int32)), (.int (0 : Int32)), (.int (0 : Int32)), (.int (0 : Int32)), (.int (0 : Int32)), (.int (0 : Int32)), (.int (0 : Int32))]) rfl (Or.inr z_a368) at_145 (pc' := 146) rfl fun T378 h379 X380 W381 A382 => ?_
      refine gdup B X380 at_146 rfl (pc' := 147) rfl ?_
      refine giconst B X380 at_147 (v := (2 : Int32)) rfl (pc' := 148) rfl ?_
      refine gbipush B X380 at_148 (v := (10 : Int32)) rfl (pc' := 150) rfl ?_
      refine gbastore B X380 (i := 2) (n := 18) A382 rfl (by decide) rfl (vs' := [(.int (10 : Int32)), (.int (10 : Int32)), (.int (10 : Int32)), (.int (0 : Int32)), (.int (0 : Int32)), (.int (0 : Int32)), (.int (0 : Int32)), (.int (0 : Int32)), (.int (0 : Int32)), (.int (0 : Int32)), (.int (0 : Int32)), (.int (0 : Int32)), (.int (0 : Int32)), (.int (0 : Int32)), (.int (0 : Int32)), (.int (0 : Int32)), (.int (0 : Int32)), (.int (0 : Int32))]) rfl (Or.inr z_a368) at_150 (pc' := 151) rfl fun T383 h384 X385 W386 A387 => ?_
      refine gdup B X385 at_151 rfl (pc' := 152) rfl ?_
      refine giconst B X385 at_152 (v := (3 : Int32)) rfl (pc' := 153) rfl ?_
      refine gbipush B X385 at_153 (v := (10 : Int32)) rfl (pc' := 155) rfl ?_
      refine gbastore B X385 (i := 3) (n := 18) A387 rfl (by decide) rfl (vs' := [(.int (10 : Int32)), (.int (10 : Int32)), (.int (10 : Int32)), (.int (10 : Int32)), (.int (0 : Int32)), (.int (0 : Int32)), (.int (0 : Int32)), (.int (0 : Int32)), (.int (0 : Int32)), (.int (0 : Int32)), (.int (0 : Int32)), (.int (0 : Int32)), (.int (0 : Int32)), (.int (0 : Int32)), (.int (0 : Int32)), (.int (0 : Int32)), (.int (0 : Int32)), (.int (0 : Int32))]) rfl (Or.inr z_a368) at_155 (pc' := 156) rfl fun T388 h389 X390 W391 A392 => ?_
      refine gdup B X390 at_156 rfl (pc' := 157) rfl ?_
      refine giconst B X390 at_157 (v := (4 : Int32)) rfl (pc' := 158) rfl ?_
      refine gbipush B X390 at_158 (v := (10 : Int32)) rfl (pc' := 160) rfl ?_
      refine gbastore B X390 (i := 4) (n := 18) A392 rfl (by decide) rfl (vs' := [(.int (10 : Int32)), (.int (10 : Int32)), (.int (10 : Int32)), (.int (10 : Int32)), (.int (10 : Int32)), (.int (0 : Int32)), (.int (0 : Int32)), (.int (0 : Int32)), (.int (0 : Int32)), (.int (0 : Int32)), (.int (0 : Int32)), (.int (0 : Int32)), (.int (0 : Int32)), (.int (0 : Int32)), (.int (0 : Int32)), (.int (0 : Int32)), (.int (0 : Int32)), (.int (0 : Int32))]) rfl (Or.inr z_a368) at_160 (pc' := 161) rfl fun T393 h394 X395 W396 A397 => ?_
      refine gdup B X395 at_161 rfl (pc' := 162) rfl ?_
      refine giconst B X395 at_162 (v := (5 : Int32)) rfl (pc' := 163) rfl ?_
      refine gbipush B X395 at_163 (v := (10 : Int32)) rfl (pc' := 165) rfl ?_
      refine gbastore B X395 (i := 5) (n := 18) A397 rfl (by decide) rfl (vs' := [(.int (10 : Int32)), (.int (10 : Int32)), (.int (10 : Int32)), (.int (10 : Int32)), (.int (10 : Int32)), (.int (10 : Int32)), (.int (0 : Int32)), (.int (0 : Int32)), (.int (0 : Int32)), (.int (0 : Int32)), (.int (0 : Int32)), (.int (0 : Int32)), (.int (0 : Int32)), (.int (0 : Int32)), (.int (0 : Int32)), (.int (0 : Int32)), (.int (0 : Int32)), (.int (0 : Int32))]) rfl (Or.inr z_a368) at_165 (pc' := 166) rfl fun T398 h399 X400 W401 A402 => ?_
      refine gdup B X400 at_166 rfl (pc' := 167) rfl ?_
      refine gbipush B X400 at_167 (v := (6 : Int32)) rfl (pc' := 169) rfl ?_
      refine gbipush B X400 at_169 (v := (10 : Int32)) rfl (pc' := 171) rfl ?_
      refine gbastore B X400 (i := 6) (n := 18) A402 rfl (by decide) rfl (vs' := [(.int (10 : Int32)), (.int (10 : Int32)), (.int (10 : Int32)), (.int (10 : Int32)), (.int (10 : Int32)), (.int (10 : Int32)), (.int (10 : Int32)), (.int (0 : Int32)), (.int (0 : Int32)), (.int (0 : Int32)), (.int (0 : Int32)), (.int (0 : Int32)), (.int (0 : Int32)), (.int (0 : Int32)), (.int (0 : Int32)), (.int (0 : Int32)), (.int (0 : Int32)), (.int (0 : Int32))]) rfl (Or.inr z_a368) at_171 (pc' := 172) rfl fun T403 h404 X405 W406 A407 => ?_
      refine gdup B X405 at_172 rfl (pc' := 173) rfl ?_
      refine gbipush B X405 at_173 (v := (7 : Int32)) rfl (pc' := 175) rfl ?_
      refine gbipush B X405 at_175 (v := (10 : Int32)) rfl (pc' := 177) rfl ?_
      refine gbastore B X405 (i := 7) (n := 18) A407 rfl (by decide) rfl (vs' := [(.int (10 : Int32)), (.int (10 : Int32)), (.int (10 : Int32)), (.int (10 : Int32)), (.int (10 : Int32)), (.int (10 : Int32)), (.int (10 : Int32)), (.int (10 : Int32)), (.int (0 : Int32)), (.int (0 : Int32)), (.int (0 : Int32)), (.int (0 : Int32)), (.int (0 : Int32)), (.int (0 : Int32)), (.int (0 : Int32)), (.int (0 : Int32)), (.int (0 : Int32)), (.int (0 : Int32))]) rfl (Or.inr z_a368) at_177 (pc' := 178) rfl fun T408 h409 X410 W411 A412 => ?_
      refine gdup B X410 at_178 rfl (pc' := 179) rfl ?_
      refine gbipush B X410 at_179 (v := (8 : Int32)) rfl (pc' := 181) rfl ?_
      refine gbipush B X410 at_181 (v := (10 : Int32)) rfl (pc' := 183) rfl ?_
      refine gbastore B X410 (i := 8) (n := 18) A412 rfl (by decide) rfl (vs' := [(.int (10 : Int32)), (.int (10 : Int32)), (.int (10 : Int32)), (.int (10 : Int32)), (.int (10 : Int32)), (.int (10 : Int32)), (.int (10 : Int32)), (.int (10 : Int32)), (.int (10 : Int32)), (.int (0 : Int32)), (.int (0 : Int32)), (.int (0 : Int32)), (.int (0 : Int32)), (.int (0 : Int32)), (.int (0 : Int32)), (.int (0 : Int32)), (.int (0 : Int32)), (.int (0 : Int32))]) rfl (Or.inr z_a368) at_183 (pc' := 184) rfl fun T413 h414 X415 W416 A417 => ?_
      refine gdup B X415 at_184 rfl (pc' := 185) rfl ?_
      refine gbipush B X415 at_185 (v := (9 : Int32)) rfl (pc' := 187) rfl ?_
      refine gbipush B X415 at_187 (v := (10 : Int32)) rfl (pc' := 189) rfl ?_
      refine gbastore B X415 (i := 9) (n := 18) A417 rfl (by decide) rfl (vs' := [(.int (10 : Int32)), (.int (10 : Int32)), (.int (10 : Int32)), (.int (10 : Int32)), (.int (10 : Int32)), (.int (10 : Int32)), (.int (10 : Int32)), (.int (10 : Int32)), (.int (10 : Int32)), (.int (10 : Int32)), (.int (0 : Int32)), (.int (0 : Int32)), (.int (0 : Int32)), (.int (0 : Int32)), (.int (0 : Int32)), (.int (0 : Int32)), (.int (0 : Int32)), (.int (0 : Int32))]) rfl (Or.inr z_a368) at_189 (pc' := 190) rfl fun T418 h419 X420 W421 A422 => ?_
      refine gdup B X420 at_190 rfl (pc' := 191) rfl ?_
      refine gbipush B X420 at_191 (v := (10 : Int32)) rfl (pc' := 193) rfl ?_
      refine gbipush B X420 at_193 (v := (10 : Int32)) rfl (pc' := 195) rfl ?_
      refine gbastore B X420 (i := 10) (n := 18) A422 rfl (by decide) rfl (vs' := [(.int (10 : Int32)), (.int (10 : Int32)), (.int (10 : Int32)), (.int (10 : Int32)), (.int (10 : Int32)), (.int (10 : Int32)), (.int (10 : Int32)), (.int (10 : Int32)), (.int (10 : Int32)), (.int (10 : Int32)), (.int (10 : Int32)), (.int (0 : Int32)), (.int (0 : Int32)), (.int (0 : Int32)), (.int (0 : Int32)), (.int (0 : Int32)), (.int (0 : Int32)), (.int (0 : Int32))]) rfl (Or.inr z_a368) at_195 (pc' := 196) rfl fun T423 h424 X425 W426 A427 => ?_
      refine gdup B X425 at_196 rfl (pc' := 197) rfl ?_
      refine gbipush B X425 at_197 (v := (11 : Int32)) rfl (pc' := 199) rfl ?_
      refine gbipush B X425 at_199 (v := (10 : Int32)) rfl (pc' := 201) rfl ?_
      refine gbastore B X425 (i := 11) (n := 18) A427 rfl (by decide) rfl (vs' := [(.int (10 : Int32)), (.int (10 : Int32)), (.int (10 : Int32)), (.int (10 : Int32)), (.int (10 : Int32)), (.int (10 : Int32)), (.int (10 : Int32)), (.int (10 : Int32)), (.int (10 : Int32)), (.int (10 : Int32)), (.int (10 : Int32)), (.int (10 : Int32)), (.int (0 : Int32)), (.int (0 : Int32)), (.int (0 : Int32)), (.int (0 : Int32)), (.int (0 : Int32)), (.int (0 : Int32))]) rfl (Or.inr z_a368) at_201 (pc' := 202) rfl fun T428 h429 X430 W431 A432 => ?_
      refine gdup B X430 at_202 rfl (pc' := 203) rfl ?_
      refine gbipush B X430 at_203 (v := (12 : Int32)) rfl (pc' := 205) rfl ?_
      refine gbipush B X430 at_205 (v := (10 : Int32)) rfl (pc' := 207) rfl ?_
      refine gbastore B X430 (i := 12) (n := 18) A432 rfl (by decide) rfl (vs' := [(.int (10 : Int32)), (.int (10 : Int32)), (.int (10 : Int32)), (.int (10 : Int32)), (.int (10 : Int32)), (.int (10 : Int32)), (.int (10 : Int32)), (.int (10 : Int32)), (.int (10 : Int32)), (.int (10 : Int32)), (.int (10 : Int32)), (.int (10 : Int32)), (.int (10 : Int32)), (.int (0 : Int32)), (.int (0 : Int32)), (.int (0 : Int32)), (.int (0 : Int32)), (.int (0 : Int32))]) rfl (Or.inr z_a368) at_207 (pc' := 208) rfl fun T433 h434 X435 W436 A437 => ?_
      refine gdup B X435 at_208 rfl (pc' := 209) rfl ?_
      refine gbipush B X435 at_209 (v := (13 : Int32)) rfl (pc' := 211) rfl ?_
      refine gbipush B X435 at_211 (v := (10 : Int32)) rfl (pc' := 213) rfl ?_
      refine gbastore B X435 (i := 13) (n := 18) A437 rfl (by decide) rfl (vs' := [(.int (10 : Int32)), (.int (10 : Int32)), (.int (10 : Int32)), (.int (10 : Int32)), (.int (10 : Int32)), (.int (10 : Int32)), (.int (10 : Int32)), (.int (10 : Int32)), (.int (10 : Int32)), (.int (10 : Int32)), (.int (10 : Int32)), (.int (10 : Int32)), (.int (10 : Int32)), (.int (10 : Int32)), (.int (0 : Int32)), (.int (0 : Int32)), (.int (0 : Int32)), (.int (0 : Int32))]) rfl (Or.inr z_a368) at_213 (pc' := 214) rfl fun T438 h439 X440 W441 A442 => ?_
      refine gdup B X440 at_214 rfl (pc' := 215) rfl ?_
      refine gbipush B X440 at_215 (v := (14 : Int32)) rfl (pc' := 217) rfl ?_
      refine gbipush B X440 at_217 (v := (10 : Int32)) rfl (pc' := 219) rfl ?_
      refine gbastore B X440 (i := 14) (n := 18) A442 rfl (by decide) rfl (vs' := [(.int (10 : Int32)), (.int (10 : Int32)), (.int (10 : Int32)), (.int (10 : Int32)), (.int (10 : Int32)), (.int (10 : Int32)), (.int (10 : Int32)), (.int (10 : Int32)), (.int (10 : Int32)), (.int (10 : Int32)), (.int (10 : Int32)), (.int (10 : Int32)), (.int (10 : Int32)), (.int (10 : Int32)), (.int (10 : Int32)), (.int (0 : Int32)), (.int (0 : Int32)), (.int (0 : Int32))]) rfl (Or.inr z_a368) at_219 (pc' := 220) rfl fun T443 h444 X445 W446 A447 => ?_
      refine gdup B X445 at_220 rfl (pc' := 221) rfl ?_
      refine gbipush B X445 at_221 (v := (15 : Int32)) rfl (pc' := 223) rfl ?_
      refine gbipush B X445 at_223 (v := (10 : Int32)) rfl (pc' := 225) rfl ?_
      refine gbastore B X445 (i := 15) (n := 18) A447 rfl (by decide) rfl (vs' := [(.int (10 : Int32)), (.int (10 : Int32)), (.int (10 : Int32)), (.int (10 : Int32)), (.int (10 : Int32)), (.int (10 : Int32)), (.int (10 : Int32)), (.int (10 : Int32)), (.int (10 : Int32)), (.int (10 : Int32)), (.int (10 : Int32)), (.int (10 : Int32)), (.int (10 : Int32)), (.int (10 : Int32)), (.int (10 : Int32)), (.int (10 : Int32)), (.int (0 : Int32)), (.int (0 : Int32))]) rfl (Or.inr z_a368) at_225 (pc' := 226) rfl fun T448 h449 X450 W451 A452 => ?_
      refine gdup B X450 at_226 rfl (pc' := 227) rfl ?_
      refine gbipush B X450 at_227 (v := (16 : Int32)) rfl (pc' := 229) rfl ?_
      refine gbipush B X450 at_229 (v := (10 : Int32)) rfl (pc' := 231) rfl ?_
      refine gbastore B X450 (i := 16) (n := 18) A452 rfl (by decide) rfl (vs' := [(.int (10 : Int32)), (.int (10 : Int32)), (.int (10 : Int32)), (.int (10 : Int32)), (.int (10 : Int32)), (.int (10 : Int32)), (.int (10 : Int32)), (.int (10 : Int32)), (.int (10 : Int32)), (.int (10 : Int32)), (.int (10 : Int32)), (.int (10 : Int32)), (.int (10 : Int32)), (.int (10 : Int32)), (.int (10 : Int32)), (.int (10 : Int32)), (.int (10 : Int32)), (.int (0 : Int32))]) rfl (Or.inr z_a368) at_231 (pc' := 232) rfl fun T453 h454 X455 W456 A457 => ?_
      refine gdup B X455 at_232 rfl (pc' := 233) rfl ?_
      refine gbipush B X455 at_233 (v := (17 : Int32)) rfl (pc' := 235) rfl ?_
      refine gbipush B X455 at_235 (v := (10 : Int32)) rfl (pc' := 237) rfl ?_
      refine gbastore B X455 (i := 17) (n := 18) A457 rfl (by decide) rfl (vs' := [(.int (10 : Int32)), (.int (10 : Int32)), (.int (10 : Int32)), (.int (10 : Int32)), (.int (10 : Int32)), (.int (10 : Int32)), (.int (10 : Int32)), (.int (10 : Int32)), (.int (10 : Int32)), (.int (10 : Int32)), (.int (10 : Int32)), (.int (10 : Int32)), (.int (10 : Int32)), (.int (10 : Int32)), (.int (10 : Int32)), (.int (10 : Int32)), (.int (10 : Int32)), (.int (10 : Int32))]) rfl (Or.inr z_a368) at_237 (pc' := 238) rfl fun T458 h459 X460 W461 A462 => ?_
      refine gastore B X460 at_238 rfl (Ls' := #[.val (.int p0), .val (.long p1), .second, .val (.int p2), .val (.int p3), .val (.int qk), .val (.long qw), .second, .val (.int (0 : Int32)), .val (.int (ofs p0)), .val (.int qle), .val (.int qt), .val (.int (1 : Int32)), .val (.int (0 : Int32)), .val (.int (1 : Int32)), .val (.int (1 : Int32)), .val (.ref a368), .unset, .unset, .unset, .unset, .unset]) rfl (pc' := 240) rfl ?_
      refine gaload B X460 at_240 rfl rfl (pc' := 242) rfl ?_
      refine giconst B X460 at_242 (v := (0 : Int32)) rfl (pc' := 243) rfl ?_
      refine gbipush B X460 at_243 (v := (57 : Int32)) rfl (pc' := 245) rfl ?_
      refine gbastore B X460 (i := 0) (n := 18) A462 rfl (by decide) rfl (vs' := [(.int (57 : Int32)), (.int (10 : Int32)), (.int (10 : Int32)), (.int (10 : Int32)), (.int (10 : Int32)), (.int (10 : Int32)), (.int (10 : Int32)), (.int (10 : Int32)), (.int (10 : Int32)), (.int (10 : Int32)), (.int (10 : Int32)), (.int (10 : Int32)), (.int (10 : Int32)), (.int (10 : Int32)), (.int (10 : Int32)), (.int (10 : Int32)), (.int (10 : Int32)), (.int (10 : Int32))]) rfl (Or.inr z_a368) at_245 (pc' := 246) rfl fun T463 h464 X465 W466 A467 => ?_
      refine gaload B X465 at_246 rfl rfl (pc' := 248) rfl ?_
      refine giconst B X465 at_248 (v := (1 : Int32)) rfl (pc' := 249) rfl ?_
      refine gbipush B X465 at_249 (v := (57 : Int32)) rfl (pc' := 251) rfl ?_
      refine gbastore B X465 (i := 1) (n := 18) A467 rfl (by decide) rfl (vs' := [(.int (57 : Int32)), (.int (57 : Int32)), (.int (10 : Int32)), (.int (10 : Int32)), (.int (10 : Int32)), (.int (10 : Int32)), (.int (10 : Int32)), (.int (10 : Int32)), (.int (10 : Int32)), (.int (10 : Int32)), (.int (10 : Int32)), (.int (10 : Int32)), (.int (10 : Int32)), (.int (10 : Int32)), (.int (10 : Int32)), (.int (10 : Int32)), (.int (10 : Int32)), (.int (10 : Int32))]) rfl (Or.inr z_a368) at_251 (pc' := 252) rfl fun T468 h469 X470 W471 A472 => ?_
      refine gaload B X470 at_252 rfl rfl (pc' := 254) rfl ?_
      refine giload B X470 at_254 rfl (pc' := 256) rfl ?_
      refine giload B X470 at_256 rfl (pc' := 258) rfl ?_
      refine gbastore B X470 (i := 1) A472 (n := 18) rfl (by decide) rfl (vs' := (([57, qle, 10, 10, 10, 10, 10, 10, 10, 10, 10, 10, 10, 10, 10, 10, 10, 10] : List Int32).map Value.int)) (by rw [hle]; rfl) (Or.inr z_a368) at_258 (pc' := 259) rfl fun T473 h474 X475 W476 A477 => ?_
      refine giload B X475 at_259 rfl (pc' := 261) rfl ?_
      refine giconst B X475 at_261 (v := (1 : Int32)) rfl (pc' := 262) rfl ?_
      refine giadd B X475 at_262 (v := (2 : Int32)) (by decide) (pc' := 263) rfl ?_
      refine gistore B X475 at_263 (Ls' := #[.val (.int p0), .val (.long p1), .second, .val (.int p2), .val (.int p3), .val (.int qk), .val (.long qw), .second, .val (.int (0 : Int32)), .val (.int (ofs p0)), .val (.int qle), .val (.int qt), .val (.int (1 : Int32)), .val (.int (0 : Int32)), .val (.int (1 : Int32)), .val (.int (1 : Int32)), .val (.ref a368), .val (.int (2 : Int32)), .unset, .unset, .unset, .unset]) rfl (pc' := 265) rfl ?_
      refine giload B X475 at_265 rfl (pc' := 267) rfl ?_
      have c267_478 : (0 : Int32) = (0 : Int32) := (by decide)
      refine gifY B X475 (pc' := 283) at_267 ((if0 _ _).trans (teq c267_478).1) (by decide) ?_
      have hL0 : ([57, qle, 10, 10, 10, 10, 10, 10, 10, 10, 10, 10, 10, 10, 10, 10, 10, 10] : List Int32).length = 18 := rfl
      have ha0 : ([57, qle, 10, 10, 10, 10, 10, 10, 10, 10, 10, 10, 10, 10, 10, 10, 10, 10] : List Int32).getD 1 0 = qle := rfl
      have hb0 : ([57, qle, 10, 10, 10, 10, 10, 10, 10, 10, 10, 10, 10, 10, 10, 10, 10, 10] : List Int32).getD 3 0 = 10 := rfl
      generalize ([57, qle, 10, 10, 10, 10, 10, 10, 10, 10, 10, 10, 10, 10, 10, 10, 10, 10] : List Int32) = bs0 at hL0 ha0 hb0 A477
      have A479 : VA Z h474 a368 .byte ((orec bs0 2 kN qw qt 0).map Value.int) := A477
      refine gaload B X475 at_283 rfl rfl (pc' := 285) rfl ?_
      refine giload B X475 at_285 rfl (pc' := 287) rfl ?_
      refine giconst B X475 at_287 (v := (0 : Int32)) rfl (pc' := 288) rfl ?_
      refine giload B X475 at_288 rfl (pc' := 290) rfl ?_
      refine glload B X475 at_290 rfl (pc' := 292) rfl ?_
      refine giload B X475 at_292 rfl (pc' := 294) rfl ?_
      refine gcallS B X475 (hw _ (List.mem_of_getElem? (i := 3) rfl)) (hw _ (List.mem_of_getElem? (i := 4) rfl)) (hw _ (List.mem_of_getElem? (i := 5) rfl)) (hw _ (List.mem_of_getElem? (i := 6) rfl)) (by decide) (mt1 l Z a0 hw a368 (2 : Int32) (0 : Int32) qk qw qt (orec bs0 2 kN qw qt 0) 2 0 kN h474 A479 ((own_len ..).trans hL0) (by decide) (by decide) (by decide) (by decide) hk hk11 ht8) pd___BIIIJB_V rfl (argsL := [(.ref a368), (.int (2 : Int32)), (.int (0 : Int32)), (.int qk), (.long qw), (.int qt)]) (st := []) rfl rfl (W := 0) (Nat.le_of_eq rfl) (by decide) (by decide) (by decide) (by decide) (allS (Or.inr z_a368) all0) at_294 (pc' := 297) rfl fun T480 h481 v482 X483 K484 Q485 => ?_
      obtain ⟨rfl, A486⟩ := Q485
      have A487 : VA Z h481 a368 .byte ((orec bs0 2 kN qw qt 1).map Value.int) := A486
      show Go p e below _ _ _ _ T480 (mkF m 297 #[.val (.int p0), .val (.long p1), .second, .val (.int p2), .val (.int p3), .val (.int qk), .val (.long qw), .second, .val (.int (0 : Int32)), .val (.int (ofs p0)), .val (.int qle), .val (.int qt), .val (.int (1 : Int32)), .val (.int (0 : Int32)), .val (.int (1 : Int32)), .val (.int (1 : Int32)), .val (.ref a368), .val (.int (2 : Int32)), .unset, .unset, .unset, .unset] [])
      refine gaload B X483 at_297 rfl rfl (pc' := 299) rfl ?_
      refine giload B X483 at_299 rfl (pc' := 301) rfl ?_
      refine giconst B X483 at_301 (v := (1 : Int32)) rfl (pc' := 302) rfl ?_
      refine giload B X483 at_302 rfl (pc' := 304) rfl ?_
      refine glload B X483 at_304 rfl (pc' := 306) rfl ?_
      refine giload B X483 at_306 rfl (pc' := 308) rfl ?_
      refine gcallS B X483 (hw _ (List.mem_of_getElem? (i := 3) rfl)) (hw _ (List.mem_of_getElem? (i := 4) rfl)) (hw _ (List.mem_of_getElem? (i := 5) rfl)) (hw _ (List.mem_of_getElem? (i := 6) rfl)) (by decide) (mt1 l Z a0 hw a368 (2 : Int32) (1 : Int32) qk qw qt (orec bs0 2 kN qw qt 1) 2 1 kN h481 A487 ((own_len ..).trans hL0) (by decide) (by decide) (by decide) (by decide) hk hk11 ht8) pd___BIIIJB_V rfl (argsL := [(.ref a368), (.int (2 : Int32)), (.int (1 : Int32)), (.int qk), (.long qw), (.int qt)]) (st := []) rfl rfl (W := 0) (Nat.le_of_eq rfl) (by decide) (by decide) (by decide) (by decide) (allS (Or.inr z_a368) all0) at_308 (pc' := 311) rfl fun T488 h489 v490 X491 K492 Q493 => ?_
      obtain ⟨rfl, A494⟩ := Q493
      have A495 : VA Z h489 a368 .byte ((orec bs0 2 kN qw qt 2).map Value.int) := A494
      show Go p e below _ _ _ _ T488 (mkF m 311 #[.val (.int p0), .val (.long p1), .second, .val (.int p2), .val (.int p3), .val (.int qk), .val (.long qw), .second, .val (.int (0 : Int32)), .val (.int (ofs p0)), .val (.int qle), .val (.int qt), .val (.int (1 : Int32)), .val (.int (0 : Int32)), .val (.int (1 : Int32)), .val (.int (1 : Int32)), .val (.ref a368), .val (.int (2 : Int32)), .unset, .unset, .unset, .unset] [])
      refine gaload B X491 at_311 rfl rfl (pc' := 313) rfl ?_
      refine giload B X491 at_313 rfl (pc' := 315) rfl ?_
      refine giconst B X491 at_315 (v := (2 : Int32)) rfl (pc' := 316) rfl ?_
      refine giload B X491 at_316 rfl (pc' := 318) rfl ?_
      refine glload B X491 at_318 rfl (pc' := 320) rfl ?_
      refine giload B X491 at_320 rfl (pc' := 322) rfl ?_
      refine gcallS B X491 (hw _ (List.mem_of_getElem? (i := 3) rfl)) (hw _ (List.mem_of_getElem? (i := 4) rfl)) (hw _ (List.mem_of_getElem? (i := 5) rfl)) (hw _ (List.mem_of_getElem? (i := 6) rfl)) (by decide) (mt1 l Z a0 hw a368 (2 : Int32) (2 : Int32) qk qw qt (orec bs0 2 kN qw qt 2) 2 2 kN h489 A495 ((own_len ..).trans hL0) (by decide) (by decide) (by decide) (by decide) hk hk11 ht8) pd___BIIIJB_V rfl (argsL := [(.ref a368), (.int (2 : Int32)), (.int (2 : Int32)), (.int qk), (.long qw), (.int qt)]) (st := []) rfl rfl (W := 0) (Nat.le_of_eq rfl) (by decide) (by decide) (by decide) (by decide) (allS (Or.inr z_a368) all0) at_322 (pc' := 325) rfl fun T496 h497 v498 X499 K500 Q501 => ?_
      obtain ⟨rfl, A502⟩ := Q501
      have A503 : VA Z h497 a368 .byte ((orec bs0 2 kN qw qt 3).map Value.int) := A502
      show Go p e below _ _ _ _ T496 (mkF m 325 #[.val (.int p0), .val (.long p1), .second, .val (.int p2), .val (.int p3), .val (.int qk), .val (.long qw), .second, .val (.int (0 : Int32)), .val (.int (ofs p0)), .val (.int qle), .val (.int qt), .val (.int (1 : Int32)), .val (.int (0 : Int32)), .val (.int (1 : Int32)), .val (.int (1 : Int32)), .val (.ref a368), .val (.int (2 : Int32)), .unset, .unset, .unset, .unset] [])
      refine gaload B X499 at_325 rfl rfl (pc' := 327) rfl ?_
      refine giload B X499 at_327 rfl (pc' := 329) rfl ?_
      refine giconst B X499 at_329 (v := (3 : Int32)) rfl (pc' := 330) rfl ?_
      refine giload B X499 at_330 rfl (pc' := 332) rfl ?_
      refine glload B X499 at_332 rfl (pc' := 334) rfl ?_
      refine giload B X499 at_334 rfl (pc' := 336) rfl ?_
      refine gcallS B X499 (hw _ (List.mem_of_getElem? (i := 3) rfl)) (hw _ (List.mem_of_getElem? (i := 4) rfl)) (hw _ (List.mem_of_getElem? (i := 5) rfl)) (hw _ (List.mem_of_getElem? (i := 6) rfl)) (by decide) (mt1 l Z a0 hw a368 (2 : Int32) (3 : Int32) qk qw qt (orec bs0 2 kN qw qt 3) 2 3 kN h497 A503 ((own_len ..).trans hL0) (by decide) (by decide) (by decide) (by decide) hk hk11 ht8) pd___BIIIJB_V rfl (argsL := [(.ref a368), (.int (2 : Int32)), (.int (3 : Int32)), (.int qk), (.long qw), (.int qt)]) (st := []) rfl rfl (W := 0) (Nat.le_of_eq rfl) (by decide) (by decide) (by decide) (by decide) (allS (Or.inr z_a368) all0) at_336 (pc' := 339) rfl fun T504 h505 v506 X507 K508 Q509 => ?_
      obtain ⟨rfl, A510⟩ := Q509
      have A511 : VA Z h505 a368 .byte ((orec bs0 2 kN qw qt 4).map Value.int) := A510
      show Go p e below _ _ _ _ T504 (mkF m 339 #[.val (.int p0), .val (.long p1), .second, .val (.int p2), .val (.int p3), .val (.int qk), .val (.long qw), .second, .val (.int (0 : Int32)), .val (.int (ofs p0)), .val (.int qle), .val (.int qt), .val (.int (1 : Int32)), .val (.int (0 : Int32)), .val (.int (1 : Int32)), .val (.int (1 : Int32)), .val (.ref a368), .val (.int (2 : Int32)), .unset, .unset, .unset, .unset] [])
      refine gaload B X507 at_339 rfl rfl (pc' := 341) rfl ?_
      refine giload B X507 at_341 rfl (pc' := 343) rfl ?_
      refine giconst B X507 at_343 (v := (4 : Int32)) rfl (pc' := 344) rfl ?_
      refine giload B X507 at_344 rfl (pc' := 346) rfl ?_
      refine glload B X507 at_346 rfl (pc' := 348) rfl ?_
      refine giload B X507 at_348 rfl (pc' := 350) rfl ?_
      refine gcallS B X507 (hw _ (List.mem_of_getElem? (i := 3) rfl)) (hw _ (List.mem_of_getElem? (i := 4) rfl)) (hw _ (List.mem_of_getElem? (i := 5) rfl)) (hw _ (List.mem_of_getElem? (i := 6) rfl)) (by decide) (mt1 l Z a0 hw a368 (2 : Int32) (4 : Int32) qk qw qt (orec bs0 2 kN qw qt 4) 2 4 kN h505 A511 ((own_len ..).trans hL0) (by decide) (by decide) (by decide) (by decide) hk hk11 ht8) pd___BIIIJB_V rfl (argsL := [(.ref a368), (.int (2 : Int32)), (.int (4 : Int32)), (.int qk), (.long qw), (.int qt)]) (st := []) rfl rfl (W := 0) (Nat.le_of_eq rfl) (by decide) (by decide) (by decide) (by decide) (allS (Or.inr z_a368) all0) at_350 (pc' := 353) rfl fun T512 h513 v514 X515 K516 Q517 => ?_
      obtain ⟨rfl, A518⟩ := Q517
      have A519 : VA Z h513 a368 .byte ((orec bs0 2 kN qw qt 5).map Value.int) := A518
      show Go p e below _ _ _ _ T512 (mkF m 353 #[.val (.int p0), .val (.long p1), .second, .val (.int p2), .val (.int p3), .val (.int qk), .val (.long qw), .second, .val (.int (0 : Int32)), .val (.int (ofs p0)), .val (.int qle), .val (.int qt), .val (.int (1 : Int32)), .val (.int (0 : Int32)), .val (.int (1 : Int32)), .val (.int (1 : Int32)), .val (.ref a368), .val (.int (2 : Int32)), .unset, .unset, .unset, .unset] [])
      refine gaload B X515 at_353 rfl rfl (pc' := 355) rfl ?_
      refine giload B X515 at_355 rfl (pc' := 357) rfl ?_
      refine giconst B X515 at_357 (v := (5 : Int32)) rfl (pc' := 358) rfl ?_
      refine giload B X515 at_358 rfl (pc' := 360) rfl ?_
      refine glload B X515 at_360 rfl (pc' := 362) rfl ?_
      refine giload B X515 at_362 rfl (pc' := 364) rfl ?_
      refine gcallS B X515 (hw _ (List.mem_of_getElem? (i := 3) rfl)) (hw _ (List.mem_of_getElem? (i := 4) rfl)) (hw _ (List.mem_of_getElem? (i := 5) rfl)) (hw _ (List.mem_of_getElem? (i := 6) rfl)) (by decide) (mt1 l Z a0 hw a368 (2 : Int32) (5 : Int32) qk qw qt (orec bs0 2 kN qw qt 5) 2 5 kN h513 A519 ((own_len ..).trans hL0) (by decide) (by decide) (by decide) (by decide) hk hk11 ht8) pd___BIIIJB_V rfl (argsL := [(.ref a368), (.int (2 : Int32)), (.int (5 : Int32)), (.int qk), (.long qw), (.int qt)]) (st := []) rfl rfl (W := 0) (Nat.le_of_eq rfl) (by decide) (by decide) (by decide) (by decide) (allS (Or.inr z_a368) all0) at_364 (pc' := 367) rfl fun T520 h521 v522 X523 K524 Q525 => ?_
      obtain ⟨rfl, A526⟩ := Q525
      have A527 : VA Z h521 a368 .byte ((orec bs0 2 kN qw qt 6).map Value.int) := A526
      show Go p e below _ _ _ _ T520 (mkF m 367 #[.val (.int p0), .val (.long p1), .second, .val (.int p2), .val (.int p3), .val (.int qk), .val (.long qw), .second, .val (.int (0 : Int32)), .val (.int (ofs p0)), .val (.int qle), .val (.int qt), .val (.int (1 : Int32)), .val (.int (0 : Int32)), .val (.int (1 : Int32)), .val (.int (1 : Int32)), .val (.ref a368), .val (.int (2 : Int32)), .unset, .unset, .unset, .unset] [])
      refine gaload B X523 at_367 rfl rfl (pc' := 369) rfl ?_
      refine giload B X523 at_369 rfl (pc' := 371) rfl ?_
      refine gbipush B X523 at_371 (v := (6 : Int32)) rfl (pc' := 373) rfl ?_
      refine giload B X523 at_373 rfl (pc' := 375) rfl ?_
      refine glload B X523 at_375 rfl (pc' := 377) rfl ?_
      refine giload B X523 at_377 rfl (pc' := 379) rfl ?_
      refine gcallS B X523 (hw _ (List.mem_of_getElem? (i := 3) rfl)) (hw _ (List.mem_of_getElem? (i := 4) rfl)) (hw _ (List.mem_of_getElem? (i := 5) rfl)) (hw _ (List.mem_of_getElem? (i := 6) rfl)) (by decide) (mt1 l Z a0 hw a368 (2 : Int32) (6 : Int32) qk qw qt (orec bs0 2 kN qw qt 6) 2 6 kN h521 A527 ((own_len ..).trans hL0) (by decide) (by decide) (by decide) (by decide) hk hk11 ht8) pd___BIIIJB_V rfl (argsL := [(.ref a368), (.int (2 : Int32)), (.int (6 : Int32)), (.int qk), (.long qw), (.int qt)]) (st := []) rfl rfl (W := 0) (Nat.le_of_eq rfl) (by decide) (by decide) (by decide) (by decide) (allS (Or.inr z_a368) all0) at_379 (pc' := 382) rfl fun T528 h529 v530 X531 K532 Q533 => ?_
      obtain ⟨rfl, A534⟩ := Q533
      have A535 : VA Z h529 a368 .byte ((orec bs0 2 kN qw qt 7).map Value.int) := A534
      show Go p e below _ _ _ _ T528 (mkF m 382 #[.val (.int p0), .val (.long p1), .second, .val (.int p2), .val (.int p3), .val (.int qk), .val (.long qw), .second, .val (.int (0 : Int32)), .val (.int (ofs p0)), .val (.int qle), .val (.int qt), .val (.int (1 : Int32)), .val (.int (0 : Int32)), .val (.int (1 : Int32)), .val (.int (1 : Int32)), .val (.ref a368), .val (.int (2 : Int32)), .unset, .unset, .unset, .unset] [])
      refine gaload B X531 at_382 rfl rfl (pc' := 384) rfl ?_
      refine giload B X531 at_384 rfl (pc' := 386) rfl ?_
      refine gbipush B X531 at_386 (v := (7 : Int32)) rfl (pc' := 388) rfl ?_
      refine giload B X531 at_388 rfl (pc' := 390) rfl ?_
      refine glload B X531 at_390 rfl (pc' := 392) rfl ?_
      refine giload B X531 at_392 rfl (pc' := 394) rfl ?_
      refine gcallS B X531 (hw _ (List.mem_of_getElem? (i := 3) rfl)) (hw _ (List.mem_of_getElem? (i := 4) rfl)) (hw _ (List.mem_of_getElem? (i := 5) rfl)) (hw _ (List.mem_of_getElem? (i := 6) rfl)) (by decide) (mt1 l Z a0 hw a368 (2 : Int32) (7 : Int32) qk qw qt (orec bs0 2 kN qw qt 7) 2 7 kN h529 A535 ((own_len ..).trans hL0) (by decide) (by decide) (by decide) (by decide) hk hk11 ht8) pd___BIIIJB_V rfl (argsL := [(.ref a368), (.int (2 : Int32)), (.int (7 : Int32)), (.int qk), (.long qw), (.int qt)]) (st := []) rfl rfl (W := 0) (Nat.le_of_eq rfl) (by decide) (by decide) (by decide) (by decide) (allS (Or.inr z_a368) all0) at_394 (pc' := 397) rfl fun T536 h537 v538 X539 K540 Q541 => ?_
      obtain ⟨rfl, A542⟩ := Q541
      have A543 : VA Z h537 a368 .byte ((orec bs0 2 kN qw qt 8).map Value.int) := A542
      show Go p e below _ _ _ _ T536 (mkF m 397 #[.val (.int p0), .val (.long p1), .second, .val (.int p2), .val (.int p3), .val (.int qk), .val (.long qw), .second, .val (.int (0 : Int32)), .val (.int (ofs p0)), .val (.int qle), .val (.int qt), .val (.int (1 : Int32)), .val (.int (0 : Int32)), .val (.int (1 : Int32)), .val (.int (1 : Int32)), .val (.ref a368), .val (.int (2 : Int32)), .unset, .unset, .unset, .unset] [])
      refine gaload B X539 at_397 rfl rfl (pc' := 399) rfl ?_
      refine giload B X539 at_399 rfl (pc' := 401) rfl ?_
      refine gbipush B X539 at_401 (v := (8 : Int32)) rfl (pc' := 403) rfl ?_
      refine giload B X539 at_403 rfl (pc' := 405) rfl ?_
      refine glload B X539 at_405 rfl (pc' := 407) rfl ?_
      refine giload B X539 at_407 rfl (pc' := 409) rfl ?_
      refine gcallS B X539 (hw _ (List.mem_of_getElem? (i := 3) rfl)) (hw _ (List.mem_of_getElem? (i := 4) rfl)) (hw _ (List.mem_of_getElem? (i := 5) rfl)) (hw _ (List.mem_of_getElem? (i := 6) rfl)) (by decide) (mt1 l Z a0 hw a368 (2 : Int32) (8 : Int32) qk qw qt (orec bs0 2 kN qw qt 8) 2 8 kN h537 A543 ((own_len ..).trans hL0) (by decide) (by decide) (by decide) (by decide) hk hk11 ht8) pd___BIIIJB_V rfl (argsL := [(.ref a368), (.int (2 : Int32)), (.int (8 : Int32)), (.int qk), (.long qw), (.int qt)]) (st := []) rfl rfl (W := 0) (Nat.le_of_eq rfl) (by decide) (by decide) (by decide) (by decide) (allS (Or.inr z_a368) all0) at_409 (pc' := 412) rfl fun T544 h545 v546 X547 K548 Q549 => ?_
      obtain ⟨rfl, A550⟩ := Q549
      have A551 : VA Z h545 a368 .byte ((orec bs0 2 kN qw qt 9).map Value.int) := A550
      show Go p e below _ _ _ _ T544 (mkF m 412 #[.val (.int p0), .val (.long p1), .second, .val (.int p2), .val (.int p3), .val (.int qk), .val (.long qw), .second, .val (.int (0 : Int32)), .val (.int (ofs p0)), .val (.int qle), .val (.int qt), .val (.int (1 : Int32)), .val (.int (0 : Int32)), .val (.int (1 : Int32)), .val (.int (1 : Int32)), .val (.ref a368), .val (.int (2 : Int32)), .unset, .unset, .unset, .unset] [])
      refine gaload B X547 at_412 rfl rfl (pc' := 414) rfl ?_
      refine giload B X547 at_414 rfl (pc' := 416) rfl ?_
      refine gbipush B X547 at_416 (v := (9 : Int32)) rfl (pc' := 418) rfl ?_
      refine giload B X547 at_418 rfl (pc' := 420) rfl ?_
      refine glload B X547 at_420 rfl (pc' := 422) rfl ?_
      refine giload B X547 at_422 rfl (pc' := 424) rfl ?_
      refine gcallS B X547 (hw _ (List.mem_of_getElem? (i := 3) rfl)) (hw _ (List.mem_of_getElem? (i := 4) rfl)) (hw _ (List.mem_of_getElem? (i := 5) rfl)) (hw _ (List.mem_of_getElem? (i := 6) rfl)) (by decide) (mt1 l Z a0 hw a368 (2 : Int32) (9 : Int32) qk qw qt (orec bs0 2 kN qw qt 9) 2 9 kN h545 A551 ((own_len ..).trans hL0) (by decide) (by decide) (by decide) (by decide) hk hk11 ht8) pd___BIIIJB_V rfl (argsL := [(.ref a368), (.int (2 : Int32)), (.int (9 : Int32)), (.int qk), (.long qw), (.int qt)]) (st := []) rfl rfl (W := 0) (Nat.le_of_eq rfl) (by decide) (by decide) (by decide) (by decide) (allS (Or.inr z_a368) all0) at_424 (pc' := 427) rfl fun T552 h553 v554 X555 K556 Q557 => ?_
      obtain ⟨rfl, A558⟩ := Q557
      have A559 : VA Z h553 a368 .byte ((orec bs0 2 kN qw qt 10).map Value.int) := A558
      show Go p e below _ _ _ _ T552 (mkF m 427 #[.val (.int p0), .val (.long p1), .second, .val (.int p2), .val (.int p3), .val (.int qk), .val (.long qw), .second, .val (.int (0 : Int32)), .val (.int (ofs p0)), .val (.int qle), .val (.int qt), .val (.int (1 : Int32)), .val (.int (0 : Int32)), .val (.int (1 : Int32)), .val (.int (1 : Int32)), .val (.ref a368), .val (.int (2 : Int32)), .unset, .unset, .unset, .unset] [])
      refine gaload B X555 at_427 rfl rfl (pc' := 429) rfl ?_
      refine giload B X555 at_429 rfl (pc' := 431) rfl ?_
      refine gbipush B X555 at_431 (v := (10 : Int32)) rfl (pc' := 433) rfl ?_
      refine giload B X555 at_433 rfl (pc' := 435) rfl ?_
      refine glload B X555 at_435 rfl (pc' := 437) rfl ?_
      refine giload B X555 at_437 rfl (pc' := 439) rfl ?_
      refine gcallS B X555 (hw _ (List.mem_of_getElem? (i := 3) rfl)) (hw _ (List.mem_of_getElem? (i := 4) rfl)) (hw _ (List.mem_of_getElem? (i := 5) rfl)) (hw _ (List.mem_of_getElem? (i := 6) rfl)) (by decide) (mt1 l Z a0 hw a368 (2 : Int32) (10 : Int32) qk qw qt (orec bs0 2 kN qw qt 10) 2 10 kN h553 A559 ((own_len ..).trans hL0) (by decide) (by decide) (by decide) (by decide) hk hk11 ht8) pd___BIIIJB_V rfl (argsL := [(.ref a368), (.int (2 : Int32)), (.int (10 : Int32)), (.int qk), (.long qw), (.int qt)]) (st := []) rfl rfl (W := 0) (Nat.le_of_eq rfl) (by decide) (by decide) (by decide) (by decide) (allS (Or.inr z_a368) all0) at_439 (pc' := 442) rfl fun T560 h561 v562 X563 K564 Q565 => ?_
      obtain ⟨rfl, A566⟩ := Q565
      have A567 : VA Z h561 a368 .byte ((orec bs0 2 kN qw qt 11).map Value.int) := A566
      show Go p e below _ _ _ _ T560 (mkF m 442 #[.val (.int p0), .val (.long p1), .second, .val (.int p2), .val (.int p3), .val (.int qk), .val (.long qw), .second, .val (.int (0 : Int32)), .val (.int (ofs p0)), .val (.int qle), .val (.int qt), .val (.int (1 : Int32)), .val (.int (0 : Int32)), .val (.int (1 : Int32)), .val (.int (1 : Int32)), .val (.ref a368), .val (.int (2 : Int32)), .unset, .unset, .unset, .unset] [])
      refine gaload B X563 at_442 rfl rfl (pc' := 444) rfl ?_
      refine giload B X563 at_444 rfl (pc' := 446) rfl ?_
      refine gbipush B X563 at_446 (v := (11 : Int32)) rfl (pc' := 448) rfl ?_
      refine giload B X563 at_448 rfl (pc' := 450) rfl ?_
      refine glload B X563 at_450 rfl (pc' := 452) rfl ?_
      refine giload B X563 at_452 rfl (pc' := 454) rfl ?_
      refine gcallS B X563 (hw _ (List.mem_of_getElem? (i := 3) rfl)) (hw _ (List.mem_of_getElem? (i := 4) rfl)) (hw _ (List.mem_of_getElem? (i := 5) rfl)) (hw _ (List.mem_of_getElem? (i := 6) rfl)) (by decide) (mt1 l Z a0 hw a368 (2 : Int32) (11 : Int32) qk qw qt (orec bs0 2 kN qw qt 11) 2 11 kN h561 A567 ((own_len ..).trans hL0) (by decide) (by decide) (by decide) (by decide) hk hk11 ht8) pd___BIIIJB_V rfl (argsL := [(.ref a368), (.int (2 : Int32)), (.int (11 : Int32)), (.int qk), (.long qw), (.int qt)]) (st := []) rfl rfl (W := 0) (Nat.le_of_eq rfl) (by decide) (by decide) (by decide) (by decide) (allS (Or.inr z_a368) all0) at_454 (pc' := 457) rfl fun T568 h569 v570 X571 K572 Q573 => ?_
      obtain ⟨rfl, A574⟩ := Q573
      have A575 : VA Z h569 a368 .byte ((orec bs0 2 kN qw qt 12).map Value.int) := A574
      show Go p e below _ _ _ _ T568 (mkF m 457 #[.val (.int p0), .val (.long p1), .second, .val (.int p2), .val (.int p3), .val (.int qk), .val (.long qw), .second, .val (.int (0 : Int32)), .val (.int (ofs p0)), .val (.int qle), .val (.int qt), .val (.int (1 : Int32)), .val (.int (0 : Int32)), .val (.int (1 : Int32)), .val (.int (1 : Int32)), .val (.ref a368), .val (.int (2 : Int32)), .unset, .unset, .unset, .unset] [])
      refine giload B X571 at_457 rfl (pc' := 459) rfl ?_
      have c459_576 : (0 : Int32) = (0 : Int32) := (by decide)
      refine gifN B X571 at_459 ((if0 _ _).trans (teq c459_576).2) (pc' := 462) rfl ?_
      refine giload B X571 at_462 rfl (pc' := 464) rfl ?_
      refine gbipush B X571 at_464 (v := (32 : Int32)) rfl (pc' := 466) rfl ?_
      by_cases c466_577 : qle = (32 : Int32)
      · refine gicN B X571 at_466 (teq c466_577).2 (pc' := 469) rfl ?_
        refine giload B X571 at_469 rfl (pc' := 471) rfl ?_
        by_cases c471_578 : qk = (0 : Int32)
        · refine gifY B X571 (pc' := 481) at_471 ((if0 _ _).trans (teq c471_578).1) (by decide) ?_
          refine gldc2 B X571 (v := (-1 : Int64)) (hw _ (List.mem_of_getElem? (i := 21) rfl)) at_481 (pc' := 484) rfl ?_
          refine glstore B X571 at_484 (Ls' := #[.val (.int p0), .val (.long p1), .second, .val (.int p2), .val (.int p3), .val (.int qk), .val (.long qw), .second, .val (.int (0 : Int32)), .val (.int (ofs p0)), .val (.int qle), .val (.int qt), .val (.int (1 : Int32)), .val (.int (0 : Int32)), .val (.int (1 : Int32)), .val (.int (1 : Int32)), .val (.ref a368), .val (.int (2 : Int32)), .val (.long (-1 : Int64)), .second, .unset, .unset]) rfl (pc' := 486) rfl ?_
          refine ggoto B X571 (pc' := 534) at_486 (by decide) ?_
          have kz : kN = 0 ∧ 2 ≤ 3 := ⟨(own_kz hk).mp c471_578, by decide⟩
          by_cases c45 : qt = 45
          · skip
            refine gaload B X571 at_534 rfl rfl (pc' := 536) rfl ?_
            refine giload B X571 at_536 rfl (pc' := 538) rfl ?_
            have hru := own_run (sN := 2) hL0 (by decide) hk11 hww htn
            refine gcallS B X571 (hw _ (List.mem_of_getElem? (i := 22) rfl)) (hw _ (List.mem_of_getElem? (i := 23) rfl)) (hw _ (List.mem_of_getElem? (i := 24) rfl)) (hw _ (List.mem_of_getElem? (i := 25) rfl)) (by decide) (mt3C1 l Z a0 hw a368 (1 : Int32) (orec bs0 2 kN qw qt 12) h569 A575 1 (by decide) (by decide) ((own_len ..).trans hL0) 3 0 (3 : Int32) (0 : Int32) (2 : Int32) (own_run0' hL0 hb0 kz) (by decide) (by decide) (((own_low hL0 (by decide) 1 (by decide)).trans ha0).trans c466_577) (by decide) (by decide) (own_t45 hru kz c45) (by decide)) pd___BI_J rfl (argsL := [(.ref a368), (.int (1 : Int32))]) (st := []) rfl rfl (W := 0) (Nat.le_of_eq rfl) (by decide) (by decide) (by decide) (by decide) (fun x q => nomatch q) at_538 (pc' := 541) rfl (pureG rfl rfl fun T579 X580 => ?_)
            refine glload B X580 at_541 rfl (pc' := 543) rfl ?_
            refine glcmp B X580 at_543 (pc' := 544) rfl ?_
            have c544_581 : (ores (3 : Int32) (0 : Int32) (1 : Int32) 0 (oacc (orec bs0 2 kN qw qt 12) 3 0)) = (-1 : Int64) := rfl
            refine gifN B X580 at_544 ((if0 _ _).trans (teq (((lw_eq (ores (3 : Int32) (0 : Int32) (1 : Int32) 0 (oacc (orec bs0 2 kN qw qt 12) 3 0)) (-1 : Int64))).mpr c544_581)).2) (pc' := 547) rfl ?_
            refine giconst B X580 at_547 (v := (1 : Int32)) rfl (pc' := 548) rfl ?_
            refine ggoto B X580 (pc' := 552) at_548 (by decide) ?_
            exact gretN B X580 (z' := (1 : Int32)) (by simp) (rfl) at_552 (by decide) (by decide) (rfl)
          · skip
            refine gaload B X571 at_534 rfl rfl (pc' := 536) rfl ?_
            refine giload B X571 at_536 rfl (pc' := 538) rfl ?_
            have hru := own_run (sN := 2) hL0 (by decide) hk11 hww htn
            refine gcallS B X571 (hw _ (List.mem_of_getElem? (i := 22) rfl)) (hw _ (List.mem_of_getElem? (i := 23) rfl)) (hw _ (List.mem_of_getElem? (i := 24) rfl)) (hw _ (List.mem_of_getElem? (i := 25) rfl)) (by decide) (mt3C0 l Z a0 hw a368 (1 : Int32) (orec bs0 2 kN qw qt 12) h569 A575 1 (by decide) (by decide) ((own_len ..).trans hL0) 2 kN (2 : Int32) qk hru.2.2 (by decide) hk (((own_low hL0 (by decide) 1 (by decide)).trans ha0).trans c466_577) (by decide) (by decide) (own_tn45 hru kz c45)) pd___BI_J rfl (argsL := [(.ref a368), (.int (1 : Int32))]) (st := []) rfl rfl (W := 0) (Nat.le_of_eq rfl) (by decide) (by decide) (by decide) (by decide) (fun x q => nomatch q) at_538 (pc' := 541) rfl (pureG rfl rfl fun T582 X583 => ?_)
            refine glload B X583 at_541 rfl (pc' := 543) rfl ?_
            refine glcmp B X583 at_543 (pc' := 544) rfl ?_
            have c544_584 : (ores (2 : Int32) qk (0 : Int32) kN (oacc (orec bs0 2 kN qw qt 12) 2 kN)) = (-1 : Int64) := if_pos (Or.inl kz.1)
            refine gifN B X583 at_544 ((if0 _ _).trans (teq (((lw_eq (ores (2 : Int32) qk (0 : Int32) kN (oacc (orec bs0 2 kN qw qt 12) 2 kN)) (-1 : Int64))).mpr c544_584)).2) (pc' := 547) rfl ?_
            refine giconst B X583 at_547 (v := (1 : Int32)) rfl (pc' := 548) rfl ?_
            refine ggoto B X583 (pc' := 552) at_548 (by decide) ?_
            exact gretN B X583 (z' := (1 : Int32)) (by simp) (rfl) at_552 (by decide) (by decide) (rfl)
        · refine gifN B X571 at_471 ((if0 _ _).trans (feq c471_578).1) (pc' := 474) rfl ?_
          refine giload B X571 at_474 rfl (pc' := 476) rfl ?_
          refine gbipush B X571 at_476 (v := (9 : Int32)) rfl (pc' := 478) rfl ?_
          by_cases c478_585 : (9 : Int32) < qk
          · refine gicN B X571 at_478 (tlt c478_585).2.2.2 (pc' := 481) rfl ?_
            refine gldc2 B X571 (v := (-1 : Int64)) (hw _ (List.mem_of_getElem? (i := 21) rfl)) at_481 (pc' := 484) rfl ?_
            refine glstore B X571 at_484 (Ls' := #[.val (.int p0), .val (.long p1), .second, .val (.int p2), .val (.int p3), .val (.int qk), .val (.long qw), .second, .val (.int (0 : Int32)), .val (.int (ofs p0)), .val (.int qle), .val (.int qt), .val (.int (1 : Int32)), .val (.int (0 : Int32)), .val (.int (1 : Int32)), .val (.int (1 : Int32)), .val (.ref a368), .val (.int (2 : Int32)), .val (.long (-1 : Int64)), .second, .unset, .unset]) rfl (pc' := 486) rfl ?_
            refine ggoto B X571 (pc' := 534) at_486 (by decide) ?_
            have hkp : 0 < kN := Nat.pos_of_ne_zero (mt (own_kz hk).mpr c471_578)
            refine gaload B X571 at_534 rfl rfl (pc' := 536) rfl ?_
            refine giload B X571 at_536 rfl (pc' := 538) rfl ?_
            have hru := own_run (sN := 2) hL0 (by decide) hk11 hww htn
            refine gcallS B X571 (hw _ (List.mem_of_getElem? (i := 22) rfl)) (hw _ (List.mem_of_getElem? (i := 23) rfl)) (hw _ (List.mem_of_getElem? (i := 24) rfl)) (hw _ (List.mem_of_getElem? (i := 25) rfl)) (by decide) (mt3C0 l Z a0 hw a368 (1 : Int32) (orec bs0 2 kN qw qt 12) h569 A575 1 (by decide) (by decide) ((own_len ..).trans hL0) 2 kN (2 : Int32) qk hru.2.2 (by decide) hk (((own_low hL0 (by decide) 1 (by decide)).trans ha0).trans c466_577) (by decide) (by decide) (own_no45 hru.2.2 hkp)) pd___BI_J rfl (argsL := [(.ref a368), (.int (1 : Int32))]) (st := []) rfl rfl (W := 0) (Nat.le_of_eq rfl) (by decide) (by decide) (by decide) (by decide) (fun x q => nomatch q) at_538 (pc' := 541) rfl (pureG rfl rfl fun T586 X587 => ?_)
            refine glload B X587 at_541 rfl (pc' := 543) rfl ?_
            refine glcmp B X587 at_543 (pc' := 544) rfl ?_
            have c544_588 : (ores (2 : Int32) qk (0 : Int32) kN (oacc (orec bs0 2 kN qw qt 12) 2 kN)) = (-1 : Int64) := if_pos (Or.inr ((own_k9 hk).mp c478_585))
            refine gifN B X587 at_544 ((if0 _ _).trans (teq (((lw_eq (ores (2 : Int32) qk (0 : Int32) kN (oacc (orec bs0 2 kN qw qt 12) 2 kN)) (-1 : Int64))).mpr c544_588)).2) (pc' := 547) rfl ?_
            refine giconst B X587 at_547 (v := (1 : Int32)) rfl (pc' := 548) rfl ?_
            refine ggoto B X587 (pc' := 552) at_548 (by decide) ?_
            exact gretN B X587 (z' := (1 : Int32)) (by simp) (rfl) at_552 (by decide) (by decide) (rfl)
          · refine gicY B X571 (pc' := 489) at_478 (flt c478_585).2.2.2 (by decide) ?_
            refine glload B X571 at_489 rfl (pc' := 491) rfl ?_
            refine giload B X571 at_491 rfl (pc' := 493) rfl ?_
            have hk9 := mt (own_k9 hk).mpr c478_585
            refine gcallS B X571 (hw _ (List.mem_of_getElem? (i := 7) rfl)) (hw _ (List.mem_of_getElem? (i := 8) rfl)) (hw _ (List.mem_of_getElem? (i := 5) rfl)) (hw _ (List.mem_of_getElem? (i := 9) rfl)) (by decide) (mt2 l Z a0 hw qk kN h569 hk (by omega)) pd__I_J rfl (argsL := [(.int qk)]) (st := [(.long qw)]) rfl rfl (W := 2) (Nat.le_of_eq rfl) (by decide) (by decide) (by decide) (by decide) (fun x q => nomatch q) at_493 (pc' := 496) rfl fun T589 h590 v591 X592 K593 Q594 => ?_
            have F595 := A575.keep K593 nin0
            obtain rfl := Q594
            show Go p e below _ _ _ _ T589 (mkF m 496 #[.val (.int p0), .val (.long p1), .second, .val (.int p2), .val (.int p3), .val (.int qk), .val (.long qw), .second, .val (.int (0 : Int32)), .val (.int (ofs p0)), .val (.int qle), .val (.int qt), .val (.int (1 : Int32)), .val (.int (0 : Int32)), .val (.int (1 : Int32)), .val (.int (1 : Int32)), .val (.ref a368), .val (.int (2 : Int32)), .unset, .unset, .unset, .unset] [(.long (opow kN)), (.long qw)])
            refine glrem B X592 at_496 (own_p10 ⟨kN, by omega⟩).2.1 rfl (pc' := 497) rfl ?_
            refine gl2i B X592 at_497 rfl (pc' := 498) rfl ?_
            refine gistore B X592 at_498 (Ls' := #[.val (.int p0), .val (.long p1), .second, .val (.int p2), .val (.int p3), .val (.int qk), .val (.long qw), .second, .val (.int (0 : Int32)), .val (.int (ofs p0)), .val (.int qle), .val (.int qt), .val (.int (1 : Int32)), .val (.int (0 : Int32)), .val (.int (1 : Int32)), .val (.int (1 : Int32)), .val (.ref a368), .val (.int (2 : Int32)), .unset, .unset, .val (.int (qw % (opow kN)).toInt32), .unset]) rfl (pc' := 500) rfl ?_
            refine giload B X592 at_500 rfl (pc' := 502) rfl ?_
            have c502_596 : (0 : Int32) = (0 : Int32) := (by decide)
            refine gifY B X592 (pc' := 511) at_502 ((if0 _ _).trans (teq c502_596).1) (by decide) ?_
            refine giload B X592 at_511 rfl (pc' := 513) rfl ?_
            refine gistore B X592 at_513 (Ls' := #[.val (.int p0), .val (.long p1), .second, .val (.int p2), .val (.int p3), .val (.int qk), .val (.long qw), .second, .val (.int (0 : Int32)), .val (.int (ofs p0)), .val (.int qle), .val (.int qt), .val (.int (1 : Int32)), .val (.int (0 : Int32)), .val (.int (1 : Int32)), .val (.int (1 : Int32)), .val (.ref a368), .val (.int (2 : Int32)), .unset, .unset, .val (.int (qw % (opow kN)).toInt32), .val (.int (qw % (opow kN)).toInt32)]) rfl (pc' := 515) rfl ?_
            refine giload B X592 at_515 rfl (pc' := 517) rfl ?_
            refine giload B X592 at_517 rfl (pc' := 519) rfl ?_
            refine giadd B X592 at_519 rfl (pc' := 520) rfl ?_
            refine gi2l B X592 at_520 rfl (pc' := 521) rfl ?_
            refine gbipush B X592 at_521 (v := (32 : Int32)) rfl (pc' := 523) rfl ?_
            refine glshl B X592 at_523 rfl (pc' := 524) rfl ?_
            refine giload B X592 at_524 rfl (pc' := 526) rfl ?_
            refine gi2l B X592 at_526 rfl (pc' := 527) rfl ?_
            refine gldc2 B X592 (v := (4294967295 : Int64)) (hw _ (List.mem_of_getElem? (i := 28) rfl)) at_527 (pc' := 530) rfl ?_
            refine gland B X592 at_530 rfl (pc' := 531) rfl ?_
            refine glor B X592 at_531 rfl (pc' := 532) rfl ?_
            refine glstore B X592 at_532 (Ls' := #[.val (.int p0), .val (.long p1), .second, .val (.int p2), .val (.int p3), .val (.int qk), .val (.long qw), .second, .val (.int (0 : Int32)), .val (.int (ofs p0)), .val (.int qle), .val (.int qt), .val (.int (1 : Int32)), .val (.int (0 : Int32)), .val (.int (1 : Int32)), .val (.int (1 : Int32)), .val (.ref a368), .val (.int (2 : Int32)), .val (.long ((((2 : Int32) + qk).toInt64 <<< ((32 : Int32) &&& 0x3f).toInt64) ||| ((qw % (opow kN)).toInt32.toInt64 &&& (4294967295 : Int64)))), .second, .val (.int (qw % (opow kN)).toInt32), .val (.int (qw % (opow kN)).toInt32)]) rfl (pc' := 534) rfl ?_
            have hkp : 0 < kN := Nat.pos_of_ne_zero (mt (own_kz hk).mpr c471_578)
            refine gaload B X592 at_534 rfl rfl (pc' := 536) rfl ?_
            refine giload B X592 at_536 rfl (pc' := 538) rfl ?_
            have hru := own_run (sN := 2) hL0 (by decide) hk11 hww htn
            refine gcallS B X592 (hw _ (List.mem_of_getElem? (i := 22) rfl)) (hw _ (List.mem_of_getElem? (i := 23) rfl)) (hw _ (List.mem_of_getElem? (i := 24) rfl)) (hw _ (List.mem_of_getElem? (i := 25) rfl)) (by decide) (mt3C0 l Z a0 hw a368 (1 : Int32) (orec bs0 2 kN qw qt 12) h590 F595 1 (by decide) (by decide) ((own_len ..).trans hL0) 2 kN (2 : Int32) qk hru.2.2 (by decide) hk (((own_low hL0 (by decide) 1 (by decide)).trans ha0).trans c466_577) (by decide) (by decide) (own_no45 hru.2.2 hkp)) pd___BI_J rfl (argsL := [(.ref a368), (.int (1 : Int32))]) (st := []) rfl rfl (W := 0) (Nat.le_of_eq rfl) (by decide) (by decide) (by decide) (by decide) (fun x q => nomatch q) at_538 (pc' := 541) rfl (pureG rfl rfl fun T597 X598 => ?_)
            refine glload B X598 at_541 rfl (pc' := 543) rfl ?_
            refine glcmp B X598 at_543 (pc' := 544) rfl ?_
            have c544_599 : (ores (2 : Int32) qk (0 : Int32) kN (oacc (orec bs0 2 kN qw qt 12) 2 kN)) = ((((2 : Int32) + qk).toInt64 <<< ((32 : Int32) &&& 0x3f).toInt64) ||| ((qw % (opow kN)).toInt32.toInt64 &&& (4294967295 : Int64))) := by have k9 := mt (own_k9 hk).mpr c478_585; rw [ores, if_neg (by omega), own_val hww (by omega) hru.1, if_pos rfl]
            refine gifN B X598 at_544 ((if0 _ _).trans (teq (((lw_eq (ores (2 : Int32) qk (0 : Int32) kN (oacc (orec bs0 2 kN qw qt 12) 2 kN)) ((((2 : Int32) + qk).toInt64 <<< ((32 : Int32) &&& 0x3f).toInt64) ||| ((qw % (opow kN)).toInt32.toInt64 &&& (4294967295 : Int64))))).mpr c544_599)).2) (pc' := 547) rfl ?_
            refine giconst B X598 at_547 (v := (1 : Int32)) rfl (pc' := 548) rfl ?_
            refine ggoto B X598 (pc' := 552) at_548 (by decide) ?_
            exact gretN B X598 (z' := (1 : Int32)) (by simp) (rfl) at_552 (by decide) (by decide) (rfl)
      · refine gicY B X571 (pc' := 481) at_466 (feq c466_577).2 (by decide) ?_
        refine gldc2 B X571 (v := (-1 : Int64)) (hw _ (List.mem_of_getElem? (i := 21) rfl)) at_481 (pc' := 484) rfl ?_
        refine glstore B X571 at_484 (Ls' := #[.val (.int p0), .val (.long p1), .second, .val (.int p2), .val (.int p3), .val (.int qk), .val (.long qw), .second, .val (.int (0 : Int32)), .val (.int (ofs p0)), .val (.int qle), .val (.int qt), .val (.int (1 : Int32)), .val (.int (0 : Int32)), .val (.int (1 : Int32)), .val (.int (1 : Int32)), .val (.ref a368), .val (.int (2 : Int32)), .val (.long (-1 : Int64)), .second, .unset, .unset]) rfl (pc' := 486) rfl ?_
        refine ggoto B X571 (pc' := 534) at_486 (by decide) ?_
        refine gaload B X571 at_534 rfl rfl (pc' := 536) rfl ?_
        refine giload B X571 at_536 rfl (pc' := 538) rfl ?_
        refine gcallS B X571 (hw _ (List.mem_of_getElem? (i := 22) rfl)) (hw _ (List.mem_of_getElem? (i := 23) rfl)) (hw _ (List.mem_of_getElem? (i := 24) rfl)) (hw _ (List.mem_of_getElem? (i := 25) rfl)) (by decide) (mt3B l Z a0 hw a368 (1 : Int32) (orec bs0 2 kN qw qt 12) h569 A575 1 (by decide) (by decide) ((own_len ..).trans hL0) (fun q => c466_577 (((own_low hL0 (by decide) 1 (by decide)).trans ha0).symm.trans q))) pd___BI_J rfl (argsL := [(.ref a368), (.int (1 : Int32))]) (st := []) rfl rfl (W := 0) (Nat.le_of_eq rfl) (by decide) (by decide) (by decide) (by decide) (fun x q => nomatch q) at_538 (pc' := 541) rfl (pureG rfl rfl fun T600 X601 => ?_)
        refine glload B X601 at_541 rfl (pc' := 543) rfl ?_
        refine glcmp B X601 at_543 (pc' := 544) rfl ?_
        have c544_602 : (-1 : Int64) = (-1 : Int64) := rfl
        refine gifN B X601 at_544 ((if0 _ _).trans (teq (((lw_eq (-1 : Int64) (-1 : Int64))).mpr c544_602)).2) (pc' := 547) rfl ?_
        refine giconst B X601 at_547 (v := (1 : Int32)) rfl (pc' := 548) rfl ?_
        refine ggoto B X601 (pc' := 552) at_548 (by decide) ?_
        exact gretN B X601 (z' := (1 : Int32)) (by simp) (rfl) at_552 (by decide) (by decide) (rfl)
    · rw [e_b]
      refine gistore B X122 at_88 (Ls' := #[.val (.int p0), .val (.long p1), .second, .val (.int p2), .val (.int p3), .val (.int qk), .val (.long qw), .second, .val (.int (0 : Int32)), .val (.int (ofs p0)), .val (.int qle), .val (.int qt), .val (.int (2 : Int32)), .unset, .unset, .unset, .unset, .unset, .unset, .unset, .unset, .unset]) rfl (pc' := 90) rfl ?_
      refine giload B X122 at_90 rfl (pc' := 92) rfl ?_
      refine giconst B X122 at_92 (v := (3 : Int32)) rfl (pc' := 93) rfl ?_
      have c93_603 : ¬ ((2 : Int32) = (3 : Int32)) := (by decide)
      refine gicY B X122 (pc' := 100) at_93 (feq c93_603).2 (by decide) ?_
      refine giconst B X122 at_100 (v := (0 : Int32)) rfl (pc' := 101) rfl ?_
      refine gistore B X122 at_101 (Ls' := #[.val (.int p0), .val (.long p1), .second, .val (.int p2), .val (.int p3), .val (.int qk), .val (.long qw), .second, .val (.int (0 : Int32)), .val (.int (ofs p0)), .val (.int qle), .val (.int qt), .val (.int (2 : Int32)), .val (.int (0 : Int32)), .unset, .unset, .unset, .unset, .unset, .unset, .unset, .unset]) rfl (pc' := 103) rfl ?_
      refine giload B X122 at_103 rfl (pc' := 105) rfl ?_
      have c105_604 : (0 : Int32) = (0 : Int32) := (by decide)
      refine gifY B X122 (pc' := 112) at_105 ((if0 _ _).trans (teq c105_604).1) (by decide) ?_
      refine giload B X122 at_112 rfl (pc' := 114) rfl ?_
      refine gistore B X122 at_114 (Ls' := #[.val (.int p0), .val (.long p1), .second, .val (.int p2), .val (.int p3), .val (.int qk), .val (.long qw), .second, .val (.int (0 : Int32)), .val (.int (ofs p0)), .val (.int qle), .val (.int qt), .val (.int (2 : Int32)), .val (.int (0 : Int32)), .val (.int (2 : Int32)), .unset, .unset, .unset, .unset, .unset, .unset, .unset]) rfl (pc' := 116) rfl ?_
      refine giload B X122 at_116 rfl (pc' := 118) rfl ?_
      have c118_605 : (0 : Int32) = (0 : Int32) := (by decide)
      refine gifY B X122 (pc' := 128) at_118 ((if0 _ _).trans (teq c118_605).1) (by decide) ?_
      refine giload B X122 at_128 rfl (pc' := 130) rfl ?_
      refine gistore B X122 at_130 (Ls' := #[.val (.int p0), .val (.long p1), .second, .val (.int p2), .val (.int p3), .val (.int qk), .val (.long qw), .second, .val (.int (0 : Int32)), .val (.int (ofs p0)), .val (.int qle), .val (.int qt), .val (.int (2 : Int32)), .val (.int (0 : Int32)), .val (.int (2 : Int32)), .val (.int (2 : Int32)), .unset, .unset, .unset, .unset, .unset, .unset]) rfl (pc' := 132) rfl ?_
      refine gbipush B X122 at_132 (v := (18 : Int32)) rfl (pc' := 134) rfl ?_
      refine gnewarray B X122 (cap := 18) (vs := [(.int (0 : Int32)), (.int (0 : Int32)), (.int (0 : Int32)), (.int (0 : Int32)), (.int (0 : Int32)), (.int (0 : Int32)), (.int (0 : Int32)), (.int (0 : Int32)), (.int (0 : Int32)), (.int (0 : Int32)), (.int (0 : Int32)), (.int (0 : Int32)), (.int (0 : Int32)), (.int (0 : Int32)), (.int (0 : Int32)), (.int (0 : Int32)), (.int (0 : Int32)), (.int (0 : Int32))]) (ty := .byte) rfl rfl (hw _ (List.mem_of_getElem? (i := 2) rfl)) (by decide) (by decide) (by decide) (by decide) (by decide) at_134 (pc' := 136) rfl fun T606 h607 a608 X609 q610 E611 z_a608 A612 => ?_
      refine gdup B X609 at_136 rfl (pc' := 137) rfl ?_
      refine giconst B X609 at_137 (v := (0 : Int32)) rfl (pc' := 138) rfl ?_
      refine gbipush B X609 at_138 (v := (10 : Int32)) rfl (pc' := 140) rfl ?_
      refine gbastore B X609 (i := 0) (n := 18) A612 rfl (by decide) rfl (vs' := [(.int (10 : Int32)), (.int (0 : Int32)), (.int (0 : Int32)), (.int (0 : Int32)), (.int (0 : Int32)), (.int (0 : Int32)), (.int (0 : Int32)), (.int (0 : Int32)), (.int (0 : Int32)), (.int (0 : Int32)), (.int (0 : Int32)), (.int (0 : Int32)), (.int (0 : Int32)), (.int (0 : Int32)), (.int (0 : Int32)), (.int (0 : Int32)), (.int (0 : Int32)), (.int (0 : Int32))]) rfl (Or.inr z_a608) at_140 (pc' := 141) rfl fun T613 h614 X615 W616 A617 => ?_
      refine gdup B X615 at_141 rfl (pc' := 142) rfl ?_
      refine giconst B X615 at_142 (v := (1 : Int32)) rfl (pc' := 143) rfl ?_
      refine gbipush B X615 at_143 (v := (10 : Int32)) rfl (pc' := 145) rfl ?_
      refine gbastore B X615 (i := 1) (n := 18) A617 rfl (by decide) rfl (vs' := [(.int (10 : Int32)), (.int (10 : Int32)), (.int (0 : Int32)), (.int (0 : Int32)), (.int (0 : Int32)), (.int (0 : Int32)), (.int (0 : Int32)), (.int (0 : Int32)), (.int (0 : Int32)), (.int (0 : Int32)), (.int (0 : Int32)), (.int (0 : Int32)), (.int (0 : Int32)), (.int (0 : Int32)), (.int (0 : Int32)), (.int (0 : Int32)), (.int (0 : Int32)), (.int (0 : Int32))]) rfl (Or.inr z_a608) at_145 (pc' := 146) rfl fun T618 h619 X620 W621 A622 => ?_
      refine gdup B X620 at_146 rfl (pc' := 147) rfl ?_
      refine giconst B X620 at_147 (v := (2 : Int32)) rfl (pc' := 148) rfl ?_
      refine gbipush B X620 at_148 (v := (10 : Int32)) rfl (pc' := 150) rfl ?_
      refine gbastore B X620 (i := 2) (n := 18) A622 rfl (by decide) rfl (vs' := [(.int (10 : Int32)), (.int (10 : Int32)), (.int (10 : Int32)), (.int (0 : Int32)), (.int (0 : Int32)), (.int (0 : Int32)), (.int (0 : Int32)), (.int (0 : Int32)), (.int (0 : Int32)), (.int (0 : Int32)), (.int (0 : Int32)), (.int (0 : Int32)), (.int (0 : Int32)), (.int (0 : Int32)), (.int (0 : Int32)), (.int (0 : Int32)), (.int (0 : Int32)), (.int (0 : Int32))]) rfl (Or.inr z_a608) at_150 (pc' := 151) rfl fun T623 h624 X625 W626 A627 => ?_
      refine gdup B X625 at_151 rfl (pc' := 152) rfl ?_
      refine giconst B X625 at_152 (v := (3 : Int32)) rfl (pc' := 153) rfl ?_
      refine gbipush B X625 at_153 (v := (10 : Int32)) rfl (pc' := 155) rfl ?_
      refine gbastore B X625 (i := 3) (n := 18) A627 rfl (by decide) rfl (vs' := [(.int (10 : Int32)), (.int (10 : Int32)), (.int (10 : Int32)), (.int (10 : Int32)), (.int (0 : Int32)), (.int (0 : Int32)), (.int (0 : Int32)), (.int (0 : Int32)), (.int (0 : Int32)), (.int (0 : Int32)), (.int (0 : Int32)), (.int (0 : Int32)), (.int (0 : Int32)), (.int (0 : Int32)), (.int (0 : Int32)), (.int (0 : Int32)), (.int (0 : Int32)), (.int (0 : Int32))]) rfl (Or.inr z_a608) at_155 (pc' := 156) rfl fun T628 h629 X630 W631 A632 => ?_
      refine gdup B X630 at_156 rfl (pc' := 157) rfl ?_
      refine giconst B X630 at_157 (v := (4 : Int32)) rfl (pc' := 158) rfl ?_
      refine gbipush B X630 at_158 (v := (10 : Int32)) rfl (pc' := 160) rfl ?_
      refine gbastore B X630 (i := 4) (n := 18) A632 rfl (by decide) rfl (vs' := [(.int (10 : Int32)), (.int (10 : Int32)), (.int (10 : Int32)), (.int (10 : Int32)), (.int (10 : Int32)), (.int (0 : Int32)), (.int (0 : Int32)), (.int (0 : Int32)), (.int (0 : Int32)), (.int (0 : Int32)), (.int (0 : Int32)), (.int (0 : Int32)), (.int (0 : Int32)), (.int (0 : Int32)), (.int (0 : Int32)), (.int (0 : Int32)), (.int (0 : Int32)), (.int (0 : Int32))]) rfl (Or.inr z_a608) at_160 (pc' := 161) rfl fun T633 h634 X635 W636 A637 => ?_
      refine gdup B X635 at_161 rfl (pc' := 162) rfl ?_
      refine giconst B X635 at_162 (v := (5 : Int32)) rfl (pc' := 163) rfl ?_
      refine gbipush B X635 at_163 (v := (10 : Int32)) rfl (pc' := 165) rfl ?_
      refine gbastore B X635 (i := 5) (n := 18) A637 rfl (by decide) rfl (vs' := [(.int (10 : Int32)), (.int (10 : Int32)), (.int (10 : Int32)), (.int (10 : Int32)), (.int (10 : Int32)), (.int (10 : Int32)), (.int (0 : Int32)), (.int (0 : Int32)), (.int (0 : Int32)), (.int (0 : Int32)), (.int (0 : Int32)), (.int (0 : Int32)), (.int (0 : Int32)), (.int (0 : Int32)), (.int (0 : Int32)), (.int (0 : Int32)), (.int (0 : Int32)), (.int (0 : Int32))]) rfl (Or.inr z_a608) at_165 (pc' := 166) rfl fun T638 h639 X640 W641 A642 => ?_
      refine gdup B X640 at_166 rfl (pc' := 167) rfl ?_
      refine gbipush B X640 at_167 (v := (6 : Int32)) rfl (pc' := 169) rfl ?_
      refine gbipush B X640 at_169 (v := (10 : Int32)) rfl (pc' := 171) rfl ?_
      refine gbastore B X640 (i := 6) (n := 18) A642 rfl (by decide) rfl (vs' := [(.int (10 : Int32)), (.int (10 : Int32)), (.int (10 : Int32)), (.int (10 : Int32)), (.int (10 : Int32)), (.int (10 : Int32)), (.int (10 : Int32)), (.int (0 : Int32)), (.int (0 : Int32)), (.int (0 : Int32)), (.int (0 : Int32)), (.int (0 : Int32)), (.int (0 : Int32)), (.int (0 : Int32)), (.int (0 : Int32)), (.int (0 : Int32)), (.int (0 : Int32)), (.int (0 : Int32))]) rfl (Or.inr z_a608) at_171 (pc' := 172) rfl fun T643 h644 X645 W646 A647 => ?_
      refine gdup B X645 at_172 rfl (pc' := 173) rfl ?_
      refine gbipush B X645 at_173 (v := (7 : Int32)) rfl (pc' := 175) rfl ?_
      refine gbipush B X645 at_175 (v := (10 : Int32)) rfl (pc' := 177) rfl ?_
      refine gbastore B X645 (i := 7) (n := 18) A647 rfl (by decide) rfl (vs' := [(.int (10 : Int32)), (.int (10 : Int32)), (.int (10 : Int32)), (.int (10 : Int32)), (.int (10 : Int32)), (.int (10 : Int32)), (.int (10 : Int32)), (.int (10 : Int32)), (.int (0 : Int32)), (.int (0 : Int32)), (.int (0 : Int32)), (.int (0 : Int32)), (.int (0 : Int32)), (.int (0 : Int32)), (.int (0 : Int32)), (.int (0 : Int32)), (.int (0 : Int32)), (.int (0 : Int32))]) rfl (Or.inr z_a608) at_177 (pc' := 178) rfl fun T648 h649 X650 W651 A652 => ?_
      refine gdup B X650 at_178 rfl (pc' := 179) rfl ?_
      refine gbipush B X650 at_179 (v := (8 : Int32)) rfl (pc' := 181) rfl ?_
      refine gbipush B X650 at_181 (v := (10 : Int32)) rfl (pc' := 183) rfl ?_
      refine gbastore B X650 (i := 8) (n := 18) A652 rfl (by decide) rfl (vs' := [(.int (10 : Int32)), (.int (10 : Int32)), (.int (10 : Int32)), (.int (10 : Int32)), (.int (10 : Int32)), (.int (10 : Int32)), (.int (10 : Int32)), (.int (10 : Int32)), (.int (10 : Int32)), (.int (0 : Int32)), (.int (0 : Int32)), (.int (0 : Int32)), (.int (0 : Int32)), (.int (0 : Int32)), (.int (0 : Int32)), (.int (0 : Int32)), (.int (0 : Int32)), (.int (0 : Int32))]) rfl (Or.inr z_a608) at_183 (pc' := 184) rfl fun T653 h654 X655 W656 A657 => ?_
      refine gdup B X655 at_184 rfl (pc' := 185) rfl ?_
      refine gbipush B X655 at_185 (v := (9 : Int32)) rfl (pc' := 187) rfl ?_
      refine gbipush B X655 at_187 (v := (10 : Int32)) rfl (pc' := 189) rfl ?_
      refine gbastore B X655 (i := 9) (n := 18) A657 rfl (by decide) rfl (vs' := [(.int (10 : Int32)), (.int (10 : Int32)), (.int (10 : Int32)), (.int (10 : Int32)), (.int (10 : Int32)), (.int (10 : Int32)), (.int (10 : Int32)), (.int (10 : Int32)), (.int (10 : Int32)), (.int (10 : Int32)), (.int (0 : Int32)), (.int (0 : Int32)), (.int (0 : Int32)), (.int (0 : Int32)), (.int (0 : Int32)), (.int (0 : Int32)), (.int (0 : Int32)), (.int (0 : Int32))]) rfl (Or.inr z_a608) at_189 (pc' := 190) rfl fun T658 h659 X660 W661 A662 => ?_
      refine gdup B X660 at_190 rfl (pc' := 191) rfl ?_
      refine gbipush B X660 at_191 (v := (10 : Int32)) rfl (pc' := 193) rfl ?_
      refine gbipush B X660 at_193 (v := (10 : Int32)) rfl (pc' := 195) rfl ?_
      refine gbastore B X660 (i := 10) (n := 18) A662 rfl (by decide) rfl (vs' := [(.int (10 : Int32)), (.int (10 : Int32)), (.int (10 : Int32)), (.int (10 : Int32)), (.int (10 : Int32)), (.int (10 : Int32)), (.int (10 : Int32)), (.int (10 : Int32)), (.int (10 : Int32)), (.int (10 : Int32)), (.int (10 : Int32)), (.int (0 : Int32)), (.int (0 : Int32)), (.int (0 : Int32)), (.int (0 : Int32)), (.int (0 : Int32)), (.int (0 : Int32)), (.int (0 : Int32))]) rfl (Or.inr z_a608) at_195 (pc' := 196) rfl fun T663 h664 X665 W666 A667 => ?_
      refine gdup B X665 at_196 rfl (pc' := 197) rfl ?_
      refine gbipush B X665 at_197 (v := (11 : Int32)) rfl (pc' := 199) rfl ?_
      refine gbipush B X665 at_199 (v := (10 : Int32)) rfl (pc' := 201) rfl ?_
      refine gbastore B X665 (i := 11) (n := 18) A667 rfl (by decide) rfl (vs' := [(.int (10 : Int32)), (.int (10 : Int32)), (.int (10 : Int32)), (.int (10 : Int32)), (.int (10 : Int32)), (.int (10 : Int32)), (.int (10 : Int32)), (.int (10 : Int32)), (.int (10 : Int32)), (.int (10 : Int32)), (.int (10 : Int32)), (.int (10 : Int32)), (.int (0 : Int32)), (.int (0 : Int32)), (.int (0 : Int32)), (.int (0 : Int32)), (.int (0 : Int32)), (.int (0 : Int32))]) rfl (Or.inr z_a608) at_201 (pc' := 202) rfl fun T668 h669 X670 W671 A672 => ?_
      refine gdup B X670 at_202 rfl (pc' := 203) rfl ?_
      refine gbipush B X670 at_203 (v := (12 : Int32)) rfl (pc' := 205) rfl ?_
      refine gbipush B X670 at_205 (v := (10 : Int32)) rfl (pc' := 207) rfl ?_
      refine gbastore B X670 (i := 12) (n := 18) A672 rfl (by decide) rfl (vs' := [(.int (10 : Int32)), (.int (10 : Int32)), (.int (10 : Int32)), (.int (10 : Int32)), (.int (10 : Int32)), (.int (10 : Int32)), (.int (10 : Int32)), (.int (10 : Int32)), (.int (10 : Int32)), (.int (10 : Int32)), (.int (10 : Int32)), (.int (10 : Int32)), (.int (10 : Int32)), (.int (0 : Int32)), (.int (0 : Int32)), (.int (0 : Int32)), (.int (0 : Int32)), (.int (0 : Int32))]) rfl (Or.inr z_a608) at_207 (pc' := 208) rfl fun T673 h674 X675 W676 A677 => ?_
      refine gdup B X675 at_208 rfl (pc' := 209) rfl ?_
      refine gbipush B X675 at_209 (v := (13 : Int32)) rfl (pc' := 211) rfl ?_
      refine gbipush B X675 at_211 (v := (10 : Int32)) rfl (pc' := 213) rfl ?_
      refine gbastore B X675 (i := 13) (n := 18) A677 rfl (by decide) rfl (vs' := [(.int (10 : Int32)), (.int (10 : Int32)), (.int (10 : Int32)), (.int (10 : Int32)), (.int (10 : Int32)), (.int (10 : Int32)), (.int (10 : Int32)), (.int (10 : Int32)), (.int (10 : Int32)), (.int (10 : Int32)), (.int (10 : Int32)), (.int (10 : Int32)), (.int (10 : Int32)), (.int (10 : Int32)), (.int (0 : Int32)), (.int (0 : Int32)), (.int (0 : Int32)), (.int (0 : Int32))]) rfl (Or.inr z_a608) at_213 (pc' := 214) rfl fun T678 h679 X680 W681 A682 => ?_
      refine gdup B X680 at_214 rfl (pc' := 215) rfl ?_
      refine gbipush B X680 at_215 (v := (14 : Int32)) rfl (pc' := 217) rfl ?_
      refine gbipush B X680 at_217 (v := (10 : Int32)) rfl (pc' := 219) rfl ?_
      refine gbastore B X680 (i := 14) (n := 18) A682 rfl (by decide) rfl (vs' := [(.int (10 : Int32)), (.int (10 : Int32)), (.int (10 : Int32)), (.int (10 : Int32)), (.int (10 : Int32)), (.int (10 : Int32)), (.int (10 : Int32)), (.int (10 : Int32)), (.int (10 : Int32)), (.int (10 : Int32)), (.int (10 : Int32)), (.int (10 : Int32)), (.int (10 : Int32)), (.int (10 : Int32)), (.int (10 : Int32)), (.int (0 : Int32)), (.int (0 : Int32)), (.int (0 : Int32))]) rfl (Or.inr z_a608) at_219 (pc' := 220) rfl fun T683 h684 X685 W686 A687 => ?_
      refine gdup B X685 at_220 rfl (pc' := 221) rfl ?_
      refine gbipush B X685 at_221 (v := (15 : Int32)) rfl (pc' := 223) rfl ?_
      refine gbipush B X685 at_223 (v := (10 : Int32)) rfl (pc' := 225) rfl ?_
      refine gbastore B X685 (i := 15) (n := 18) A687 rfl (by decide) rfl (vs' := [(.int (10 : Int32)), (.int (10 : Int32)), (.int (10 : Int32)), (.int (10 : Int32)), (.int (10 : Int32)), (.int (10 : Int32)), (.int (10 : Int32)), (.int (10 : Int32)), (.int (10 : Int32)), (.int (10 : Int32)), (.int (10 : Int32)), (.int (10 : Int32)), (.int (10 : Int32)), (.int (10 : Int32)), (.int (10 : Int32)), (.int (10 : Int32)), (.int (0 : Int32)), (.int (0 : Int32))]) rfl (Or.inr z_a608) at_225 (pc' := 226) rfl fun T688 h689 X690 W691 A692 => ?_
      refine gdup B X690 at_226 rfl (pc' := 227) rfl ?_
      refine gbipush B X690 at_227 (v := (16 : Int32)) rfl (pc' := 229) rfl ?_
      refine gbipush B X690 at_229 (v := (10 : Int32)) rfl (pc' := 231) rfl ?_
      refine gbastore B X690 (i := 16) (n := 18) A692 rfl (by decide) rfl (vs' := [(.int (10 : Int32)), (.int (10 : Int32)), (.int (10 : Int32)), (.int (10 : Int32)), (.int (10 : Int32)), (.int (10 : Int32)), (.int (10 : Int32)), (.int (10 : Int32)), (.int (10 : Int32)), (.int (10 : Int32)), (.int (10 : Int32)), (.int (10 : Int32)), (.int (10 : Int32)), (.int (10 : Int32)), (.int (10 : Int32)), (.int (10 : Int32)), (.int (10 : Int32)), (.int (0 : Int32))]) rfl (Or.inr z_a608) at_231 (pc' := 232) rfl fun T693 h694 X695 W696 A697 => ?_
      refine gdup B X695 at_232 rfl (pc' := 233) rfl ?_
      refine gbipush B X695 at_233 (v := (17 : Int32)) rfl (pc' := 235) rfl ?_
      refine gbipush B X695 at_235 (v := (10 : Int32)) rfl (pc' := 237) rfl ?_
      refine gbastore B X695 (i := 17) (n := 18) A697 rfl (by decide) rfl (vs' := [(.int (10 : Int32)), (.int (10 : Int32)), (.int (10 : Int32)), (.int (10 : Int32)), (.int (10 : Int32)), (.int (10 : Int32)), (.int (10 : Int32)), (.int (10 : Int32)), (.int (10 : Int32)), (.int (10 : Int32)), (.int (10 : Int32)), (.int (10 : Int32)), (.int (10 : Int32)), (.int (10 : Int32)), (.int (10 : Int32)), (.int (10 : Int32)), (.int (10 : Int32)), (.int (10 : Int32))]) rfl (Or.inr z_a608) at_237 (pc' := 238) rfl fun T698 h699 X700 W701 A702 => ?_
      refine gastore B X700 at_238 rfl (Ls' := #[.val (.int p0), .val (.long p1), .second, .val (.int p2), .val (.int p3), .val (.int qk), .val (.long qw), .second, .val (.int (0 : Int32)), .val (.int (ofs p0)), .val (.int qle), .val (.int qt), .val (.int (2 : Int32)), .val (.int (0 : Int32)), .val (.int (2 : Int32)), .val (.int (2 : Int32)), .val (.ref a608), .unset, .unset, .unset, .unset, .unset]) rfl (pc' := 240) rfl ?_
      refine gaload B X700 at_240 rfl rfl (pc' := 242) rfl ?_
      refine giconst B X700 at_242 (v := (0 : Int32)) rfl (pc' := 243) rfl ?_
      refine gbipush B X700 at_243 (v := (57 : Int32)) rfl (pc' := 245) rfl ?_
      refine gbastore B X700 (i := 0) (n := 18) A702 rfl (by decide) rfl (vs' := [(.int (57 : Int32)), (.int (10 : Int32)), (.int (10 : Int32)), (.int (10 : Int32)), (.int (10 : Int32)), (.int (10 : Int32)), (.int (10 : Int32)), (.int (10 : Int32)), (.int (10 : Int32)), (.int (10 : Int32)), (.int (10 : Int32)), (.int (10 : Int32)), (.int (10 : Int32)), (.int (10 : Int32)), (.int (10 : Int32)), (.int (10 : Int32)), (.int (10 : Int32)), (.int (10 : Int32))]) rfl (Or.inr z_a608) at_245 (pc' := 246) rfl fun T703 h704 X705 W706 A707 => ?_
      refine gaload B X705 at_246 rfl rfl (pc' := 248) rfl ?_
      refine giconst B X705 at_248 (v := (1 : Int32)) rfl (pc' := 249) rfl ?_
      refine gbipush B X705 at_249 (v := (57 : Int32)) rfl (pc' := 251) rfl ?_
      refine gbastore B X705 (i := 1) (n := 18) A707 rfl (by decide) rfl (vs' := [(.int (57 : Int32)), (.int (57 : Int32)), (.int (10 : Int32)), (.int (10 : Int32)), (.int (10 : Int32)), (.int (10 : Int32)), (.int (10 : Int32)), (.int (10 : Int32)), (.int (10 : Int32)), (.int (10 : Int32)), (.int (10 : Int32)), (.int (10 : Int32)), (.int (10 : Int32)), (.int (10 : Int32)), (.int (10 : Int32)), (.int (10 : Int32)), (.int (10 : Int32)), (.int (10 : Int32))]) rfl (Or.inr z_a608) at_251 (pc' := 252) rfl fun T708 h709 X710 W711 A712 => ?_
      refine gaload B X710 at_252 rfl rfl (pc' := 254) rfl ?_
      refine giload B X710 at_254 rfl (pc' := 256) rfl ?_
      refine giload B X710 at_256 rfl (pc' := 258) rfl ?_
      refine gbastore B X710 (i := 2) A712 (n := 18) rfl (by decide) rfl (vs' := (([57, 57, qle, 10, 10, 10, 10, 10, 10, 10, 10, 10, 10, 10, 10, 10, 10, 10] : List Int32).map Value.int)) (by rw [hle]; rfl) (Or.inr z_a608) at_258 (pc' := 259) rfl fun T713 h714 X715 W716 A717 => ?_
      refine giload B X715 at_259 rfl (pc' := 261) rfl ?_
      refine giconst B X715 at_261 (v := (1 : Int32)) rfl (pc' := 262) rfl ?_
      refine giadd B X715 at_262 (v := (3 : Int32)) (by decide) (pc' := 263) rfl ?_
      refine gistore B X715 at_263 (Ls' := #[.val (.int p0), .val (.long p1), .second, .val (.int p2), .val (.int p3), .val (.int qk), .val (.long qw), .second, .val (.int (0 : Int32)), .val (.int (ofs p0)), .val (.int qle), .val (.int qt), .val (.int (2 : Int32)), .val (.int (0 : Int32)), .val (.int (2 : Int32)), .val (.int (2 : Int32)), .val (.ref a608), .val (.int (3 : Int32)), .unset, .unset, .unset, .unset]) rfl (pc' := 265) rfl ?_
      refine giload B X715 at_265 rfl (pc' := 267) rfl ?_
      have c267_718 : (0 : Int32) = (0 : Int32) := (by decide)
      refine gifY B X715 (pc' := 283) at_267 ((if0 _ _).trans (teq c267_718).1) (by decide) ?_
      have hL0 : ([57, 57, qle, 10, 10, 10, 10, 10, 10, 10, 10, 10, 10, 10, 10, 10, 10, 10] : List Int32).length = 18 := rfl
      have ha0 : ([57, 57, qle, 10, 10, 10, 10, 10, 10, 10, 10, 10, 10, 10, 10, 10, 10, 10] : List Int32).getD 2 0 = qle := rfl
      have hb0 : ([57, 57, qle, 10, 10, 10, 10, 10, 10, 10, 10, 10, 10, 10, 10, 10, 10, 10] : List Int32).getD 4 0 = 10 := rfl
      generalize ([57, 57, qle, 10, 10, 10, 10, 10, 10, 10, 10, 10, 10, 10, 10, 10, 10, 10] : List Int32) = bs0 at hL0 ha0 hb0 A717
      have A719 : VA Z h714 a608 .byte ((orec bs0 3 kN qw qt 0).map Value.int) := A717
      refine gaload B X715 at_283 rfl rfl (pc' := 285) rfl ?_
      refine giload B X715 at_285 rfl (pc' := 287) rfl ?_
      refine giconst B X715 at_287 (v := (0 : Int32)) rfl (pc' := 288) rfl ?_
      refine giload B X715 at_288 rfl (pc' := 290) rfl ?_
      refine glload B X715 at_290 rfl (pc' := 292) rfl ?_
      refine giload B X715 at_292 rfl (pc' := 294) rfl ?_
      refine gcallS B X715 (hw _ (List.mem_of_getElem? (i := 3) rfl)) (hw _ (List.mem_of_getElem? (i := 4) rfl)) (hw _ (List.mem_of_getElem? (i := 5) rfl)) (hw _ (List.mem_of_getElem? (i := 6) rfl)) (by decide) (mt1 l Z a0 hw a608 (3 : Int32) (0 : Int32) qk qw qt (orec bs0 3 kN qw qt 0) 3 0 kN h714 A719 ((own_len ..).trans hL0) (by decide) (by decide) (by decide) (by decide) hk hk11 ht8) pd___BIIIJB_V rfl (argsL := [(.ref a608), (.int (3 : Int32)), (.int (0 : Int32)), (.int qk), (.long qw), (.int qt)]) (st := []) rfl rfl (W := 0) (Nat.le_of_eq rfl) (by decide) (by decide) (by decide) (by decide) (allS (Or.inr z_a608) all0) at_294 (pc' := 297) rfl fun T720 h721 v722 X723 K724 Q725 => ?_
      obtain ⟨rfl, A726⟩ := Q725
      have A727 : VA Z h721 a608 .byte ((orec bs0 3 kN qw qt 1).map Value.int) := A726
      show Go p e below _ _ _ _ T720 (mkF m 297 #[.val (.int p0), .val (.long p1), .second, .val (.int p2), .val (.int p3), .val (.int qk), .val (.long qw), .second, .val (.int (0 : Int32)), .val (.int (ofs p0)), .val (.int qle), .val (.int qt), .val (.int (2 : Int32)), .val (.int (0 : Int32)), .val (.int (2 : Int32)), .val (.int (2 : Int32)), .val (.ref a608), .val (.int (3 : Int32)), .unset, .unset, .unset, .unset] [])
      refine gaload B X723 at_297 rfl rfl (pc' := 299) rfl ?_
      refine giload B X723 at_299 rfl (pc' := 301) rfl ?_
      refine giconst B X723 at_301 (v := (1 : Int32)) rfl (pc' := 302) rfl ?_
      refine giload B X723 at_302 rfl (pc' := 304) rfl ?_
      refine glload B X723 at_304 rfl (pc' := 306) rfl ?_
      refine giload B X723 at_306 rfl (pc' := 308) rfl ?_
      refine gcallS B X723 (hw _ (List.mem_of_getElem? (i := 3) rfl)) (hw _ (List.mem_of_getElem? (i := 4) rfl)) (hw _ (List.mem_of_getElem? (i := 5) rfl)) (hw _ (List.mem_of_getElem? (i := 6) rfl)) (by decide) (mt1 l Z a0 hw a608 (3 : Int32) (1 : Int32) qk qw qt (orec bs0 3 kN qw qt 1) 3 1 kN h721 A727 ((own_len ..).trans hL0) (by decide) (by decide) (by decide) (by decide) hk hk11 ht8) pd___BIIIJB_V rfl (argsL := [(.ref a608), (.int (3 : Int32)), (.int (1 : Int32)), (.int qk), (.long qw), (.int qt)]) (st := []) rfl rfl (W := 0) (Nat.le_of_eq rfl) (by decide) (by decide) (by decide) (by decide) (allS (Or.inr z_a608) all0) at_308 (pc' := 311) rfl fun T728 h729 v730 X731 K732 Q733 => ?_
      obtain ⟨rfl, A734⟩ := Q733
      have A735 : VA Z h729 a608 .byte ((orec bs0 3 kN qw qt 2).map Value.int) := A734
      show Go p e below _ _ _ _ T728 (mkF m 311 #[.val (.int p0), .val (.long p1), .second, .val (.int p2), .val (.int p3), .val (.int qk), .val (.long qw), .second, .val (.int (0 : Int32)), .val (.int (ofs p0)), .val (.int qle), .val (.int qt), .val (.int (2 : Int32)), .val (.int (0 : Int32)), .val (.int (2 : Int32)), .val (.int (2 : Int32)), .val (.ref a608), .val (.int (3 : Int32)), .unset, .unset, .unset, .unset] [])
      refine gaload B X731 at_311 rfl rfl (pc' := 313) rfl ?_
      refine giload B X731 at_313 rfl (pc' := 315) rfl ?_
      refine giconst B X731 at_315 (v := (2 : Int32)) rfl (pc' := 316) rfl ?_
      refine giload B X731 at_316 rfl (pc' := 318) rfl ?_
      refine glload B X731 at_318 rfl (pc' := 320) rfl ?_
      refine giload B X731 at_320 rfl (pc' := 322) rfl ?_
      refine gcallS B X731 (hw _ (List.mem_of_getElem? (i := 3) rfl)) (hw _ (List.mem_of_getElem? (i := 4) rfl)) (hw _ (List.mem_of_getElem? (i := 5) rfl)) (hw _ (List.mem_of_getElem? (i := 6) rfl)) (by decide) (mt1 l Z a0 hw a608 (3 : Int32) (2 : Int32) qk qw qt (orec bs0 3 kN qw qt 2) 3 2 kN h729 A735 ((own_len ..).trans hL0) (by decide) (by decide) (by decide) (by decide) hk hk11 ht8) pd___BIIIJB_V rfl (argsL := [(.ref a608), (.int (3 : Int32)), (.int (2 : Int32)), (.int qk), (.long qw), (.int qt)]) (st := []) rfl rfl (W := 0) (Nat.le_of_eq rfl) (by decide) (by decide) (by decide) (by decide) (allS (Or.inr z_a608) all0) at_322 (pc' := 325) rfl fun T736 h737 v738 X739 K740 Q741 => ?_
      obtain ⟨rfl, A742⟩ := Q741
      have A743 : VA Z h737 a608 .byte ((orec bs0 3 kN qw qt 3).map Value.int) := A742
      show Go p e below _ _ _ _ T736 (mkF m 325 #[.val (.int p0), .val (.long p1), .second, .val (.int p2), .val (.int p3), .val (.int qk), .val (.long qw), .second, .val (.int (0 : Int32)), .val (.int (ofs p0)), .val (.int qle), .val (.int qt), .val (.int (2 : Int32)), .val (.int (0 : Int32)), .val (.int (2 : Int32)), .val (.int (2 : Int32)), .val (.ref a608), .val (.int (3 : Int32)), .unset, .unset, .unset, .unset] [])
      refine gaload B X739 at_325 rfl rfl (pc' := 327) rfl ?_
      refine giload B X739 at_327 rfl (pc' := 329) rfl ?_
      refine giconst B X739 at_329 (v := (3 : Int32)) rfl (pc' := 330) rfl ?_
      refine giload B X739 at_330 rfl (pc' := 332) rfl ?_
      refine glload B X739 at_332 rfl (pc' := 334) rfl ?_
      refine giload B X739 at_334 rfl (pc' := 336) rfl ?_
      refine gcallS B X739 (hw _ (List.mem_of_getElem? (i := 3) rfl)) (hw _ (List.mem_of_getElem? (i := 4) rfl)) (hw _ (List.mem_of_getElem? (i := 5) rfl)) (hw _ (List.mem_of_getElem? (i := 6) rfl)) (by decide) (mt1 l Z a0 hw a608 (3 : Int32) (3 : Int32) qk qw qt (orec bs0 3 kN qw qt 3) 3 3 kN h737 A743 ((own_len ..).trans hL0) (by decide) (by decide) (by decide) (by decide) hk hk11 ht8) pd___BIIIJB_V rfl (argsL := [(.ref a608), (.int (3 : Int32)), (.int (3 : Int32)), (.int qk), (.long qw), (.int qt)]) (st := []) rfl rfl (W := 0) (Nat.le_of_eq rfl) (by decide) (by decide) (by decide) (by decide) (allS (Or.inr z_a608) all0) at_336 (pc' := 339) rfl fun T744 h745 v746 X747 K748 Q749 => ?_
      obtain ⟨rfl, A750⟩ := Q749
      have A751 : VA Z h745 a608 .byte ((orec bs0 3 kN qw qt 4).map Value.int) := A750
      show Go p e below _ _ _ _ T744 (mkF m 339 #[.val (.int p0), .val (.long p1), .second, .val (.int p2), .val (.int p3), .val (.int qk), .val (.long qw), .second, .val (.int (0 : Int32)), .val (.int (ofs p0)), .val (.int qle), .val (.int qt), .val (.int (2 : Int32)), .val (.int (0 : Int32)), .val (.int (2 : Int32)), .val (.int (2 : Int32)), .val (.ref a608), .val (.int (3 : Int32)), .unset, .unset, .unset, .unset] [])
      refine gaload B X747 at_339 rfl rfl (pc' := 341) rfl ?_
      refine giload B X747 at_341 rfl (pc' := 343) rfl ?_
      refine giconst B X747 at_343 (v := (4 : Int32)) rfl (pc' := 344) rfl ?_
      refine giload B X747 at_344 rfl (pc' := 346) rfl ?_
      refine glload B X747 at_346 rfl (pc' := 348) rfl ?_
      refine giload B X747 at_348 rfl (pc' := 350) rfl ?_
      refine gcallS B X747 (hw _ (List.mem_of_getElem? (i := 3) rfl)) (hw _ (List.mem_of_getElem? (i := 4) rfl)) (hw _ (List.mem_of_getElem? (i := 5) rfl)) (hw _ (List.mem_of_getElem? (i := 6) rfl)) (by decide) (mt1 l Z a0 hw a608 (3 : Int32) (4 : Int32) qk qw qt (orec bs0 3 kN qw qt 4) 3 4 kN h745 A751 ((own_len ..).trans hL0) (by decide) (by decide) (by decide) (by decide) hk hk11 ht8) pd___BIIIJB_V rfl (argsL := [(.ref a608), (.int (3 : Int32)), (.int (4 : Int32)), (.int qk), (.long qw), (.int qt)]) (st := []) rfl rfl (W := 0) (Nat.le_of_eq rfl) (by decide) (by decide) (by decide) (by decide) (allS (Or.inr z_a608) all0) at_350 (pc' := 353) rfl fun T752 h753 v754 X755 K756 Q757 => ?_
      obtain ⟨rfl, A758⟩ := Q757
      have A759 : VA Z h753 a608 .byte ((orec bs0 3 kN qw qt 5).map Value.int) := A758
      show Go p e below _ _ _ _ T752 (mkF m 353 #[.val (.int p0), .val (.long p1), .second, .val (.int p2), .val (.int p3), .val (.int qk), .val (.long qw), .second, .val (.int (0 : Int32)), .val (.int (ofs p0)), .val (.int qle), .val (.int qt), .val (.int (2 : Int32)), .val (.int (0 : Int32)), .val (.int (2 : Int32)), .val (.int (2 : Int32)), .val (.ref a608), .val (.int (3 : Int32)), .unset, .unset, .unset, .unset] [])
      refine gaload B X755 at_353 rfl rfl (pc' := 355) rfl ?_
      refine giload B X755 at_355 rfl (pc' := 357) rfl ?_
      refine giconst B X755 at_357 (v := (5 : Int32)) rfl (pc' := 358) rfl ?_
      refine giload B X755 at_358 rfl (pc' := 360) rfl ?_
      refine glload B X755 at_360 rfl (pc' := 362) rfl ?_
      refine giload B X755 at_362 rfl (pc' := 364) rfl ?_
      refine gcallS B X755 (hw _ (List.mem_of_getElem? (i := 3) rfl)) (hw _ (List.mem_of_getElem? (i := 4) rfl)) (hw _ (List.mem_of_getElem? (i := 5) rfl)) (hw _ (List.mem_of_getElem? (i := 6) rfl)) (by decide) (mt1 l Z a0 hw a608 (3 : Int32) (5 : Int32) qk qw qt (orec bs0 3 kN qw qt 5) 3 5 kN h753 A759 ((own_len ..).trans hL0) (by decide) (by decide) (by decide) (by decide) hk hk11 ht8) pd___BIIIJB_V rfl (argsL := [(.ref a608), (.int (3 : Int32)), (.int (5 : Int32)), (.int qk), (.long qw), (.int qt)]) (st := []) rfl rfl (W := 0) (Nat.le_of_eq rfl) (by decide) (by decide) (by decide) (by decide) (allS (Or.inr z_a608) all0) at_364 (pc' := 367) rfl fun T760 h761 v762 X763 K764 Q765 => ?_
      obtain ⟨rfl, A766⟩ := Q765
      have A767 : VA Z h761 a608 .byte ((orec bs0 3 kN qw qt 6).map Value.int) := A766
      show Go p e below _ _ _ _ T760 (mkF m 367 #[.val (.int p0), .val (.long p1), .second, .val (.int p2), .val (.int p3), .val (.int qk), .val (.long qw), .second, .val (.int (0 : Int32)), .val (.int (ofs p0)), .val (.int qle), .val (.int qt), .val (.int (2 : Int32)), .val (.int (0 : Int32)), .val (.int (2 : Int32)), .val (.int (2 : Int32)), .val (.ref a608), .val (.int (3 : Int32)), .unset, .unset, .unset, .unset] [])
      refine gaload B X763 at_367 rfl rfl (pc' := 369) rfl ?_
      refine giload B X763 at_369 rfl (pc' := 371) rfl ?_
      refine gbipush B X763 at_371 (v := (6 : Int32)) rfl (pc' := 373) rfl ?_
      refine giload B X763 at_373 rfl (pc' := 375) rfl ?_
      refine glload B X763 at_375 rfl (pc' := 377) rfl ?_
      refine giload B X763 at_377 rfl (pc' := 379) rfl ?_
      refine gcallS B X763 (hw _ (List.mem_of_getElem? (i := 3) rfl)) (hw _ (List.mem_of_getElem? (i := 4) rfl)) (hw _ (List.mem_of_getElem? (i := 5) rfl)) (hw _ (List.mem_of_getElem? (i := 6) rfl)) (by decide) (mt1 l Z a0 hw a608 (3 : Int32) (6 : Int32) qk qw qt (orec bs0 3 kN qw qt 6) 3 6 kN h761 A767 ((own_len ..).trans hL0) (by decide) (by decide) (by decide) (by decide) hk hk11 ht8) pd___BIIIJB_V rfl (argsL := [(.ref a608), (.int (3 : Int32)), (.int (6 : Int32)), (.int qk), (.long qw), (.int qt)]) (st := []) rfl rfl (W := 0) (Nat.le_of_eq rfl) (by decide) (by decide) (by decide) (by decide) (allS (Or.inr z_a608) all0) at_379 (pc' := 382) rfl fun T768 h769 v770 X771 K772 Q773 => ?_
      obtain ⟨rfl, A774⟩ := Q773
      have A775 : VA Z h769 a608 .byte ((orec bs0 3 kN qw qt 7).map Value.int) := A774
      show Go p e below _ _ _ _ T768 (mkF m 382 #[.val (.int p0), .val (.long p1), .second, .val (.int p2), .val (.int p3), .val (.int qk), .val (.long qw), .second, .val (.int (0 : Int32)), .val (.int (ofs p0)), .val (.int qle), .val (.int qt), .val (.int (2 : Int32)), .val (.int (0 : Int32)), .val (.int (2 : Int32)), .val (.int (2 : Int32)), .val (.ref a608), .val (.int (3 : Int32)), .unset, .unset, .unset, .unset] [])
      refine gaload B X771 at_382 rfl rfl (pc' := 384) rfl ?_
      refine giload B X771 at_384 rfl (pc' := 386) rfl ?_
      refine gbipush B X771 at_386 (v := (7 : Int32)) rfl (pc' := 388) rfl ?_
      refine giload B X771 at_388 rfl (pc' := 390) rfl ?_
      refine glload B X771 at_390 rfl (pc' := 392) rfl ?_
      refine giload B X771 at_392 rfl (pc' := 394) rfl ?_
      refine gcallS B X771 (hw _ (List.mem_of_getElem? (i := 3) rfl)) (hw _ (List.mem_of_getElem? (i := 4) rfl)) (hw _ (List.mem_of_getElem? (i := 5) rfl)) (hw _ (List.mem_of_getElem? (i := 6) rfl)) (by decide) (mt1 l Z a0 hw a608 (3 : Int32) (7 : Int32) qk qw qt (orec bs0 3 kN qw qt 7) 3 7 kN h769 A775 ((own_len ..).trans hL0) (by decide) (by decide) (by decide) (by decide) hk hk11 ht8) pd___BIIIJB_V rfl (argsL := [(.ref a608), (.int (3 : Int32)), (.int (7 : Int32)), (.int qk), (.long qw), (.int qt)]) (st := []) rfl rfl (W := 0) (Nat.le_of_eq rfl) (by decide) (by decide) (by decide) (by decide) (allS (Or.inr z_a608) all0) at_394 (pc' := 397) rfl fun T776 h777 v778 X779 K780 Q781 => ?_
      obtain ⟨rfl, A782⟩ := Q781
      have A783 : VA Z h777 a608 .byte ((orec bs0 3 kN qw qt 8).map Value.int) := A782
      show Go p e below _ _ _ _ T776 (mkF m 397 #[.val (.int p0), .val (.long p1), .second, .val (.int p2), .val (.int p3), .val (.int qk), .val (.long qw), .second, .val (.int (0 : Int32)), .val (.int (ofs p0)), .val (.int qle), .val (.int qt), .val (.int (2 : Int32)), .val (.int (0 : Int32)), .val (.int (2 : Int32)), .val (.int (2 : Int32)), .val (.ref a608), .val (.int (3 : Int32)), .unset, .unset, .unset, .unset] [])
      refine gaload B X779 at_397 rfl rfl (pc' := 399) rfl ?_
      refine giload B X779 at_399 rfl (pc' := 401) rfl ?_
      refine gbipush B X779 at_401 (v := (8 : Int32)) rfl (pc' := 403) rfl ?_
      refine giload B X779 at_403 rfl (pc' := 405) rfl ?_
      refine glload B X779 at_405 rfl (pc' := 407) rfl ?_
      refine giload B X779 at_407 rfl (pc' := 409) rfl ?_
      refine gcallS B X779 (hw _ (List.mem_of_getElem? (i := 3) rfl)) (hw _ (List.mem_of_getElem? (i := 4) rfl)) (hw _ (List.mem_of_getElem? (i := 5) rfl)) (hw _ (List.mem_of_getElem? (i := 6) rfl)) (by decide) (mt1 l Z a0 hw a608 (3 : Int32) (8 : Int32) qk qw qt (orec bs0 3 kN qw qt 8) 3 8 kN h777 A783 ((own_len ..).trans hL0) (by decide) (by decide) (by decide) (by decide) hk hk11 ht8) pd___BIIIJB_V rfl (argsL := [(.ref a608), (.int (3 : Int32)), (.int (8 : Int32)), (.int qk), (.long qw), (.int qt)]) (st := []) rfl rfl (W := 0) (Nat.le_of_eq rfl) (by decide) (by decide) (by decide) (by decide) (allS (Or.inr z_a608) all0) at_409 (pc' := 412) rfl fun T784 h785 v786 X787 K788 Q789 => ?_
      obtain ⟨rfl, A790⟩ := Q789
      have A791 : VA Z h785 a608 .byte ((orec bs0 3 kN qw qt 9).map Value.int) := A790
      show Go p e below _ _ _ _ T784 (mkF m 412 #[.val (.int p0), .val (.long p1), .second, .val (.int p2), .val (.int p3), .val (.int qk), .val (.long qw), .second, .val (.int (0 : Int32)), .val (.int (ofs p0)), .val (.int qle), .val (.int qt), .val (.int (2 : Int32)), .val (.int (0 : Int32)), .val (.int (2 : Int32)), .val (.int (2 : Int32)), .val (.ref a608), .val (.int (3 : Int32)), .unset, .unset, .unset, .unset] [])
      refine gaload B X787 at_412 rfl rfl (pc' := 414) rfl ?_
      refine giload B X787 at_414 rfl (pc' := 416) rfl ?_
      refine gbipush B X787 at_416 (v := (9 : Int32)) rfl (pc' := 418) rfl ?_
      refine giload B X787 at_418 rfl (pc' := 420) rfl ?_
      refine glload B X787 at_420 rfl (pc' := 422) rfl ?_
      refine giload B X787 at_422 rfl (pc' := 424) rfl ?_
      refine gcallS B X787 (hw _ (List.mem_of_getElem? (i := 3) rfl)) (hw _ (List.mem_of_getElem? (i := 4) rfl)) (hw _ (List.mem_of_getElem? (i := 5) rfl)) (hw _ (List.mem_of_getElem? (i := 6) rfl)) (by decide) (mt1 l Z a0 hw a608 (3 : Int32) (9 : Int32) qk qw qt (orec bs0 3 kN qw qt 9) 3 9 kN h785 A791 ((own_len ..).trans hL0) (by decide) (by decide) (by decide) (by decide) hk hk11 ht8) pd___BIIIJB_V rfl (argsL := [(.ref a608), (.int (3 : Int32)), (.int (9 : Int32)), (.int qk), (.long qw), (.int qt)]) (st := []) rfl rfl (W := 0) (Nat.le_of_eq rfl) (by decide) (by decide) (by decide) (by decide) (allS (Or.inr z_a608) all0) at_424 (pc' := 427) rfl fun T792 h793 v794 X795 K796 Q797 => ?_
      obtain ⟨rfl, A798⟩ := Q797
      have A799 : VA Z h793 a608 .byte ((orec bs0 3 kN qw qt 10).map Value.int) := A798
      show Go p e below _ _ _ _ T792 (mkF m 427 #[.val (.int p0), .val (.long p1), .second, .val (.int p2), .val (.int p3), .val (.int qk), .val (.long qw), .second, .val (.int (0 : Int32)), .val (.int (ofs p0)), .val (.int qle), .val (.int qt), .val (.int (2 : Int32)), .val (.int (0 : Int32)), .val (.int (2 : Int32)), .val (.int (2 : Int32)), .val (.ref a608), .val (.int (3 : Int32)), .unset, .unset, .unset, .unset] [])
      refine gaload B X795 at_427 rfl rfl (pc' := 429) rfl ?_
      refine giload B X795 at_429 rfl (pc' := 431) rfl ?_
      refine gbipush B X795 at_431 (v := (10 : Int32)) rfl (pc' := 433) rfl ?_
      refine giload B X795 at_433 rfl (pc' := 435) rfl ?_
      refine glload B X795 at_435 rfl (pc' := 437) rfl ?_
      refine giload B X795 at_437 rfl (pc' := 439) rfl ?_
      refine gcallS B X795 (hw _ (List.mem_of_getElem? (i := 3) rfl)) (hw _ (List.mem_of_getElem? (i := 4) rfl)) (hw _ (List.mem_of_getElem? (i := 5) rfl)) (hw _ (List.mem_of_getElem? (i := 6) rfl)) (by decide) (mt1 l Z a0 hw a608 (3 : Int32) (10 : Int32) qk qw qt (orec bs0 3 kN qw qt 10) 3 10 kN h793 A799 ((own_len ..).trans hL0) (by decide) (by decide) (by decide) (by decide) hk hk11 ht8) pd___BIIIJB_V rfl (argsL := [(.ref a608), (.int (3 : Int32)), (.int (10 : Int32)), (.int qk), (.long qw), (.int qt)]) (st := []) rfl rfl (W := 0) (Nat.le_of_eq rfl) (by decide) (by decide) (by decide) (by decide) (allS (Or.inr z_a608) all0) at_439 (pc' := 442) rfl fun T800 h801 v802 X803 K804 Q805 => ?_
      obtain ⟨rfl, A806⟩ := Q805
      have A807 : VA Z h801 a608 .byte ((orec bs0 3 kN qw qt 11).map Value.int) := A806
      show Go p e below _ _ _ _ T800 (mkF m 442 #[.val (.int p0), .val (.long p1), .second, .val (.int p2), .val (.int p3), .val (.int qk), .val (.long qw), .second, .val (.int (0 : Int32)), .val (.int (ofs p0)), .val (.int qle), .val (.int qt), .val (.int (2 : Int32)), .val (.int (0 : Int32)), .val (.int (2 : Int32)), .val (.int (2 : Int32)), .val (.ref a608), .val (.int (3 : Int32)), .unset, .unset, .unset, .unset] [])
      refine gaload B X803 at_442 rfl rfl (pc' := 444) rfl ?_
      refine giload B X803 at_444 rfl (pc' := 446) rfl ?_
      refine gbipush B X803 at_446 (v := (11 : Int32)) rfl (pc' := 448) rfl ?_
      refine giload B X803 at_448 rfl (pc' := 450) rfl ?_
      refine glload B X803 at_450 rfl (pc' := 452) rfl ?_
      refine giload B X803 at_452 rfl (pc' := 454) rfl ?_
      refine gcallS B X803 (hw _ (List.mem_of_getElem? (i := 3) rfl)) (hw _ (List.mem_of_getElem? (i := 4) rfl)) (hw _ (List.mem_of_getElem? (i := 5) rfl)) (hw _ (List.mem_of_getElem? (i := 6) rfl)) (by decide) (mt1 l Z a0 hw a608 (3 : Int32) (11 : Int32) qk qw qt (orec bs0 3 kN qw qt 11) 3 11 kN h801 A807 ((own_len ..).trans hL0) (by decide) (by decide) (by decide) (by decide) hk hk11 ht8) pd___BIIIJB_V rfl (argsL := [(.ref a608), (.int (3 : Int32)), (.int (11 : Int32)), (.int qk), (.long qw), (.int qt)]) (st := []) rfl rfl (W := 0) (Nat.le_of_eq rfl) (by decide) (by decide) (by decide) (by decide) (allS (Or.inr z_a608) all0) at_454 (pc' := 457) rfl fun T808 h809 v810 X811 K812 Q813 => ?_
      obtain ⟨rfl, A814⟩ := Q813
      have A815 : VA Z h809 a608 .byte ((orec bs0 3 kN qw qt 12).map Value.int) := A814
      show Go p e below _ _ _ _ T808 (mkF m 457 #[.val (.int p0), .val (.long p1), .second, .val (.int p2), .val (.int p3), .val (.int qk), .val (.long qw), .second, .val (.int (0 : Int32)), .val (.int (ofs p0)), .val (.int qle), .val (.int qt), .val (.int (2 : Int32)), .val (.int (0 : Int32)), .val (.int (2 : Int32)), .val (.int (2 : Int32)), .val (.ref a608), .val (.int (3 : Int32)), .unset, .unset, .unset, .unset] [])
      refine giload B X811 at_457 rfl (pc' := 459) rfl ?_
      have c459_816 : (0 : Int32) = (0 : Int32) := (by decide)
      refine gifN B X811 at_459 ((if0 _ _).trans (teq c459_816).2) (pc' := 462) rfl ?_
      refine giload B X811 at_462 rfl (pc' := 464) rfl ?_
      refine gbipush B X811 at_464 (v := (32 : Int32)) rfl (pc' := 466) rfl ?_
      by_cases c466_817 : qle = (32 : Int32)
      · refine gicN B X811 at_466 (teq c466_817).2 (pc' := 469) rfl ?_
        refine giload B X811 at_469 rfl (pc' := 471) rfl ?_
        by_cases c471_818 : qk = (0 : Int32)
        · refine gifY B X811 (pc' := 481) at_471 ((if0 _ _).trans (teq c471_818).1) (by decide) ?_
          refine gldc2 B X811 (v := (-1 : Int64)) (hw _ (List.mem_of_getElem? (i := 21) rfl)) at_481 (pc' := 484) rfl ?_
          refine glstore B X811 at_484 (Ls' := #[.val (.int p0), .val (.long p1), .second, .val (.int p2), .val (.int p3), .val (.int qk), .val (.long qw), .second, .val (.int (0 : Int32)), .val (.int (ofs p0)), .val (.int qle), .val (.int qt), .val (.int (2 : Int32)), .val (.int (0 : Int32)), .val (.int (2 : Int32)), .val (.int (2 : Int32)), .val (.ref a608), .val (.int (3 : Int32)), .val (.long (-1 : Int64)), .second, .unset, .unset]) rfl (pc' := 486) rfl ?_
          refine ggoto B X811 (pc' := 534) at_486 (by decide) ?_
          have kz : kN = 0 ∧ 3 ≤ 3 := ⟨(own_kz hk).mp c471_818, by decide⟩
          by_cases c45 : qt = 45
          · skip
            refine gaload B X811 at_534 rfl rfl (pc' := 536) rfl ?_
            refine giload B X811 at_536 rfl (pc' := 538) rfl ?_
            have hru := own_run (sN := 3) hL0 (by decide) hk11 hww htn
            refine gcallS B X811 (hw _ (List.mem_of_getElem? (i := 22) rfl)) (hw _ (List.mem_of_getElem? (i := 23) rfl)) (hw _ (List.mem_of_getElem? (i := 24) rfl)) (hw _ (List.mem_of_getElem? (i := 25) rfl)) (by decide) (mt3C1 l Z a0 hw a608 (2 : Int32) (orec bs0 3 kN qw qt 12) h809 A815 2 (by decide) (by decide) ((own_len ..).trans hL0) 4 0 (4 : Int32) (0 : Int32) (3 : Int32) (own_run0' hL0 hb0 kz) (by decide) (by decide) (((own_low hL0 (by decide) 2 (by decide)).trans ha0).trans c466_817) (by decide) (by decide) (own_t45 hru kz c45) (by decide)) pd___BI_J rfl (argsL := [(.ref a608), (.int (2 : Int32))]) (st := []) rfl rfl (W := 0) (Nat.le_of_eq rfl) (by decide) (by decide) (by decide) (by decide) (fun x q => nomatch q) at_538 (pc' := 541) rfl (pureG rfl rfl fun T819 X820 => ?_)
            refine glload B X820 at_541 rfl (pc' := 543) rfl ?_
            refine glcmp B X820 at_543 (pc' := 544) rfl ?_
            have c544_821 : (ores (4 : Int32) (0 : Int32) (1 : Int32) 0 (oacc (orec bs0 3 kN qw qt 12) 4 0)) = (-1 : Int64) := rfl
            refine gifN B X820 at_544 ((if0 _ _).trans (teq (((lw_eq (ores (4 : Int32) (0 : Int32) (1 : Int32) 0 (oacc (orec bs0 3 kN qw qt 12) 4 0)) (-1 : Int64))).mpr c544_821)).2) (pc' := 547) rfl ?_
            refine giconst B X820 at_547 (v := (1 : Int32)) rfl (pc' := 548) rfl ?_
            refine ggoto B X820 (pc' := 552) at_548 (by decide) ?_
            exact gretN B X820 (z' := (1 : Int32)) (by simp) (rfl) at_552 (by decide) (by decide) (rfl)
          · skip
            refine gaload B X811 at_534 rfl rfl (pc' := 536) rfl ?_
            refine giload B X811 at_536 rfl (pc' := 538) rfl ?_
            have hru := own_run (sN := 3) hL0 (by decide) hk11 hww htn
            refine gcallS B X811 (hw _ (List.mem_of_getElem? (i := 22) rfl)) (hw _ (List.mem_of_getElem? (i := 23) rfl)) (hw _ (List.mem_of_getElem? (i := 24) rfl)) (hw _ (List.mem_of_getElem? (i := 25) rfl)) (by decide) (mt3C0 l Z a0 hw a608 (2 : Int32) (orec bs0 3 kN qw qt 12) h809 A815 2 (by decide) (by decide) ((own_len ..).trans hL0) 3 kN (3 : Int32) qk hru.2.2 (by decide) hk (((own_low hL0 (by decide) 2 (by decide)).trans ha0).trans c466_817) (by decide) (by decide) (own_tn45 hru kz c45)) pd___BI_J rfl (argsL := [(.ref a608), (.int (2 : Int32))]) (st := []) rfl rfl (W := 0) (Nat.le_of_eq rfl) (by decide) (by decide) (by decide) (by decide) (fun x q => nomatch q) at_538 (pc' := 541) rfl (pureG rfl rfl fun T822 X823 => ?_)
            refine glload B X823 at_541 rfl (pc' := 543) rfl ?_
            refine glcmp B X823 at_543 (pc' := 544) rfl ?_
            have c544_824 : (ores (3 : Int32) qk (0 : Int32) kN (oacc (orec bs0 3 kN qw qt 12) 3 kN)) = (-1 : Int64) := if_pos (Or.inl kz.1)
            refine gifN B X823 at_544 ((if0 _ _).trans (teq (((lw_eq (ores (3 : Int32) qk (0 : Int32) kN (oacc (orec bs0 3 kN qw qt 12) 3 kN)) (-1 : Int64))).mpr c544_824)).2) (pc' := 547) rfl ?_
            refine giconst B X823 at_547 (v := (1 : Int32)) rfl (pc' := 548) rfl ?_
            refine ggoto B X823 (pc' := 552) at_548 (by decide) ?_
            exact gretN B X823 (z' := (1 : Int32)) (by simp) (rfl) at_552 (by decide) (by decide) (rfl)
        · refine gifN B X811 at_471 ((if0 _ _).trans (feq c471_818).1) (pc' := 474) rfl ?_
          refine giload B X811 at_474 rfl (pc' := 476) rfl ?_
          refine gbipush B X811 at_476 (v := (9 : Int32)) rfl (pc' := 478) rfl ?_
          by_cases c478_825 : (9 : Int32) < qk
          · refine gicN B X811 at_478 (tlt c478_825).2.2.2 (pc' := 481) rfl ?_
            refine gldc2 B X811 (v := (-1 : Int64)) (hw _ (List.mem_of_getElem? (i := 21) rfl)) at_481 (pc' := 484) rfl ?_
            refine glstore B X811 at_484 (Ls' := #[.val (.int p0), .val (.long p1), .second, .val (.int p2), .val (.int p3), .val (.int qk), .val (.long qw), .second, .val (.int (0 : Int32)), .val (.int (ofs p0)), .val (.int qle), .val (.int qt), .val (.int (2 : Int32)), .val (.int (0 : Int32)), .val (.int (2 : Int32)), .val (.int (2 : Int32)), .val (.ref a608), .val (.int (3 : Int32)), .val (.long (-1 : Int64)), .second, .unset, .unset]) rfl (pc' := 486) rfl ?_
            refine ggoto B X811 (pc' := 534) at_486 (by decide) ?_
            have hkp : 0 < kN := Nat.pos_of_ne_zero (mt (own_kz hk).mpr c471_818)
            refine gaload B X811 at_534 rfl rfl (pc' := 536) rfl ?_
            refine giload B X811 at_536 rfl (pc' := 538) rfl ?_
            have hru := own_run (sN := 3) hL0 (by decide) hk11 hww htn
            refine gcallS B X811 (hw _ (List.mem_of_getElem? (i := 22) rfl)) (hw _ (List.mem_of_getElem? (i := 23) rfl)) (hw _ (List.mem_of_getElem? (i := 24) rfl)) (hw _ (List.mem_of_getElem? (i := 25) rfl)) (by decide) (mt3C0 l Z a0 hw a608 (2 : Int32) (orec bs0 3 kN qw qt 12) h809 A815 2 (by decide) (by decide) ((own_len ..).trans hL0) 3 kN (3 : Int32) qk hru.2.2 (by decide) hk (((own_low hL0 (by decide) 2 (by decide)).trans ha0).trans c466_817) (by decide) (by decide) (own_no45 hru.2.2 hkp)) pd___BI_J rfl (argsL := [(.ref a608), (.int (2 : Int32))]) (st := []) rfl rfl (W := 0) (Nat.le_of_eq rfl) (by decide) (by decide) (by decide) (by decide) (fun x q => nomatch q) at_538 (pc' := 541) rfl (pureG rfl rfl fun T826 X827 => ?_)
            refine glload B X827 at_541 rfl (pc' := 543) rfl ?_
            refine glcmp B X827 at_543 (pc' := 544) rfl ?_
            have c544_828 : (ores (3 : Int32) qk (0 : Int32) kN (oacc (orec bs0 3 kN qw qt 12) 3 kN)) = (-1 : Int64) := if_pos (Or.inr ((own_k9 hk).mp c478_825))
            refine gifN B X827 at_544 ((if0 _ _).trans (teq (((lw_eq (ores (3 : Int32) qk (0 : Int32) kN (oacc (orec bs0 3 kN qw qt 12) 3 kN)) (-1 : Int64))).mpr c544_828)).2) (pc' := 547) rfl ?_
            refine giconst B X827 at_547 (v := (1 : Int32)) rfl (pc' := 548) rfl ?_
            refine ggoto B X827 (pc' := 552) at_548 (by decide) ?_
            exact gretN B X827 (z' := (1 : Int32)) (by simp) (rfl) at_552 (by decide) (by decide) (rfl)
          · refine gicY B X811 (pc' := 489) at_478 (flt c478_825).2.2.2 (by decide) ?_
            refine glload B X811 at_489 rfl (pc' := 491) rfl ?_
            refine giload B X811 at_491 rfl (pc' := 493) rfl ?_
            have hk9 := mt (own_k9 hk).mpr c478_825
            refine gcallS B X811 (hw _ (List.mem_of_getElem? (i := 7) rfl)) (hw _ (List.mem_of_getElem? (i := 8) rfl)) (hw _ (List.mem_of_getElem? (i := 5) rfl)) (hw _ (List.mem_of_getElem? (i := 9) rfl)) (by decide) (mt2 l Z a0 hw qk kN h809 hk (by omega)) pd__I_J rfl (argsL := [(.int qk)]) (st := [(.long qw)]) rfl rfl (W := 2) (Nat.le_of_eq rfl) (by decide) (by decide) (by decide) (by decide) (fun x q => nomatch q) at_493 (pc' := 496) rfl fun T829 h830 v831 X832 K833 Q834 => ?_
            have F835 := A815.keep K833 nin0
            obtain rfl := Q834
            show Go p e below _ _ _ _ T829 (mkF m 496 #[.val (.int p0), .val (.long p1), .second, .val (.int p2), .val (.int p3), .val (.int qk), .val (.long qw), .second, .val (.int (0 : Int32)), .val (.int (ofs p0)), .val (.int qle), .val (.int qt), .val (.int (2 : Int32)), .val (.int (0 : Int32)), .val (.int (2 : Int32)), .val (.int (2 : Int32)), .val (.ref a608), .val (.int (3 : Int32)), .unset, .unset, .unset, .unset] [(.long (opow kN)), (.long qw)])
            refine glrem B X832 at_496 (own_p10 ⟨kN, by omega⟩).2.1 rfl (pc' := 497) rfl ?_
            refine gl2i B X832 at_497 rfl (pc' := 498) rfl ?_
            refine gistore B X832 at_498 (Ls' := #[.val (.int p0), .val (.long p1), .second, .val (.int p2), .val (.int p3), .val (.int qk), .val (.long qw), .second, .val (.int (0 : Int32)), .val (.int (ofs p0)), .val (.int qle), .val (.int qt), .val (.int (2 : Int32)), .val (.int (0 : Int32)), .val (.int (2 : Int32)), .val (.int (2 : Int32)), .val (.ref a608), .val (.int (3 : Int32)), .unset, .unset, .val (.int (qw % (opow kN)).toInt32), .unset]) rfl (pc' := 500) rfl ?_
            refine giload B X832 at_500 rfl (pc' := 502) rfl ?_
            have c502_836 : (0 : Int32) = (0 : Int32) := (by decide)
            refine gifY B X832 (pc' := 511) at_502 ((if0 _ _).trans (teq c502_836).1) (by decide) ?_
            refine giload B X832 at_511 rfl (pc' := 513) rfl ?_
            refine gistore B X832 at_513 (Ls' := #[.val (.int p0), .val (.long p1), .second, .val (.int p2), .val (.int p3), .val (.int qk), .val (.long qw), .second, .val (.int (0 : Int32)), .val (.int (ofs p0)), .val (.int qle), .val (.int qt), .val (.int (2 : Int32)), .val (.int (0 : Int32)), .val (.int (2 : Int32)), .val (.int (2 : Int32)), .val (.ref a608), .val (.int (3 : Int32)), .unset, .unset, .val (.int (qw % (opow kN)).toInt32), .val (.int (qw % (opow kN)).toInt32)]) rfl (pc' := 515) rfl ?_
            refine giload B X832 at_515 rfl (pc' := 517) rfl ?_
            refine giload B X832 at_517 rfl (pc' := 519) rfl ?_
            refine giadd B X832 at_519 rfl (pc' := 520) rfl ?_
            refine gi2l B X832 at_520 rfl (pc' := 521) rfl ?_
            refine gbipush B X832 at_521 (v := (32 : Int32)) rfl (pc' := 523) rfl ?_
            refine glshl B X832 at_523 rfl (pc' := 524) rfl ?_
            refine giload B X832 at_524 rfl (pc' := 526) rfl ?_
            refine gi2l B X832 at_526 rfl (pc' := 527) rfl ?_
            refine gldc2 B X832 (v := (4294967295 : Int64)) (hw _ (List.mem_of_getElem? (i := 28) rfl)) at_527 (pc' := 530) rfl ?_
            refine gland B X832 at_530 rfl (pc' := 531) rfl ?_
            refine glor B X832 at_531 rfl (pc' := 532) rfl ?_
            refine glstore B X832 at_532 (Ls' := #[.val (.int p0), .val (.long p1), .second, .val (.int p2), .val (.int p3), .val (.int qk), .val (.long qw), .second, .val (.int (0 : Int32)), .val (.int (ofs p0)), .val (.int qle), .val (.int qt), .val (.int (2 : Int32)), .val (.int (0 : Int32)), .val (.int (2 : Int32)), .val (.int (2 : Int32)), .val (.ref a608), .val (.int (3 : Int32)), .val (.long ((((3 : Int32) + qk).toInt64 <<< ((32 : Int32) &&& 0x3f).toInt64) ||| ((qw % (opow kN)).toInt32.toInt64 &&& (4294967295 : Int64)))), .second, .val (.int (qw % (opow kN)).toInt32), .val (.int (qw % (opow kN)).toInt32)]) rfl (pc' := 534) rfl ?_
            have hkp : 0 < kN := Nat.pos_of_ne_zero (mt (own_kz hk).mpr c471_818)
            refine gaload B X832 at_534 rfl rfl (pc' := 536) rfl ?_
            refine giload B X832 at_536 rfl (pc' := 538) rfl ?_
            have hru := own_run (sN := 3) hL0 (by decide) hk11 hww htn
            refine gcallS B X832 (hw _ (List.mem_of_getElem? (i := 22) rfl)) (hw _ (List.mem_of_getElem? (i := 23) rfl)) (hw _ (List.mem_of_getElem? (i := 24) rfl)) (hw _ (List.mem_of_getElem? (i := 25) rfl)) (by decide) (mt3C0 l Z a0 hw a608 (2 : Int32) (orec bs0 3 kN qw qt 12) h830 F835 2 (by decide) (by decide) ((own_len ..).trans hL0) 3 kN (3 : Int32) qk hru.2.2 (by decide) hk (((own_low hL0 (by decide) 2 (by decide)).trans ha0).trans c466_817) (by decide) (by decide) (own_no45 hru.2.2 hkp)) pd___BI_J rfl (argsL := [(.ref a608), (.int (2 : Int32))]) (st := []) rfl rfl (W := 0) (Nat.le_of_eq rfl) (by decide) (by decide) (by decide) (by decide) (fun x q => nomatch q) at_538 (pc' := 541) rfl (pureG rfl rfl fun T837 X838 => ?_)
            refine glload B X838 at_541 rfl (pc' := 543) rfl ?_
            refine glcmp B X838 at_543 (pc' := 544) rfl ?_
            have c544_839 : (ores (3 : Int32) qk (0 : Int32) kN (oacc (orec bs0 3 kN qw qt 12) 3 kN)) = ((((3 : Int32) + qk).toInt64 <<< ((32 : Int32) &&& 0x3f).toInt64) ||| ((qw % (opow kN)).toInt32.toInt64 &&& (4294967295 : Int64))) := by have k9 := mt (own_k9 hk).mpr c478_825; rw [ores, if_neg (by omega), own_val hww (by omega) hru.1, if_pos rfl]
            refine gifN B X838 at_544 ((if0 _ _).trans (teq (((lw_eq (ores (3 : Int32) qk (0 : Int32) kN (oacc (orec bs0 3 kN qw qt 12) 3 kN)) ((((3 : Int32) + qk).toInt64 <<< ((32 : Int32) &&& 0x3f).toInt64) ||| ((qw % (opow kN)).toInt32.toInt64 &&& (4294967295 : Int64))))).mpr c544_839)).2) (pc' := 547) rfl ?_
            refine giconst B X838 at_547 (v := (1 : Int32)) rfl (pc' := 548) rfl ?_
            refine ggoto B X838 (pc' := 552) at_548 (by decide) ?_
            exact gretN B X838 (z' := (1 : Int32)) (by simp) (rfl) at_552 (by decide) (by decide) (rfl)
      · refine gicY B X811 (pc' := 481) at_466 (feq c466_817).2 (by decide) ?_
        refine gldc2 B X811 (v := (-1 : Int64)) (hw _ (List.mem_of_getElem? (i := 21) rfl)) at_481 (pc' := 484) rfl ?_
        refine glstore B X811 at_484 (Ls' := #[.val (.int p0), .val (.long p1), .second, .val (.int p2), .val (.int p3), .val (.int qk), .val (.long qw), .second, .val (.int (0 : Int32)), .val (.int (ofs p0)), .val (.int qle), .val (.int qt), .val (.int (2 : Int32)), .val (.int (0 : Int32)), .val (.int (2 : Int32)), .val (.int (2 : Int32)), .val (.ref a608), .val (.int (3 : Int32)), .val (.long (-1 : Int64)), .second, .unset, .unset]) rfl (pc' := 486) rfl ?_
        refine ggoto B X811 (pc' := 534) at_486 (by decide) ?_
        refine gaload B X811 at_534 rfl rfl (pc' := 536) rfl ?_
        refine giload B X811 at_536 rfl (pc' := 538) rfl ?_
        refine gcallS B X811 (hw _ (List.mem_of_getElem? (i := 22) rfl)) (hw _ (List.mem_of_getElem? (i := 23) rfl)) (hw _ (List.mem_of_getElem? (i := 24) rfl)) (hw _ (List.mem_of_getElem? (i := 25) rfl)) (by decide) (mt3B l Z a0 hw a608 (2 : Int32) (orec bs0 3 kN qw qt 12) h809 A815 2 (by decide) (by decide) ((own_len ..).trans hL0) (fun q => c466_817 (((own_low hL0 (by decide) 2 (by decide)).trans ha0).symm.trans q))) pd___BI_J rfl (argsL := [(.ref a608), (.int (2 : Int32))]) (st := []) rfl rfl (W := 0) (Nat.le_of_eq rfl) (by decide) (by decide) (by decide) (by decide) (fun x q => nomatch q) at_538 (pc' := 541) rfl (pureG rfl rfl fun T840 X841 => ?_)
        refine glload B X841 at_541 rfl (pc' := 543) rfl ?_
        refine glcmp B X841 at_543 (pc' := 544) rfl ?_
        have c544_842 : (-1 : Int64) = (-1 : Int64) := rfl
        refine gifN B X841 at_544 ((if0 _ _).trans (teq (((lw_eq (-1 : Int64) (-1 : Int64))).mpr c544_842)).2) (pc' := 547) rfl ?_
        refine giconst B X841 at_547 (v := (1 : Int32)) rfl (pc' := 548) rfl ?_
        refine ggoto B X841 (pc' := 552) at_548 (by decide) ?_
        exact gretN B X841 (z' := (1 : Int32)) (by simp) (rfl) at_552 (by decide) (by decide) (rfl)
    · rw [e_b]
      refine gistore B X122 at_88 (Ls' := #[.val (.int p0), .val (.long p1), .second, .val (.int p2), .val (.int p3), .val (.int qk), .val (.long qw), .second, .val (.int (0 : Int32)), .val (.int (ofs p0)), .val (.int qle), .val (.int qt), .val (.int (3 : Int32)), .unset, .unset, .unset, .unset, .unset, .unset, .unset, .unset, .unset]) rfl (pc' := 90) rfl ?_
      refine giload B X122 at_90 rfl (pc' := 92) rfl ?_
      refine giconst B X122 at_92 (v := (3 : Int32)) rfl (pc' := 93) rfl ?_
      have c93_843 : (3 : Int32) = (3 : Int32) := (by decide)
      refine gicN B X122 at_93 (teq c93_843).2 (pc' := 96) rfl ?_
      refine giconst B X122 at_96 (v := (1 : Int32)) rfl (pc' := 97) rfl ?_
      refine ggoto B X122 (pc' := 101) at_97 (by decide) ?_
      refine gistore B X122 at_101 (Ls' := #[.val (.int p0), .val (.long p1), .second, .val (.int p2), .val (.int p3), .val (.int qk), .val (.long qw), .second, .val (.int (0 : Int32)), .val (.int (ofs p0)), .val (.int qle), .val (.int qt), .val (.int (3 : Int32)), .val (.int (1 : Int32)), .unset, .unset, .unset, .unset, .unset, .unset, .unset, .unset]) rfl (pc' := 103) rfl ?_
      refine giload B X122 at_103 rfl (pc' := 105) rfl ?_
      have c105_844 : ¬ ((1 : Int32) = (0 : Int32)) := (by decide)
      refine gifN B X122 at_105 ((if0 _ _).trans (feq c105_844).1) (pc' := 108) rfl ?_
      refine giconst B X122 at_108 (v := (0 : Int32)) rfl (pc' := 109) rfl ?_
      refine ggoto B X122 (pc' := 114) at_109 (by decide) ?_
      refine gistore B X122 at_114 (Ls' := #[.val (.int p0), .val (.long p1), .second, .val (.int p2), .val (.int p3), .val (.int qk), .val (.long qw), .second, .val (.int (0 : Int32)), .val (.int (ofs p0)), .val (.int qle), .val (.int qt), .val (.int (3 : Int32)), .val (.int (1 : Int32)), .val (.int (0 : Int32)), .unset, .unset, .unset, .unset, .unset, .unset, .unset]) rfl (pc' := 116) rfl ?_
      refine giload B X122 at_116 rfl (pc' := 118) rfl ?_
      have c118_845 : ¬ ((1 : Int32) = (0 : Int32)) := (by decide)
      refine gifN B X122 at_118 ((if0 _ _).trans (feq c118_845).1) (pc' := 121) rfl ?_
      refine giloadN B X122 at_121 rfl (pc' := 122) rfl ?_
      refine gldc B X122 (v := (-2147483648 : Int32)) (hw _ (List.mem_of_getElem? (i := 27) rfl)) at_122 (pc' := 124) rfl ?_
      refine gior B X122 at_124 rfl (pc' := 125) rfl ?_
      refine ggoto B X122 (pc' := 130) at_125 (by decide) ?_
      refine gistore B X122 at_130 (Ls' := #[.val (.int p0), .val (.long p1), .second, .val (.int p2), .val (.int p3), .val (.int qk), .val (.long qw), .second, .val (.int (0 : Int32)), .val (.int (ofs p0)), .val (.int qle), .val (.int qt), .val (.int (3 : Int32)), .val (.int (1 : Int32)), .val (.int (0 : Int32)), .val (.int (p0 ||| (-2147483648 : Int32))), .unset, .unset, .unset, .unset, .unset, .unset]) rfl (pc' := 132) rfl ?_
      refine gbipush B X122 at_132 (v := (18 : Int32)) rfl (pc' := 134) rfl ?_
      refine gnewarray B X122 (cap := 18) (vs := [(.int (0 : Int32)), (.int (0 : Int32)), (.int (0 : Int32)), (.int (0 : Int32)), (.int (0 : Int32)), (.int (0 : Int32)), (.int (0 : Int32)), (.int (0 : Int32)), (.int (0 : Int32)), (.int (0 : Int32)), (.int (0 : Int32)), (.int (0 : Int32)), (.int (0 : Int32)), (.int (0 : Int32)), (.int (0 : Int32)), (.int (0 : Int32)), (.int (0 : Int32)), (.int (0 : Int32))]) (ty := .byte) rfl rfl (hw _ (List.mem_of_getElem? (i := 2) rfl)) (by decide) (by decide) (by decide) (by decide) (by decide) at_134 (pc' := 136) rfl fun T846 h847 a848 X849 q850 E851 z_a848 A852 => ?_
      refine gdup B X849 at_136 rfl (pc' := 137) rfl ?_
      refine giconst B X849 at_137 (v := (0 : Int32)) rfl (pc' := 138) rfl ?_
      refine gbipush B X849 at_138 (v := (10 : Int32)) rfl (pc' := 140) rfl ?_
      refine gbastore B X849 (i := 0) (n := 18) A852 rfl (by decide) rfl (vs' := [(.int (10 : Int32)), (.int (0 : Int32)), (.int (0 : Int32)), (.int (0 : Int32)), (.int (0 : Int32)), (.int (0 : Int32)), (.int (0 : Int32)), (.int (0 : Int32)), (.int (0 : Int32)), (.int (0 : Int32)), (.int (0 : Int32)), (.int (0 : Int32)), (.int (0 : Int32)), (.int (0 : Int32)), (.int (0 : Int32)), (.int (0 : Int32)), (.int (0 : Int32)), (.int (0 : Int32))]) rfl (Or.inr z_a848) at_140 (pc' := 141) rfl fun T853 h854 X855 W856 A857 => ?_
      refine gdup B X855 at_141 rfl (pc' := 142) rfl ?_
      refine giconst B X855 at_142 (v := (1 : Int32)) rfl (pc' := 143) rfl ?_
      refine gbipush B X855 at_143 (v := (10 : Int32)) rfl (pc' := 145) rfl ?_
      refine gbastore B X855 (i := 1) (n := 18) A857 rfl (by decide) rfl (vs' := [(.int (10 : Int32)), (.int (10 : Int32)), (.int (0 : Int32)), (.int (0 : Int32)), (.int (0 : Int32)), (.int (0 : Int32)), (.int (0 : Int32)), (.int (0 : Int32)), (.int (0 : Int32)), (.int (0 : Int32)), (.int (0 : Int32)), (.int (0 : Int32)), (.int (0 : Int32)), (.int (0 : Int32)), (.int (0 : Int32)), (.int (0 : Int32)), (.int (0 : Int32)), (.int (0 : Int32))]) rfl (Or.inr z_a848) at_145 (pc' := 146) rfl fun T858 h859 X860 W861 A862 => ?_
      refine gdup B X860 at_146 rfl (pc' := 147) rfl ?_
      refine giconst B X860 at_147 (v := (2 : Int32)) rfl (pc' := 148) rfl ?_
      refine gbipush B X860 at_148 (v := (10 : Int32)) rfl (pc' := 150) rfl ?_
      refine gbastore B X860 (i := 2) (n := 18) A862 rfl (by decide) rfl (vs' := [(.int (10 : Int32)), (.int (10 : Int32)), (.int (10 : Int32)), (.int (0 : Int32)), (.int (0 : Int32)), (.int (0 : Int32)), (.int (0 : Int32)), (.int (0 : Int32)), (.int (0 : Int32)), (.int (0 : Int32)), (.int (0 : Int32)), (.int (0 : Int32)), (.int (0 : Int32)), (.int (0 : Int32)), (.int (0 : Int32)), (.int (0 : Int32)), (.int (0 : Int32)), (.int (0 : Int32))]) rfl (Or.inr z_a848) at_150 (pc' := 151) rfl fun T863 h864 X865 W866 A867 => ?_
      refine gdup B X865 at_151 rfl (pc' := 152) rfl ?_
      refine giconst B X865 at_152 (v := (3 : Int32)) rfl (pc' := 153) rfl ?_
      refine gbipush B X865 at_153 (v := (10 : Int32)) rfl (pc' := 155) rfl ?_
      refine gbastore B X865 (i := 3) (n := 18) A867 rfl (by decide) rfl (vs' := [(.int (10 : Int32)), (.int (10 : Int32)), (.int (10 : Int32)), (.int (10 : Int32)), (.int (0 : Int32)), (.int (0 : Int32)), (.int (0 : Int32)), (.int (0 : Int32)), (.int (0 : Int32)), (.int (0 : Int32)), (.int (0 : Int32)), (.int (0 : Int32)), (.int (0 : Int32)), (.int (0 : Int32)), (.int (0 : Int32)), (.int (0 : Int32)), (.int (0 : Int32)), (.int (0 : Int32))]) rfl (Or.inr z_a848) at_155 (pc' := 156) rfl fun T868 h869 X870 W871 A872 => ?_
      refine gdup B X870 at_156 rfl (pc' := 157) rfl ?_
      refine giconst B X870 at_157 (v := (4 : Int32)) rfl (pc' := 158) rfl ?_
      refine gbipush B X870 at_158 (v := (10 : Int32)) rfl (pc' := 160) rfl ?_
      refine gbastore B X870 (i := 4) (n := 18) A872 rfl (by decide) rfl (vs' := [(.int (10 : Int32)), (.int (10 : Int32)), (.int (10 : Int32)), (.int (10 : Int32)), (.int (10 : Int32)), (.int (0 : Int32)), (.int (0 : Int32)), (.int (0 : Int32)), (.int (0 : Int32)), (.int (0 : Int32)), (.int (0 : Int32)), (.int (0 : Int32)), (.int (0 : Int32)), (.int (0 : Int32)), (.int (0 : Int32)), (.int (0 : Int32)), (.int (0 : Int32)), (.int (0 : Int32))]) rfl (Or.inr z_a848) at_160 (pc' := 161) rfl fun T873 h874 X875 W876 A877 => ?_
      refine gdup B X875 at_161 rfl (pc' := 162) rfl ?_
      refine giconst B X875 at_162 (v := (5 : Int32)) rfl (pc' := 163) rfl ?_
      refine gbipush B X875 at_163 (v := (10 : Int32)) rfl (pc' := 165) rfl ?_
      refine gbastore B X875 (i := 5) (n := 18) A877 rfl (by decide) rfl (vs' := [(.int (10 : Int32)), (.int (10 : Int32)), (.int (10 : Int32)), (.int (10 : Int32)), (.int (10 : Int32)), (.int (10 : Int32)), (.int (0 : Int32)), (.int (0 : Int32)), (.int (0 : Int32)), (.int (0 : Int32)), (.int (0 : Int32)), (.int (0 : Int32)), (.int (0 : Int32)), (.int (0 : Int32)), (.int (0 : Int32)), (.int (0 : Int32)), (.int (0 : Int32)), (.int (0 : Int32))]) rfl (Or.inr z_a848) at_165 (pc' := 166) rfl fun T878 h879 X880 W881 A882 => ?_
      refine gdup B X880 at_166 rfl (pc' := 167) rfl ?_
      refine gbipush B X880 at_167 (v := (6 : Int32)) rfl (pc' := 169) rfl ?_
      refine gbipush B X880 at_169 (v := (10 : Int32)) rfl (pc' := 171) rfl ?_
      refine gbastore B X880 (i := 6) (n := 18) A882 rfl (by decide) rfl (vs' := [(.int (10 : Int32)), (.int (10 : Int32)), (.int (10 : Int32)), (.int (10 : Int32)), (.int (10 : Int32)), (.int (10 : Int32)), (.int (10 : Int32)), (.int (0 : Int32)), (.int (0 : Int32)), (.int (0 : Int32)), (.int (0 : Int32)), (.int (0 : Int32)), (.int (0 : Int32)), (.int (0 : Int32)), (.int (0 : Int32)), (.int (0 : Int32)), (.int (0 : Int32)), (.int (0 : Int32))]) rfl (Or.inr z_a848) at_171 (pc' := 172) rfl fun T883 h884 X885 W886 A887 => ?_
      refine gdup B X885 at_172 rfl (pc' := 173) rfl ?_
      refine gbipush B X885 at_173 (v := (7 : Int32)) rfl (pc' := 175) rfl ?_
      refine gbipush B X885 at_175 (v := (10 : Int32)) rfl (pc' := 177) rfl ?_
      refine gbastore B X885 (i := 7) (n := 18) A887 rfl (by decide) rfl (vs' := [(.int (10 : Int32)), (.int (10 : Int32)), (.int (10 : Int32)), (.int (10 : Int32)), (.int (10 : Int32)), (.int (10 : Int32)), (.int (10 : Int32)), (.int (10 : Int32)), (.int (0 : Int32)), (.int (0 : Int32)), (.int (0 : Int32)), (.int (0 : Int32)), (.int (0 : Int32)), (.int (0 : Int32)), (.int (0 : Int32)), (.int (0 : Int32)), (.int (0 : Int32)), (.int (0 : Int32))]) rfl (Or.inr z_a848) at_177 (pc' := 178) rfl fun T888 h889 X890 W891 A892 => ?_
      refine gdup B X890 at_178 rfl (pc' := 179) rfl ?_
      refine gbipush B X890 at_179 (v := (8 : Int32)) rfl (pc' := 181) rfl ?_
      refine gbipush B X890 at_181 (v := (10 : Int32)) rfl (pc' := 183) rfl ?_
      refine gbastore B X890 (i := 8) (n := 18) A892 rfl (by decide) rfl (vs' := [(.int (10 : Int32)), (.int (10 : Int32)), (.int (10 : Int32)), (.int (10 : Int32)), (.int (10 : Int32)), (.int (10 : Int32)), (.int (10 : Int32)), (.int (10 : Int32)), (.int (10 : Int32)), (.int (0 : Int32)), (.int (0 : Int32)), (.int (0 : Int32)), (.int (0 : Int32)), (.int (0 : Int32)), (.int (0 : Int32)), (.int (0 : Int32)), (.int (0 : Int32)), (.int (0 : Int32))]) rfl (Or.inr z_a848) at_183 (pc' := 184) rfl fun T893 h894 X895 W896 A897 => ?_
      refine gdup B X895 at_184 rfl (pc' := 185) rfl ?_
      refine gbipush B X895 at_185 (v := (9 : Int32)) rfl (pc' := 187) rfl ?_
      refine gbipush B X895 at_187 (v := (10 : Int32)) rfl (pc' := 189) rfl ?_
      refine gbastore B X895 (i := 9) (n := 18) A897 rfl (by decide) rfl (vs' := [(.int (10 : Int32)), (.int (10 : Int32)), (.int (10 : Int32)), (.int (10 : Int32)), (.int (10 : Int32)), (.int (10 : Int32)), (.int (10 : Int32)), (.int (10 : Int32)), (.int (10 : Int32)), (.int (10 : Int32)), (.int (0 : Int32)), (.int (0 : Int32)), (.int (0 : Int32)), (.int (0 : Int32)), (.int (0 : Int32)), (.int (0 : Int32)), (.int (0 : Int32)), (.int (0 : Int32))]) rfl (Or.inr z_a848) at_189 (pc' := 190) rfl fun T898 h899 X900 W901 A902 => ?_
      refine gdup B X900 at_190 rfl (pc' := 191) rfl ?_
      refine gbipush B X900 at_191 (v := (10 : Int32)) rfl (pc' := 193) rfl ?_
      refine gbipush B X900 at_193 (v := (10 : Int32)) rfl (pc' := 195) rfl ?_
      refine gbastore B X900 (i := 10) (n := 18) A902 rfl (by decide) rfl (vs' := [(.int (10 : Int32)), (.int (10 : Int32)), (.int (10 : Int32)), (.int (10 : Int32)), (.int (10 : Int32)), (.int (10 : Int32)), (.int (10 : Int32)), (.int (10 : Int32)), (.int (10 : Int32)), (.int (10 : Int32)), (.int (10 : Int32)), (.int (0 : Int32)), (.int (0 : Int32)), (.int (0 : Int32)), (.int (0 : Int32)), (.int (0 : Int32)), (.int (0 : Int32)), (.int (0 : Int32))]) rfl (Or.inr z_a848) at_195 (pc' := 196) rfl fun T903 h904 X905 W906 A907 => ?_
      refine gdup B X905 at_196 rfl (pc' := 197) rfl ?_
      refine gbipush B X905 at_197 (v := (11 : Int32)) rfl (pc' := 199) rfl ?_
      refine gbipush B X905 at_199 (v := (10 : Int32)) rfl (pc' := 201) rfl ?_
      refine gbastore B X905 (i := 11) (n := 18) A907 rfl (by decide) rfl (vs' := [(.int (10 : Int32)), (.int (10 : Int32)), (.int (10 : Int32)), (.int (10 : Int32)), (.int (10 : Int32)), (.int (10 : Int32)), (.int (10 : Int32)), (.int (10 : Int32)), (.int (10 : Int32)), (.int (10 : Int32)), (.int (10 : Int32)), (.int (10 : Int32)), (.int (0 : Int32)), (.int (0 : Int32)), (.int (0 : Int32)), (.int (0 : Int32)), (.int (0 : Int32)), (.int (0 : Int32))]) rfl (Or.inr z_a848) at_201 (pc' := 202) rfl fun T908 h909 X910 W911 A912 => ?_
      refine gdup B X910 at_202 rfl (pc' := 203) rfl ?_
      refine gbipush B X910 at_203 (v := (12 : Int32)) rfl (pc' := 205) rfl ?_
      refine gbipush B X910 at_205 (v := (10 : Int32)) rfl (pc' := 207) rfl ?_
      refine gbastore B X910 (i := 12) (n := 18) A912 rfl (by decide) rfl (vs' := [(.int (10 : Int32)), (.int (10 : Int32)), (.int (10 : Int32)), (.int (10 : Int32)), (.int (10 : Int32)), (.int (10 : Int32)), (.int (10 : Int32)), (.int (10 : Int32)), (.int (10 : Int32)), (.int (10 : Int32)), (.int (10 : Int32)), (.int (10 : Int32)), (.int (10 : Int32)), (.int (0 : Int32)), (.int (0 : Int32)), (.int (0 : Int32)), (.int (0 : Int32)), (.int (0 : Int32))]) rfl (Or.inr z_a848) at_207 (pc' := 208) rfl fun T913 h914 X915 W916 A917 => ?_
      refine gdup B X915 at_208 rfl (pc' := 209) rfl ?_
      refine gbipush B X915 at_209 (v := (13 : Int32)) rfl (pc' := 211) rfl ?_
      refine gbipush B X915 at_211 (v := (10 : Int32)) rfl (pc' := 213) rfl ?_
      refine gbastore B X915 (i := 13) (n := 18) A917 rfl (by decide) rfl (vs' := [(.int (10 : Int32)), (.int (10 : Int32)), (.int (10 : Int32)), (.int (10 : Int32)), (.int (10 : Int32)), (.int (10 : Int32)), (.int (10 : Int32)), (.int (10 : Int32)), (.int (10 : Int32)), (.int (10 : Int32)), (.int (10 : Int32)), (.int (10 : Int32)), (.int (10 : Int32)), (.int (10 : Int32)), (.int (0 : Int32)), (.int (0 : Int32)), (.int (0 : Int32)), (.int (0 : Int32))]) rfl (Or.inr z_a848) at_213 (pc' := 214) rfl fun T918 h919 X920 W921 A922 => ?_
      refine gdup B X920 at_214 rfl (pc' := 215) rfl ?_
      refine gbipush B X920 at_215 (v := (14 : Int32)) rfl (pc' := 217) rfl ?_
      refine gbipush B X920 at_217 (v := (10 : Int32)) rfl (pc' := 219) rfl ?_
      refine gbastore B X920 (i := 14) (n := 18) A922 rfl (by decide) rfl (vs' := [(.int (10 : Int32)), (.int (10 : Int32)), (.int (10 : Int32)), (.int (10 : Int32)), (.int (10 : Int32)), (.int (10 : Int32)), (.int (10 : Int32)), (.int (10 : Int32)), (.int (10 : Int32)), (.int (10 : Int32)), (.int (10 : Int32)), (.int (10 : Int32)), (.int (10 : Int32)), (.int (10 : Int32)), (.int (10 : Int32)), (.int (0 : Int32)), (.int (0 : Int32)), (.int (0 : Int32))]) rfl (Or.inr z_a848) at_219 (pc' := 220) rfl fun T923 h924 X925 W926 A927 => ?_
      refine gdup B X925 at_220 rfl (pc' := 221) rfl ?_
      refine gbipush B X925 at_221 (v := (15 : Int32)) rfl (pc' := 223) rfl ?_
      refine gbipush B X925 at_223 (v := (10 : Int32)) rfl (pc' := 225) rfl ?_
      refine gbastore B X925 (i := 15) (n := 18) A927 rfl (by decide) rfl (vs' := [(.int (10 : Int32)), (.int (10 : Int32)), (.int (10 : Int32)), (.int (10 : Int32)), (.int (10 : Int32)), (.int (10 : Int32)), (.int (10 : Int32)), (.int (10 : Int32)), (.int (10 : Int32)), (.int (10 : Int32)), (.int (10 : Int32)), (.int (10 : Int32)), (.int (10 : Int32)), (.int (10 : Int32)), (.int (10 : Int32)), (.int (10 : Int32)), (.int (0 : Int32)), (.int (0 : Int32))]) rfl (Or.inr z_a848) at_225 (pc' := 226) rfl fun T928 h929 X930 W931 A932 => ?_
      refine gdup B X930 at_226 rfl (pc' := 227) rfl ?_
      refine gbipush B X930 at_227 (v := (16 : Int32)) rfl (pc' := 229) rfl ?_
      refine gbipush B X930 at_229 (v := (10 : Int32)) rfl (pc' := 231) rfl ?_
      refine gbastore B X930 (i := 16) (n := 18) A932 rfl (by decide) rfl (vs' := [(.int (10 : Int32)), (.int (10 : Int32)), (.int (10 : Int32)), (.int (10 : Int32)), (.int (10 : Int32)), (.int (10 : Int32)), (.int (10 : Int32)), (.int (10 : Int32)), (.int (10 : Int32)), (.int (10 : Int32)), (.int (10 : Int32)), (.int (10 : Int32)), (.int (10 : Int32)), (.int (10 : Int32)), (.int (10 : Int32)), (.int (10 : Int32)), (.int (10 : Int32)), (.int (0 : Int32))]) rfl (Or.inr z_a848) at_231 (pc' := 232) rfl fun T933 h934 X935 W936 A937 => ?_
      refine gdup B X935 at_232 rfl (pc' := 233) rfl ?_
      refine gbipush B X935 at_233 (v := (17 : Int32)) rfl (pc' := 235) rfl ?_
      refine gbipush B X935 at_235 (v := (10 : Int32)) rfl (pc' := 237) rfl ?_
      refine gbastore B X935 (i := 17) (n := 18) A937 rfl (by decide) rfl (vs' := [(.int (10 : Int32)), (.int (10 : Int32)), (.int (10 : Int32)), (.int (10 : Int32)), (.int (10 : Int32)), (.int (10 : Int32)), (.int (10 : Int32)), (.int (10 : Int32)), (.int (10 : Int32)), (.int (10 : Int32)), (.int (10 : Int32)), (.int (10 : Int32)), (.int (10 : Int32)), (.int (10 : Int32)), (.int (10 : Int32)), (.int (10 : Int32)), (.int (10 : Int32)), (.int (10 : Int32))]) rfl (Or.inr z_a848) at_237 (pc' := 238) rfl fun T938 h939 X940 W941 A942 => ?_
      refine gastore B X940 at_238 rfl (Ls' := #[.val (.int p0), .val (.long p1), .second, .val (.int p2), .val (.int p3), .val (.int qk), .val (.long qw), .second, .val (.int (0 : Int32)), .val (.int (ofs p0)), .val (.int qle), .val (.int qt), .val (.int (3 : Int32)), .val (.int (1 : Int32)), .val (.int (0 : Int32)), .val (.int (p0 ||| (-2147483648 : Int32))), .val (.ref a848), .unset, .unset, .unset, .unset, .unset]) rfl (pc' := 240) rfl ?_
      refine gaload B X940 at_240 rfl rfl (pc' := 242) rfl ?_
      refine giconst B X940 at_242 (v := (0 : Int32)) rfl (pc' := 243) rfl ?_
      refine gbipush B X940 at_243 (v := (57 : Int32)) rfl (pc' := 245) rfl ?_
      refine gbastore B X940 (i := 0) (n := 18) A942 rfl (by decide) rfl (vs' := [(.int (57 : Int32)), (.int (10 : Int32)), (.int (10 : Int32)), (.int (10 : Int32)), (.int (10 : Int32)), (.int (10 : Int32)), (.int (10 : Int32)), (.int (10 : Int32)), (.int (10 : Int32)), (.int (10 : Int32)), (.int (10 : Int32)), (.int (10 : Int32)), (.int (10 : Int32)), (.int (10 : Int32)), (.int (10 : Int32)), (.int (10 : Int32)), (.int (10 : Int32)), (.int (10 : Int32))]) rfl (Or.inr z_a848) at_245 (pc' := 246) rfl fun T943 h944 X945 W946 A947 => ?_
      refine gaload B X945 at_246 rfl rfl (pc' := 248) rfl ?_
      refine giconst B X945 at_248 (v := (1 : Int32)) rfl (pc' := 249) rfl ?_
      refine gbipush B X945 at_249 (v := (57 : Int32)) rfl (pc' := 251) rfl ?_
      refine gbastore B X945 (i := 1) (n := 18) A947 rfl (by decide) rfl (vs' := [(.int (57 : Int32)), (.int (57 : Int32)), (.int (10 : Int32)), (.int (10 : Int32)), (.int (10 : Int32)), (.int (10 : Int32)), (.int (10 : Int32)), (.int (10 : Int32)), (.int (10 : Int32)), (.int (10 : Int32)), (.int (10 : Int32)), (.int (10 : Int32)), (.int (10 : Int32)), (.int (10 : Int32)), (.int (10 : Int32)), (.int (10 : Int32)), (.int (10 : Int32)), (.int (10 : Int32))]) rfl (Or.inr z_a848) at_251 (pc' := 252) rfl fun T948 h949 X950 W951 A952 => ?_
      refine gaload B X950 at_252 rfl rfl (pc' := 254) rfl ?_
      refine giload B X950 at_254 rfl (pc' := 256) rfl ?_
      refine giload B X950 at_256 rfl (pc' := 258) rfl ?_
      refine gbastore B X950 (i := 0) A952 (n := 18) rfl (by decide) rfl (vs' := (([qle, 57, 10, 10, 10, 10, 10, 10, 10, 10, 10, 10, 10, 10, 10, 10, 10, 10] : List Int32).map Value.int)) (by rw [hle]; rfl) (Or.inr z_a848) at_258 (pc' := 259) rfl fun T953 h954 X955 W956 A957 => ?_
      refine giload B X955 at_259 rfl (pc' := 261) rfl ?_
      refine giconst B X955 at_261 (v := (1 : Int32)) rfl (pc' := 262) rfl ?_
      refine giadd B X955 at_262 (v := (1 : Int32)) (by decide) (pc' := 263) rfl ?_
      refine gistore B X955 at_263 (Ls' := #[.val (.int p0), .val (.long p1), .second, .val (.int p2), .val (.int p3), .val (.int qk), .val (.long qw), .second, .val (.int (0 : Int32)), .val (.int (ofs p0)), .val (.int qle), .val (.int qt), .val (.int (3 : Int32)), .val (.int (1 : Int32)), .val (.int (0 : Int32)), .val (.int (p0 ||| (-2147483648 : Int32))), .val (.ref a848), .val (.int (1 : Int32)), .unset, .unset, .unset, .unset]) rfl (pc' := 265) rfl ?_
      refine giload B X955 at_265 rfl (pc' := 267) rfl ?_
      have c267_958 : (0 : Int32) = (0 : Int32) := (by decide)
      refine gifY B X955 (pc' := 283) at_267 ((if0 _ _).trans (teq c267_958).1) (by decide) ?_
      have hL0 : ([qle, 57, 10, 10, 10, 10, 10, 10, 10, 10, 10, 10, 10, 10, 10, 10, 10, 10] : List Int32).length = 18 := rfl
      have ha0 : ([qle, 57, 10, 10, 10, 10, 10, 10, 10, 10, 10, 10, 10, 10, 10, 10, 10, 10] : List Int32).getD 0 0 = qle := rfl
      have hb0 : ([qle, 57, 10, 10, 10, 10, 10, 10, 10, 10, 10, 10, 10, 10, 10, 10, 10, 10] : List Int32).getD 2 0 = 10 := rfl
      generalize ([qle, 57, 10, 10, 10, 10, 10, 10, 10, 10, 10, 10, 10, 10, 10, 10, 10, 10] : List Int32) = bs0 at hL0 ha0 hb0 A957
      have A959 : VA Z h954 a848 .byte ((orec bs0 1 kN qw qt 0).map Value.int) := A957
      refine gaload B X955 at_283 rfl rfl (pc' := 285) rfl ?_
      refine giload B X955 at_285 rfl (pc' := 287) rfl ?_
      refine giconst B X955 at_287 (v := (0 : Int32)) rfl (pc' := 288) rfl ?_
      refine giload B X955 at_288 rfl (pc' := 290) rfl ?_
      refine glload B X955 at_290 rfl (pc' := 292) rfl ?_
      refine giload B X955 at_292 rfl (pc' := 294) rfl ?_
      refine gcallS B X955 (hw _ (List.mem_of_getElem? (i := 3) rfl)) (hw _ (List.mem_of_getElem? (i := 4) rfl)) (hw _ (List.mem_of_getElem? (i := 5) rfl)) (hw _ (List.mem_of_getElem? (i := 6) rfl)) (by decide) (mt1 l Z a0 hw a848 (1 : Int32) (0 : Int32) qk qw qt (orec bs0 1 kN qw qt 0) 1 0 kN h954 A959 ((own_len ..).trans hL0) (by decide) (by decide) (by decide) (by decide) hk hk11 ht8) pd___BIIIJB_V rfl (argsL := [(.ref a848), (.int (1 : Int32)), (.int (0 : Int32)), (.int qk), (.long qw), (.int qt)]) (st := []) rfl rfl (W := 0) (Nat.le_of_eq rfl) (by decide) (by decide) (by decide) (by decide) (allS (Or.inr z_a848) all0) at_294 (pc' := 297) rfl fun T960 h961 v962 X963 K964 Q965 => ?_
      obtain ⟨rfl, A966⟩ := Q965
      have A967 : VA Z h961 a848 .byte ((orec bs0 1 kN qw qt 1).map Value.int) := A966
      show Go p e below _ _ _ _ T960 (mkF m 297 #[.val (.int p0), .val (.long p1), .second, .val (.int p2), .val (.int p3), .val (.int qk), .val (.long qw), .second, .val (.int (0 : Int32)), .val (.int (ofs p0)), .val (.int qle), .val (.int qt), .val (.int (3 : Int32)), .val (.int (1 : Int32)), .val (.int (0 : Int32)), .val (.int (p0 ||| (-2147483648 : Int32))), .val (.ref a848), .val (.int (1 : Int32)), .unset, .unset, .unset, .unset] [])
      refine gaload B X963 at_297 rfl rfl (pc' := 299) rfl ?_
      refine giload B X963 at_299 rfl (pc' := 301) rfl ?_
      refine giconst B X963 at_301 (v := (1 : Int32)) rfl (pc' := 302) rfl ?_
      refine giload B X963 at_302 rfl (pc' := 304) rfl ?_
      refine glload B X963 at_304 rfl (pc' := 306) rfl ?_
      refine giload B X963 at_306 rfl (pc' := 308) rfl ?_
      refine gcallS B X963 (hw _ (List.mem_of_getElem? (i := 3) rfl)) (hw _ (List.mem_of_getElem? (i := 4) rfl)) (hw _ (List.mem_of_getElem? (i := 5) rfl)) (hw _ (List.mem_of_getElem? (i := 6) rfl)) (by decide) (mt1 l Z a0 hw a848 (1 : Int32) (1 : Int32) qk qw qt (orec bs0 1 kN qw qt 1) 1 1 kN h961 A967 ((own_len ..).trans hL0) (by decide) (by decide) (by decide) (by decide) hk hk11 ht8) pd___BIIIJB_V rfl (argsL := [(.ref a848), (.int (1 : Int32)), (.int (1 : Int32)), (.int qk), (.long qw), (.int qt)]) (st := []) rfl rfl (W := 0) (Nat.le_of_eq rfl) (by decide) (by decide) (by decide) (by decide) (allS (Or.inr z_a848) all0) at_308 (pc' := 311) rfl fun T968 h969 v970 X971 K972 Q973 => ?_
      obtain ⟨rfl, A974⟩ := Q973
      have A975 : VA Z h969 a848 .byte ((orec bs0 1 kN qw qt 2).map Value.int) := A974
      show Go p e below _ _ _ _ T968 (mkF m 311 #[.val (.int p0), .val (.long p1), .second, .val (.int p2), .val (.int p3), .val (.int qk), .val (.long qw), .second, .val (.int (0 : Int32)), .val (.int (ofs p0)), .val (.int qle), .val (.int qt), .val (.int (3 : Int32)), .val (.int (1 : Int32)), .val (.int (0 : Int32)), .val (.int (p0 ||| (-2147483648 : Int32))), .val (.ref a848), .val (.int (1 : Int32)), .unset, .unset, .unset, .unset] [])
      refine gaload B X971 at_311 rfl rfl (pc' := 313) rfl ?_
      refine giload B X971 at_313 rfl (pc' := 315) rfl ?_
      refine giconst B X971 at_315 (v := (2 : Int32)) rfl (pc' := 316) rfl ?_
      refine giload B X971 at_316 rfl (pc' := 318) rfl ?_
      refine glload B X971 at_318 rfl (pc' := 320) rfl ?_
      refine giload B X971 at_320 rfl (pc' := 322) rfl ?_
      refine gcallS B X971 (hw _ (List.mem_of_getElem? (i := 3) rfl)) (hw _ (List.mem_of_getElem? (i := 4) rfl)) (hw _ (List.mem_of_getElem? (i := 5) rfl)) (hw _ (List.mem_of_getElem? (i := 6) rfl)) (by decide) (mt1 l Z a0 hw a848 (1 : Int32) (2 : Int32) qk qw qt (orec bs0 1 kN qw qt 2) 1 2 kN h969 A975 ((own_len ..).trans hL0) (by decide) (by decide) (by decide) (by decide) hk hk11 ht8) pd___BIIIJB_V rfl (argsL := [(.ref a848), (.int (1 : Int32)), (.int (2 : Int32)), (.int qk), (.long qw), (.int qt)]) (st := []) rfl rfl (W := 0) (Nat.le_of_eq rfl) (by decide) (by decide) (by decide) (by decide) (allS (Or.inr z_a848) all0) at_322 (pc' := 325) rfl fun T976 h977 v978 X979 K980 Q981 => ?_
      obtain ⟨rfl, A982⟩ := Q981
      have A983 : VA Z h977 a848 .byte ((orec bs0 1 kN qw qt 3).map Value.int) := A982
      show Go p e below _ _ _ _ T976 (mkF m 325 #[.val (.int p0), .val (.long p1), .second, .val (.int p2), .val (.int p3), .val (.int qk), .val (.long qw), .second, .val (.int (0 : Int32)), .val (.int (ofs p0)), .val (.int qle), .val (.int qt), .val (.int (3 : Int32)), .val (.int (1 : Int32)), .val (.int (0 : Int32)), .val (.int (p0 ||| (-2147483648 : Int32))), .val (.ref a848), .val (.int (1 : Int32)), .unset, .unset, .unset, .unset] [])
      refine gaload B X979 at_325 rfl rfl (pc' := 327) rfl ?_
      refine giload B X979 at_327 rfl (pc' := 329) rfl ?_
      refine giconst B X979 at_329 (v := (3 : Int32)) rfl (pc' := 330) rfl ?_
      refine giload B X979 at_330 rfl (pc' := 332) rfl ?_
      refine glload B X979 at_332 rfl (pc' := 334) rfl ?_
      refine giload B X979 at_334 rfl (pc' := 336) rfl ?_
      refine gcallS B X979 (hw _ (List.mem_of_getElem? (i := 3) rfl)) (hw _ (List.mem_of_getElem? (i := 4) rfl)) (hw _ (List.mem_of_getElem? (i := 5) rfl)) (hw _ (List.mem_of_getElem? (i := 6) rfl)) (by decide) (mt1 l Z a0 hw a848 (1 : Int32) (3 : Int32) qk qw qt (orec bs0 1 kN qw qt 3) 1 3 kN h977 A983 ((own_len ..).trans hL0) (by decide) (by decide) (by decide) (by decide) hk hk11 ht8) pd___BIIIJB_V rfl (argsL := [(.ref a848), (.int (1 : Int32)), (.int (3 : Int32)), (.int qk), (.long qw), (.int qt)]) (st := []) rfl rfl (W := 0) (Nat.le_of_eq rfl) (by decide) (by decide) (by decide) (by decide) (allS (Or.inr z_a848) all0) at_336 (pc' := 339) rfl fun T984 h985 v986 X987 K988 Q989 => ?_
      obtain ⟨rfl, A990⟩ := Q989
      have A991 : VA Z h985 a848 .byte ((orec bs0 1 kN qw qt 4).map Value.int) := A990
      show Go p e below _ _ _ _ T984 (mkF m 339 #[.val (.int p0), .val (.long p1), .second, .val (.int p2), .val (.int p3), .val (.int qk), .val (.long qw), .second, .val (.int (0 : Int32)), .val (.int (ofs p0)), .val (.int qle), .val (.int qt), .val (.int (3 : Int32)), .val (.int (1 : Int32)), .val (.int (0 : Int32)), .val (.int (p0 ||| (-2147483648 : Int32))), .val (.ref a848), .val (.int (1 : Int32)), .unset, .unset, .unset, .unset] [])
      refine gaload B X987 at_339 rfl rfl (pc' := 341) rfl ?_
      refine giload B X987 at_341 rfl (pc' := 343) rfl ?_
      refine giconst B X987 at_343 (v := (4 : Int32)) rfl (pc' := 344) rfl ?_
      refine giload B X987 at_344 rfl (pc' := 346) rfl ?_
      refine glload B X987 at_346 rfl (pc' := 348) rfl ?_
      refine giload B X987 at_348 rfl (pc' := 350) rfl ?_
      refine gcallS B X987 (hw _ (List.mem_of_getElem? (i := 3) rfl)) (hw _ (List.mem_of_getElem? (i := 4) rfl)) (hw _ (List.mem_of_getElem? (i := 5) rfl)) (hw _ (List.mem_of_getElem? (i := 6) rfl)) (by decide) (mt1 l Z a0 hw a848 (1 : Int32) (4 : Int32) qk qw qt (orec bs0 1 kN qw qt 4) 1 4 kN h985 A991 ((own_len ..).trans hL0) (by decide) (by decide) (by decide) (by decide) hk hk11 ht8) pd___BIIIJB_V rfl (argsL := [(.ref a848), (.int (1 : Int32)), (.int (4 : Int32)), (.int qk), (.long qw), (.int qt)]) (st := []) rfl rfl (W := 0) (Nat.le_of_eq rfl) (by decide) (by decide) (by decide) (by decide) (allS (Or.inr z_a848) all0) at_350 (pc' := 353) rfl fun T992 h993 v994 X995 K996 Q997 => ?_
      obtain ⟨rfl, A998⟩ := Q997
      have A999 : VA Z h993 a848 .byte ((orec bs0 1 kN qw qt 5).map Value.int) := A998
      show Go p e below _ _ _ _ T992 (mkF m 353 #[.val (.int p0), .val (.long p1), .second, .val (.int p2), .val (.int p3), .val (.int qk), .val (.long qw), .second, .val (.int (0 : Int32)), .val (.int (ofs p0)), .val (.int qle), .val (.int qt), .val (.int (3 : Int32)), .val (.int (1 : Int32)), .val (.int (0 : Int32)), .val (.int (p0 ||| (-2147483648 : Int32))), .val (.ref a848), .val (.int (1 : Int32)), .unset, .unset, .unset, .unset] [])
      refine gaload B X995 at_353 rfl rfl (pc' := 355) rfl ?_
      refine giload B X995 at_355 rfl (pc' := 357) rfl ?_
      refine giconst B X995 at_357 (v := (5 : Int32)) rfl (pc' := 358) rfl ?_
      refine giload B X995 at_358 rfl (pc' := 360) rfl ?_
      refine glload B X995 at_360 rfl (pc' := 362) rfl ?_
      refine giload B X995 at_362 rfl (pc' := 364) rfl ?_
      refine gcallS B X995 (hw _ (List.mem_of_getElem? (i := 3) rfl)) (hw _ (List.mem_of_getElem? (i := 4) rfl)) (hw _ (List.mem_of_getElem? (i := 5) rfl)) (hw _ (List.mem_of_getElem? (i := 6) rfl)) (by decide) (mt1 l Z a0 hw a848 (1 : Int32) (5 : Int32) qk qw qt (orec bs0 1 kN qw qt 5) 1 5 kN h993 A999 ((own_len ..).trans hL0) (by decide) (by decide) (by decide) (by decide) hk hk11 ht8) pd___BIIIJB_V rfl (argsL := [(.ref a848), (.int (1 : Int32)), (.int (5 : Int32)), (.int qk), (.long qw), (.int qt)]) (st := []) rfl rfl (W := 0) (Nat.le_of_eq rfl) (by decide) (by decide) (by decide) (by decide) (allS (Or.inr z_a848) all0) at_364 (pc' := 367) rfl fun T1000 h1001 v1002 X1003 K1004 Q1005 => ?_
      obtain ⟨rfl, A1006⟩ := Q1005
      have A1007 : VA Z h1001 a848 .byte ((orec bs0 1 kN qw qt 6).map Value.int) := A1006
      show Go p e below _ _ _ _ T1000 (mkF m 367 #[.val (.int p0), .val (.long p1), .second, .val (.int p2), .val (.int p3), .val (.int qk), .val (.long qw), .second, .val (.int (0 : Int32)), .val (.int (ofs p0)), .val (.int qle), .val (.int qt), .val (.int (3 : Int32)), .val (.int (1 : Int32)), .val (.int (0 : Int32)), .val (.int (p0 ||| (-2147483648 : Int32))), .val (.ref a848), .val (.int (1 : Int32)), .unset, .unset, .unset, .unset] [])
      refine gaload B X1003 at_367 rfl rfl (pc' := 369) rfl ?_
      refine giload B X1003 at_369 rfl (pc' := 371) rfl ?_
      refine gbipush B X1003 at_371 (v := (6 : Int32)) rfl (pc' := 373) rfl ?_
      refine giload B X1003 at_373 rfl (pc' := 375) rfl ?_
      refine glload B X1003 at_375 rfl (pc' := 377) rfl ?_
      refine giload B X1003 at_377 rfl (pc' := 379) rfl ?_
      refine gcallS B X1003 (hw _ (List.mem_of_getElem? (i := 3) rfl)) (hw _ (List.mem_of_getElem? (i := 4) rfl)) (hw _ (List.mem_of_getElem? (i := 5) rfl)) (hw _ (List.mem_of_getElem? (i := 6) rfl)) (by decide) (mt1 l Z a0 hw a848 (1 : Int32) (6 : Int32) qk qw qt (orec bs0 1 kN qw qt 6) 1 6 kN h1001 A1007 ((own_len ..).trans hL0) (by decide) (by decide) (by decide) (by decide) hk hk11 ht8) pd___BIIIJB_V rfl (argsL := [(.ref a848), (.int (1 : Int32)), (.int (6 : Int32)), (.int qk), (.long qw), (.int qt)]) (st := []) rfl rfl (W := 0) (Nat.le_of_eq rfl) (by decide) (by decide) (by decide) (by decide) (allS (Or.inr z_a848) all0) at_379 (pc' := 382) rfl fun T1008 h1009 v1010 X1011 K1012 Q1013 => ?_
      obtain ⟨rfl, A1014⟩ := Q1013
      have A1015 : VA Z h1009 a848 .byte ((orec bs0 1 kN qw qt 7).map Value.int) := A1014
      show Go p e below _ _ _ _ T1008 (mkF m 382 #[.val (.int p0), .val (.long p1), .second, .val (.int p2), .val (.int p3), .val (.int qk), .val (.long qw), .second, .val (.int (0 : Int32)), .val (.int (ofs p0)), .val (.int qle), .val (.int qt), .val (.int (3 : Int32)), .val (.int (1 : Int32)), .val (.int (0 : Int32)), .val (.int (p0 ||| (-2147483648 : Int32))), .val (.ref a848), .val (.int (1 : Int32)), .unset, .unset, .unset, .unset] [])
      refine gaload B X1011 at_382 rfl rfl (pc' := 384) rfl ?_
      refine giload B X1011 at_384 rfl (pc' := 386) rfl ?_
      refine gbipush B X1011 at_386 (v := (7 : Int32)) rfl (pc' := 388) rfl ?_
      refine giload B X1011 at_388 rfl (pc' := 390) rfl ?_
      refine glload B X1011 at_390 rfl (pc' := 392) rfl ?_
      refine giload B X1011 at_392 rfl (pc' := 394) rfl ?_
      refine gcallS B X1011 (hw _ (List.mem_of_getElem? (i := 3) rfl)) (hw _ (List.mem_of_getElem? (i := 4) rfl)) (hw _ (List.mem_of_getElem? (i := 5) rfl)) (hw _ (List.mem_of_getElem? (i := 6) rfl)) (by decide) (mt1 l Z a0 hw a848 (1 : Int32) (7 : Int32) qk qw qt (orec bs0 1 kN qw qt 7) 1 7 kN h1009 A1015 ((own_len ..).trans hL0) (by decide) (by decide) (by decide) (by decide) hk hk11 ht8) pd___BIIIJB_V rfl (argsL := [(.ref a848), (.int (1 : Int32)), (.int (7 : Int32)), (.int qk), (.long qw), (.int qt)]) (st := []) rfl rfl (W := 0) (Nat.le_of_eq rfl) (by decide) (by decide) (by decide) (by decide) (allS (Or.inr z_a848) all0) at_394 (pc' := 397) rfl fun T1016 h1017 v1018 X1019 K1020 Q1021 => ?_
      obtain ⟨rfl, A1022⟩ := Q1021
      have A1023 : VA Z h1017 a848 .byte ((orec bs0 1 kN qw qt 8).map Value.int) := A1022
      show Go p e below _ _ _ _ T1016 (mkF m 397 #[.val (.int p0), .val (.long p1), .second, .val (.int p2), .val (.int p3), .val (.int qk), .val (.long qw), .second, .val (.int (0 : Int32)), .val (.int (ofs p0)), .val (.int qle), .val (.int qt), .val (.int (3 : Int32)), .val (.int (1 : Int32)), .val (.int (0 : Int32)), .val (.int (p0 ||| (-2147483648 : Int32))), .val (.ref a848), .val (.int (1 : Int32)), .unset, .unset, .unset, .unset] [])
      refine gaload B X1019 at_397 rfl rfl (pc' := 399) rfl ?_
      refine giload B X1019 at_399 rfl (pc' := 401) rfl ?_
      refine gbipush B X1019 at_401 (v := (8 : Int32)) rfl (pc' := 403) rfl ?_
      refine giload B X1019 at_403 rfl (pc' := 405) rfl ?_
      refine glload B X1019 at_405 rfl (pc' := 407) rfl ?_
      refine giload B X1019 at_407 rfl (pc' := 409) rfl ?_
      refine gcallS B X1019 (hw _ (List.mem_of_getElem? (i := 3) rfl)) (hw _ (List.mem_of_getElem? (i := 4) rfl)) (hw _ (List.mem_of_getElem? (i := 5) rfl)) (hw _ (List.mem_of_getElem? (i := 6) rfl)) (by decide) (mt1 l Z a0 hw a848 (1 : Int32) (8 : Int32) qk qw qt (orec bs0 1 kN qw qt 8) 1 8 kN h1017 A1023 ((own_len ..).trans hL0) (by decide) (by decide) (by decide) (by decide) hk hk11 ht8) pd___BIIIJB_V rfl (argsL := [(.ref a848), (.int (1 : Int32)), (.int (8 : Int32)), (.int qk), (.long qw), (.int qt)]) (st := []) rfl rfl (W := 0) (Nat.le_of_eq rfl) (by decide) (by decide) (by decide) (by decide) (allS (Or.inr z_a848) all0) at_409 (pc' := 412) rfl fun T1024 h1025 v1026 X1027 K1028 Q1029 => ?_
      obtain ⟨rfl, A1030⟩ := Q1029
      have A1031 : VA Z h1025 a848 .byte ((orec bs0 1 kN qw qt 9).map Value.int) := A1030
      show Go p e below _ _ _ _ T1024 (mkF m 412 #[.val (.int p0), .val (.long p1), .second, .val (.int p2), .val (.int p3), .val (.int qk), .val (.long qw), .second, .val (.int (0 : Int32)), .val (.int (ofs p0)), .val (.int qle), .val (.int qt), .val (.int (3 : Int32)), .val (.int (1 : Int32)), .val (.int (0 : Int32)), .val (.int (p0 ||| (-2147483648 : Int32))), .val (.ref a848), .val (.int (1 : Int32)), .unset, .unset, .unset, .unset] [])
      refine gaload B X1027 at_412 rfl rfl (pc' := 414) rfl ?_
      refine giload B X1027 at_414 rfl (pc' := 416) rfl ?_
      refine gbipush B X1027 at_416 (v := (9 : Int32)) rfl (pc' := 418) rfl ?_
      refine giload B X1027 at_418 rfl (pc' := 420) rfl ?_
      refine glload B X1027 at_420 rfl (pc' := 422) rfl ?_
      refine giload B X1027 at_422 rfl (pc' := 424) rfl ?_
      refine gcallS B X1027 (hw _ (List.mem_of_getElem? (i := 3) rfl)) (hw _ (List.mem_of_getElem? (i := 4) rfl)) (hw _ (List.mem_of_getElem? (i := 5) rfl)) (hw _ (List.mem_of_getElem? (i := 6) rfl)) (by decide) (mt1 l Z a0 hw a848 (1 : Int32) (9 : Int32) qk qw qt (orec bs0 1 kN qw qt 9) 1 9 kN h1025 A1031 ((own_len ..).trans hL0) (by decide) (by decide) (by decide) (by decide) hk hk11 ht8) pd___BIIIJB_V rfl (argsL := [(.ref a848), (.int (1 : Int32)), (.int (9 : Int32)), (.int qk), (.long qw), (.int qt)]) (st := []) rfl rfl (W := 0) (Nat.le_of_eq rfl) (by decide) (by decide) (by decide) (by decide) (allS (Or.inr z_a848) all0) at_424 (pc' := 427) rfl fun T1032 h1033 v1034 X1035 K1036 Q1037 => ?_
      obtain ⟨rfl, A1038⟩ := Q1037
      have A1039 : VA Z h1033 a848 .byte ((orec bs0 1 kN qw qt 10).map Value.int) := A1038
      show Go p e below _ _ _ _ T1032 (mkF m 427 #[.val (.int p0), .val (.long p1), .second, .val (.int p2), .val (.int p3), .val (.int qk), .val (.long qw), .second, .val (.int (0 : Int32)), .val (.int (ofs p0)), .val (.int qle), .val (.int qt), .val (.int (3 : Int32)), .val (.int (1 : Int32)), .val (.int (0 : Int32)), .val (.int (p0 ||| (-2147483648 : Int32))), .val (.ref a848), .val (.int (1 : Int32)), .unset, .unset, .unset, .unset] [])
      refine gaload B X1035 at_427 rfl rfl (pc' := 429) rfl ?_
      refine giload B X1035 at_429 rfl (pc' := 431) rfl ?_
      refine gbipush B X1035 at_431 (v := (10 : Int32)) rfl (pc' := 433) rfl ?_
      refine giload B X1035 at_433 rfl (pc' := 435) rfl ?_
      refine glload B X1035 at_435 rfl (pc' := 437) rfl ?_
      refine giload B X1035 at_437 rfl (pc' := 439) rfl ?_
      refine gcallS B X1035 (hw _ (List.mem_of_getElem? (i := 3) rfl)) (hw _ (List.mem_of_getElem? (i := 4) rfl)) (hw _ (List.mem_of_getElem? (i := 5) rfl)) (hw _ (List.mem_of_getElem? (i := 6) rfl)) (by decide) (mt1 l Z a0 hw a848 (1 : Int32) (10 : Int32) qk qw qt (orec bs0 1 kN qw qt 10) 1 10 kN h1033 A1039 ((own_len ..).trans hL0) (by decide) (by decide) (by decide) (by decide) hk hk11 ht8) pd___BIIIJB_V rfl (argsL := [(.ref a848), (.int (1 : Int32)), (.int (10 : Int32)), (.int qk), (.long qw), (.int qt)]) (st := []) rfl rfl (W := 0) (Nat.le_of_eq rfl) (by decide) (by decide) (by decide) (by decide) (allS (Or.inr z_a848) all0) at_439 (pc' := 442) rfl fun T1040 h1041 v1042 X1043 K1044 Q1045 => ?_
      obtain ⟨rfl, A1046⟩ := Q1045
      have A1047 : VA Z h1041 a848 .byte ((orec bs0 1 kN qw qt 11).map Value.int) := A1046
      show Go p e below _ _ _ _ T1040 (mkF m 442 #[.val (.int p0), .val (.long p1), .second, .val (.int p2), .val (.int p3), .val (.int qk), .val (.long qw), .second, .val (.int (0 : Int32)), .val (.int (ofs p0)), .val (.int qle), .val (.int qt), .val (.int (3 : Int32)), .val (.int (1 : Int32)), .val (.int (0 : Int32)), .val (.int (p0 ||| (-2147483648 : Int32))), .val (.ref a848), .val (.int (1 : Int32)), .unset, .unset, .unset, .unset] [])
      refine gaload B X1043 at_442 rfl rfl (pc' := 444) rfl ?_
      refine giload B X1043 at_444 rfl (pc' := 446) rfl ?_
      refine gbipush B X1043 at_446 (v := (11 : Int32)) rfl (pc' := 448) rfl ?_
      refine giload B X1043 at_448 rfl (pc' := 450) rfl ?_
      refine glload B X1043 at_450 rfl (pc' := 452) rfl ?_
      refine giload B X1043 at_452 rfl (pc' := 454) rfl ?_
      refine gcallS B X1043 (hw _ (List.mem_of_getElem? (i := 3) rfl)) (hw _ (List.mem_of_getElem? (i := 4) rfl)) (hw _ (List.mem_of_getElem? (i := 5) rfl)) (hw _ (List.mem_of_getElem? (i := 6) rfl)) (by decide) (mt1 l Z a0 hw a848 (1 : Int32) (11 : Int32) qk qw qt (orec bs0 1 kN qw qt 11) 1 11 kN h1041 A1047 ((own_len ..).trans hL0) (by decide) (by decide) (by decide) (by decide) hk hk11 ht8) pd___BIIIJB_V rfl (argsL := [(.ref a848), (.int (1 : Int32)), (.int (11 : Int32)), (.int qk), (.long qw), (.int qt)]) (st := []) rfl rfl (W := 0) (Nat.le_of_eq rfl) (by decide) (by decide) (by decide) (by decide) (allS (Or.inr z_a848) all0) at_454 (pc' := 457) rfl fun T1048 h1049 v1050 X1051 K1052 Q1053 => ?_
      obtain ⟨rfl, A1054⟩ := Q1053
      have A1055 : VA Z h1049 a848 .byte ((orec bs0 1 kN qw qt 12).map Value.int) := A1054
      show Go p e below _ _ _ _ T1048 (mkF m 457 #[.val (.int p0), .val (.long p1), .second, .val (.int p2), .val (.int p3), .val (.int qk), .val (.long qw), .second, .val (.int (0 : Int32)), .val (.int (ofs p0)), .val (.int qle), .val (.int qt), .val (.int (3 : Int32)), .val (.int (1 : Int32)), .val (.int (0 : Int32)), .val (.int (p0 ||| (-2147483648 : Int32))), .val (.ref a848), .val (.int (1 : Int32)), .unset, .unset, .unset, .unset] [])
      refine giload B X1051 at_457 rfl (pc' := 459) rfl ?_
      have c459_1056 : ¬ ((1 : Int32) = (0 : Int32)) := (by decide)
      refine gifY B X1051 (pc' := 481) at_459 ((if0 _ _).trans (feq c459_1056).2) (by decide) ?_
      refine gldc2 B X1051 (v := (-1 : Int64)) (hw _ (List.mem_of_getElem? (i := 21) rfl)) at_481 (pc' := 484) rfl ?_
      refine glstore B X1051 at_484 (Ls' := #[.val (.int p0), .val (.long p1), .second, .val (.int p2), .val (.int p3), .val (.int qk), .val (.long qw), .second, .val (.int (0 : Int32)), .val (.int (ofs p0)), .val (.int qle), .val (.int qt), .val (.int (3 : Int32)), .val (.int (1 : Int32)), .val (.int (0 : Int32)), .val (.int (p0 ||| (-2147483648 : Int32))), .val (.ref a848), .val (.int (1 : Int32)), .val (.long (-1 : Int64)), .second, .unset, .unset]) rfl (pc' := 486) rfl ?_
      refine ggoto B X1051 (pc' := 534) at_486 (by decide) ?_
      refine gaload B X1051 at_534 rfl rfl (pc' := 536) rfl ?_
      refine giload B X1051 at_536 rfl (pc' := 538) rfl ?_
      refine gcallS B X1051 (hw _ (List.mem_of_getElem? (i := 22) rfl)) (hw _ (List.mem_of_getElem? (i := 23) rfl)) (hw _ (List.mem_of_getElem? (i := 24) rfl)) (hw _ (List.mem_of_getElem? (i := 25) rfl)) (by decide) (mt3A l Z a0 hw a848 (p0 ||| (-2147483648 : Int32)) (orec bs0 1 kN qw qt 12) h1049 A1055 (own_neg _)) pd___BI_J rfl (argsL := [(.ref a848), (.int (p0 ||| (-2147483648 : Int32)))]) (st := []) rfl rfl (W := 0) (Nat.le_of_eq rfl) (by decide) (by decide) (by decide) (by decide) (fun x q => nomatch q) at_538 (pc' := 541) rfl (pureG rfl rfl fun T1057 X1058 => ?_)
      refine glload B X1058 at_541 rfl (pc' := 543) rfl ?_
      refine glcmp B X1058 at_543 (pc' := 544) rfl ?_
      have c544_1059 : (-1 : Int64) = (-1 : Int64) := rfl
      refine gifN B X1058 at_544 ((if0 _ _).trans (teq (((lw_eq (-1 : Int64) (-1 : Int64))).mpr c544_1059)).2) (pc' := 547) rfl ?_
      refine giconst B X1058 at_547 (v := (1 : Int32)) rfl (pc' := 548) rfl ?_
      refine ggoto B X1058 (pc' := 552) at_548 (by decide) ?_
      exact gretN B X1058 (z' := (1 : Int32)) (by simp) (rfl) at_552 (by decide) (by decide) (rfl)
  · refine gifN B X at_21 ((if0 _ _).trans (feq c21_112).1) (pc' := 24) rfl ?_
    refine giconst B X at_24 (v := (1 : Int32)) rfl (pc' := 25) rfl ?_
    refine ggoto B X (pc' := 29) at_25 (by decide) ?_
    refine gistore B X at_29 (Ls' := #[.val (.int p0), .val (.long p1), .second, .val (.int p2), .val (.int p3), .val (.int qk), .val (.long qw), .second, .val (.int (1 : Int32)), .unset, .unset, .unset, .unset, .unset, .unset, .unset, .unset, .unset, .unset, .unset, .unset, .unset]) rfl (pc' := 31) rfl ?_
    refine joinG B X (J := fun z => (mkF m 44 #[.val (.int p0), .val (.long p1), .second, .val (.int p2), .val (.int p3), .val (.int qk), .val (.long qw), .second, .val (.int (1 : Int32)), .unset, .unset, .unset, .unset, .unset, .unset, .unset, .unset, .unset, .unset, .unset, .unset, .unset] [(.int z)])) (r := (ofs p0)) (fun J => ?_) ?_
    · refine giloadN B X at_31 rfl (pc' := 32) rfl ?_
      refine giconst B X at_32 (v := (3 : Int32)) rfl (pc' := 33) rfl ?_
      refine gishr B X at_33 rfl (pc' := 34) rfl ?_
      refine giconst B X at_34 (v := (1 : Int32)) rfl (pc' := 35) rfl ?_
      refine giand B X at_35 rfl (pc' := 36) rfl ?_
      by_cases c36_1060 : ((p0 >>> ((3 : Int32) &&& 31)) &&& (1 : Int32)) = (0 : Int32)
      · refine gifY B X (pc' := 43) at_36 ((if0 _ _).trans (teq c36_1060).1) (by decide) ?_
        refine giconst B X at_43 (v := (0 : Int32)) rfl (pc' := 44) rfl ?_
        have e_J : (ofs p0) = (0 : Int32) := by rw [ofs, if_pos c36_1060]
        rw [e_J] at J
        exact J _ X
      · refine gifN B X at_36 ((if0 _ _).trans (feq c36_1060).1) (pc' := 39) rfl ?_
        refine giconst B X at_39 (v := (1 : Int32)) rfl (pc' := 40) rfl ?_
        refine ggoto B X (pc' := 44) at_40 (by decide) ?_
        have e_J : (ofs p0) = (1 : Int32) := by rw [ofs, if_neg c36_1060]
        rw [e_J] at J
        exact J _ X
    intro T1061 X1062
    show Go p e below _ _ _ _ T1061 (mkF m 44 #[.val (.int p0), .val (.long p1), .second, .val (.int p2), .val (.int p3), .val (.int qk), .val (.long qw), .second, .val (.int (1 : Int32)), .unset, .unset, .unset, .unset, .unset, .unset, .unset, .unset, .unset, .unset, .unset, .unset, .unset] [(.int (ofs p0))])
    refine gistore B X1062 at_44 (Ls' := #[.val (.int p0), .val (.long p1), .second, .val (.int p2), .val (.int p3), .val (.int qk), .val (.long qw), .second, .val (.int (1 : Int32)), .val (.int (ofs p0)), .unset, .unset, .unset, .unset, .unset, .unset, .unset, .unset, .unset, .unset, .unset, .unset]) rfl (pc' := 46) rfl ?_
    refine joinG B X1062 (J := fun z => (mkF m 60 #[.val (.int p0), .val (.long p1), .second, .val (.int p2), .val (.int p3), .val (.int qk), .val (.long qw), .second, .val (.int (1 : Int32)), .val (.int (ofs p0)), .unset, .unset, .unset, .unset, .unset, .unset, .unset, .unset, .unset, .unset, .unset, .unset] [(.int z)])) (r := (ole p0)) (fun J => ?_) ?_
    · refine giload B X1062 at_46 rfl (pc' := 48) rfl ?_
      by_cases c48_1063 : (ofs p0) = (0 : Int32)
      · refine gifY B X1062 (pc' := 56) at_48 ((if0 _ _).trans (teq c48_1063).1) (by decide) ?_
        refine giloadN B X1062 at_56 rfl (pc' := 57) rfl ?_
        refine giconst B X1062 at_57 (v := (4 : Int32)) rfl (pc' := 58) rfl ?_
        refine gishr B X1062 at_58 rfl (pc' := 59) rfl ?_
        refine gi2b B X1062 at_59 rfl (pc' := 60) rfl ?_
        have e_J : (ole p0) = (p0 >>> ((4 : Int32) &&& 31)).toInt8.toInt32 := by rw [ole, if_pos c48_1063]
        rw [e_J] at J
        exact J _ X1062
      · refine gifN B X1062 at_48 ((if0 _ _).trans (feq c48_1063).1) (pc' := 51) rfl ?_
        refine gbipush B X1062 at_51 (v := (32 : Int32)) rfl (pc' := 53) rfl ?_
        refine ggoto B X1062 (pc' := 60) at_53 (by decide) ?_
        have e_J : (ole p0) = (32 : Int32) := by rw [ole, if_neg c48_1063]
        rw [e_J] at J
        exact J _ X1062
    intro T1064 X1065
    show Go p e below _ _ _ _ T1064 (mkF m 60 #[.val (.int p0), .val (.long p1), .second, .val (.int p2), .val (.int p3), .val (.int qk), .val (.long qw), .second, .val (.int (1 : Int32)), .val (.int (ofs p0)), .unset, .unset, .unset, .unset, .unset, .unset, .unset, .unset, .unset, .unset, .unset, .unset] [(.int (ole p0))])
    generalize e_qle : (ole p0) = qle
    refine gistore B X1065 at_60 (Ls' := #[.val (.int p0), .val (.long p1), .second, .val (.int p2), .val (.int p3), .val (.int qk), .val (.long qw), .second, .val (.int (1 : Int32)), .val (.int (ofs p0)), .val (.int qle), .unset, .unset, .unset, .unset, .unset, .unset, .unset, .unset, .unset, .unset, .unset]) rfl (pc' := 62) rfl ?_
    have hle := own_le8 p0; rw [e_qle] at hle
    refine giload B X1065 at_62 rfl (pc' := 64) rfl ?_
    refine gi2b B X1065 at_64 rfl (pc' := 65) rfl ?_
    refine gistore B X1065 at_65 (Ls' := #[.val (.int p0), .val (.long p1), .second, .val (.int p2), .val (.int p3), .val (.int qk), .val (.long qw), .second, .val (.int (1 : Int32)), .val (.int (ofs p0)), .val (.int qle), .val (.int p3.toInt8.toInt32), .unset, .unset, .unset, .unset, .unset, .unset, .unset, .unset, .unset, .unset]) rfl (pc' := 67) rfl ?_
    refine joinG B X1065 (J := fun z => (mkF m 85 #[.val (.int p0), .val (.long p1), .second, .val (.int p2), .val (.int p3), .val (.int qk), .val (.long qw), .second, .val (.int (1 : Int32)), .val (.int (ofs p0)), .val (.int qle), .val (.int z), .unset, .unset, .unset, .unset, .unset, .unset, .unset, .unset, .unset, .unset] [])) (r := (ot p3.toInt8.toInt32)) (fun J => ?_) ?_
    · refine giload B X1065 at_67 rfl (pc' := 69) rfl ?_
      refine gbipush B X1065 at_69 (v := (48 : Int32)) rfl (pc' := 71) rfl ?_
      by_cases c71_1066 : p3.toInt8.toInt32 < (48 : Int32)
      · refine gicY B X1065 (pc' := 85) at_71 (tlt c71_1066).1 (by decide) ?_
        have e_J : (ot p3.toInt8.toInt32) = p3.toInt8.toInt32 := by rw [ot, if_pos c71_1066]
        rw [e_J] at J
        exact J _ X1065
      · refine gicN B X1065 at_71 (flt c71_1066).1 (pc' := 74) rfl ?_
        refine giload B X1065 at_74 rfl (pc' := 76) rfl ?_
        refine gbipush B X1065 at_76 (v := (57 : Int32)) rfl (pc' := 78) rfl ?_
        by_cases c78_1067 : (57 : Int32) < p3.toInt8.toInt32
        · refine gicY B X1065 (pc' := 85) at_78 (tlt c78_1067).2.2.1 (by decide) ?_
          have e_J : (ot p3.toInt8.toInt32) = p3.toInt8.toInt32 := by rw [ot, if_neg c71_1066, if_pos c78_1067]
          rw [e_J] at J
          exact J _ X1065
        · refine gicN B X1065 at_78 (flt c78_1067).2.2.1 (pc' := 81) rfl ?_
          refine gbipush B X1065 at_81 (v := (10 : Int32)) rfl (pc' := 83) rfl ?_
          refine gistore B X1065 at_83 (Ls' := #[.val (.int p0), .val (.long p1), .second, .val (.int p2), .val (.int p3), .val (.int qk), .val (.long qw), .second, .val (.int (1 : Int32)), .val (.int (ofs p0)), .val (.int qle), .val (.int (10 : Int32)), .unset, .unset, .unset, .unset, .unset, .unset, .unset, .unset, .unset, .unset]) rfl (pc' := 85) rfl ?_
          have e_J : (ot p3.toInt8.toInt32) = (10 : Int32) := by rw [ot, if_neg c71_1066, if_neg c78_1067]
          rw [e_J] at J
          exact J _ X1065
    intro T1068 X1069
    show Go p e below _ _ _ _ T1068 (mkF m 85 #[.val (.int p0), .val (.long p1), .second, .val (.int p2), .val (.int p3), .val (.int qk), .val (.long qw), .second, .val (.int (1 : Int32)), .val (.int (ofs p0)), .val (.int qle), .val (.int (ot p3.toInt8.toInt32)), .unset, .unset, .unset, .unset, .unset, .unset, .unset, .unset, .unset, .unset] [])
    refine giloadN B X1069 at_85 rfl (pc' := 86) rfl ?_
    have ht8 := own_t8 p3; have htn := own_tn p3
    generalize e_qt : (ot p3.toInt8.toInt32) = qt at ht8 htn ⊢
    refine giconst B X1069 at_86 (v := (3 : Int32)) rfl (pc' := 87) rfl ?_
    refine giand B X1069 at_87 rfl (pc' := 88) rfl ?_
    rcases own_and3 p0 with e_b | e_b | e_b | e_b
    · rw [e_b]
      refine gistore B X1069 at_88 (Ls' := #[.val (.int p0), .val (.long p1), .second, .val (.int p2), .val (.int p3), .val (.int qk), .val (.long qw), .second, .val (.int (1 : Int32)), .val (.int (ofs p0)), .val (.int qle), .val (.int qt), .val (.int (0 : Int32)), .unset, .unset, .unset, .unset, .unset, .unset, .unset, .unset, .unset]) rfl (pc' := 90) rfl ?_
      refine giload B X1069 at_90 rfl (pc' := 92) rfl ?_
      refine giconst B X1069 at_92 (v := (3 : Int32)) rfl (pc' := 93) rfl ?_
      have c93_1070 : ¬ ((0 : Int32) = (3 : Int32)) := (by decide)
      refine gicY B X1069 (pc' := 100) at_93 (feq c93_1070).2 (by decide) ?_
      refine giconst B X1069 at_100 (v := (0 : Int32)) rfl (pc' := 101) rfl ?_
      refine gistore B X1069 at_101 (Ls' := #[.val (.int p0), .val (.long p1), .second, .val (.int p2), .val (.int p3), .val (.int qk), .val (.long qw), .second, .val (.int (1 : Int32)), .val (.int (ofs p0)), .val (.int qle), .val (.int qt), .val (.int (0 : Int32)), .val (.int (0 : Int32)), .unset, .unset, .unset, .unset, .unset, .unset, .unset, .unset]) rfl (pc' := 103) rfl ?_
      refine giload B X1069 at_103 rfl (pc' := 105) rfl ?_
      have c105_1071 : (0 : Int32) = (0 : Int32) := (by decide)
      refine gifY B X1069 (pc' := 112) at_105 ((if0 _ _).trans (teq c105_1071).1) (by decide) ?_
      refine giload B X1069 at_112 rfl (pc' := 114) rfl ?_
      refine gistore B X1069 at_114 (Ls' := #[.val (.int p0), .val (.long p1), .second, .val (.int p2), .val (.int p3), .val (.int qk), .val (.long qw), .second, .val (.int (1 : Int32)), .val (.int (ofs p0)), .val (.int qle), .val (.int qt), .val (.int (0 : Int32)), .val (.int (0 : Int32)), .val (.int (0 : Int32)), .unset, .unset, .unset, .unset, .unset, .unset, .unset]) rfl (pc' := 116) rfl ?_
      refine giload B X1069 at_116 rfl (pc' := 118) rfl ?_
      have c118_1072 : (0 : Int32) = (0 : Int32) := (by decide)
      refine gifY B X1069 (pc' := 128) at_118 ((if0 _ _).trans (teq c118_1072).1) (by decide) ?_
      refine giload B X1069 at_128 rfl (pc' := 130) rfl ?_
      refine gistore B X1069 at_130 (Ls' := #[.val (.int p0), .val (.long p1), .second, .val (.int p2), .val (.int p3), .val (.int qk), .val (.long qw), .second, .val (.int (1 : Int32)), .val (.int (ofs p0)), .val (.int qle), .val (.int qt), .val (.int (0 : Int32)), .val (.int (0 : Int32)), .val (.int (0 : Int32)), .val (.int (0 : Int32)), .unset, .unset, .unset, .unset, .unset, .unset]) rfl (pc' := 132) rfl ?_
      refine gbipush B X1069 at_132 (v := (18 : Int32)) rfl (pc' := 134) rfl ?_
      refine gnewarray B X1069 (cap := 18) (vs := [(.int (0 : Int32)), (.int (0 : Int32)), (.int (0 : Int32)), (.int (0 : Int32)), (.int (0 : Int32)), (.int (0 : Int32)), (.int (0 : Int32)), (.int (0 : Int32)), (.int (0 : Int32)), (.int (0 : Int32)), (.int (0 : Int32)), (.int (0 : Int32)), (.int (0 : Int32)), (.int (0 : Int32)), (.int (0 : Int32)), (.int (0 : Int32)), (.int (0 : Int32)), (.int (0 : Int32))]) (ty := .byte) rfl rfl (hw _ (List.mem_of_getElem? (i := 2) rfl)) (by decide) (by decide) (by decide) (by decide) (by decide) at_134 (pc' := 136) rfl fun T1073 h1074 a1075 X1076 q1077 E1078 z_a1075 A1079 => ?_
      refine gdup B X1076 at_136 rfl (pc' := 137) rfl ?_
      refine giconst B X1076 at_137 (v := (0 : Int32)) rfl (pc' := 138) rfl ?_
      refine gbipush B X1076 at_138 (v := (10 : Int32)) rfl (pc' := 140) rfl ?_
      refine gbastore B X1076 (i := 0) (n := 18) A1079 rfl (by decide) rfl (vs' := [(.int (10 : Int32)), (.int (0 : Int32)), (.int (0 : Int32)), (.int (0 : Int32)), (.int (0 : Int32)), (.int (0 : Int32)), (.int (0 : Int32)), (.int (0 : Int32)), (.int (0 : Int32)), (.int (0 : Int32)), (.int (0 : Int32)), (.int (0 : Int32)), (.int (0 : Int32)), (.int (0 : Int32)), (.int (0 : Int32)), (.int (0 : Int32)), (.int (0 : Int32)), (.int (0 : Int32))]) rfl (Or.inr z_a1075) at_140 (pc' := 141) rfl fun T1080 h1081 X1082 W1083 A1084 => ?_
      refine gdup B X1082 at_141 rfl (pc' := 142) rfl ?_
      refine giconst B X1082 at_142 (v := (1 : Int32)) rfl (pc' := 143) rfl ?_
      refine gbipush B X1082 at_143 (v := (10 : Int32)) rfl (pc' := 145) rfl ?_
      refine gbastore B X1082 (i := 1) (n := 18) A1084 rfl (by decide) rfl (vs' := [(.int (10 : Int32)), (.int (10 : Int32)), (.int (0 : Int32)), (.int (0 : Int32)), (.int (0 : Int32)), (.int (0 : Int32)), (.int (0 : Int32)), (.int (0 : Int32)), (.int (0 : Int32)), (.int (0 : Int32)), (.int (0 : Int32)), (.int (0 : Int32)), (.int (0 : Int32)), (.int (0 : Int32)), (.int (0 : Int32)), (.int (0 : Int32)), (.int (0 : Int32)), (.int (0 : Int32))]) rfl (Or.inr z_a1075) at_145 (pc' := 146) rfl fun T1085 h1086 X1087 W1088 A1089 => ?_
      refine gdup B X1087 at_146 rfl (pc' := 147) rfl ?_
      refine giconst B X1087 at_147 (v := (2 : Int32)) rfl (pc' := 148) rfl ?_
      refine gbipush B X1087 at_148 (v := (10 : Int32)) rfl (pc' := 150) rfl ?_
      refine gbastore B X1087 (i := 2) (n := 18) A1089 rfl (by decide) rfl (vs' := [(.int (10 : Int32)), (.int (10 : Int32)), (.int (10 : Int32)), (.int (0 : Int32)), (.int (0 : Int32)), (.int (0 : Int32)), (.int (0 : Int32)), (.int (0 : Int32)), (.int (0 : Int32)), (.int (0 : Int32)), (.int (0 : Int32)), (.int (0 : Int32)), (.int (0 : Int32)), (.int (0 : Int32)), (.int (0 : Int32)), (.int (0 : Int32)), (.int (0 : Int32)), (.int (0 : Int32))]) rfl (Or.inr z_a1075) at_150 (pc' := 151) rfl fun T1090 h1091 X1092 W1093 A1094 => ?_
      refine gdup B X1092 at_151 rfl (pc' := 152) rfl ?_
      refine giconst B X1092 at_152 (v := (3 : Int32)) rfl (pc' := 153) rfl ?_
      refine gbipush B X1092 at_153 (v := (10 : Int32)) rfl (pc' := 155) rfl ?_
      refine gbastore B X1092 (i := 3) (n := 18) A1094 rfl (by decide) rfl (vs' := [(.int (10 : Int32)), (.int (10 : Int32)), (.int (10 : Int32)), (.int (10 : Int32)), (.int (0 : Int32)), (.int (0 : Int32)), (.int (0 : Int32)), (.int (0 : Int32)), (.int (0 : Int32)), (.int (0 : Int32)), (.int (0 : Int32)), (.int (0 : Int32)), (.int (0 : Int32)), (.int (0 : Int32)), (.int (0 : Int32)), (.int (0 : Int32)), (.int (0 : Int32)), (.int (0 : Int32))]) rfl (Or.inr z_a1075) at_155 (pc' := 156) rfl fun T1095 h1096 X1097 W1098 A1099 => ?_
      refine gdup B X1097 at_156 rfl (pc' := 157) rfl ?_
      refine giconst B X1097 at_157 (v := (4 : Int32)) rfl (pc' := 158) rfl ?_
      refine gbipush B X1097 at_158 (v := (10 : Int32)) rfl (pc' := 160) rfl ?_
      refine gbastore B X1097 (i := 4) (n := 18) A1099 rfl (by decide) rfl (vs' := [(.int (10 : Int32)), (.int (10 : Int32)), (.int (10 : Int32)), (.int (10 : Int32)), (.int (10 : Int32)), (.int (0 : Int32)), (.int (0 : Int32)), (.int (0 : Int32)), (.int (0 : Int32)), (.int (0 : Int32)), (.int (0 : Int32)), (.int (0 : Int32)), (.int (0 : Int32)), (.int (0 : Int32)), (.int (0 : Int32)), (.int (0 : Int32)), (.int (0 : Int32)), (.int (0 : Int32))]) rfl (Or.inr z_a1075) at_160 (pc' := 161) rfl fun T1100 h1101 X1102 W1103 A1104 => ?_
      refine gdup B X1102 at_161 rfl (pc' := 162) rfl ?_
      refine giconst B X1102 at_162 (v := (5 : Int32)) rfl (pc' := 163) rfl ?_
      refine gbipush B X1102 at_163 (v := (10 : Int32)) rfl (pc' := 165) rfl ?_
      refine gbastore B X1102 (i := 5) (n := 18) A1104 rfl (by decide) rfl (vs' := [(.int (10 : Int32)), (.int (10 : Int32)), (.int (10 : Int32)), (.int (10 : Int32)), (.int (10 : Int32)), (.int (10 : Int32)), (.int (0 : Int32)), (.int (0 : Int32)), (.int (0 : Int32)), (.int (0 : Int32)), (.int (0 : Int32)), (.int (0 : Int32)), (.int (0 : Int32)), (.int (0 : Int32)), (.int (0 : Int32)), (.int (0 : Int32)), (.int (0 : Int32)), (.int (0 : Int32))]) rfl (Or.inr z_a1075) at_165 (pc' := 166) rfl fun T1105 h1106 X1107 W1108 A1109 => ?_
      refine gdup B X1107 at_166 rfl (pc' := 167) rfl ?_
      refine gbipush B X1107 at_167 (v := (6 : Int32)) rfl (pc' := 169) rfl ?_
      refine gbipush B X1107 at_169 (v := (10 : Int32)) rfl (pc' := 171) rfl ?_
      refine gbastore B X1107 (i := 6) (n := 18) A1109 rfl (by decide) rfl (vs' := [(.int (10 : Int32)), (.int (10 : Int32)), (.int (10 : Int32)), (.int (10 : Int32)), (.int (10 : Int32)), (.int (10 : Int32)), (.int (10 : Int32)), (.int (0 : Int32)), (.int (0 : Int32)), (.int (0 : Int32)), (.int (0 : Int32)), (.int (0 : Int32)), (.int (0 : Int32)), (.int (0 : Int32)), (.int (0 : Int32)), (.int (0 : Int32)), (.int (0 : Int32)), (.int (0 : Int32))]) rfl (Or.inr z_a1075) at_171 (pc' := 172) rfl fun T1110 h1111 X1112 W1113 A1114 => ?_
      refine gdup B X1112 at_172 rfl (pc' := 173) rfl ?_
      refine gbipush B X1112 at_173 (v := (7 : Int32)) rfl (pc' := 175) rfl ?_
      refine gbipush B X1112 at_175 (v := (10 : Int32)) rfl (pc' := 177) rfl ?_
      refine gbastore B X1112 (i := 7) (n := 18) A1114 rfl (by decide) rfl (vs' := [(.int (10 : Int32)), (.int (10 : Int32)), (.int (10 : Int32)), (.int (10 : Int32)), (.int (10 : Int32)), (.int (10 : Int32)), (.int (10 : Int32)), (.int (10 : Int32)), (.int (0 : Int32)), (.int (0 : Int32)), (.int (0 : Int32)), (.int (0 : Int32)), (.int (0 : Int32)), (.int (0 : Int32)), (.int (0 : Int32)), (.int (0 : Int32)), (.int (0 : Int32)), (.int (0 : Int32))]) rfl (Or.inr z_a1075) at_177 (pc' := 178) rfl fun T1115 h1116 X1117 W1118 A1119 => ?_
      refine gdup B X1117 at_178 rfl (pc' := 179) rfl ?_
      refine gbipush B X1117 at_179 (v := (8 : Int32)) rfl (pc' := 181) rfl ?_
      refine gbipush B X1117 at_181 (v := (10 : Int32)) rfl (pc' := 183) rfl ?_
      refine gbastore B X1117 (i := 8) (n := 18) A1119 rfl (by decide) rfl (vs' := [(.int (10 : Int32)), (.int (10 : Int32)), (.int (10 : Int32)), (.int (10 : Int32)), (.int (10 : Int32)), (.int (10 : Int32)), (.int (10 : Int32)), (.int (10 : Int32)), (.int (10 : Int32)), (.int (0 : Int32)), (.int (0 : Int32)), (.int (0 : Int32)), (.int (0 : Int32)), (.int (0 : Int32)), (.int (0 : Int32)), (.int (0 : Int32)), (.int (0 : Int32)), (.int (0 : Int32))]) rfl (Or.inr z_a1075) at_183 (pc' := 184) rfl fun T1120 h1121 X1122 W1123 A1124 => ?_
      refine gdup B X1122 at_184 rfl (pc' := 185) rfl ?_
      refine gbipush B X1122 at_185 (v := (9 : Int32)) rfl (pc' := 187) rfl ?_
      refine gbipush B X1122 at_187 (v := (10 : Int32)) rfl (pc' := 189) rfl ?_
      refine gbastore B X1122 (i := 9) (n := 18) A1124 rfl (by decide) rfl (vs' := [(.int (10 : Int32)), (.int (10 : Int32)), (.int (10 : Int32)), (.int (10 : Int32)), (.int (10 : Int32)), (.int (10 : Int32)), (.int (10 : Int32)), (.int (10 : Int32)), (.int (10 : Int32)), (.int (10 : Int32)), (.int (0 : Int32)), (.int (0 : Int32)), (.int (0 : Int32)), (.int (0 : Int32)), (.int (0 : Int32)), (.int (0 : Int32)), (.int (0 : Int32)), (.int (0 : Int32))]) rfl (Or.inr z_a1075) at_189 (pc' := 190) rfl fun T1125 h1126 X1127 W1128 A1129 => ?_
      refine gdup B X1127 at_190 rfl (pc' := 191) rfl ?_
      refine gbipush B X1127 at_191 (v := (10 : Int32)) rfl (pc' := 193) rfl ?_
      refine gbipush B X1127 at_193 (v := (10 : Int32)) rfl (pc' := 195) rfl ?_
      refine gbastore B X1127 (i := 10) (n := 18) A1129 rfl (by decide) rfl (vs' := [(.int (10 : Int32)), (.int (10 : Int32)), (.int (10 : Int32)), (.int (10 : Int32)), (.int (10 : Int32)), (.int (10 : Int32)), (.int (10 : Int32)), (.int (10 : Int32)), (.int (10 : Int32)), (.int (10 : Int32)), (.int (10 : Int32)), (.int (0 : Int32)), (.int (0 : Int32)), (.int (0 : Int32)), (.int (0 : Int32)), (.int (0 : Int32)), (.int (0 : Int32)), (.int (0 : Int32))]) rfl (Or.inr z_a1075) at_195 (pc' := 196) rfl fun T1130 h1131 X1132 W1133 A1134 => ?_
      refine gdup B X1132 at_196 rfl (pc' := 197) rfl ?_
      refine gbipush B X1132 at_197 (v := (11 : Int32)) rfl (pc' := 199) rfl ?_
      refine gbipush B X1132 at_199 (v := (10 : Int32)) rfl (pc' := 201) rfl ?_
      refine gbastore B X1132 (i := 11) (n := 18) A1134 rfl (by decide) rfl (vs' := [(.int (10 : Int32)), (.int (10 : Int32)), (.int (10 : Int32)), (.int (10 : Int32)), (.int (10 : Int32)), (.int (10 : Int32)), (.int (10 : Int32)), (.int (10 : Int32)), (.int (10 : Int32)), (.int (10 : Int32)), (.int (10 : Int32)), (.int (10 : Int32)), (.int (0 : Int32)), (.int (0 : Int32)), (.int (0 : Int32)), (.int (0 : Int32)), (.int (0 : Int32)), (.int (0 : Int32))]) rfl (Or.inr z_a1075) at_201 (pc' := 202) rfl fun T1135 h1136 X1137 W1138 A1139 => ?_
      refine gdup B X1137 at_202 rfl (pc' := 203) rfl ?_
      refine gbipush B X1137 at_203 (v := (12 : Int32)) rfl (pc' := 205) rfl ?_
      refine gbipush B X1137 at_205 (v := (10 : Int32)) rfl (pc' := 207) rfl ?_
      refine gbastore B X1137 (i := 12) (n := 18) A1139 rfl (by decide) rfl (vs' := [(.int (10 : Int32)), (.int (10 : Int32)), (.int (10 : Int32)), (.int (10 : Int32)), (.int (10 : Int32)), (.int (10 : Int32)), (.int (10 : Int32)), (.int (10 : Int32)), (.int (10 : Int32)), (.int (10 : Int32)), (.int (10 : Int32)), (.int (10 : Int32)), (.int (10 : Int32)), (.int (0 : Int32)), (.int (0 : Int32)), (.int (0 : Int32)), (.int (0 : Int32)), (.int (0 : Int32))]) rfl (Or.inr z_a1075) at_207 (pc' := 208) rfl fun T1140 h1141 X1142 W1143 A1144 => ?_
      refine gdup B X1142 at_208 rfl (pc' := 209) rfl ?_
      refine gbipush B X1142 at_209 (v := (13 : Int32)) rfl (pc' := 211) rfl ?_
      refine gbipush B X1142 at_211 (v := (10 : Int32)) rfl (pc' := 213) rfl ?_
      refine gbastore B X1142 (i := 13) (n := 18) A1144 rfl (by decide) rfl (vs' := [(.int (10 : Int32)), (.int (10 : Int32)), (.int (10 : Int32)), (.int (10 : Int32)), (.int (10 : Int32)), (.int (10 : Int32)), (.int (10 : Int32)), (.int (10 : Int32)), (.int (10 : Int32)), (.int (10 : Int32)), (.int (10 : Int32)), (.int (10 : Int32)), (.int (10 : Int32)), (.int (10 : Int32)), (.int (0 : Int32)), (.int (0 : Int32)), (.int (0 : Int32)), (.int (0 : Int32))]) rfl (Or.inr z_a1075) at_213 (pc' := 214) rfl fun T1145 h1146 X1147 W1148 A1149 => ?_
      refine gdup B X1147 at_214 rfl (pc' := 215) rfl ?_
      refine gbipush B X1147 at_215 (v := (14 : Int32)) rfl (pc' := 217) rfl ?_
      refine gbipush B X1147 at_217 (v := (10 : Int32)) rfl (pc' := 219) rfl ?_
      refine gbastore B X1147 (i := 14) (n := 18) A1149 rfl (by decide) rfl (vs' := [(.int (10 : Int32)), (.int (10 : Int32)), (.int (10 : Int32)), (.int (10 : Int32)), (.int (10 : Int32)), (.int (10 : Int32)), (.int (10 : Int32)), (.int (10 : Int32)), (.int (10 : Int32)), (.int (10 : Int32)), (.int (10 : Int32)), (.int (10 : Int32)), (.int (10 : Int32)), (.int (10 : Int32)), (.int (10 : Int32)), (.int (0 : Int32)), (.int (0 : Int32)), (.int (0 : Int32))]) rfl (Or.inr z_a1075) at_219 (pc' := 220) rfl fun T1150 h1151 X1152 W1153 A1154 => ?_
      refine gdup B X1152 at_220 rfl (pc' := 221) rfl ?_
      refine gbipush B X1152 at_221 (v := (15 : Int32)) rfl (pc' := 223) rfl ?_
      refine gbipush B X1152 at_223 (v := (10 : Int32)) rfl (pc' := 225) rfl ?_
      refine gbastore B X1152 (i := 15) (n := 18) A1154 rfl (by decide) rfl (vs' := [(.int (10 : Int32)), (.int (10 : Int32)), (.int (10 : Int32)), (.int (10 : Int32)), (.int (10 : Int32)), (.int (10 : Int32)), (.int (10 : Int32)), (.int (10 : Int32)), (.int (10 : Int32)), (.int (10 : Int32)), (.int (10 : Int32)), (.int (10 : Int32)), (.int (10 : Int32)), (.int (10 : Int32)), (.int (10 : Int32)), (.int (10 : Int32)), (.int (0 : Int32)), (.int (0 : Int32))]) rfl (Or.inr z_a1075) at_225 (pc' := 226) rfl fun T1155 h1156 X1157 W1158 A1159 => ?_
      refine gdup B X1157 at_226 rfl (pc' := 227) rfl ?_
      refine gbipush B X1157 at_227 (v := (16 : Int32)) rfl (pc' := 229) rfl ?_
      refine gbipush B X1157 at_229 (v := (10 : Int32)) rfl (pc' := 231) rfl ?_
      refine gbastore B X1157 (i := 16) (n := 18) A1159 rfl (by decide) rfl (vs' := [(.int (10 : Int32)), (.int (10 : Int32)), (.int (10 : Int32)), (.int (10 : Int32)), (.int (10 : Int32)), (.int (10 : Int32)), (.int (10 : Int32)), (.int (10 : Int32)), (.int (10 : Int32)), (.int (10 : Int32)), (.int (10 : Int32)), (.int (10 : Int32)), (.int (10 : Int32)), (.int (10 : Int32)), (.int (10 : Int32)), (.int (10 : Int32)), (.int (10 : Int32)), (.int (0 : Int32))]) rfl (Or.inr z_a1075) at_231 (pc' := 232) rfl fun T1160 h1161 X1162 W1163 A1164 => ?_
      refine gdup B X1162 at_232 rfl (pc' := 233) rfl ?_
      refine gbipush B X1162 at_233 (v := (17 : Int32)) rfl (pc' := 235) rfl ?_
      refine gbipush B X1162 at_235 (v := (10 : Int32)) rfl (pc' := 237) rfl ?_
      refine gbastore B X1162 (i := 17) (n := 18) A1164 rfl (by decide) rfl (vs' := [(.int (10 : Int32)), (.int (10 : Int32)), (.int (10 : Int32)), (.int (10 : Int32)), (.int (10 : Int32)), (.int (10 : Int32)), (.int (10 : Int32)), (.int (10 : Int32)), (.int (10 : Int32)), (.int (10 : Int32)), (.int (10 : Int32)), (.int (10 : Int32)), (.int (10 : Int32)), (.int (10 : Int32)), (.int (10 : Int32)), (.int (10 : Int32)), (.int (10 : Int32)), (.int (10 : Int32))]) rfl (Or.inr z_a1075) at_237 (pc' := 238) rfl fun T1165 h1166 X1167 W1168 A1169 => ?_
      refine gastore B X1167 at_238 rfl (Ls' := #[.val (.int p0), .val (.long p1), .second, .val (.int p2), .val (.int p3), .val (.int qk), .val (.long qw), .second, .val (.int (1 : Int32)), .val (.int (ofs p0)), .val (.int qle), .val (.int qt), .val (.int (0 : Int32)), .val (.int (0 : Int32)), .val (.int (0 : Int32)), .val (.int (0 : Int32)), .val (.ref a1075), .unset, .unset, .unset, .unset, .unset]) rfl (pc' := 240) rfl ?_
      refine gaload B X1167 at_240 rfl rfl (pc' := 242) rfl ?_
      refine giconst B X1167 at_242 (v := (0 : Int32)) rfl (pc' := 243) rfl ?_
      refine gbipush B X1167 at_243 (v := (57 : Int32)) rfl (pc' := 245) rfl ?_
      refine gbastore B X1167 (i := 0) (n := 18) A1169 rfl (by decide) rfl (vs' := [(.int (57 : Int32)), (.int (10 : Int32)), (.int (10 : Int32)), (.int (10 : Int32)), (.int (10 : Int32)), (.int (10 : Int32)), (.int (10 : Int32)), (.int (10 : Int32)), (.int (10 : Int32)), (.int (10 : Int32)), (.int (10 : Int32)), (.int (10 : Int32)), (.int (10 : Int32)), (.int (10 : Int32)), (.int (10 : Int32)), (.int (10 : Int32)), (.int (10 : Int32)), (.int (10 : Int32))]) rfl (Or.inr z_a1075) at_245 (pc' := 246) rfl fun T1170 h1171 X1172 W1173 A1174 => ?_
      refine gaload B X1172 at_246 rfl rfl (pc' := 248) rfl ?_
      refine giconst B X1172 at_248 (v := (1 : Int32)) rfl (pc' := 249) rfl ?_
      refine gbipush B X1172 at_249 (v := (57 : Int32)) rfl (pc' := 251) rfl ?_
      refine gbastore B X1172 (i := 1) (n := 18) A1174 rfl (by decide) rfl (vs' := [(.int (57 : Int32)), (.int (57 : Int32)), (.int (10 : Int32)), (.int (10 : Int32)), (.int (10 : Int32)), (.int (10 : Int32)), (.int (10 : Int32)), (.int (10 : Int32)), (.int (10 : Int32)), (.int (10 : Int32)), (.int (10 : Int32)), (.int (10 : Int32)), (.int (10 : Int32)), (.int (10 : Int32)), (.int (10 : Int32)), (.int (10 : Int32)), (.int (10 : Int32)), (.int (10 : Int32))]) rfl (Or.inr z_a1075) at_251 (pc' := 252) rfl fun T1175 h1176 X1177 W1178 A1179 => ?_
      refine gaload B X1177 at_252 rfl rfl (pc' := 254) rfl ?_
      refine giload B X1177 at_254 rfl (pc' := 256) rfl ?_
      refine giload B X1177 at_256 rfl (pc' := 258) rfl ?_
      refine gbastore B X1177 (i := 0) A1179 (n := 18) rfl (by decide) rfl (vs' := (([qle, 57, 10, 10, 10, 10, 10, 10, 10, 10, 10, 10, 10, 10, 10, 10, 10, 10] : List Int32).map Value.int)) (by rw [hle]; rfl) (Or.inr z_a1075) at_258 (pc' := 259) rfl fun T1180 h1181 X1182 W1183 A1184 => ?_
      refine giload B X1182 at_259 rfl (pc' := 261) rfl ?_
      refine giconst B X1182 at_261 (v := (1 : Int32)) rfl (pc' := 262) rfl ?_
      refine giadd B X1182 at_262 (v := (1 : Int32)) (by decide) (pc' := 263) rfl ?_
      refine gistore B X1182 at_263 (Ls' := #[.val (.int p0), .val (.long p1), .second, .val (.int p2), .val (.int p3), .val (.int qk), .val (.long qw), .second, .val (.int (1 : Int32)), .val (.int (ofs p0)), .val (.int qle), .val (.int qt), .val (.int (0 : Int32)), .val (.int (0 : Int32)), .val (.int (0 : Int32)), .val (.int (0 : Int32)), .val (.ref a1075), .val (.int (1 : Int32)), .unset, .unset, .unset, .unset]) rfl (pc' := 265) rfl ?_
      refine giload B X1182 at_265 rfl (pc' := 267) rfl ?_
      have c267_1185 : ¬ ((1 : Int32) = (0 : Int32)) := (by decide)
      refine gifN B X1182 at_267 ((if0 _ _).trans (feq c267_1185).1) (pc' := 270) rfl ?_
      refine gaload B X1182 at_270 rfl rfl (pc' := 272) rfl ?_
      refine giload B X1182 at_272 rfl (pc' := 274) rfl ?_
      refine gbipush B X1182 at_274 (v := (45 : Int32)) rfl (pc' := 276) rfl ?_
      refine gbastore B X1182 (i := 1) A1184 (n := 18) rfl (by decide) rfl (vs' := (([qle, 45, 10, 10, 10, 10, 10, 10, 10, 10, 10, 10, 10, 10, 10, 10, 10, 10] : List Int32).map Value.int)) (rfl) (Or.inr z_a1075) at_276 (pc' := 277) rfl fun T1186 h1187 X1188 W1189 A1190 => ?_
      refine giload B X1188 at_277 rfl (pc' := 279) rfl ?_
      refine giconst B X1188 at_279 (v := (1 : Int32)) rfl (pc' := 280) rfl ?_
      refine giadd B X1188 at_280 (v := (2 : Int32)) (by decide) (pc' := 281) rfl ?_
      refine gistore B X1188 at_281 (Ls' := #[.val (.int p0), .val (.long p1), .second, .val (.int p2), .val (.int p3), .val (.int qk), .val (.long qw), .second, .val (.int (1 : Int32)), .val (.int (ofs p0)), .val (.int qle), .val (.int qt), .val (.int (0 : Int32)), .val (.int (0 : Int32)), .val (.int (0 : Int32)), .val (.int (0 : Int32)), .val (.ref a1075), .val (.int (2 : Int32)), .unset, .unset, .unset, .unset]) rfl (pc' := 283) rfl ?_
      have hL0 : ([qle, 45, 10, 10, 10, 10, 10, 10, 10, 10, 10, 10, 10, 10, 10, 10, 10, 10] : List Int32).length = 18 := rfl
      have ha0 : ([qle, 45, 10, 10, 10, 10, 10, 10, 10, 10, 10, 10, 10, 10, 10, 10, 10, 10] : List Int32).getD 0 0 = qle := rfl
      have hb0 : ([qle, 45, 10, 10, 10, 10, 10, 10, 10, 10, 10, 10, 10, 10, 10, 10, 10, 10] : List Int32).getD 1 0 = 45 := rfl
      generalize ([qle, 45, 10, 10, 10, 10, 10, 10, 10, 10, 10, 10, 10, 10, 10, 10, 10, 10] : List Int32) = bs0 at hL0 ha0 hb0 A1190
      have A1191 : VA Z h1187 a1075 .byte ((orec bs0 2 kN qw qt 0).map Value.int) := A1190
      refine gaload B X1188 at_283 rfl rfl (pc' := 285) rfl ?_
      refine giload B X1188 at_285 rfl (pc' := 287) rfl ?_
      refine giconst B X1188 at_287 (v := (0 : Int32)) rfl (pc' := 288) rfl ?_
      refine giload B X1188 at_288 rfl (pc' := 290) rfl ?_
      refine glload B X1188 at_290 rfl (pc' := 292) rfl ?_
      refine giload B X1188 at_292 rfl (pc' := 294) rfl ?_
      refine gcallS B X1188 (hw _ (List.mem_of_getElem? (i := 3) rfl)) (hw _ (List.mem_of_getElem? (i := 4) rfl)) (hw _ (List.mem_of_getElem? (i := 5) rfl)) (hw _ (List.mem_of_getElem? (i := 6) rfl)) (by decide) (mt1 l Z a0 hw a1075 (2 : Int32) (0 : Int32) qk qw qt (orec bs0 2 kN qw qt 0) 2 0 kN h1187 A1191 ((own_len ..).trans hL0) (by decide) (by decide) (by decide) (by decide) hk hk11 ht8) pd___BIIIJB_V rfl (argsL := [(.ref a1075), (.int (2 : Int32)), (.int (0 : Int32)), (.int qk), (.long qw), (.int qt)]) (st := []) rfl rfl (W := 0) (Nat.le_of_eq rfl) (by decide) (by decide) (by decide) (by decide) (allS (Or.inr z_a1075) all0) at_294 (pc' := 297) rfl fun T1192 h1193 v1194 X1195 K1196 Q1197 => ?_
      obtain ⟨rfl, A1198⟩ := Q1197
      have A1199 : VA Z h1193 a1075 .byte ((orec bs0 2 kN qw qt 1).map Value.int) := A1198
      show Go p e below _ _ _ _ T1192 (mkF m 297 #[.val (.int p0), .val (.long p1), .second, .val (.int p2), .val (.int p3), .val (.int qk), .val (.long qw), .second, .val (.int (1 : Int32)), .val (.int (ofs p0)), .val (.int qle), .val (.int qt), .val (.int (0 : Int32)), .val (.int (0 : Int32)), .val (.int (0 : Int32)), .val (.int (0 : Int32)), .val (.ref a1075), .val (.int (2 : Int32)), .unset, .unset, .unset, .unset] [])
      refine gaload B X1195 at_297 rfl rfl (pc' := 299) rfl ?_
      refine giload B X1195 at_299 rfl (pc' := 301) rfl ?_
      refine giconst B X1195 at_301 (v := (1 : Int32)) rfl (pc' := 302) rfl ?_
      refine giload B X1195 at_302 rfl (pc' := 304) rfl ?_
      refine glload B X1195 at_304 rfl (pc' := 306) rfl ?_
      refine giload B X1195 at_306 rfl (pc' := 308) rfl ?_
      refine gcallS B X1195 (hw _ (List.mem_of_getElem? (i := 3) rfl)) (hw _ (List.mem_of_getElem? (i := 4) rfl)) (hw _ (List.mem_of_getElem? (i := 5) rfl)) (hw _ (List.mem_of_getElem? (i := 6) rfl)) (by decide) (mt1 l Z a0 hw a1075 (2 : Int32) (1 : Int32) qk qw qt (orec bs0 2 kN qw qt 1) 2 1 kN h1193 A1199 ((own_len ..).trans hL0) (by decide) (by decide) (by decide) (by decide) hk hk11 ht8) pd___BIIIJB_V rfl (argsL := [(.ref a1075), (.int (2 : Int32)), (.int (1 : Int32)), (.int qk), (.long qw), (.int qt)]) (st := []) rfl rfl (W := 0) (Nat.le_of_eq rfl) (by decide) (by decide) (by decide) (by decide) (allS (Or.inr z_a1075) all0) at_308 (pc' := 311) rfl fun T1200 h1201 v1202 X1203 K1204 Q1205 => ?_
      obtain ⟨rfl, A1206⟩ := Q1205
      have A1207 : VA Z h1201 a1075 .byte ((orec bs0 2 kN qw qt 2).map Value.int) := A1206
      show Go p e below _ _ _ _ T1200 (mkF m 311 #[.val (.int p0), .val (.long p1), .second, .val (.int p2), .val (.int p3), .val (.int qk), .val (.long qw), .second, .val (.int (1 : Int32)), .val (.int (ofs p0)), .val (.int qle), .val (.int qt), .val (.int (0 : Int32)), .val (.int (0 : Int32)), .val (.int (0 : Int32)), .val (.int (0 : Int32)), .val (.ref a1075), .val (.int (2 : Int32)), .unset, .unset, .unset, .unset] [])
      refine gaload B X1203 at_311 rfl rfl (pc' := 313) rfl ?_
      refine giload B X1203 at_313 rfl (pc' := 315) rfl ?_
      refine giconst B X1203 at_315 (v := (2 : Int32)) rfl (pc' := 316) rfl ?_
      refine giload B X1203 at_316 rfl (pc' := 318) rfl ?_
      refine glload B X1203 at_318 rfl (pc' := 320) rfl ?_
      refine giload B X1203 at_320 rfl (pc' := 322) rfl ?_
      refine gcallS B X1203 (hw _ (List.mem_of_getElem? (i := 3) rfl)) (hw _ (List.mem_of_getElem? (i := 4) rfl)) (hw _ (List.mem_of_getElem? (i := 5) rfl)) (hw _ (List.mem_of_getElem? (i := 6) rfl)) (by decide) (mt1 l Z a0 hw a1075 (2 : Int32) (2 : Int32) qk qw qt (orec bs0 2 kN qw qt 2) 2 2 kN h1201 A1207 ((own_len ..).trans hL0) (by decide) (by decide) (by decide) (by decide) hk hk11 ht8) pd___BIIIJB_V rfl (argsL := [(.ref a1075), (.int (2 : Int32)), (.int (2 : Int32)), (.int qk), (.long qw), (.int qt)]) (st := []) rfl rfl (W := 0) (Nat.le_of_eq rfl) (by decide) (by decide) (by decide) (by decide) (allS (Or.inr z_a1075) all0) at_322 (pc' := 325) rfl fun T1208 h1209 v1210 X1211 K1212 Q1213 => ?_
      obtain ⟨rfl, A1214⟩ := Q1213
      have A1215 : VA Z h1209 a1075 .byte ((orec bs0 2 kN qw qt 3).map Value.int) := A1214
      show Go p e below _ _ _ _ T1208 (mkF m 325 #[.val (.int p0), .val (.long p1), .second, .val (.int p2), .val (.int p3), .val (.int qk), .val (.long qw), .second, .val (.int (1 : Int32)), .val (.int (ofs p0)), .val (.int qle), .val (.int qt), .val (.int (0 : Int32)), .val (.int (0 : Int32)), .val (.int (0 : Int32)), .val (.int (0 : Int32)), .val (.ref a1075), .val (.int (2 : Int32)), .unset, .unset, .unset, .unset] [])
      refine gaload B X1211 at_325 rfl rfl (pc' := 327) rfl ?_
      refine giload B X1211 at_327 rfl (pc' := 329) rfl ?_
      refine giconst B X1211 at_329 (v := (3 : Int32)) rfl (pc' := 330) rfl ?_
      refine giload B X1211 at_330 rfl (pc' := 332) rfl ?_
      refine glload B X1211 at_332 rfl (pc' := 334) rfl ?_
      refine giload B X1211 at_334 rfl (pc' := 336) rfl ?_
      refine gcallS B X1211 (hw _ (List.mem_of_getElem? (i := 3) rfl)) (hw _ (List.mem_of_getElem? (i := 4) rfl)) (hw _ (List.mem_of_getElem? (i := 5) rfl)) (hw _ (List.mem_of_getElem? (i := 6) rfl)) (by decide) (mt1 l Z a0 hw a1075 (2 : Int32) (3 : Int32) qk qw qt (orec bs0 2 kN qw qt 3) 2 3 kN h1209 A1215 ((own_len ..).trans hL0) (by decide) (by decide) (by decide) (by decide) hk hk11 ht8) pd___BIIIJB_V rfl (argsL := [(.ref a1075), (.int (2 : Int32)), (.int (3 : Int32)), (.int qk), (.long qw), (.int qt)]) (st := []) rfl rfl (W := 0) (Nat.le_of_eq rfl) (by decide) (by decide) (by decide) (by decide) (allS (Or.inr z_a1075) all0) at_336 (pc' := 339) rfl fun T1216 h1217 v1218 X1219 K1220 Q1221 => ?_
      obtain ⟨rfl, A1222⟩ := Q1221
      have A1223 : VA Z h1217 a1075 .byte ((orec bs0 2 kN qw qt 4).map Value.int) := A1222
      show Go p e below _ _ _ _ T1216 (mkF m 339 #[.val (.int p0), .val (.long p1), .second, .val (.int p2), .val (.int p3), .val (.int qk), .val (.long qw), .second, .val (.int (1 : Int32)), .val (.int (ofs p0)), .val (.int qle), .val (.int qt), .val (.int (0 : Int32)), .val (.int (0 : Int32)), .val (.int (0 : Int32)), .val (.int (0 : Int32)), .val (.ref a1075), .val (.int (2 : Int32)), .unset, .unset, .unset, .unset] [])
      refine gaload B X1219 at_339 rfl rfl (pc' := 341) rfl ?_
      refine giload B X1219 at_341 rfl (pc' := 343) rfl ?_
      refine giconst B X1219 at_343 (v := (4 : Int32)) rfl (pc' := 344) rfl ?_
      refine giload B X1219 at_344 rfl (pc' := 346) rfl ?_
      refine glload B X1219 at_346 rfl (pc' := 348) rfl ?_
      refine giload B X1219 at_348 rfl (pc' := 350) rfl ?_
      refine gcallS B X1219 (hw _ (List.mem_of_getElem? (i := 3) rfl)) (hw _ (List.mem_of_getElem? (i := 4) rfl)) (hw _ (List.mem_of_getElem? (i := 5) rfl)) (hw _ (List.mem_of_getElem? (i := 6) rfl)) (by decide) (mt1 l Z a0 hw a1075 (2 : Int32) (4 : Int32) qk qw qt (orec bs0 2 kN qw qt 4) 2 4 kN h1217 A1223 ((own_len ..).trans hL0) (by decide) (by decide) (by decide) (by decide) hk hk11 ht8) pd___BIIIJB_V rfl (argsL := [(.ref a1075), (.int (2 : Int32)), (.int (4 : Int32)), (.int qk), (.long qw), (.int qt)]) (st := []) rfl rfl (W := 0) (Nat.le_of_eq rfl) (by decide) (by decide) (by decide) (by decide) (allS (Or.inr z_a1075) all0) at_350 (pc' := 353) rfl fun T1224 h1225 v1226 X1227 K1228 Q1229 => ?_
      obtain ⟨rfl, A1230⟩ := Q1229
      have A1231 : VA Z h1225 a1075 .byte ((orec bs0 2 kN qw qt 5).map Value.int) := A1230
      show Go p e below _ _ _ _ T1224 (mkF m 353 #[.val (.int p0), .val (.long p1), .second, .val (.int p2), .val (.int p3), .val (.int qk), .val (.long qw), .second, .val (.int (1 : Int32)), .val (.int (ofs p0)), .val (.int qle), .val (.int qt), .val (.int (0 : Int32)), .val (.int (0 : Int32)), .val (.int (0 : Int32)), .val (.int (0 : Int32)), .val (.ref a1075), .val (.int (2 : Int32)), .unset, .unset, .unset, .unset] [])
      refine gaload B X1227 at_353 rfl rfl (pc' := 355) rfl ?_
      refine giload B X1227 at_355 rfl (pc' := 357) rfl ?_
      refine giconst B X1227 at_357 (v := (5 : Int32)) rfl (pc' := 358) rfl ?_
      refine giload B X1227 at_358 rfl (pc' := 360) rfl ?_
      refine glload B X1227 at_360 rfl (pc' := 362) rfl ?_
      refine giload B X1227 at_362 rfl (pc' := 364) rfl ?_
      refine gcallS B X1227 (hw _ (List.mem_of_getElem? (i := 3) rfl)) (hw _ (List.mem_of_getElem? (i := 4) rfl)) (hw _ (List.mem_of_getElem? (i := 5) rfl)) (hw _ (List.mem_of_getElem? (i := 6) rfl)) (by decide) (mt1 l Z a0 hw a1075 (2 : Int32) (5 : Int32) qk qw qt (orec bs0 2 kN qw qt 5) 2 5 kN h1225 A1231 ((own_len ..).trans hL0) (by decide) (by decide) (by decide) (by decide) hk hk11 ht8) pd___BIIIJB_V rfl (argsL := [(.ref a1075), (.int (2 : Int32)), (.int (5 : Int32)), (.int qk), (.long qw), (.int qt)]) (st := []) rfl rfl (W := 0) (Nat.le_of_eq rfl) (by decide) (by decide) (by decide) (by decide) (allS (Or.inr z_a1075) all0) at_364 (pc' := 367) rfl fun T1232 h1233 v1234 X1235 K1236 Q1237 => ?_
      obtain ⟨rfl, A1238⟩ := Q1237
      have A1239 : VA Z h1233 a1075 .byte ((orec bs0 2 kN qw qt 6).map Value.int) := A1238
      show Go p e below _ _ _ _ T1232 (mkF m 367 #[.val (.int p0), .val (.long p1), .second, .val (.int p2), .val (.int p3), .val (.int qk), .val (.long qw), .second, .val (.int (1 : Int32)), .val (.int (ofs p0)), .val (.int qle), .val (.int qt), .val (.int (0 : Int32)), .val (.int (0 : Int32)), .val (.int (0 : Int32)), .val (.int (0 : Int32)), .val (.ref a1075), .val (.int (2 : Int32)), .unset, .unset, .unset, .unset] [])
      refine gaload B X1235 at_367 rfl rfl (pc' := 369) rfl ?_
      refine giload B X1235 at_369 rfl (pc' := 371) rfl ?_
      refine gbipush B X1235 at_371 (v := (6 : Int32)) rfl (pc' := 373) rfl ?_
      refine giload B X1235 at_373 rfl (pc' := 375) rfl ?_
      refine glload B X1235 at_375 rfl (pc' := 377) rfl ?_
      refine giload B X1235 at_377 rfl (pc' := 379) rfl ?_
      refine gcallS B X1235 (hw _ (List.mem_of_getElem? (i := 3) rfl)) (hw _ (List.mem_of_getElem? (i := 4) rfl)) (hw _ (List.mem_of_getElem? (i := 5) rfl)) (hw _ (List.mem_of_getElem? (i := 6) rfl)) (by decide) (mt1 l Z a0 hw a1075 (2 : Int32) (6 : Int32) qk qw qt (orec bs0 2 kN qw qt 6) 2 6 kN h1233 A1239 ((own_len ..).trans hL0) (by decide) (by decide) (by decide) (by decide) hk hk11 ht8) pd___BIIIJB_V rfl (argsL := [(.ref a1075), (.int (2 : Int32)), (.int (6 : Int32)), (.int qk), (.long qw), (.int qt)]) (st := []) rfl rfl (W := 0) (Nat.le_of_eq rfl) (by decide) (by decide) (by decide) (by decide) (allS (Or.inr z_a1075) all0) at_379 (pc' := 382) rfl fun T1240 h1241 v1242 X1243 K1244 Q1245 => ?_
      obtain ⟨rfl, A1246⟩ := Q1245
      have A1247 : VA Z h1241 a1075 .byte ((orec bs0 2 kN qw qt 7).map Value.int) := A1246
      show Go p e below _ _ _ _ T1240 (mkF m 382 #[.val (.int p0), .val (.long p1), .second, .val (.int p2), .val (.int p3), .val (.int qk), .val (.long qw), .second, .val (.int (1 : Int32)), .val (.int (ofs p0)), .val (.int qle), .val (.int qt), .val (.int (0 : Int32)), .val (.int (0 : Int32)), .val (.int (0 : Int32)), .val (.int (0 : Int32)), .val (.ref a1075), .val (.int (2 : Int32)), .unset, .unset, .unset, .unset] [])
      refine gaload B X1243 at_382 rfl rfl (pc' := 384) rfl ?_
      refine giload B X1243 at_384 rfl (pc' := 386) rfl ?_
      refine gbipush B X1243 at_386 (v := (7 : Int32)) rfl (pc' := 388) rfl ?_
      refine giload B X1243 at_388 rfl (pc' := 390) rfl ?_
      refine glload B X1243 at_390 rfl (pc' := 392) rfl ?_
      refine giload B X1243 at_392 rfl (pc' := 394) rfl ?_
      refine gcallS B X1243 (hw _ (List.mem_of_getElem? (i := 3) rfl)) (hw _ (List.mem_of_getElem? (i := 4) rfl)) (hw _ (List.mem_of_getElem? (i := 5) rfl)) (hw _ (List.mem_of_getElem? (i := 6) rfl)) (by decide) (mt1 l Z a0 hw a1075 (2 : Int32) (7 : Int32) qk qw qt (orec bs0 2 kN qw qt 7) 2 7 kN h1241 A1247 ((own_len ..).trans hL0) (by decide) (by decide) (by decide) (by decide) hk hk11 ht8) pd___BIIIJB_V rfl (argsL := [(.ref a1075), (.int (2 : Int32)), (.int (7 : Int32)), (.int qk), (.long qw), (.int qt)]) (st := []) rfl rfl (W := 0) (Nat.le_of_eq rfl) (by decide) (by decide) (by decide) (by decide) (allS (Or.inr z_a1075) all0) at_394 (pc' := 397) rfl fun T1248 h1249 v1250 X1251 K1252 Q1253 => ?_
      obtain ⟨rfl, A1254⟩ := Q1253
      have A1255 : VA Z h1249 a1075 .byte ((orec bs0 2 kN qw qt 8).map Value.int) := A1254
      show Go p e below _ _ _ _ T1248 (mkF m 397 #[.val (.int p0), .val (.long p1), .second, .val (.int p2), .val (.int p3), .val (.int qk), .val (.long qw), .second, .val (.int (1 : Int32)), .val (.int (ofs p0)), .val (.int qle), .val (.int qt), .val (.int (0 : Int32)), .val (.int (0 : Int32)), .val (.int (0 : Int32)), .val (.int (0 : Int32)), .val (.ref a1075), .val (.int (2 : Int32)), .unset, .unset, .unset, .unset] [])
      refine gaload B X1251 at_397 rfl rfl (pc' := 399) rfl ?_
      refine giload B X1251 at_399 rfl (pc' := 401) rfl ?_
      refine gbipush B X1251 at_401 (v := (8 : Int32)) rfl (pc' := 403) rfl ?_
      refine giload B X1251 at_403 rfl (pc' := 405) rfl ?_
      refine glload B X1251 at_405 rfl (pc' := 407) rfl ?_
      refine giload B X1251 at_407 rfl (pc' := 409) rfl ?_
      refine gcallS B X1251 (hw _ (List.mem_of_getElem? (i := 3) rfl)) (hw _ (List.mem_of_getElem? (i := 4) rfl)) (hw _ (List.mem_of_getElem? (i := 5) rfl)) (hw _ (List.mem_of_getElem? (i := 6) rfl)) (by decide) (mt1 l Z a0 hw a1075 (2 : Int32) (8 : Int32) qk qw qt (orec bs0 2 kN qw qt 8) 2 8 kN h1249 A1255 ((own_len ..).trans hL0) (by decide) (by decide) (by decide) (by decide) hk hk11 ht8) pd___BIIIJB_V rfl (argsL := [(.ref a1075), (.int (2 : Int32)), (.int (8 : Int32)), (.int qk), (.long qw), (.int qt)]) (st := []) rfl rfl (W := 0) (Nat.le_of_eq rfl) (by decide) (by decide) (by decide) (by decide) (allS (Or.inr z_a1075) all0) at_409 (pc' := 412) rfl fun T1256 h1257 v1258 X1259 K1260 Q1261 => ?_
      obtain ⟨rfl, A1262⟩ := Q1261
      have A1263 : VA Z h1257 a1075 .byte ((orec bs0 2 kN qw qt 9).map Value.int) := A1262
      show Go p e below _ _ _ _ T1256 (mkF m 412 #[.val (.int p0), .val (.long p1), .second, .val (.int p2), .val (.int p3), .val (.int qk), .val (.long qw), .second, .val (.int (1 : Int32)), .val (.int (ofs p0)), .val (.int qle), .val (.int qt), .val (.int (0 : Int32)), .val (.int (0 : Int32)), .val (.int (0 : Int32)), .val (.int (0 : Int32)), .val (.ref a1075), .val (.int (2 : Int32)), .unset, .unset, .unset, .unset] [])
      refine gaload B X1259 at_412 rfl rfl (pc' := 414) rfl ?_
      refine giload B X1259 at_414 rfl (pc' := 416) rfl ?_
      refine gbipush B X1259 at_416 (v := (9 : Int32)) rfl (pc' := 418) rfl ?_
      refine giload B X1259 at_418 rfl (pc' := 420) rfl ?_
      refine glload B X1259 at_420 rfl (pc' := 422) rfl ?_
      refine giload B X1259 at_422 rfl (pc' := 424) rfl ?_
      refine gcallS B X1259 (hw _ (List.mem_of_getElem? (i := 3) rfl)) (hw _ (List.mem_of_getElem? (i := 4) rfl)) (hw _ (List.mem_of_getElem? (i := 5) rfl)) (hw _ (List.mem_of_getElem? (i := 6) rfl)) (by decide) (mt1 l Z a0 hw a1075 (2 : Int32) (9 : Int32) qk qw qt (orec bs0 2 kN qw qt 9) 2 9 kN h1257 A1263 ((own_len ..).trans hL0) (by decide) (by decide) (by decide) (by decide) hk hk11 ht8) pd___BIIIJB_V rfl (argsL := [(.ref a1075), (.int (2 : Int32)), (.int (9 : Int32)), (.int qk), (.long qw), (.int qt)]) (st := []) rfl rfl (W := 0) (Nat.le_of_eq rfl) (by decide) (by decide) (by decide) (by decide) (allS (Or.inr z_a1075) all0) at_424 (pc' := 427) rfl fun T1264 h1265 v1266 X1267 K1268 Q1269 => ?_
      obtain ⟨rfl, A1270⟩ := Q1269
      have A1271 : VA Z h1265 a1075 .byte ((orec bs0 2 kN qw qt 10).map Value.int) := A1270
      show Go p e below _ _ _ _ T1264 (mkF m 427 #[.val (.int p0), .val (.long p1), .second, .val (.int p2), .val (.int p3), .val (.int qk), .val (.long qw), .second, .val (.int (1 : Int32)), .val (.int (ofs p0)), .val (.int qle), .val (.int qt), .val (.int (0 : Int32)), .val (.int (0 : Int32)), .val (.int (0 : Int32)), .val (.int (0 : Int32)), .val (.ref a1075), .val (.int (2 : Int32)), .unset, .unset, .unset, .unset] [])
      refine gaload B X1267 at_427 rfl rfl (pc' := 429) rfl ?_
      refine giload B X1267 at_429 rfl (pc' := 431) rfl ?_
      refine gbipush B X1267 at_431 (v := (10 : Int32)) rfl (pc' := 433) rfl ?_
      refine giload B X1267 at_433 rfl (pc' := 435) rfl ?_
      refine glload B X1267 at_435 rfl (pc' := 437) rfl ?_
      refine giload B X1267 at_437 rfl (pc' := 439) rfl ?_
      refine gcallS B X1267 (hw _ (List.mem_of_getElem? (i := 3) rfl)) (hw _ (List.mem_of_getElem? (i := 4) rfl)) (hw _ (List.mem_of_getElem? (i := 5) rfl)) (hw _ (List.mem_of_getElem? (i := 6) rfl)) (by decide) (mt1 l Z a0 hw a1075 (2 : Int32) (10 : Int32) qk qw qt (orec bs0 2 kN qw qt 10) 2 10 kN h1265 A1271 ((own_len ..).trans hL0) (by decide) (by decide) (by decide) (by decide) hk hk11 ht8) pd___BIIIJB_V rfl (argsL := [(.ref a1075), (.int (2 : Int32)), (.int (10 : Int32)), (.int qk), (.long qw), (.int qt)]) (st := []) rfl rfl (W := 0) (Nat.le_of_eq rfl) (by decide) (by decide) (by decide) (by decide) (allS (Or.inr z_a1075) all0) at_439 (pc' := 442) rfl fun T1272 h1273 v1274 X1275 K1276 Q1277 => ?_
      obtain ⟨rfl, A1278⟩ := Q1277
      have A1279 : VA Z h1273 a1075 .byte ((orec bs0 2 kN qw qt 11).map Value.int) := A1278
      show Go p e below _ _ _ _ T1272 (mkF m 442 #[.val (.int p0), .val (.long p1), .second, .val (.int p2), .val (.int p3), .val (.int qk), .val (.long qw), .second, .val (.int (1 : Int32)), .val (.int (ofs p0)), .val (.int qle), .val (.int qt), .val (.int (0 : Int32)), .val (.int (0 : Int32)), .val (.int (0 : Int32)), .val (.int (0 : Int32)), .val (.ref a1075), .val (.int (2 : Int32)), .unset, .unset, .unset, .unset] [])
      refine gaload B X1275 at_442 rfl rfl (pc' := 444) rfl ?_
      refine giload B X1275 at_444 rfl (pc' := 446) rfl ?_
      refine gbipush B X1275 at_446 (v := (11 : Int32)) rfl (pc' := 448) rfl ?_
      refine giload B X1275 at_448 rfl (pc' := 450) rfl ?_
      refine glload B X1275 at_450 rfl (pc' := 452) rfl ?_
      refine giload B X1275 at_452 rfl (pc' := 454) rfl ?_
      refine gcallS B X1275 (hw _ (List.mem_of_getElem? (i := 3) rfl)) (hw _ (List.mem_of_getElem? (i := 4) rfl)) (hw _ (List.mem_of_getElem? (i := 5) rfl)) (hw _ (List.mem_of_getElem? (i := 6) rfl)) (by decide) (mt1 l Z a0 hw a1075 (2 : Int32) (11 : Int32) qk qw qt (orec bs0 2 kN qw qt 11) 2 11 kN h1273 A1279 ((own_len ..).trans hL0) (by decide) (by decide) (by decide) (by decide) hk hk11 ht8) pd___BIIIJB_V rfl (argsL := [(.ref a1075), (.int (2 : Int32)), (.int (11 : Int32)), (.int qk), (.long qw), (.int qt)]) (st := []) rfl rfl (W := 0) (Nat.le_of_eq rfl) (by decide) (by decide) (by decide) (by decide) (allS (Or.inr z_a1075) all0) at_454 (pc' := 457) rfl fun T1280 h1281 v1282 X1283 K1284 Q1285 => ?_
      obtain ⟨rfl, A1286⟩ := Q1285
      have A1287 : VA Z h1281 a1075 .byte ((orec bs0 2 kN qw qt 12).map Value.int) := A1286
      show Go p e below _ _ _ _ T1280 (mkF m 457 #[.val (.int p0), .val (.long p1), .second, .val (.int p2), .val (.int p3), .val (.int qk), .val (.long qw), .second, .val (.int (1 : Int32)), .val (.int (ofs p0)), .val (.int qle), .val (.int qt), .val (.int (0 : Int32)), .val (.int (0 : Int32)), .val (.int (0 : Int32)), .val (.int (0 : Int32)), .val (.ref a1075), .val (.int (2 : Int32)), .unset, .unset, .unset, .unset] [])
      refine giload B X1283 at_457 rfl (pc' := 459) rfl ?_
      have c459_1288 : (0 : Int32) = (0 : Int32) := (by decide)
      refine gifN B X1283 at_459 ((if0 _ _).trans (teq c459_1288).2) (pc' := 462) rfl ?_
      refine giload B X1283 at_462 rfl (pc' := 464) rfl ?_
      refine gbipush B X1283 at_464 (v := (32 : Int32)) rfl (pc' := 466) rfl ?_
      by_cases c466_1289 : qle = (32 : Int32)
      · refine gicN B X1283 at_466 (teq c466_1289).2 (pc' := 469) rfl ?_
        refine giload B X1283 at_469 rfl (pc' := 471) rfl ?_
        by_cases c471_1290 : qk = (0 : Int32)
        · refine gifY B X1283 (pc' := 481) at_471 ((if0 _ _).trans (teq c471_1290).1) (by decide) ?_
          refine gldc2 B X1283 (v := (-1 : Int64)) (hw _ (List.mem_of_getElem? (i := 21) rfl)) at_481 (pc' := 484) rfl ?_
          refine glstore B X1283 at_484 (Ls' := #[.val (.int p0), .val (.long p1), .second, .val (.int p2), .val (.int p3), .val (.int qk), .val (.long qw), .second, .val (.int (1 : Int32)), .val (.int (ofs p0)), .val (.int qle), .val (.int qt), .val (.int (0 : Int32)), .val (.int (0 : Int32)), .val (.int (0 : Int32)), .val (.int (0 : Int32)), .val (.ref a1075), .val (.int (2 : Int32)), .val (.long (-1 : Int64)), .second, .unset, .unset]) rfl (pc' := 486) rfl ?_
          refine ggoto B X1283 (pc' := 534) at_486 (by decide) ?_
          have kz : kN = 0 ∧ 2 ≤ 3 := ⟨(own_kz hk).mp c471_1290, by decide⟩
          refine gaload B X1283 at_534 rfl rfl (pc' := 536) rfl ?_
          refine giload B X1283 at_536 rfl (pc' := 538) rfl ?_
          have hru := own_run (sN := 2) hL0 (by decide) hk11 hww htn
          refine gcallS B X1283 (hw _ (List.mem_of_getElem? (i := 22) rfl)) (hw _ (List.mem_of_getElem? (i := 23) rfl)) (hw _ (List.mem_of_getElem? (i := 24) rfl)) (hw _ (List.mem_of_getElem? (i := 25) rfl)) (by decide) (mt3C1 l Z a0 hw a1075 (0 : Int32) (orec bs0 2 kN qw qt 12) h1281 A1287 0 (by decide) (by decide) ((own_len ..).trans hL0) 2 kN (2 : Int32) qk (1 : Int32) hru.2.2 (by decide) hk (((own_low hL0 (by decide) 0 (by decide)).trans ha0).trans c466_1289) (by decide) (by decide) ((own_low hL0 (by decide) 1 (by decide)).trans hb0) (by decide)) pd___BI_J rfl (argsL := [(.ref a1075), (.int (0 : Int32))]) (st := []) rfl rfl (W := 0) (Nat.le_of_eq rfl) (by decide) (by decide) (by decide) (by decide) (fun x q => nomatch q) at_538 (pc' := 541) rfl (pureG rfl rfl fun T1291 X1292 => ?_)
          refine glload B X1292 at_541 rfl (pc' := 543) rfl ?_
          refine glcmp B X1292 at_543 (pc' := 544) rfl ?_
          have c544_1293 : (ores (2 : Int32) qk (1 : Int32) kN (oacc (orec bs0 2 kN qw qt 12) 2 kN)) = (-1 : Int64) := if_pos (Or.inl kz.1)
          refine gifN B X1292 at_544 ((if0 _ _).trans (teq (((lw_eq (ores (2 : Int32) qk (1 : Int32) kN (oacc (orec bs0 2 kN qw qt 12) 2 kN)) (-1 : Int64))).mpr c544_1293)).2) (pc' := 547) rfl ?_
          refine giconst B X1292 at_547 (v := (1 : Int32)) rfl (pc' := 548) rfl ?_
          refine ggoto B X1292 (pc' := 552) at_548 (by decide) ?_
          exact gretN B X1292 (z' := (1 : Int32)) (by simp) (rfl) at_552 (by decide) (by decide) (rfl)
        · refine gifN B X1283 at_471 ((if0 _ _).trans (feq c471_1290).1) (pc' := 474) rfl ?_
          refine giload B X1283 at_474 rfl (pc' := 476) rfl ?_
          refine gbipush B X1283 at_476 (v := (9 : Int32)) rfl (pc' := 478) rfl ?_
          by_cases c478_1294 : (9 : Int32) < qk
          · refine gicN B X1283 at_478 (tlt c478_1294).2.2.2 (pc' := 481) rfl ?_
            refine gldc2 B X1283 (v := (-1 : Int64)) (hw _ (List.mem_of_getElem? (i := 21) rfl)) at_481 (pc' := 484) rfl ?_
            refine glstore B X1283 at_484 (Ls' := #[.val (.int p0), .val (.long p1), .second, .val (.int p2), .val (.int p3), .val (.int qk), .val (.long qw), .second, .val (.int (1 : Int32)), .val (.int (ofs p0)), .val (.int qle), .val (.int qt), .val (.int (0 : Int32)), .val (.int (0 : Int32)), .val (.int (0 : Int32)), .val (.int (0 : Int32)), .val (.ref a1075), .val (.int (2 : Int32)), .val (.long (-1 : Int64)), .second, .unset, .unset]) rfl (pc' := 486) rfl ?_
            refine ggoto B X1283 (pc' := 534) at_486 (by decide) ?_
            have hkp : 0 < kN := Nat.pos_of_ne_zero (mt (own_kz hk).mpr c471_1290)
            refine gaload B X1283 at_534 rfl rfl (pc' := 536) rfl ?_
            refine giload B X1283 at_536 rfl (pc' := 538) rfl ?_
            have hru := own_run (sN := 2) hL0 (by decide) hk11 hww htn
            refine gcallS B X1283 (hw _ (List.mem_of_getElem? (i := 22) rfl)) (hw _ (List.mem_of_getElem? (i := 23) rfl)) (hw _ (List.mem_of_getElem? (i := 24) rfl)) (hw _ (List.mem_of_getElem? (i := 25) rfl)) (by decide) (mt3C1 l Z a0 hw a1075 (0 : Int32) (orec bs0 2 kN qw qt 12) h1281 A1287 0 (by decide) (by decide) ((own_len ..).trans hL0) 2 kN (2 : Int32) qk (1 : Int32) hru.2.2 (by decide) hk (((own_low hL0 (by decide) 0 (by decide)).trans ha0).trans c466_1289) (by decide) (by decide) ((own_low hL0 (by decide) 1 (by decide)).trans hb0) (by decide)) pd___BI_J rfl (argsL := [(.ref a1075), (.int (0 : Int32))]) (st := []) rfl rfl (W := 0) (Nat.le_of_eq rfl) (by decide) (by decide) (by decide) (by decide) (fun x q => nomatch q) at_538 (pc' := 541) rfl (pureG rfl rfl fun T1295 X1296 => ?_)
            refine glload B X1296 at_541 rfl (pc' := 543) rfl ?_
            refine glcmp B X1296 at_543 (pc' := 544) rfl ?_
            have c544_1297 : (ores (2 : Int32) qk (1 : Int32) kN (oacc (orec bs0 2 kN qw qt 12) 2 kN)) = (-1 : Int64) := if_pos (Or.inr ((own_k9 hk).mp c478_1294))
            refine gifN B X1296 at_544 ((if0 _ _).trans (teq (((lw_eq (ores (2 : Int32) qk (1 : Int32) kN (oacc (orec bs0 2 kN qw qt 12) 2 kN)) (-1 : Int64))).mpr c544_1297)).2) (pc' := 547) rfl ?_
            refine giconst B X1296 at_547 (v := (1 : Int32)) rfl (pc' := 548) rfl ?_
            refine ggoto B X1296 (pc' := 552) at_548 (by decide) ?_
            exact gretN B X1296 (z' := (1 : Int32)) (by simp) (rfl) at_552 (by decide) (by decide) (rfl)
          · refine gicY B X1283 (pc' := 489) at_478 (flt c478_1294).2.2.2 (by decide) ?_
            refine glload B X1283 at_489 rfl (pc' := 491) rfl ?_
            refine giload B X1283 at_491 rfl (pc' := 493) rfl ?_
            have hk9 := mt (own_k9 hk).mpr c478_1294
            refine gcallS B X1283 (hw _ (List.mem_of_getElem? (i := 7) rfl)) (hw _ (List.mem_of_getElem? (i := 8) rfl)) (hw _ (List.mem_of_getElem? (i := 5) rfl)) (hw _ (List.mem_of_getElem? (i := 9) rfl)) (by decide) (mt2 l Z a0 hw qk kN h1281 hk (by omega)) pd__I_J rfl (argsL := [(.int qk)]) (st := [(.long qw)]) rfl rfl (W := 2) (Nat.le_of_eq rfl) (by decide) (by decide) (by decide) (by decide) (fun x q => nomatch q) at_493 (pc' := 496) rfl fun T1298 h1299 v1300 X1301 K1302 Q1303 => ?_
            have F1304 := A1287.keep K1302 nin0
            obtain rfl := Q1303
            show Go p e below _ _ _ _ T1298 (mkF m 496 #[.val (.int p0), .val (.long p1), .second, .val (.int p2), .val (.int p3), .val (.int qk), .val (.long qw), .second, .val (.int (1 : Int32)), .val (.int (ofs p0)), .val (.int qle), .val (.int qt), .val (.int (0 : Int32)), .val (.int (0 : Int32)), .val (.int (0 : Int32)), .val (.int (0 : Int32)), .val (.ref a1075), .val (.int (2 : Int32)), .unset, .unset, .unset, .unset] [(.long (opow kN)), (.long qw)])
            refine glrem B X1301 at_496 (own_p10 ⟨kN, by omega⟩).2.1 rfl (pc' := 497) rfl ?_
            refine gl2i B X1301 at_497 rfl (pc' := 498) rfl ?_
            refine gistore B X1301 at_498 (Ls' := #[.val (.int p0), .val (.long p1), .second, .val (.int p2), .val (.int p3), .val (.int qk), .val (.long qw), .second, .val (.int (1 : Int32)), .val (.int (ofs p0)), .val (.int qle), .val (.int qt), .val (.int (0 : Int32)), .val (.int (0 : Int32)), .val (.int (0 : Int32)), .val (.int (0 : Int32)), .val (.ref a1075), .val (.int (2 : Int32)), .unset, .unset, .val (.int (qw % (opow kN)).toInt32), .unset]) rfl (pc' := 500) rfl ?_
            refine giload B X1301 at_500 rfl (pc' := 502) rfl ?_
            have c502_1305 : ¬ ((1 : Int32) = (0 : Int32)) := (by decide)
            refine gifN B X1301 at_502 ((if0 _ _).trans (feq c502_1305).1) (pc' := 505) rfl ?_
            refine giload B X1301 at_505 rfl (pc' := 507) rfl ?_
            refine gineg B X1301 at_507 rfl (pc' := 508) rfl ?_
            refine ggoto B X1301 (pc' := 513) at_508 (by decide) ?_
            refine gistore B X1301 at_513 (Ls' := #[.val (.int p0), .val (.long p1), .second, .val (.int p2), .val (.int p3), .val (.int qk), .val (.long qw), .second, .val (.int (1 : Int32)), .val (.int (ofs p0)), .val (.int qle), .val (.int qt), .val (.int (0 : Int32)), .val (.int (0 : Int32)), .val (.int (0 : Int32)), .val (.int (0 : Int32)), .val (.ref a1075), .val (.int (2 : Int32)), .unset, .unset, .val (.int (qw % (opow kN)).toInt32), .val (.int (-(qw % (opow kN)).toInt32))]) rfl (pc' := 515) rfl ?_
            refine giload B X1301 at_515 rfl (pc' := 517) rfl ?_
            refine giload B X1301 at_517 rfl (pc' := 519) rfl ?_
            refine giadd B X1301 at_519 rfl (pc' := 520) rfl ?_
            refine gi2l B X1301 at_520 rfl (pc' := 521) rfl ?_
            refine gbipush B X1301 at_521 (v := (32 : Int32)) rfl (pc' := 523) rfl ?_
            refine glshl B X1301 at_523 rfl (pc' := 524) rfl ?_
            refine giload B X1301 at_524 rfl (pc' := 526) rfl ?_
            refine gi2l B X1301 at_526 rfl (pc' := 527) rfl ?_
            refine gldc2 B X1301 (v := (4294967295 : Int64)) (hw _ (List.mem_of_getElem? (i := 28) rfl)) at_527 (pc' := 530) rfl ?_
            refine gland B X1301 at_530 rfl (pc' := 531) rfl ?_
            refine glor B X1301 at_531 rfl (pc' := 532) rfl ?_
            refine glstore B X1301 at_532 (Ls' := #[.val (.int p0), .val (.long p1), .second, .val (.int p2), .val (.int p3), .val (.int qk), .val (.long qw), .second, .val (.int (1 : Int32)), .val (.int (ofs p0)), .val (.int qle), .val (.int qt), .val (.int (0 : Int32)), .val (.int (0 : Int32)), .val (.int (0 : Int32)), .val (.int (0 : Int32)), .val (.ref a1075), .val (.int (2 : Int32)), .val (.long ((((2 : Int32) + qk).toInt64 <<< ((32 : Int32) &&& 0x3f).toInt64) ||| ((-(qw % (opow kN)).toInt32).toInt64 &&& (4294967295 : Int64)))), .second, .val (.int (qw % (opow kN)).toInt32), .val (.int (-(qw % (opow kN)).toInt32))]) rfl (pc' := 534) rfl ?_
            have hkp : 0 < kN := Nat.pos_of_ne_zero (mt (own_kz hk).mpr c471_1290)
            refine gaload B X1301 at_534 rfl rfl (pc' := 536) rfl ?_
            refine giload B X1301 at_536 rfl (pc' := 538) rfl ?_
            have hru := own_run (sN := 2) hL0 (by decide) hk11 hww htn
            refine gcallS B X1301 (hw _ (List.mem_of_getElem? (i := 22) rfl)) (hw _ (List.mem_of_getElem? (i := 23) rfl)) (hw _ (List.mem_of_getElem? (i := 24) rfl)) (hw _ (List.mem_of_getElem? (i := 25) rfl)) (by decide) (mt3C1 l Z a0 hw a1075 (0 : Int32) (orec bs0 2 kN qw qt 12) h1299 F1304 0 (by decide) (by decide) ((own_len ..).trans hL0) 2 kN (2 : Int32) qk (1 : Int32) hru.2.2 (by decide) hk (((own_low hL0 (by decide) 0 (by decide)).trans ha0).trans c466_1289) (by decide) (by decide) ((own_low hL0 (by decide) 1 (by decide)).trans hb0) (by decide)) pd___BI_J rfl (argsL := [(.ref a1075), (.int (0 : Int32))]) (st := []) rfl rfl (W := 0) (Nat.le_of_eq rfl) (by decide) (by decide) (by decide) (by decide) (fun x q => nomatch q) at_538 (pc' := 541) rfl (pureG rfl rfl fun T1306 X1307 => ?_)
            refine glload B X1307 at_541 rfl (pc' := 543) rfl ?_
            refine glcmp B X1307 at_543 (pc' := 544) rfl ?_
            have c544_1308 : (ores (2 : Int32) qk (1 : Int32) kN (oacc (orec bs0 2 kN qw qt 12) 2 kN)) = ((((2 : Int32) + qk).toInt64 <<< ((32 : Int32) &&& 0x3f).toInt64) ||| ((-(qw % (opow kN)).toInt32).toInt64 &&& (4294967295 : Int64))) := by have k9 := mt (own_k9 hk).mpr c478_1294; rw [ores, if_neg (by omega), own_val hww (by omega) hru.1, if_neg (by decide)]
            refine gifN B X1307 at_544 ((if0 _ _).trans (teq (((lw_eq (ores (2 : Int32) qk (1 : Int32) kN (oacc (orec bs0 2 kN qw qt 12) 2 kN)) ((((2 : Int32) + qk).toInt64 <<< ((32 : Int32) &&& 0x3f).toInt64) ||| ((-(qw % (opow kN)).toInt32).toInt64 &&& (4294967295 : Int64))))).mpr c544_1308)).2) (pc' := 547) rfl ?_
            refine giconst B X1307 at_547 (v := (1 : Int32)) rfl (pc' := 548) rfl ?_
            refine ggoto B X1307 (pc' := 552) at_548 (by decide) ?_
            exact gretN B X1307 (z' := (1 : Int32)) (by simp) (rfl) at_552 (by decide) (by decide) (rfl)
      · refine gicY B X1283 (pc' := 481) at_466 (feq c466_1289).2 (by decide) ?_
        refine gldc2 B X1283 (v := (-1 : Int64)) (hw _ (List.mem_of_getElem? (i := 21) rfl)) at_481 (pc' := 484) rfl ?_
        refine glstore B X1283 at_484 (Ls' := #[.val (.int p0), .val (.long p1), .second, .val (.int p2), .val (.int p3), .val (.int qk), .val (.long qw), .second, .val (.int (1 : Int32)), .val (.int (ofs p0)), .val (.int qle), .val (.int qt), .val (.int (0 : Int32)), .val (.int (0 : Int32)), .val (.int (0 : Int32)), .val (.int (0 : Int32)), .val (.ref a1075), .val (.int (2 : Int32)), .val (.long (-1 : Int64)), .second, .unset, .unset]) rfl (pc' := 486) rfl ?_
        refine ggoto B X1283 (pc' := 534) at_486 (by decide) ?_
        refine gaload B X1283 at_534 rfl rfl (pc' := 536) rfl ?_
        refine giload B X1283 at_536 rfl (pc' := 538) rfl ?_
        refine gcallS B X1283 (hw _ (List.mem_of_getElem? (i := 22) rfl)) (hw _ (List.mem_of_getElem? (i := 23) rfl)) (hw _ (List.mem_of_getElem? (i := 24) rfl)) (hw _ (List.mem_of_getElem? (i := 25) rfl)) (by decide) (mt3B l Z a0 hw a1075 (0 : Int32) (orec bs0 2 kN qw qt 12) h1281 A1287 0 (by decide) (by decide) ((own_len ..).trans hL0) (fun q => c466_1289 (((own_low hL0 (by decide) 0 (by decide)).trans ha0).symm.trans q))) pd___BI_J rfl (argsL := [(.ref a1075), (.int (0 : Int32))]) (st := []) rfl rfl (W := 0) (Nat.le_of_eq rfl) (by decide) (by decide) (by decide) (by decide) (fun x q => nomatch q) at_538 (pc' := 541) rfl (pureG rfl rfl fun T1309 X1310 => ?_)
        refine glload B X1310 at_541 rfl (pc' := 543) rfl ?_
        refine glcmp B X1310 at_543 (pc' := 544) rfl ?_
        have c544_1311 : (-1 : Int64) = (-1 : Int64) := rfl
        refine gifN B X1310 at_544 ((if0 _ _).trans (teq (((lw_eq (-1 : Int64) (-1 : Int64))).mpr c544_1311)).2) (pc' := 547) rfl ?_
        refine giconst B X1310 at_547 (v := (1 : Int32)) rfl (pc' := 548) rfl ?_
        refine ggoto B X1310 (pc' := 552) at_548 (by decide) ?_
        exact gretN B X1310 (z' := (1 : Int32)) (by simp) (rfl) at_552 (by decide) (by decide) (rfl)
    · rw [e_b]
      refine gistore B X1069 at_88 (Ls' := #[.val (.int p0), .val (.long p1), .second, .val (.int p2), .val (.int p3), .val (.int qk), .val (.long qw), .second, .val (.int (1 : Int32)), .val (.int (ofs p0)), .val (.int qle), .val (.int qt), .val (.int (1 : Int32)), .unset, .unset, .unset, .unset, .unset, .unset, .unset, .unset, .unset]) rfl (pc' := 90) rfl ?_
      refine giload B X1069 at_90 rfl (pc' := 92) rfl ?_
      refine giconst B X1069 at_92 (v := (3 : Int32)) rfl (pc' := 93) rfl ?_
      have c93_1312 : ¬ ((1 : Int32) = (3 : Int32)) := (by decide)
      refine gicY B X1069 (pc' := 100) at_93 (feq c93_1312).2 (by decide) ?_
      refine giconst B X1069 at_100 (v := (0 : Int32)) rfl (pc' := 101) rfl ?_
      refine gistore B X1069 at_101 (Ls' := #[.val (.int p0), .val (.long p1), .second, .val (.int p2), .val (.int p3), .val (.int qk), .val (.long qw), .second, .val (.int (1 : Int32)), .val (.int (ofs p0)), .val (.int qle), .val (.int qt), .val (.int (1 : Int32)), .val (.int (0 : Int32)), .unset, .unset, .unset, .unset, .unset, .unset, .unset, .unset]) rfl (pc' := 103) rfl ?_
      refine giload B X1069 at_103 rfl (pc' := 105) rfl ?_
      have c105_1313 : (0 : Int32) = (0 : Int32) := (by decide)
      refine gifY B X1069 (pc' := 112) at_105 ((if0 _ _).trans (teq c105_1313).1) (by decide) ?_
      refine giload B X1069 at_112 rfl (pc' := 114) rfl ?_
      refine gistore B X1069 at_114 (Ls' := #[.val (.int p0), .val (.long p1), .second, .val (.int p2), .val (.int p3), .val (.int qk), .val (.long qw), .second, .val (.int (1 : Int32)), .val (.int (ofs p0)), .val (.int qle), .val (.int qt), .val (.int (1 : Int32)), .val (.int (0 : Int32)), .val (.int (1 : Int32)), .unset, .unset, .unset, .unset, .unset, .unset, .unset]) rfl (pc' := 116) rfl ?_
      refine giload B X1069 at_116 rfl (pc' := 118) rfl ?_
      have c118_1314 : (0 : Int32) = (0 : Int32) := (by decide)
      refine gifY B X1069 (pc' := 128) at_118 ((if0 _ _).trans (teq c118_1314).1) (by decide) ?_
      refine giload B X1069 at_128 rfl (pc' := 130) rfl ?_
      refine gistore B X1069 at_130 (Ls' := #[.val (.int p0), .val (.long p1), .second, .val (.int p2), .val (.int p3), .val (.int qk), .val (.long qw), .second, .val (.int (1 : Int32)), .val (.int (ofs p0)), .val (.int qle), .val (.int qt), .val (.int (1 : Int32)), .val (.int (0 : Int32)), .val (.int (1 : Int32)), .val (.int (1 : Int32)), .unset, .unset, .unset, .unset, .unset, .unset]) rfl (pc' := 132) rfl ?_
      refine gbipush B X1069 at_132 (v := (18 : Int32)) rfl (pc' := 134) rfl ?_
      refine gnewarray B X1069 (cap := 18) (vs := [(.int (0 : Int32)), (.int (0 : Int32)), (.int (0 : Int32)), (.int (0 : Int32)), (.int (0 : Int32)), (.int (0 : Int32)), (.int (0 : Int32)), (.int (0 : Int32)), (.int (0 : Int32)), (.int (0 : Int32)), (.int (0 : Int32)), (.int (0 : Int32)), (.int (0 : Int32)), (.int (0 : Int32)), (.int (0 : Int32)), (.int (0 : Int32)), (.int (0 : Int32)), (.int (0 : Int32))]) (ty := .byte) rfl rfl (hw _ (List.mem_of_getElem? (i := 2) rfl)) (by decide) (by decide) (by decide) (by decide) (by decide) at_134 (pc' := 136) rfl fun T1315 h1316 a1317 X1318 q1319 E1320 z_a1317 A1321 => ?_
      refine gdup B X1318 at_136 rfl (pc' := 137) rfl ?_
      refine giconst B X1318 at_137 (v := (0 : Int32)) rfl (pc' := 138) rfl ?_
      refine gbipush B X1318 at_138 (v := (10 : Int32)) rfl (pc' := 140) rfl ?_
      refine gbastore B X1318 (i := 0) (n := 18) A1321 rfl (by decide) rfl (vs' := [(.int (10 : Int32)), (.int (0 : Int32)), (.int (0 : Int32)), (.int (0 : Int32)), (.int (0 : Int32)), (.int (0 : Int32)), (.int (0 : Int32)), (.int (0 : Int32)), (.int (0 : Int32)), (.int (0 : Int32)), (.int (0 : Int32)), (.int (0 : Int32)), (.int (0 : Int32)), (.int (0 : Int32)), (.int (0 : Int32)), (.int (0 : Int32)), (.int (0 : Int32)), (.int (0 : Int32))]) rfl (Or.inr z_a1317) at_140 (pc' := 141) rfl fun T1322 h1323 X1324 W1325 A1326 => ?_
      refine gdup B X1324 at_141 rfl (pc' := 142) rfl ?_
      refine giconst B X1324 at_142 (v := (1 : Int32)) rfl (pc' := 143) rfl ?_
      refine gbipush B X1324 at_143 (v := (10 : Int32)) rfl (pc' := 145) rfl ?_
      refine gbastore B X1324 (i := 1) (n := 18) A1326 rfl (by decide) rfl (vs' := [(.int (10 : Int32)), (.int (10 : Int32)), (.int (0 : Int32)), (.int (0 : Int32)), (.int (0 : Int32)), (.int (0 : Int32)), (.int (0 : Int32)), (.int (0 : Int32)), (.int (0 : Int32)), (.int (0 : Int32)), (.int (0 : Int32)), (.int (0 : Int32)), (.int (0 : Int32)), (.int (0 : Int32)), (.int (0 : Int32)), (.int (0 : Int32)), (.int (0 : Int32)), (.int (0 : Int32))]) rfl (Or.inr z_a1317) at_145 (pc' := 146) rfl fun T1327 h1328 X1329 W1330 A1331 => ?_
      refine gdup B X1329 at_146 rfl (pc' := 147) rfl ?_
      refine giconst B X1329 at_147 (v := (2 : Int32)) rfl (pc' := 148) rfl ?_
      refine gbipush B X1329 at_148 (v := (10 : Int32)) rfl (pc' := 150) rfl ?_
      refine gbastore B X1329 (i := 2) (n := 18) A1331 rfl (by decide) rfl (vs' := [(.int (10 : Int32)), (.int (10 : Int32)), (.int (10 : Int32)), (.int (0 : Int32)), (.int (0 : Int32)), (.int (0 : Int32)), (.int (0 : Int32)), (.int (0 : Int32)), (.int (0 : Int32)), (.int (0 : Int32)), (.int (0 : Int32)), (.int (0 : Int32)), (.int (0 : Int32)), (.int (0 : Int32)), (.int (0 : Int32)), (.int (0 : Int32)), (.int (0 : Int32)), (.int (0 : Int32))]) rfl (Or.inr z_a1317) at_150 (pc' := 151) rfl fun T1332 h1333 X1334 W1335 A1336 => ?_
      refine gdup B X1334 at_151 rfl (pc' := 152) rfl ?_
      refine giconst B X1334 at_152 (v := (3 : Int32)) rfl (pc' := 153) rfl ?_
      refine gbipush B X1334 at_153 (v := (10 : Int32)) rfl (pc' := 155) rfl ?_
      refine gbastore B X1334 (i := 3) (n := 18) A1336 rfl (by decide) rfl (vs' := [(.int (10 : Int32)), (.int (10 : Int32)), (.int (10 : Int32)), (.int (10 : Int32)), (.int (0 : Int32)), (.int (0 : Int32)), (.int (0 : Int32)), (.int (0 : Int32)), (.int (0 : Int32)), (.int (0 : Int32)), (.int (0 : Int32)), (.int (0 : Int32)), (.int (0 : Int32)), (.int (0 : Int32)), (.int (0 : Int32)), (.int (0 : Int32)), (.int (0 : Int32)), (.int (0 : Int32))]) rfl (Or.inr z_a1317) at_155 (pc' := 156) rfl fun T1337 h1338 X1339 W1340 A1341 => ?_
      refine gdup B X1339 at_156 rfl (pc' := 157) rfl ?_
      refine giconst B X1339 at_157 (v := (4 : Int32)) rfl (pc' := 158) rfl ?_
      refine gbipush B X1339 at_158 (v := (10 : Int32)) rfl (pc' := 160) rfl ?_
      refine gbastore B X1339 (i := 4) (n := 18) A1341 rfl (by decide) rfl (vs' := [(.int (10 : Int32)), (.int (10 : Int32)), (.int (10 : Int32)), (.int (10 : Int32)), (.int (10 : Int32)), (.int (0 : Int32)), (.int (0 : Int32)), (.int (0 : Int32)), (.int (0 : Int32)), (.int (0 : Int32)), (.int (0 : Int32)), (.int (0 : Int32)), (.int (0 : Int32)), (.int (0 : Int32)), (.int (0 : Int32)), (.int (0 : Int32)), (.int (0 : Int32)), (.int (0 : Int32))]) rfl (Or.inr z_a1317) at_160 (pc' := 161) rfl fun T1342 h1343 X1344 W1345 A1346 => ?_
      refine gdup B X1344 at_161 rfl (pc' := 162) rfl ?_
      refine giconst B X1344 at_162 (v := (5 : Int32)) rfl (pc' := 163) rfl ?_
      refine gbipush B X1344 at_163 (v := (10 : Int32)) rfl (pc' := 165) rfl ?_
      refine gbastore B X1344 (i := 5) (n := 18) A1346 rfl (by decide) rfl (vs' := [(.int (10 : Int32)), (.int (10 : Int32)), (.int (10 : Int32)), (.int (10 : Int32)), (.int (10 : Int32)), (.int (10 : Int32)), (.int (0 : Int32)), (.int (0 : Int32)), (.int (0 : Int32)), (.int (0 : Int32)), (.int (0 : Int32)), (.int (0 : Int32)), (.int (0 : Int32)), (.int (0 : Int32)), (.int (0 : Int32)), (.int (0 : Int32)), (.int (0 : Int32)), (.int (0 : Int32))]) rfl (Or.inr z_a1317) at_165 (pc' := 166) rfl fun T1347 h1348 X1349 W1350 A1351 => ?_
      refine gdup B X1349 at_166 rfl (pc' := 167) rfl ?_
      refine gbipush B X1349 at_167 (v := (6 : Int32)) rfl (pc' := 169) rfl ?_
      refine gbipush B X1349 at_169 (v := (10 : Int32)) rfl (pc' := 171) rfl ?_
      refine gbastore B X1349 (i := 6) (n := 18) A1351 rfl (by decide) rfl (vs' := [(.int (10 : Int32)), (.int (10 : Int32)), (.int (10 : Int32)), (.int (10 : Int32)), (.int (10 : Int32)), (.int (10 : Int32)), (.int (10 : Int32)), (.int (0 : Int32)), (.int (0 : Int32)), (.int (0 : Int32)), (.int (0 : Int32)), (.int (0 : Int32)), (.int (0 : Int32)), (.int (0 : Int32)), (.int (0 : Int32)), (.int (0 : Int32)), (.int (0 : Int32)), (.int (0 : Int32))]) rfl (Or.inr z_a1317) at_171 (pc' := 172) rfl fun T1352 h1353 X1354 W1355 A1356 => ?_
      refine gdup B X1354 at_172 rfl (pc' := 173) rfl ?_
      refine gbipush B X1354 at_173 (v := (7 : Int32)) rfl (pc' := 175) rfl ?_
      refine gbipush B X1354 at_175 (v := (10 : Int32)) rfl (pc' := 177) rfl ?_
      refine gbastore B X1354 (i := 7) (n := 18) A1356 rfl (by decide) rfl (vs' := [(.int (10 : Int32)), (.int (10 : Int32)), (.int (10 : Int32)), (.int (10 : Int32)), (.int (10 : Int32)), (.int (10 : Int32)), (.int (10 : Int32)), (.int (10 : Int32)), (.int (0 : Int32)), (.int (0 : Int32)), (.int (0 : Int32)), (.int (0 : Int32)), (.int (0 : Int32)), (.int (0 : Int32)), (.int (0 : Int32)), (.int (0 : Int32)), (.int (0 : Int32)), (.int (0 : Int32))]) rfl (Or.inr z_a1317) at_177 (pc' := 178) rfl fun T1357 h1358 X1359 W1360 A1361 => ?_
      refine gdup B X1359 at_178 rfl (pc' := 179) rfl ?_
      refine gbipush B X1359 at_179 (v := (8 : Int32)) rfl (pc' := 181) rfl ?_
      refine gbipush B X1359 at_181 (v := (10 : Int32)) rfl (pc' := 183) rfl ?_
      refine gbastore B X1359 (i := 8) (n := 18) A1361 rfl (by decide) rfl (vs' := [(.int (10 : Int32)), (.int (10 : Int32)), (.int (10 : Int32)), (.int (10 : Int32)), (.int (10 : Int32)), (.int (10 : Int32)), (.int (10 : Int32)), (.int (10 : Int32)), (.int (10 : Int32)), (.int (0 : Int32)), (.int (0 : Int32)), (.int (0 : Int32)), (.int (0 : Int32)), (.int (0 : Int32)), (.int (0 : Int32)), (.int (0 : Int32)), (.int (0 : Int32)), (.int (0 : Int32))]) rfl (Or.inr z_a1317) at_183 (pc' := 184) rfl fun T1362 h1363 X1364 W1365 A1366 => ?_
      refine gdup B X1364 at_184 rfl (pc' := 185) rfl ?_
      refine gbipush B X1364 at_185 (v := (9 : Int32)) rfl (pc' := 187) rfl ?_
      refine gbipush B X1364 at_187 (v := (10 : Int32)) rfl (pc' := 189) rfl ?_
      refine gbastore B X1364 (i := 9) (n := 18) A1366 rfl (by decide) rfl (vs' := [(.int (10 : Int32)), (.int (10 : Int32)), (.int (10 : Int32)), (.int (10 : Int32)), (.int (10 : Int32)), (.int (10 : Int32)), (.int (10 : Int32)), (.int (10 : Int32)), (.int (10 : Int32)), (.int (10 : Int32)), (.int (0 : Int32)), (.int (0 : Int32)), (.int (0 : Int32)), (.int (0 : Int32)), (.int (0 : Int32)), (.int (0 : Int32)), (.int (0 : Int32)), (.int (0 : Int32))]) rfl (Or.inr z_a1317) at_189 (pc' := 190) rfl fun T1367 h1368 X1369 W1370 A1371 => ?_
      refine gdup B X1369 at_190 rfl (pc' := 191) rfl ?_
      refine gbipush B X1369 at_191 (v := (10 : Int32)) rfl (pc' := 193) rfl ?_
      refine gbipush B X1369 at_193 (v := (10 : Int32)) rfl (pc' := 195) rfl ?_
      refine gbastore B X1369 (i := 10) (n := 18) A1371 rfl (by decide) rfl (vs' := [(.int (10 : Int32)), (.int (10 : Int32)), (.int (10 : Int32)), (.int (10 : Int32)), (.int (10 : Int32)), (.int (10 : Int32)), (.int (10 : Int32)), (.int (10 : Int32)), (.int (10 : Int32)), (.int (10 : Int32)), (.int (10 : Int32)), (.int (0 : Int32)), (.int (0 : Int32)), (.int (0 : Int32)), (.int (0 : Int32)), (.int (0 : Int32)), (.int (0 : Int32)), (.int (0 : Int32))]) rfl (Or.inr z_a1317) at_195 (pc' := 196) rfl fun T1372 h1373 X1374 W1375 A1376 => ?_
      refine gdup B X1374 at_196 rfl (pc' := 197) rfl ?_
      refine gbipush B X1374 at_197 (v := (11 : Int32)) rfl (pc' := 199) rfl ?_
      refine gbipush B X1374 at_199 (v := (10 : Int32)) rfl (pc' := 201) rfl ?_
      refine gbastore B X1374 (i := 11) (n := 18) A1376 rfl (by decide) rfl (vs' := [(.int (10 : Int32)), (.int (10 : Int32)), (.int (10 : Int32)), (.int (10 : Int32)), (.int (10 : Int32)), (.int (10 : Int32)), (.int (10 : Int32)), (.int (10 : Int32)), (.int (10 : Int32)), (.int (10 : Int32)), (.int (10 : Int32)), (.int (10 : Int32)), (.int (0 : Int32)), (.int (0 : Int32)), (.int (0 : Int32)), (.int (0 : Int32)), (.int (0 : Int32)), (.int (0 : Int32))]) rfl (Or.inr z_a1317) at_201 (pc' := 202) rfl fun T1377 h1378 X1379 W1380 A1381 => ?_
      refine gdup B X1379 at_202 rfl (pc' := 203) rfl ?_
      refine gbipush B X1379 at_203 (v := (12 : Int32)) rfl (pc' := 205) rfl ?_
      refine gbipush B X1379 at_205 (v := (10 : Int32)) rfl (pc' := 207) rfl ?_
      refine gbastore B X1379 (i := 12) (n := 18) A1381 rfl (by decide) rfl (vs' := [(.int (10 : Int32)), (.int (10 : Int32)), (.int (10 : Int32)), (.int (10 : Int32)), (.int (10 : Int32)), (.int (10 : Int32)), (.int (10 : Int32)), (.int (10 : Int32)), (.int (10 : Int32)), (.int (10 : Int32)), (.int (10 : Int32)), (.int (10 : Int32)), (.int (10 : Int32)), (.int (0 : Int32)), (.int (0 : Int32)), (.int (0 : Int32)), (.int (0 : Int32)), (.int (0 : Int32))]) rfl (Or.inr z_a1317) at_207 (pc' := 208) rfl fun T1382 h1383 X1384 W1385 A1386 => ?_
      refine gdup B X1384 at_208 rfl (pc' := 209) rfl ?_
      refine gbipush B X1384 at_209 (v := (13 : Int32)) rfl (pc' := 211) rfl ?_
      refine gbipush B X1384 at_211 (v := (10 : Int32)) rfl (pc' := 213) rfl ?_
      refine gbastore B X1384 (i := 13) (n := 18) A1386 rfl (by decide) rfl (vs' := [(.int (10 : Int32)), (.int (10 : Int32)), (.int (10 : Int32)), (.int (10 : Int32)), (.int (10 : Int32)), (.int (10 : Int32)), (.int (10 : Int32)), (.int (10 : Int32)), (.int (10 : Int32)), (.int (10 : Int32)), (.int (10 : Int32)), (.int (10 : Int32)), (.int (10 : Int32)), (.int (10 : Int32)), (.int (0 : Int32)), (.int (0 : Int32)), (.int (0 : Int32)), (.int (0 : Int32))]) rfl (Or.inr z_a1317) at_213 (pc' := 214) rfl fun T1387 h1388 X1389 W1390 A1391 => ?_
      refine gdup B X1389 at_214 rfl (pc' := 215) rfl ?_
      refine gbipush B X1389 at_215 (v := (14 : Int32)) rfl (pc' := 217) rfl ?_
      refine gbipush B X1389 at_217 (v := (10 : Int32)) rfl (pc' := 219) rfl ?_
      refine gbastore B X1389 (i := 14) (n := 18) A1391 rfl (by decide) rfl (vs' := [(.int (10 : Int32)), (.int (10 : Int32)), (.int (10 : Int32)), (.int (10 : Int32)), (.int (10 : Int32)), (.int (10 : Int32)), (.int (10 : Int32)), (.int (10 : Int32)), (.int (10 : Int32)), (.int (10 : Int32)), (.int (10 : Int32)), (.int (10 : Int32)), (.int (10 : Int32)), (.int (10 : Int32)), (.int (10 : Int32)), (.int (0 : Int32)), (.int (0 : Int32)), (.int (0 : Int32))]) rfl (Or.inr z_a1317) at_219 (pc' := 220) rfl fun T1392 h1393 X1394 W1395 A1396 => ?_
      refine gdup B X1394 at_220 rfl (pc' := 221) rfl ?_
      refine gbipush B X1394 at_221 (v := (15 : Int32)) rfl (pc' := 223) rfl ?_
      refine gbipush B X1394 at_223 (v := (10 : Int32)) rfl (pc' := 225) rfl ?_
      refine gbastore B X1394 (i := 15) (n := 18) A1396 rfl (by decide) rfl (vs' := [(.int (10 : Int32)), (.int (10 : Int32)), (.int (10 : Int32)), (.int (10 : Int32)), (.int (10 : Int32)), (.int (10 : Int32)), (.int (10 : Int32)), (.int (10 : Int32)), (.int (10 : Int32)), (.int (10 : Int32)), (.int (10 : Int32)), (.int (10 : Int32)), (.int (10 : Int32)), (.int (10 : Int32)), (.int (10 : Int32)), (.int (10 : Int32)), (.int (0 : Int32)), (.int (0 : Int32))]) rfl (Or.inr z_a1317) at_225 (pc' := 226) rfl fun T1397 h1398 X1399 W1400 A1401 => ?_
      refine gdup B X1399 at_226 rfl (pc' := 227) rfl ?_
      refine gbipush B X1399 at_227 (v := (16 : Int32)) rfl (pc' := 229) rfl ?_
      refine gbipush B X1399 at_229 (v := (10 : Int32)) rfl (pc' := 231) rfl ?_
      refine gbastore B X1399 (i := 16) (n := 18) A1401 rfl (by decide) rfl (vs' := [(.int (10 : Int32)), (.int (10 : Int32)), (.int (10 : Int32)), (.int (10 : Int32)), (.int (10 : Int32)), (.int (10 : Int32)), (.int (10 : Int32)), (.int (10 : Int32)), (.int (10 : Int32)), (.int (10 : Int32)), (.int (10 : Int32)), (.int (10 : Int32)), (.int (10 : Int32)), (.int (10 : Int32)), (.int (10 : Int32)), (.int (10 : Int32)), (.int (10 : Int32)), (.int (0 : Int32))]) rfl (Or.inr z_a1317) at_231 (pc' := 232) rfl fun T1402 h1403 X1404 W1405 A1406 => ?_
      refine gdup B X1404 at_232 rfl (pc' := 233) rfl ?_
      refine gbipush B X1404 at_233 (v := (17 : Int32)) rfl (pc' := 235) rfl ?_
      refine gbipush B X1404 at_235 (v := (10 : Int32)) rfl (pc' := 237) rfl ?_
      refine gbastore B X1404 (i := 17) (n := 18) A1406 rfl (by decide) rfl (vs' := [(.int (10 : Int32)), (.int (10 : Int32)), (.int (10 : Int32)), (.int (10 : Int32)), (.int (10 : Int32)), (.int (10 : Int32)), (.int (10 : Int32)), (.int (10 : Int32)), (.int (10 : Int32)), (.int (10 : Int32)), (.int (10 : Int32)), (.int (10 : Int32)), (.int (10 : Int32)), (.int (10 : Int32)), (.int (10 : Int32)), (.int (10 : Int32)), (.int (10 : Int32)), (.int (10 : Int32))]) rfl (Or.inr z_a1317) at_237 (pc' := 238) rfl fun T1407 h1408 X1409 W1410 A1411 => ?_
      refine gastore B X1409 at_238 rfl (Ls' := #[.val (.int p0), .val (.long p1), .second, .val (.int p2), .val (.int p3), .val (.int qk), .val (.long qw), .second, .val (.int (1 : Int32)), .val (.int (ofs p0)), .val (.int qle), .val (.int qt), .val (.int (1 : Int32)), .val (.int (0 : Int32)), .val (.int (1 : Int32)), .val (.int (1 : Int32)), .val (.ref a1317), .unset, .unset, .unset, .unset, .unset]) rfl (pc' := 240) rfl ?_
      refine gaload B X1409 at_240 rfl rfl (pc' := 242) rfl ?_
      refine giconst B X1409 at_242 (v := (0 : Int32)) rfl (pc' := 243) rfl ?_
      refine gbipush B X1409 at_243 (v := (57 : Int32)) rfl (pc' := 245) rfl ?_
      refine gbastore B X1409 (i := 0) (n := 18) A1411 rfl (by decide) rfl (vs' := [(.int (57 : Int32)), (.int (10 : Int32)), (.int (10 : Int32)), (.int (10 : Int32)), (.int (10 : Int32)), (.int (10 : Int32)), (.int (10 : Int32)), (.int (10 : Int32)), (.int (10 : Int32)), (.int (10 : Int32)), (.int (10 : Int32)), (.int (10 : Int32)), (.int (10 : Int32)), (.int (10 : Int32)), (.int (10 : Int32)), (.int (10 : Int32)), (.int (10 : Int32)), (.int (10 : Int32))]) rfl (Or.inr z_a1317) at_245 (pc' := 246) rfl fun T1412 h1413 X1414 W1415 A1416 => ?_
      refine gaload B X1414 at_246 rfl rfl (pc' := 248) rfl ?_
      refine giconst B X1414 at_248 (v := (1 : Int32)) rfl (pc' := 249) rfl ?_
      refine gbipush B X1414 at_249 (v := (57 : Int32)) rfl (pc' := 251) rfl ?_
      refine gbastore B X1414 (i := 1) (n := 18) A1416 rfl (by decide) rfl (vs' := [(.int (57 : Int32)), (.int (57 : Int32)), (.int (10 : Int32)), (.int (10 : Int32)), (.int (10 : Int32)), (.int (10 : Int32)), (.int (10 : Int32)), (.int (10 : Int32)), (.int (10 : Int32)), (.int (10 : Int32)), (.int (10 : Int32)), (.int (10 : Int32)), (.int (10 : Int32)), (.int (10 : Int32)), (.int (10 : Int32)), (.int (10 : Int32)), (.int (10 : Int32)), (.int (10 : Int32))]) rfl (Or.inr z_a1317) at_251 (pc' := 252) rfl fun T1417 h1418 X1419 W1420 A1421 => ?_
      refine gaload B X1419 at_252 rfl rfl (pc' := 254) rfl ?_
      refine giload B X1419 at_254 rfl (pc' := 256) rfl ?_
      refine giload B X1419 at_256 rfl (pc' := 258) rfl ?_
      refine gbastore B X1419 (i := 1) A1421 (n := 18) rfl (by decide) rfl (vs' := (([57, qle, 10, 10, 10, 10, 10, 10, 10, 10, 10, 10, 10, 10, 10, 10, 10, 10] : List Int32).map Value.int)) (by rw [hle]; rfl) (Or.inr z_a1317) at_258 (pc' := 259) rfl fun T1422 h1423 X1424 W1425 A1426 => ?_
      refine giload B X1424 at_259 rfl (pc' := 261) rfl ?_
      refine giconst B X1424 at_261 (v := (1 : Int32)) rfl (pc' := 262) rfl ?_
      refine giadd B X1424 at_262 (v := (2 : Int32)) (by decide) (pc' := 263) rfl ?_
      refine gistore B X1424 at_263 (Ls' := #[.val (.int p0), .val (.long p1), .second, .val (.int p2), .val (.int p3), .val (.int qk), .val (.long qw), .second, .val (.int (1 : Int32)), .val (.int (ofs p0)), .val (.int qle), .val (.int qt), .val (.int (1 : Int32)), .val (.int (0 : Int32)), .val (.int (1 : Int32)), .val (.int (1 : Int32)), .val (.ref a1317), .val (.int (2 : Int32)), .unset, .unset, .unset, .unset]) rfl (pc' := 265) rfl ?_
      refine giload B X1424 at_265 rfl (pc' := 267) rfl ?_
      have c267_1427 : ¬ ((1 : Int32) = (0 : Int32)) := (by decide)
      refine gifN B X1424 at_267 ((if0 _ _).trans (feq c267_1427).1) (pc' := 270) rfl ?_
      refine gaload B X1424 at_270 rfl rfl (pc' := 272) rfl ?_
      refine giload B X1424 at_272 rfl (pc' := 274) rfl ?_
      refine gbipush B X1424 at_274 (v := (45 : Int32)) rfl (pc' := 276) rfl ?_
      refine gbastore B X1424 (i := 2) A1426 (n := 18) rfl (by decide) rfl (vs' := (([57, qle, 45, 10, 10, 10, 10, 10, 10, 10, 10, 10, 10, 10, 10, 10, 10, 10] : List Int32).map Value.int)) (rfl) (Or.inr z_a1317) at_276 (pc' := 277) rfl fun T1428 h1429 X1430 W1431 A1432 => ?_
      refine giload B X1430 at_277 rfl (pc' := 279) rfl ?_
      refine giconst B X1430 at_279 (v := (1 : Int32)) rfl (pc' := 280) rfl ?_
      refine giadd B X1430 at_280 (v := (3 : Int32)) (by decide) (pc' := 281) rfl ?_
      refine gistore B X1430 at_281 (Ls' := #[.val (.int p0), .val (.long p1), .second, .val (.int p2), .val (.int p3), .val (.int qk), .val (.long qw), .second, .val (.int (1 : Int32)), .val (.int (ofs p0)), .val (.int qle), .val (.int qt), .val (.int (1 : Int32)), .val (.int (0 : Int32)), .val (.int (1 : Int32)), .val (.int (1 : Int32)), .val (.ref a1317), .val (.int (3 : Int32)), .unset, .unset, .unset, .unset]) rfl (pc' := 283) rfl ?_
      have hL0 : ([57, qle, 45, 10, 10, 10, 10, 10, 10, 10, 10, 10, 10, 10, 10, 10, 10, 10] : List Int32).length = 18 := rfl
      have ha0 : ([57, qle, 45, 10, 10, 10, 10, 10, 10, 10, 10, 10, 10, 10, 10, 10, 10, 10] : List Int32).getD 1 0 = qle := rfl
      have hb0 : ([57, qle, 45, 10, 10, 10, 10, 10, 10, 10, 10, 10, 10, 10, 10, 10, 10, 10] : List Int32).getD 2 0 = 45 := rfl
      generalize ([57, qle, 45, 10, 10, 10, 10, 10, 10, 10, 10, 10, 10, 10, 10, 10, 10, 10] : List Int32) = bs0 at hL0 ha0 hb0 A1432
      have A1433 : VA Z h1429 a1317 .byte ((orec bs0 3 kN qw qt 0).map Value.int) := A1432
      refine gaload B X1430 at_283 rfl rfl (pc' := 285) rfl ?_
      refine giload B X1430 at_285 rfl (pc' := 287) rfl ?_
      refine giconst B X1430 at_287 (v := (0 : Int32)) rfl (pc' := 288) rfl ?_
      refine giload B X1430 at_288 rfl (pc' := 290) rfl ?_
      refine glload B X1430 at_290 rfl (pc' := 292) rfl ?_
      refine giload B X1430 at_292 rfl (pc' := 294) rfl ?_
      refine gcallS B X1430 (hw _ (List.mem_of_getElem? (i := 3) rfl)) (hw _ (List.mem_of_getElem? (i := 4) rfl)) (hw _ (List.mem_of_getElem? (i := 5) rfl)) (hw _ (List.mem_of_getElem? (i := 6) rfl)) (by decide) (mt1 l Z a0 hw a1317 (3 : Int32) (0 : Int32) qk qw qt (orec bs0 3 kN qw qt 0) 3 0 kN h1429 A1433 ((own_len ..).trans hL0) (by decide) (by decide) (by decide) (by decide) hk hk11 ht8) pd___BIIIJB_V rfl (argsL := [(.ref a1317), (.int (3 : Int32)), (.int (0 : Int32)), (.int qk), (.long qw), (.int qt)]) (st := []) rfl rfl (W := 0) (Nat.le_of_eq rfl) (by decide) (by decide) (by decide) (by decide) (allS (Or.inr z_a1317) all0) at_294 (pc' := 297) rfl fun T1434 h1435 v1436 X1437 K1438 Q1439 => ?_
      obtain ⟨rfl, A1440⟩ := Q1439
      have A1441 : VA Z h1435 a1317 .byte ((orec bs0 3 kN qw qt 1).map Value.int) := A1440
      show Go p e below _ _ _ _ T1434 (mkF m 297 #[.val (.int p0), .val (.long p1), .second, .val (.int p2), .val (.int p3), .val (.int qk), .val (.long qw), .second, .val (.int (1 : Int32)), .val (.int (ofs p0)), .val (.int qle), .val (.int qt), .val (.int (1 : Int32)), .val (.int (0 : Int32)), .val (.int (1 : Int32)), .val (.int (1 : Int32)), .val (.ref a1317), .val (.int (3 : Int32)), .unset, .unset, .unset, .unset] [])
      refine gaload B X1437 at_297 rfl rfl (pc' := 299) rfl ?_
      refine giload B X1437 at_299 rfl (pc' := 301) rfl ?_
      refine giconst B X1437 at_301 (v := (1 : Int32)) rfl (pc' := 302) rfl ?_
      refine giload B X1437 at_302 rfl (pc' := 304) rfl ?_
      refine glload B X1437 at_304 rfl (pc' := 306) rfl ?_
      refine giload B X1437 at_306 rfl (pc' := 308) rfl ?_
      refine gcallS B X1437 (hw _ (List.mem_of_getElem? (i := 3) rfl)) (hw _ (List.mem_of_getElem? (i := 4) rfl)) (hw _ (List.mem_of_getElem? (i := 5) rfl)) (hw _ (List.mem_of_getElem? (i := 6) rfl)) (by decide) (mt1 l Z a0 hw a1317 (3 : Int32) (1 : Int32) qk qw qt (orec bs0 3 kN qw qt 1) 3 1 kN h1435 A1441 ((own_len ..).trans hL0) (by decide) (by decide) (by decide) (by decide) hk hk11 ht8) pd___BIIIJB_V rfl (argsL := [(.ref a1317), (.int (3 : Int32)), (.int (1 : Int32)), (.int qk), (.long qw), (.int qt)]) (st := []) rfl rfl (W := 0) (Nat.le_of_eq rfl) (by decide) (by decide) (by decide) (by decide) (allS (Or.inr z_a1317) all0) at_308 (pc' := 311) rfl fun T1442 h1443 v1444 X1445 K1446 Q1447 => ?_
      obtain ⟨rfl, A1448⟩ := Q1447
      have A1449 : VA Z h1443 a1317 .byte ((orec bs0 3 kN qw qt 2).map Value.int) := A1448
      show Go p e below _ _ _ _ T1442 (mkF m 311 #[.val (.int p0), .val (.long p1), .second, .val (.int p2), .val (.int p3), .val (.int qk), .val (.long qw), .second, .val (.int (1 : Int32)), .val (.int (ofs p0)), .val (.int qle), .val (.int qt), .val (.int (1 : Int32)), .val (.int (0 : Int32)), .val (.int (1 : Int32)), .val (.int (1 : Int32)), .val (.ref a1317), .val (.int (3 : Int32)), .unset, .unset, .unset, .unset] [])
      refine gaload B X1445 at_311 rfl rfl (pc' := 313) rfl ?_
      refine giload B X1445 at_313 rfl (pc' := 315) rfl ?_
      refine giconst B X1445 at_315 (v := (2 : Int32)) rfl (pc' := 316) rfl ?_
      refine giload B X1445 at_316 rfl (pc' := 318) rfl ?_
      refine glload B X1445 at_318 rfl (pc' := 320) rfl ?_
      refine giload B X1445 at_320 rfl (pc' := 322) rfl ?_
      refine gcallS B X1445 (hw _ (List.mem_of_getElem? (i := 3) rfl)) (hw _ (List.mem_of_getElem? (i := 4) rfl)) (hw _ (List.mem_of_getElem? (i := 5) rfl)) (hw _ (List.mem_of_getElem? (i := 6) rfl)) (by decide) (mt1 l Z a0 hw a1317 (3 : Int32) (2 : Int32) qk qw qt (orec bs0 3 kN qw qt 2) 3 2 kN h1443 A1449 ((own_len ..).trans hL0) (by decide) (by decide) (by decide) (by decide) hk hk11 ht8) pd___BIIIJB_V rfl (argsL := [(.ref a1317), (.int (3 : Int32)), (.int (2 : Int32)), (.int qk), (.long qw), (.int qt)]) (st := []) rfl rfl (W := 0) (Nat.le_of_eq rfl) (by decide) (by decide) (by decide) (by decide) (allS (Or.inr z_a1317) all0) at_322 (pc' := 325) rfl fun T1450 h1451 v1452 X1453 K1454 Q1455 => ?_
      obtain ⟨rfl, A1456⟩ := Q1455
      have A1457 : VA Z h1451 a1317 .byte ((orec bs0 3 kN qw qt 3).map Value.int) := A1456
      show Go p e below _ _ _ _ T1450 (mkF m 325 #[.val (.int p0), .val (.long p1), .second, .val (.int p2), .val (.int p3), .val (.int qk), .val (.long qw), .second, .val (.int (1 : Int32)), .val (.int (ofs p0)), .val (.int qle), .val (.int qt), .val (.int (1 : Int32)), .val (.int (0 : Int32)), .val (.int (1 : Int32)), .val (.int (1 : Int32)), .val (.ref a1317), .val (.int (3 : Int32)), .unset, .unset, .unset, .unset] [])
      refine gaload B X1453 at_325 rfl rfl (pc' := 327) rfl ?_
      refine giload B X1453 at_327 rfl (pc' := 329) rfl ?_
      refine giconst B X1453 at_329 (v := (3 : Int32)) rfl (pc' := 330) rfl ?_
      refine giload B X1453 at_330 rfl (pc' := 332) rfl ?_
      refine glload B X1453 at_332 rfl (pc' := 334) rfl ?_
      refine giload B X1453 at_334 rfl (pc' := 336) rfl ?_
      refine gcallS B X1453 (hw _ (List.mem_of_getElem? (i := 3) rfl)) (hw _ (List.mem_of_getElem? (i := 4) rfl)) (hw _ (List.mem_of_getElem? (i := 5) rfl)) (hw _ (List.mem_of_getElem? (i := 6) rfl)) (by decide) (mt1 l Z a0 hw a1317 (3 : Int32) (3 : Int32) qk qw qt (orec bs0 3 kN qw qt 3) 3 3 kN h1451 A1457 ((own_len ..).trans hL0) (by decide) (by decide) (by decide) (by decide) hk hk11 ht8) pd___BIIIJB_V rfl (argsL := [(.ref a1317), (.int (3 : Int32)), (.int (3 : Int32)), (.int qk), (.long qw), (.int qt)]) (st := []) rfl rfl (W := 0) (Nat.le_of_eq rfl) (by decide) (by decide) (by decide) (by decide) (allS (Or.inr z_a1317) all0) at_336 (pc' := 339) rfl fun T1458 h1459 v1460 X1461 K1462 Q1463 => ?_
      obtain ⟨rfl, A1464⟩ := Q1463
      have A1465 : VA Z h1459 a1317 .byte ((orec bs0 3 kN qw qt 4).map Value.int) := A1464
      show Go p e below _ _ _ _ T1458 (mkF m 339 #[.val (.int p0), .val (.long p1), .second, .val (.int p2), .val (.int p3), .val (.int qk), .val (.long qw), .second, .val (.int (1 : Int32)), .val (.int (ofs p0)), .val (.int qle), .val (.int qt), .val (.int (1 : Int32)), .val (.int (0 : Int32)), .val (.int (1 : Int32)), .val (.int (1 : Int32)), .val (.ref a1317), .val (.int (3 : Int32)), .unset, .unset, .unset, .unset] [])
      refine gaload B X1461 at_339 rfl rfl (pc' := 341) rfl ?_
      refine giload B X1461 at_341 rfl (pc' := 343) rfl ?_
      refine giconst B X1461 at_343 (v := (4 : Int32)) rfl (pc' := 344) rfl ?_
      refine giload B X1461 at_344 rfl (pc' := 346) rfl ?_
      refine glload B X1461 at_346 rfl (pc' := 348) rfl ?_
      refine giload B X1461 at_348 rfl (pc' := 350) rfl ?_
      refine gcallS B X1461 (hw _ (List.mem_of_getElem? (i := 3) rfl)) (hw _ (List.mem_of_getElem? (i := 4) rfl)) (hw _ (List.mem_of_getElem? (i := 5) rfl)) (hw _ (List.mem_of_getElem? (i := 6) rfl)) (by decide) (mt1 l Z a0 hw a1317 (3 : Int32) (4 : Int32) qk qw qt (orec bs0 3 kN qw qt 4) 3 4 kN h1459 A1465 ((own_len ..).trans hL0) (by decide) (by decide) (by decide) (by decide) hk hk11 ht8) pd___BIIIJB_V rfl (argsL := [(.ref a1317), (.int (3 : Int32)), (.int (4 : Int32)), (.int qk), (.long qw), (.int qt)]) (st := []) rfl rfl (W := 0) (Nat.le_of_eq rfl) (by decide) (by decide) (by decide) (by decide) (allS (Or.inr z_a1317) all0) at_350 (pc' := 353) rfl fun T1466 h1467 v1468 X1469 K1470 Q1471 => ?_
      obtain ⟨rfl, A1472⟩ := Q1471
      have A1473 : VA Z h1467 a1317 .byte ((orec bs0 3 kN qw qt 5).map Value.int) := A1472
      show Go p e below _ _ _ _ T1466 (mkF m 353 #[.val (.int p0), .val (.long p1), .second, .val (.int p2), .val (.int p3), .val (.int qk), .val (.long qw), .second, .val (.int (1 : Int32)), .val (.int (ofs p0)), .val (.int qle), .val (.int qt), .val (.int (1 : Int32)), .val (.int (0 : Int32)), .val (.int (1 : Int32)), .val (.int (1 : Int32)), .val (.ref a1317), .val (.int (3 : Int32)), .unset, .unset, .unset, .unset] [])
      refine gaload B X1469 at_353 rfl rfl (pc' := 355) rfl ?_
      refine giload B X1469 at_355 rfl (pc' := 357) rfl ?_
      refine giconst B X1469 at_357 (v := (5 : Int32)) rfl (pc' := 358) rfl ?_
      refine giload B X1469 at_358 rfl (pc' := 360) rfl ?_
      refine glload B X1469 at_360 rfl (pc' := 362) rfl ?_
      refine giload B X1469 at_362 rfl (pc' := 364) rfl ?_
      refine gcallS B X1469 (hw _ (List.mem_of_getElem? (i := 3) rfl)) (hw _ (List.mem_of_getElem? (i := 4) rfl)) (hw _ (List.mem_of_getElem? (i := 5) rfl)) (hw _ (List.mem_of_getElem? (i := 6) rfl)) (by decide) (mt1 l Z a0 hw a1317 (3 : Int32) (5 : Int32) qk qw qt (orec bs0 3 kN qw qt 5) 3 5 kN h1467 A1473 ((own_len ..).trans hL0) (by decide) (by decide) (by decide) (by decide) hk hk11 ht8) pd___BIIIJB_V rfl (argsL := [(.ref a1317), (.int (3 : Int32)), (.int (5 : Int32)), (.int qk), (.long qw), (.int qt)]) (st := []) rfl rfl (W := 0) (Nat.le_of_eq rfl) (by decide) (by decide) (by decide) (by decide) (allS (Or.inr z_a1317) all0) at_364 (pc' := 367) rfl fun T1474 h1475 v1476 X1477 K1478 Q1479 => ?_
      obtain ⟨rfl, A1480⟩ := Q1479
      have A1481 : VA Z h1475 a1317 .byte ((orec bs0 3 kN qw qt 6).map Value.int) := A1480
      show Go p e below _ _ _ _ T1474 (mkF m 367 #[.val (.int p0), .val (.long p1), .second, .val (.int p2), .val (.int p3), .val (.int qk), .val (.long qw), .second, .val (.int (1 : Int32)), .val (.int (ofs p0)), .val (.int qle), .val (.int qt), .val (.int (1 : Int32)), .val (.int (0 : Int32)), .val (.int (1 : Int32)), .val (.int (1 : Int32)), .val (.ref a1317), .val (.int (3 : Int32)), .unset, .unset, .unset, .unset] [])
      refine gaload B X1477 at_367 rfl rfl (pc' := 369) rfl ?_
      refine giload B X1477 at_369 rfl (pc' := 371) rfl ?_
      refine gbipush B X1477 at_371 (v := (6 : Int32)) rfl (pc' := 373) rfl ?_
      refine giload B X1477 at_373 rfl (pc' := 375) rfl ?_
      refine glload B X1477 at_375 rfl (pc' := 377) rfl ?_
      refine giload B X1477 at_377 rfl (pc' := 379) rfl ?_
      refine gcallS B X1477 (hw _ (List.mem_of_getElem? (i := 3) rfl)) (hw _ (List.mem_of_getElem? (i := 4) rfl)) (hw _ (List.mem_of_getElem? (i := 5) rfl)) (hw _ (List.mem_of_getElem? (i := 6) rfl)) (by decide) (mt1 l Z a0 hw a1317 (3 : Int32) (6 : Int32) qk qw qt (orec bs0 3 kN qw qt 6) 3 6 kN h1475 A1481 ((own_len ..).trans hL0) (by decide) (by decide) (by decide) (by decide) hk hk11 ht8) pd___BIIIJB_V rfl (argsL := [(.ref a1317), (.int (3 : Int32)), (.int (6 : Int32)), (.int qk), (.long qw), (.int qt)]) (st := []) rfl rfl (W := 0) (Nat.le_of_eq rfl) (by decide) (by decide) (by decide) (by decide) (allS (Or.inr z_a1317) all0) at_379 (pc' := 382) rfl fun T1482 h1483 v1484 X1485 K1486 Q1487 => ?_
      obtain ⟨rfl, A1488⟩ := Q1487
      have A1489 : VA Z h1483 a1317 .byte ((orec bs0 3 kN qw qt 7).map Value.int) := A1488
      show Go p e below _ _ _ _ T1482 (mkF m 382 #[.val (.int p0), .val (.long p1), .second, .val (.int p2), .val (.int p3), .val (.int qk), .val (.long qw), .second, .val (.int (1 : Int32)), .val (.int (ofs p0)), .val (.int qle), .val (.int qt), .val (.int (1 : Int32)), .val (.int (0 : Int32)), .val (.int (1 : Int32)), .val (.int (1 : Int32)), .val (.ref a1317), .val (.int (3 : Int32)), .unset, .unset, .unset, .unset] [])
      refine gaload B X1485 at_382 rfl rfl (pc' := 384) rfl ?_
      refine giload B X1485 at_384 rfl (pc' := 386) rfl ?_
      refine gbipush B X1485 at_386 (v := (7 : Int32)) rfl (pc' := 388) rfl ?_
      refine giload B X1485 at_388 rfl (pc' := 390) rfl ?_
      refine glload B X1485 at_390 rfl (pc' := 392) rfl ?_
      refine giload B X1485 at_392 rfl (pc' := 394) rfl ?_
      refine gcallS B X1485 (hw _ (List.mem_of_getElem? (i := 3) rfl)) (hw _ (List.mem_of_getElem? (i := 4) rfl)) (hw _ (List.mem_of_getElem? (i := 5) rfl)) (hw _ (List.mem_of_getElem? (i := 6) rfl)) (by decide) (mt1 l Z a0 hw a1317 (3 : Int32) (7 : Int32) qk qw qt (orec bs0 3 kN qw qt 7) 3 7 kN h1483 A1489 ((own_len ..).trans hL0) (by decide) (by decide) (by decide) (by decide) hk hk11 ht8) pd___BIIIJB_V rfl (argsL := [(.ref a1317), (.int (3 : Int32)), (.int (7 : Int32)), (.int qk), (.long qw), (.int qt)]) (st := []) rfl rfl (W := 0) (Nat.le_of_eq rfl) (by decide) (by decide) (by decide) (by decide) (allS (Or.inr z_a1317) all0) at_394 (pc' := 397) rfl fun T1490 h1491 v1492 X1493 K1494 Q1495 => ?_
      obtain ⟨rfl, A1496⟩ := Q1495
      have A1497 : VA Z h1491 a1317 .byte ((orec bs0 3 kN qw qt 8).map Value.int) := A1496
      show Go p e below _ _ _ _ T1490 (mkF m 397 #[.val (.int p0), .val (.long p1), .second, .val (.int p2), .val (.int p3), .val (.int qk), .val (.long qw), .second, .val (.int (1 : Int32)), .val (.int (ofs p0)), .val (.int qle), .val (.int qt), .val (.int (1 : Int32)), .val (.int (0 : Int32)), .val (.int (1 : Int32)), .val (.int (1 : Int32)), .val (.ref a1317), .val (.int (3 : Int32)), .unset, .unset, .unset, .unset] [])
      refine gaload B X1493 at_397 rfl rfl (pc' := 399) rfl ?_
      refine giload B X1493 at_399 rfl (pc' := 401) rfl ?_
      refine gbipush B X1493 at_401 (v := (8 : Int32)) rfl (pc' := 403) rfl ?_
      refine giload B X1493 at_403 rfl (pc' := 405) rfl ?_
      refine glload B X1493 at_405 rfl (pc' := 407) rfl ?_
      refine giload B X1493 at_407 rfl (pc' := 409) rfl ?_
      refine gcallS B X1493 (hw _ (List.mem_of_getElem? (i := 3) rfl)) (hw _ (List.mem_of_getElem? (i := 4) rfl)) (hw _ (List.mem_of_getElem? (i := 5) rfl)) (hw _ (List.mem_of_getElem? (i := 6) rfl)) (by decide) (mt1 l Z a0 hw a1317 (3 : Int32) (8 : Int32) qk qw qt (orec bs0 3 kN qw qt 8) 3 8 kN h1491 A1497 ((own_len ..).trans hL0) (by decide) (by decide) (by decide) (by decide) hk hk11 ht8) pd___BIIIJB_V rfl (argsL := [(.ref a1317), (.int (3 : Int32)), (.int (8 : Int32)), (.int qk), (.long qw), (.int qt)]) (st := []) rfl rfl (W := 0) (Nat.le_of_eq rfl) (by decide) (by decide) (by decide) (by decide) (allS (Or.inr z_a1317) all0) at_409 (pc' := 412) rfl fun T1498 h1499 v1500 X1501 K1502 Q1503 => ?_
      obtain ⟨rfl, A1504⟩ := Q1503
      have A1505 : VA Z h1499 a1317 .byte ((orec bs0 3 kN qw qt 9).map Value.int) := A1504
      show Go p e below _ _ _ _ T1498 (mkF m 412 #[.val (.int p0), .val (.long p1), .second, .val (.int p2), .val (.int p3), .val (.int qk), .val (.long qw), .second, .val (.int (1 : Int32)), .val (.int (ofs p0)), .val (.int qle), .val (.int qt), .val (.int (1 : Int32)), .val (.int (0 : Int32)), .val (.int (1 : Int32)), .val (.int (1 : Int32)), .val (.ref a1317), .val (.int (3 : Int32)), .unset, .unset, .unset, .unset] [])
      refine gaload B X1501 at_412 rfl rfl (pc' := 414) rfl ?_
      refine giload B X1501 at_414 rfl (pc' := 416) rfl ?_
      refine gbipush B X1501 at_416 (v := (9 : Int32)) rfl (pc' := 418) rfl ?_
      refine giload B X1501 at_418 rfl (pc' := 420) rfl ?_
      refine glload B X1501 at_420 rfl (pc' := 422) rfl ?_
      refine giload B X1501 at_422 rfl (pc' := 424) rfl ?_
      refine gcallS B X1501 (hw _ (List.mem_of_getElem? (i := 3) rfl)) (hw _ (List.mem_of_getElem? (i := 4) rfl)) (hw _ (List.mem_of_getElem? (i := 5) rfl)) (hw _ (List.mem_of_getElem? (i := 6) rfl)) (by decide) (mt1 l Z a0 hw a1317 (3 : Int32) (9 : Int32) qk qw qt (orec bs0 3 kN qw qt 9) 3 9 kN h1499 A1505 ((own_len ..).trans hL0) (by decide) (by decide) (by decide) (by decide) hk hk11 ht8) pd___BIIIJB_V rfl (argsL := [(.ref a1317), (.int (3 : Int32)), (.int (9 : Int32)), (.int qk), (.long qw), (.int qt)]) (st := []) rfl rfl (W := 0) (Nat.le_of_eq rfl) (by decide) (by decide) (by decide) (by decide) (allS (Or.inr z_a1317) all0) at_424 (pc' := 427) rfl fun T1506 h1507 v1508 X1509 K1510 Q1511 => ?_
      obtain ⟨rfl, A1512⟩ := Q1511
      have A1513 : VA Z h1507 a1317 .byte ((orec bs0 3 kN qw qt 10).map Value.int) := A1512
      show Go p e below _ _ _ _ T1506 (mkF m 427 #[.val (.int p0), .val (.long p1), .second, .val (.int p2), .val (.int p3), .val (.int qk), .val (.long qw), .second, .val (.int (1 : Int32)), .val (.int (ofs p0)), .val (.int qle), .val (.int qt), .val (.int (1 : Int32)), .val (.int (0 : Int32)), .val (.int (1 : Int32)), .val (.int (1 : Int32)), .val (.ref a1317), .val (.int (3 : Int32)), .unset, .unset, .unset, .unset] [])
      refine gaload B X1509 at_427 rfl rfl (pc' := 429) rfl ?_
      refine giload B X1509 at_429 rfl (pc' := 431) rfl ?_
      refine gbipush B X1509 at_431 (v := (10 : Int32)) rfl (pc' := 433) rfl ?_
      refine giload B X1509 at_433 rfl (pc' := 435) rfl ?_
      refine glload B X1509 at_435 rfl (pc' := 437) rfl ?_
      refine giload B X1509 at_437 rfl (pc' := 439) rfl ?_
      refine gcallS B X1509 (hw _ (List.mem_of_getElem? (i := 3) rfl)) (hw _ (List.mem_of_getElem? (i := 4) rfl)) (hw _ (List.mem_of_getElem? (i := 5) rfl)) (hw _ (List.mem_of_getElem? (i := 6) rfl)) (by decide) (mt1 l Z a0 hw a1317 (3 : Int32) (10 : Int32) qk qw qt (orec bs0 3 kN qw qt 10) 3 10 kN h1507 A1513 ((own_len ..).trans hL0) (by decide) (by decide) (by decide) (by decide) hk hk11 ht8) pd___BIIIJB_V rfl (argsL := [(.ref a1317), (.int (3 : Int32)), (.int (10 : Int32)), (.int qk), (.long qw), (.int qt)]) (st := []) rfl rfl (W := 0) (Nat.le_of_eq rfl) (by decide) (by decide) (by decide) (by decide) (allS (Or.inr z_a1317) all0) at_439 (pc' := 442) rfl fun T1514 h1515 v1516 X1517 K1518 Q1519 => ?_
      obtain ⟨rfl, A1520⟩ := Q1519
      have A1521 : VA Z h1515 a1317 .byte ((orec bs0 3 kN qw qt 11).map Value.int) := A1520
      show Go p e below _ _ _ _ T1514 (mkF m 442 #[.val (.int p0), .val (.long p1), .second, .val (.int p2), .val (.int p3), .val (.int qk), .val (.long qw), .second, .val (.int (1 : Int32)), .val (.int (ofs p0)), .val (.int qle), .val (.int qt), .val (.int (1 : Int32)), .val (.int (0 : Int32)), .val (.int (1 : Int32)), .val (.int (1 : Int32)), .val (.ref a1317), .val (.int (3 : Int32)), .unset, .unset, .unset, .unset] [])
      refine gaload B X1517 at_442 rfl rfl (pc' := 444) rfl ?_
      refine giload B X1517 at_444 rfl (pc' := 446) rfl ?_
      refine gbipush B X1517 at_446 (v := (11 : Int32)) rfl (pc' := 448) rfl ?_
      refine giload B X1517 at_448 rfl (pc' := 450) rfl ?_
      refine glload B X1517 at_450 rfl (pc' := 452) rfl ?_
      refine giload B X1517 at_452 rfl (pc' := 454) rfl ?_
      refine gcallS B X1517 (hw _ (List.mem_of_getElem? (i := 3) rfl)) (hw _ (List.mem_of_getElem? (i := 4) rfl)) (hw _ (List.mem_of_getElem? (i := 5) rfl)) (hw _ (List.mem_of_getElem? (i := 6) rfl)) (by decide) (mt1 l Z a0 hw a1317 (3 : Int32) (11 : Int32) qk qw qt (orec bs0 3 kN qw qt 11) 3 11 kN h1515 A1521 ((own_len ..).trans hL0) (by decide) (by decide) (by decide) (by decide) hk hk11 ht8) pd___BIIIJB_V rfl (argsL := [(.ref a1317), (.int (3 : Int32)), (.int (11 : Int32)), (.int qk), (.long qw), (.int qt)]) (st := []) rfl rfl (W := 0) (Nat.le_of_eq rfl) (by decide) (by decide) (by decide) (by decide) (allS (Or.inr z_a1317) all0) at_454 (pc' := 457) rfl fun T1522 h1523 v1524 X1525 K1526 Q1527 => ?_
      obtain ⟨rfl, A1528⟩ := Q1527
      have A1529 : VA Z h1523 a1317 .byte ((orec bs0 3 kN qw qt 12).map Value.int) := A1528
      show Go p e below _ _ _ _ T1522 (mkF m 457 #[.val (.int p0), .val (.long p1), .second, .val (.int p2), .val (.int p3), .val (.int qk), .val (.long qw), .second, .val (.int (1 : Int32)), .val (.int (ofs p0)), .val (.int qle), .val (.int qt), .val (.int (1 : Int32)), .val (.int (0 : Int32)), .val (.int (1 : Int32)), .val (.int (1 : Int32)), .val (.ref a1317), .val (.int (3 : Int32)), .unset, .unset, .unset, .unset] [])
      refine giload B X1525 at_457 rfl (pc' := 459) rfl ?_
      have c459_1530 : (0 : Int32) = (0 : Int32) := (by decide)
      refine gifN B X1525 at_459 ((if0 _ _).trans (teq c459_1530).2) (pc' := 462) rfl ?_
      refine giload B X1525 at_462 rfl (pc' := 464) rfl ?_
      refine gbipush B X1525 at_464 (v := (32 : Int32)) rfl (pc' := 466) rfl ?_
      by_cases c466_1531 : qle = (32 : Int32)
      · refine gicN B X1525 at_466 (teq c466_1531).2 (pc' := 469) rfl ?_
        refine giload B X1525 at_469 rfl (pc' := 471) rfl ?_
        by_cases c471_1532 : qk = (0 : Int32)
        · refine gifY B X1525 (pc' := 481) at_471 ((if0 _ _).trans (teq c471_1532).1) (by decide) ?_
          refine gldc2 B X1525 (v := (-1 : Int64)) (hw _ (List.mem_of_getElem? (i := 21) rfl)) at_481 (pc' := 484) rfl ?_
          refine glstore B X1525 at_484 (Ls' := #[.val (.int p0), .val (.long p1), .second, .val (.int p2), .val (.int p3), .val (.int qk), .val (.long qw), .second, .val (.int (1 : Int32)), .val (.int (ofs p0)), .val (.int qle), .val (.int qt), .val (.int (1 : Int32)), .val (.int (0 : Int32)), .val (.int (1 : Int32)), .val (.int (1 : Int32)), .val (.ref a1317), .val (.int (3 : Int32)), .val (.long (-1 : Int64)), .second, .unset, .unset]) rfl (pc' := 486) rfl ?_
          refine ggoto B X1525 (pc' := 534) at_486 (by decide) ?_
          have kz : kN = 0 ∧ 3 ≤ 3 := ⟨(own_kz hk).mp c471_1532, by decide⟩
          refine gaload B X1525 at_534 rfl rfl (pc' := 536) rfl ?_
          refine giload B X1525 at_536 rfl (pc' := 538) rfl ?_
          have hru := own_run (sN := 3) hL0 (by decide) hk11 hww htn
          refine gcallS B X1525 (hw _ (List.mem_of_getElem? (i := 22) rfl)) (hw _ (List.mem_of_getElem? (i := 23) rfl)) (hw _ (List.mem_of_getElem? (i := 24) rfl)) (hw _ (List.mem_of_getElem? (i := 25) rfl)) (by decide) (mt3C1 l Z a0 hw a1317 (1 : Int32) (orec bs0 3 kN qw qt 12) h1523 A1529 1 (by decide) (by decide) ((own_len ..).trans hL0) 3 kN (3 : Int32) qk (2 : Int32) hru.2.2 (by decide) hk (((own_low hL0 (by decide) 1 (by decide)).trans ha0).trans c466_1531) (by decide) (by decide) ((own_low hL0 (by decide) 2 (by decide)).trans hb0) (by decide)) pd___BI_J rfl (argsL := [(.ref a1317), (.int (1 : Int32))]) (st := []) rfl rfl (W := 0) (Nat.le_of_eq rfl) (by decide) (by decide) (by decide) (by decide) (fun x q => nomatch q) at_538 (pc' := 541) rfl (pureG rfl rfl fun T1533 X1534 => ?_)
          refine glload B X1534 at_541 rfl (pc' := 543) rfl ?_
          refine glcmp B X1534 at_543 (pc' := 544) rfl ?_
          have c544_1535 : (ores (3 : Int32) qk (1 : Int32) kN (oacc (orec bs0 3 kN qw qt 12) 3 kN)) = (-1 : Int64) := if_pos (Or.inl kz.1)
          refine gifN B X1534 at_544 ((if0 _ _).trans (teq (((lw_eq (ores (3 : Int32) qk (1 : Int32) kN (oacc (orec bs0 3 kN qw qt 12) 3 kN)) (-1 : Int64))).mpr c544_1535)).2) (pc' := 547) rfl ?_
          refine giconst B X1534 at_547 (v := (1 : Int32)) rfl (pc' := 548) rfl ?_
          refine ggoto B X1534 (pc' := 552) at_548 (by decide) ?_
          exact gretN B X1534 (z' := (1 : Int32)) (by simp) (rfl) at_552 (by decide) (by decide) (rfl)
        · refine gifN B X1525 at_471 ((if0 _ _).trans (feq c471_1532).1) (pc' := 474) rfl ?_
          refine giload B X1525 at_474 rfl (pc' := 476) rfl ?_
          refine gbipush B X1525 at_476 (v := (9 : Int32)) rfl (pc' := 478) rfl ?_
          by_cases c478_1536 : (9 : Int32) < qk
          · refine gicN B X1525 at_478 (tlt c478_1536).2.2.2 (pc' := 481) rfl ?_
            refine gldc2 B X1525 (v := (-1 : Int64)) (hw _ (List.mem_of_getElem? (i := 21) rfl)) at_481 (pc' := 484) rfl ?_
            refine glstore B X1525 at_484 (Ls' := #[.val (.int p0), .val (.long p1), .second, .val (.int p2), .val (.int p3), .val (.int qk), .val (.long qw), .second, .val (.int (1 : Int32)), .val (.int (ofs p0)), .val (.int qle), .val (.int qt), .val (.int (1 : Int32)), .val (.int (0 : Int32)), .val (.int (1 : Int32)), .val (.int (1 : Int32)), .val (.ref a1317), .val (.int (3 : Int32)), .val (.long (-1 : Int64)), .second, .unset, .unset]) rfl (pc' := 486) rfl ?_
            refine ggoto B X1525 (pc' := 534) at_486 (by decide) ?_
            have hkp : 0 < kN := Nat.pos_of_ne_zero (mt (own_kz hk).mpr c471_1532)
            refine gaload B X1525 at_534 rfl rfl (pc' := 536) rfl ?_
            refine giload B X1525 at_536 rfl (pc' := 538) rfl ?_
            have hru := own_run (sN := 3) hL0 (by decide) hk11 hww htn
            refine gcallS B X1525 (hw _ (List.mem_of_getElem? (i := 22) rfl)) (hw _ (List.mem_of_getElem? (i := 23) rfl)) (hw _ (List.mem_of_getElem? (i := 24) rfl)) (hw _ (List.mem_of_getElem? (i := 25) rfl)) (by decide) (mt3C1 l Z a0 hw a1317 (1 : Int32) (orec bs0 3 kN qw qt 12) h1523 A1529 1 (by decide) (by decide) ((own_len ..).trans hL0) 3 kN (3 : Int32) qk (2 : Int32) hru.2.2 (by decide) hk (((own_low hL0 (by decide) 1 (by decide)).trans ha0).trans c466_1531) (by decide) (by decide) ((own_low hL0 (by decide) 2 (by decide)).trans hb0) (by decide)) pd___BI_J rfl (argsL := [(.ref a1317), (.int (1 : Int32))]) (st := []) rfl rfl (W := 0) (Nat.le_of_eq rfl) (by decide) (by decide) (by decide) (by decide) (fun x q => nomatch q) at_538 (pc' := 541) rfl (pureG rfl rfl fun T1537 X1538 => ?_)
            refine glload B X1538 at_541 rfl (pc' := 543) rfl ?_
            refine glcmp B X1538 at_543 (pc' := 544) rfl ?_
            have c544_1539 : (ores (3 : Int32) qk (1 : Int32) kN (oacc (orec bs0 3 kN qw qt 12) 3 kN)) = (-1 : Int64) := if_pos (Or.inr ((own_k9 hk).mp c478_1536))
            refine gifN B X1538 at_544 ((if0 _ _).trans (teq (((lw_eq (ores (3 : Int32) qk (1 : Int32) kN (oacc (orec bs0 3 kN qw qt 12) 3 kN)) (-1 : Int64))).mpr c544_1539)).2) (pc' := 547) rfl ?_
            refine giconst B X1538 at_547 (v := (1 : Int32)) rfl (pc' := 548) rfl ?_
            refine ggoto B X1538 (pc' := 552) at_548 (by decide) ?_
            exact gretN B X1538 (z' := (1 : Int32)) (by simp) (rfl) at_552 (by decide) (by decide) (rfl)
          · refine gicY B X1525 (pc' := 489) at_478 (flt c478_1536).2.2.2 (by decide) ?_
            refine glload B X1525 at_489 rfl (pc' := 491) rfl ?_
            refine giload B X1525 at_491 rfl (pc' := 493) rfl ?_
            have hk9 := mt (own_k9 hk).mpr c478_1536
            refine gcallS B X1525 (hw _ (List.mem_of_getElem? (i := 7) rfl)) (hw _ (List.mem_of_getElem? (i := 8) rfl)) (hw _ (List.mem_of_getElem? (i := 5) rfl)) (hw _ (List.mem_of_getElem? (i := 9) rfl)) (by decide) (mt2 l Z a0 hw qk kN h1523 hk (by omega)) pd__I_J rfl (argsL := [(.int qk)]) (st := [(.long qw)]) rfl rfl (W := 2) (Nat.le_of_eq rfl) (by decide) (by decide) (by decide) (by decide) (fun x q => nomatch q) at_493 (pc' := 496) rfl fun T1540 h1541 v1542 X1543 K1544 Q1545 => ?_
            have F1546 := A1529.keep K1544 nin0
            obtain rfl := Q1545
            show Go p e below _ _ _ _ T1540 (mkF m 496 #[.val (.int p0), .val (.long p1), .second, .val (.int p2), .val (.int p3), .val (.int qk), .val (.long qw), .second, .val (.int (1 : Int32)), .val (.int (ofs p0)), .val (.int qle), .val (.int qt), .val (.int (1 : Int32)), .val (.int (0 : Int32)), .val (.int (1 : Int32)), .val (.int (1 : Int32)), .val (.ref a1317), .val (.int (3 : Int32)), .unset, .unset, .unset, .unset] [(.long (opow kN)), (.long qw)])
            refine glrem B X1543 at_496 (own_p10 ⟨kN, by omega⟩).2.1 rfl (pc' := 497) rfl ?_
            refine gl2i B X1543 at_497 rfl (pc' := 498) rfl ?_
            refine gistore B X1543 at_498 (Ls' := #[.val (.int p0), .val (.long p1), .second, .val (.int p2), .val (.int p3), .val (.int qk), .val (.long qw), .second, .val (.int (1 : Int32)), .val (.int (ofs p0)), .val (.int qle), .val (.int qt), .val (.int (1 : Int32)), .val (.int (0 : Int32)), .val (.int (1 : Int32)), .val (.int (1 : Int32)), .val (.ref a1317), .val (.int (3 : Int32)), .unset, .unset, .val (.int (qw % (opow kN)).toInt32), .unset]) rfl (pc' := 500) rfl ?_
            refine giload B X1543 at_500 rfl (pc' := 502) rfl ?_
            have c502_1547 : ¬ ((1 : Int32) = (0 : Int32)) := (by decide)
            refine gifN B X1543 at_502 ((if0 _ _).trans (feq c502_1547).1) (pc' := 505) rfl ?_
            refine giload B X1543 at_505 rfl (pc' := 507) rfl ?_
            refine gineg B X1543 at_507 rfl (pc' := 508) rfl ?_
            refine ggoto B X1543 (pc' := 513) at_508 (by decide) ?_
            refine gistore B X1543 at_513 (Ls' := #[.val (.int p0), .val (.long p1), .second, .val (.int p2), .val (.int p3), .val (.int qk), .val (.long qw), .second, .val (.int (1 : Int32)), .val (.int (ofs p0)), .val (.int qle), .val (.int qt), .val (.int (1 : Int32)), .val (.int (0 : Int32)), .val (.int (1 : Int32)), .val (.int (1 : Int32)), .val (.ref a1317), .val (.int (3 : Int32)), .unset, .unset, .val (.int (qw % (opow kN)).toInt32), .val (.int (-(qw % (opow kN)).toInt32))]) rfl (pc' := 515) rfl ?_
            refine giload B X1543 at_515 rfl (pc' := 517) rfl ?_
            refine giload B X1543 at_517 rfl (pc' := 519) rfl ?_
            refine giadd B X1543 at_519 rfl (pc' := 520) rfl ?_
            refine gi2l B X1543 at_520 rfl (pc' := 521) rfl ?_
            refine gbipush B X1543 at_521 (v := (32 : Int32)) rfl (pc' := 523) rfl ?_
            refine glshl B X1543 at_523 rfl (pc' := 524) rfl ?_
            refine giload B X1543 at_524 rfl (pc' := 526) rfl ?_
            refine gi2l B X1543 at_526 rfl (pc' := 527) rfl ?_
            refine gldc2 B X1543 (v := (4294967295 : Int64)) (hw _ (List.mem_of_getElem? (i := 28) rfl)) at_527 (pc' := 530) rfl ?_
            refine gland B X1543 at_530 rfl (pc' := 531) rfl ?_
            refine glor B X1543 at_531 rfl (pc' := 532) rfl ?_
            refine glstore B X1543 at_532 (Ls' := #[.val (.int p0), .val (.long p1), .second, .val (.int p2), .val (.int p3), .val (.int qk), .val (.long qw), .second, .val (.int (1 : Int32)), .val (.int (ofs p0)), .val (.int qle), .val (.int qt), .val (.int (1 : Int32)), .val (.int (0 : Int32)), .val (.int (1 : Int32)), .val (.int (1 : Int32)), .val (.ref a1317), .val (.int (3 : Int32)), .val (.long ((((3 : Int32) + qk).toInt64 <<< ((32 : Int32) &&& 0x3f).toInt64) ||| ((-(qw % (opow kN)).toInt32).toInt64 &&& (4294967295 : Int64)))), .second, .val (.int (qw % (opow kN)).toInt32), .val (.int (-(qw % (opow kN)).toInt32))]) rfl (pc' := 534) rfl ?_
            have hkp : 0 < kN := Nat.pos_of_ne_zero (mt (own_kz hk).mpr c471_1532)
            refine gaload B X1543 at_534 rfl rfl (pc' := 536) rfl ?_
            refine giload B X1543 at_536 rfl (pc' := 538) rfl ?_
            have hru := own_run (sN := 3) hL0 (by decide) hk11 hww htn
            refine gcallS B X1543 (hw _ (List.mem_of_getElem? (i := 22) rfl)) (hw _ (List.mem_of_getElem? (i := 23) rfl)) (hw _ (List.mem_of_getElem? (i := 24) rfl)) (hw _ (List.mem_of_getElem? (i := 25) rfl)) (by decide) (mt3C1 l Z a0 hw a1317 (1 : Int32) (orec bs0 3 kN qw qt 12) h1541 F1546 1 (by decide) (by decide) ((own_len ..).trans hL0) 3 kN (3 : Int32) qk (2 : Int32) hru.2.2 (by decide) hk (((own_low hL0 (by decide) 1 (by decide)).trans ha0).trans c466_1531) (by decide) (by decide) ((own_low hL0 (by decide) 2 (by decide)).trans hb0) (by decide)) pd___BI_J rfl (argsL := [(.ref a1317), (.int (1 : Int32))]) (st := []) rfl rfl (W := 0) (Nat.le_of_eq rfl) (by decide) (by decide) (by decide) (by decide) (fun x q => nomatch q) at_538 (pc' := 541) rfl (pureG rfl rfl fun T1548 X1549 => ?_)
            refine glload B X1549 at_541 rfl (pc' := 543) rfl ?_
            refine glcmp B X1549 at_543 (pc' := 544) rfl ?_
            have c544_1550 : (ores (3 : Int32) qk (1 : Int32) kN (oacc (orec bs0 3 kN qw qt 12) 3 kN)) = ((((3 : Int32) + qk).toInt64 <<< ((32 : Int32) &&& 0x3f).toInt64) ||| ((-(qw % (opow kN)).toInt32).toInt64 &&& (4294967295 : Int64))) := by have k9 := mt (own_k9 hk).mpr c478_1536; rw [ores, if_neg (by omega), own_val hww (by omega) hru.1, if_neg (by decide)]
            refine gifN B X1549 at_544 ((if0 _ _).trans (teq (((lw_eq (ores (3 : Int32) qk (1 : Int32) kN (oacc (orec bs0 3 kN qw qt 12) 3 kN)) ((((3 : Int32) + qk).toInt64 <<< ((32 : Int32) &&& 0x3f).toInt64) ||| ((-(qw % (opow kN)).toInt32).toInt64 &&& (4294967295 : Int64))))).mpr c544_1550)).2) (pc' := 547) rfl ?_
            refine giconst B X1549 at_547 (v := (1 : Int32)) rfl (pc' := 548) rfl ?_
            refine ggoto B X1549 (pc' := 552) at_548 (by decide) ?_
            exact gretN B X1549 (z' := (1 : Int32)) (by simp) (rfl) at_552 (by decide) (by decide) (rfl)
      · refine gicY B X1525 (pc' := 481) at_466 (feq c466_1531).2 (by decide) ?_
        refine gldc2 B X1525 (v := (-1 : Int64)) (hw _ (List.mem_of_getElem? (i := 21) rfl)) at_481 (pc' := 484) rfl ?_
        refine glstore B X1525 at_484 (Ls' := #[.val (.int p0), .val (.long p1), .second, .val (.int p2), .val (.int p3), .val (.int qk), .val (.long qw), .second, .val (.int (1 : Int32)), .val (.int (ofs p0)), .val (.int qle), .val (.int qt), .val (.int (1 : Int32)), .val (.int (0 : Int32)), .val (.int (1 : Int32)), .val (.int (1 : Int32)), .val (.ref a1317), .val (.int (3 : Int32)), .val (.long (-1 : Int64)), .second, .unset, .unset]) rfl (pc' := 486) rfl ?_
        refine ggoto B X1525 (pc' := 534) at_486 (by decide) ?_
        refine gaload B X1525 at_534 rfl rfl (pc' := 536) rfl ?_
        refine giload B X1525 at_536 rfl (pc' := 538) rfl ?_
        refine gcallS B X1525 (hw _ (List.mem_of_getElem? (i := 22) rfl)) (hw _ (List.mem_of_getElem? (i := 23) rfl)) (hw _ (List.mem_of_getElem? (i := 24) rfl)) (hw _ (List.mem_of_getElem? (i := 25) rfl)) (by decide) (mt3B l Z a0 hw a1317 (1 : Int32) (orec bs0 3 kN qw qt 12) h1523 A1529 1 (by decide) (by decide) ((own_len ..).trans hL0) (fun q => c466_1531 (((own_low hL0 (by decide) 1 (by decide)).trans ha0).symm.trans q))) pd___BI_J rfl (argsL := [(.ref a1317), (.int (1 : Int32))]) (st := []) rfl rfl (W := 0) (Nat.le_of_eq rfl) (by decide) (by decide) (by decide) (by decide) (fun x q => nomatch q) at_538 (pc' := 541) rfl (pureG rfl rfl fun T1551 X1552 => ?_)
        refine glload B X1552 at_541 rfl (pc' := 543) rfl ?_
        refine glcmp B X1552 at_543 (pc' := 544) rfl ?_
        have c544_1553 : (-1 : Int64) = (-1 : Int64) := rfl
        refine gifN B X1552 at_544 ((if0 _ _).trans (teq (((lw_eq (-1 : Int64) (-1 : Int64))).mpr c544_1553)).2) (pc' := 547) rfl ?_
        refine giconst B X1552 at_547 (v := (1 : Int32)) rfl (pc' := 548) rfl ?_
        refine ggoto B X1552 (pc' := 552) at_548 (by decide) ?_
        exact gretN B X1552 (z' := (1 : Int32)) (by simp) (rfl) at_552 (by decide) (by decide) (rfl)
    · rw [e_b]
      refine gistore B X1069 at_88 (Ls' := #[.val (.int p0), .val (.long p1), .second, .val (.int p2), .val (.int p3), .val (.int qk), .val (.long qw), .second, .val (.int (1 : Int32)), .val (.int (ofs p0)), .val (.int qle), .val (.int qt), .val (.int (2 : Int32)), .unset, .unset, .unset, .unset, .unset, .unset, .unset, .unset, .unset]) rfl (pc' := 90) rfl ?_
      refine giload B X1069 at_90 rfl (pc' := 92) rfl ?_
      refine giconst B X1069 at_92 (v := (3 : Int32)) rfl (pc' := 93) rfl ?_
      have c93_1554 : ¬ ((2 : Int32) = (3 : Int32)) := (by decide)
      refine gicY B X1069 (pc' := 100) at_93 (feq c93_1554).2 (by decide) ?_
      refine giconst B X1069 at_100 (v := (0 : Int32)) rfl (pc' := 101) rfl ?_
      refine gistore B X1069 at_101 (Ls' := #[.val (.int p0), .val (.long p1), .second, .val (.int p2), .val (.int p3), .val (.int qk), .val (.long qw), .second, .val (.int (1 : Int32)), .val (.int (ofs p0)), .val (.int qle), .val (.int qt), .val (.int (2 : Int32)), .val (.int (0 : Int32)), .unset, .unset, .unset, .unset, .unset, .unset, .unset, .unset]) rfl (pc' := 103) rfl ?_
      refine giload B X1069 at_103 rfl (pc' := 105) rfl ?_
      have c105_1555 : (0 : Int32) = (0 : Int32) := (by decide)
      refine gifY B X1069 (pc' := 112) at_105 ((if0 _ _).trans (teq c105_1555).1) (by decide) ?_
      refine giload B X1069 at_112 rfl (pc' := 114) rfl ?_
      refine gistore B X1069 at_114 (Ls' := #[.val (.int p0), .val (.long p1), .second, .val (.int p2), .val (.int p3), .val (.int qk), .val (.long qw), .second, .val (.int (1 : Int32)), .val (.int (ofs p0)), .val (.int qle), .val (.int qt), .val (.int (2 : Int32)), .val (.int (0 : Int32)), .val (.int (2 : Int32)), .unset, .unset, .unset, .unset, .unset, .unset, .unset]) rfl (pc' := 116) rfl ?_
      refine giload B X1069 at_116 rfl (pc' := 118) rfl ?_
      have c118_1556 : (0 : Int32) = (0 : Int32) := (by decide)
      refine gifY B X1069 (pc' := 128) at_118 ((if0 _ _).trans (teq c118_1556).1) (by decide) ?_
      refine giload B X1069 at_128 rfl (pc' := 130) rfl ?_
      refine gistore B X1069 at_130 (Ls' := #[.val (.int p0), .val (.long p1), .second, .val (.int p2), .val (.int p3), .val (.int qk), .val (.long qw), .second, .val (.int (1 : Int32)), .val (.int (ofs p0)), .val (.int qle), .val (.int qt), .val (.int (2 : Int32)), .val (.int (0 : Int32)), .val (.int (2 : Int32)), .val (.int (2 : Int32)), .unset, .unset, .unset, .unset, .unset, .unset]) rfl (pc' := 132) rfl ?_
      refine gbipush B X1069 at_132 (v := (18 : Int32)) rfl (pc' := 134) rfl ?_
      refine gnewarray B X1069 (cap := 18) (vs := [(.int (0 : Int32)), (.int (0 : Int32)), (.int (0 : Int32)), (.int (0 : Int32)), (.int (0 : Int32)), (.int (0 : Int32)), (.int (0 : Int32)), (.int (0 : Int32)), (.int (0 : Int32)), (.int (0 : Int32)), (.int (0 : Int32)), (.int (0 : Int32)), (.int (0 : Int32)), (.int (0 : Int32)), (.int (0 : Int32)), (.int (0 : Int32)), (.int (0 : Int32)), (.int (0 : Int32))]) (ty := .byte) rfl rfl (hw _ (List.mem_of_getElem? (i := 2) rfl)) (by decide) (by decide) (by decide) (by decide) (by decide) at_134 (pc' := 136) rfl fun T1557 h1558 a1559 X1560 q1561 E1562 z_a1559 A1563 => ?_
      refine gdup B X1560 at_136 rfl (pc' := 137) rfl ?_
      refine giconst B X1560 at_137 (v := (0 : Int32)) rfl (pc' := 138) rfl ?_
      refine gbipush B X1560 at_138 (v := (10 : Int32)) rfl (pc' := 140) rfl ?_
      refine gbastore B X1560 (i := 0) (n := 18) A1563 rfl (by decide) rfl (vs' := [(.int (10 : Int32)), (.int (0 : Int32)), (.int (0 : Int32)), (.int (0 : Int32)), (.int (0 : Int32)), (.int (0 : Int32)), (.int (0 : Int32)), (.int (0 : Int32)), (.int (0 : Int32)), (.int (0 : Int32)), (.int (0 : Int32)), (.int (0 : Int32)), (.int (0 : Int32)), (.int (0 : Int32)), (.int (0 : Int32)), (.int (0 : Int32)), (.int (0 : Int32)), (.int (0 : Int32))]) rfl (Or.inr z_a1559) at_140 (pc' := 141) rfl fun T1564 h1565 X1566 W1567 A1568 => ?_
      refine gdup B X1566 at_141 rfl (pc' := 142) rfl ?_
      refine giconst B X1566 at_142 (v := (1 : Int32)) rfl (pc' := 143) rfl ?_
      refine gbipush B X1566 at_143 (v := (10 : Int32)) rfl (pc' := 145) rfl ?_
      refine gbastore B X1566 (i := 1) (n := 18) A1568 rfl (by decide) rfl (vs' := [(.int (10 : Int32)), (.int (10 : Int32)), (.int (0 : Int32)), (.int (0 : Int32)), (.int (0 : Int32)), (.int (0 : Int32)), (.int (0 : Int32)), (.int (0 : Int32)), (.int (0 : Int32)), (.int (0 : Int32)), (.int (0 : Int32)), (.int (0 : Int32)), (.int (0 : Int32)), (.int (0 : Int32)), (.int (0 : Int32)), (.int (0 : Int32)), (.int (0 : Int32)), (.int (0 : Int32))]) rfl (Or.inr z_a1559) at_145 (pc' := 146) rfl fun T1569 h1570 X1571 W1572 A1573 => ?_
      refine gdup B X1571 at_146 rfl (pc' := 147) rfl ?_
      refine giconst B X1571 at_147 (v := (2 : Int32)) rfl (pc' := 148) rfl ?_
      refine gbipush B X1571 at_148 (v := (10 : Int32)) rfl (pc' := 150) rfl ?_
      refine gbastore B X1571 (i := 2) (n := 18) A1573 rfl (by decide) rfl (vs' := [(.int (10 : Int32)), (.int (10 : Int32)), (.int (10 : Int32)), (.int (0 : Int32)), (.int (0 : Int32)), (.int (0 : Int32)), (.int (0 : Int32)), (.int (0 : Int32)), (.int (0 : Int32)), (.int (0 : Int32)), (.int (0 : Int32)), (.int (0 : Int32)), (.int (0 : Int32)), (.int (0 : Int32)), (.int (0 : Int32)), (.int (0 : Int32)), (.int (0 : Int32)), (.int (0 : Int32))]) rfl (Or.inr z_a1559) at_150 (pc' := 151) rfl fun T1574 h1575 X1576 W1577 A1578 => ?_
      refine gdup B X1576 at_151 rfl (pc' := 152) rfl ?_
      refine giconst B X1576 at_152 (v := (3 : Int32)) rfl (pc' := 153) rfl ?_
      refine gbipush B X1576 at_153 (v := (10 : Int32)) rfl (pc' := 155) rfl ?_
      refine gbastore B X1576 (i := 3) (n := 18) A1578 rfl (by decide) rfl (vs' := [(.int (10 : Int32)), (.int (10 : Int32)), (.int (10 : Int32)), (.int (10 : Int32)), (.int (0 : Int32)), (.int (0 : Int32)), (.int (0 : Int32)), (.int (0 : Int32)), (.int (0 : Int32)), (.int (0 : Int32)), (.int (0 : Int32)), (.int (0 : Int32)), (.int (0 : Int32)), (.int (0 : Int32)), (.int (0 : Int32)), (.int (0 : Int32)), (.int (0 : Int32)), (.int (0 : Int32))]) rfl (Or.inr z_a1559) at_155 (pc' := 156) rfl fun T1579 h1580 X1581 W1582 A1583 => ?_
      refine gdup B X1581 at_156 rfl (pc' := 157) rfl ?_
      refine giconst B X1581 at_157 (v := (4 : Int32)) rfl (pc' := 158) rfl ?_
      refine gbipush B X1581 at_158 (v := (10 : Int32)) rfl (pc' := 160) rfl ?_
      refine gbastore B X1581 (i := 4) (n := 18) A1583 rfl (by decide) rfl (vs' := [(.int (10 : Int32)), (.int (10 : Int32)), (.int (10 : Int32)), (.int (10 : Int32)), (.int (10 : Int32)), (.int (0 : Int32)), (.int (0 : Int32)), (.int (0 : Int32)), (.int (0 : Int32)), (.int (0 : Int32)), (.int (0 : Int32)), (.int (0 : Int32)), (.int (0 : Int32)), (.int (0 : Int32)), (.int (0 : Int32)), (.int (0 : Int32)), (.int (0 : Int32)), (.int (0 : Int32))]) rfl (Or.inr z_a1559) at_160 (pc' := 161) rfl fun T1584 h1585 X1586 W1587 A1588 => ?_
      refine gdup B X1586 at_161 rfl (pc' := 162) rfl ?_
      refine giconst B X1586 at_162 (v := (5 : Int32)) rfl (pc' := 163) rfl ?_
      refine gbipush B X1586 at_163 (v := (10 : Int32)) rfl (pc' := 165) rfl ?_
      refine gbastore B X1586 (i := 5) (n := 18) A1588 rfl (by decide) rfl (vs' := [(.int (10 : Int32)), (.int (10 : Int32)), (.int (10 : Int32)), (.int (10 : Int32)), (.int (10 : Int32)), (.int (10 : Int32)), (.int (0 : Int32)), (.int (0 : Int32)), (.int (0 : Int32)), (.int (0 : Int32)), (.int (0 : Int32)), (.int (0 : Int32)), (.int (0 : Int32)), (.int (0 : Int32)), (.int (0 : Int32)), (.int (0 : Int32)), (.int (0 : Int32)), (.int (0 : Int32))]) rfl (Or.inr z_a1559) at_165 (pc' := 166) rfl fun T1589 h1590 X1591 W1592 A1593 => ?_
      refine gdup B X1591 at_166 rfl (pc' := 167) rfl ?_
      refine gbipush B X1591 at_167 (v := (6 : Int32)) rfl (pc' := 169) rfl ?_
      refine gbipush B X1591 at_169 (v := (10 : Int32)) rfl (pc' := 171) rfl ?_
      refine gbastore B X1591 (i := 6) (n := 18) A1593 rfl (by decide) rfl (vs' := [(.int (10 : Int32)), (.int (10 : Int32)), (.int (10 : Int32)), (.int (10 : Int32)), (.int (10 : Int32)), (.int (10 : Int32)), (.int (10 : Int32)), (.int (0 : Int32)), (.int (0 : Int32)), (.int (0 : Int32)), (.int (0 : Int32)), (.int (0 : Int32)), (.int (0 : Int32)), (.int (0 : Int32)), (.int (0 : Int32)), (.int (0 : Int32)), (.int (0 : Int32)), (.int (0 : Int32))]) rfl (Or.inr z_a1559) at_171 (pc' := 172) rfl fun T1594 h1595 X1596 W1597 A1598 => ?_
      refine gdup B X1596 at_172 rfl (pc' := 173) rfl ?_
      refine gbipush B X1596 at_173 (v := (7 : Int32)) rfl (pc' := 175) rfl ?_
      refine gbipush B X1596 at_175 (v := (10 : Int32)) rfl (pc' := 177) rfl ?_
      refine gbastore B X1596 (i := 7) (n := 18) A1598 rfl (by decide) rfl (vs' := [(.int (10 : Int32)), (.int (10 : Int32)), (.int (10 : Int32)), (.int (10 : Int32)), (.int (10 : Int32)), (.int (10 : Int32)), (.int (10 : Int32)), (.int (10 : Int32)), (.int (0 : Int32)), (.int (0 : Int32)), (.int (0 : Int32)), (.int (0 : Int32)), (.int (0 : Int32)), (.int (0 : Int32)), (.int (0 : Int32)), (.int (0 : Int32)), (.int (0 : Int32)), (.int (0 : Int32))]) rfl (Or.inr z_a1559) at_177 (pc' := 178) rfl fun T1599 h1600 X1601 W1602 A1603 => ?_
      refine gdup B X1601 at_178 rfl (pc' := 179) rfl ?_
      refine gbipush B X1601 at_179 (v := (8 : Int32)) rfl (pc' := 181) rfl ?_
      refine gbipush B X1601 at_181 (v := (10 : Int32)) rfl (pc' := 183) rfl ?_
      refine gbastore B X1601 (i := 8) (n := 18) A1603 rfl (by decide) rfl (vs' := [(.int (10 : Int32)), (.int (10 : Int32)), (.int (10 : Int32)), (.int (10 : Int32)), (.int (10 : Int32)), (.int (10 : Int32)), (.int (10 : Int32)), (.int (10 : Int32)), (.int (10 : Int32)), (.int (0 : Int32)), (.int (0 : Int32)), (.int (0 : Int32)), (.int (0 : Int32)), (.int (0 : Int32)), (.int (0 : Int32)), (.int (0 : Int32)), (.int (0 : Int32)), (.int (0 : Int32))]) rfl (Or.inr z_a1559) at_183 (pc' := 184) rfl fun T1604 h1605 X1606 W1607 A1608 => ?_
      refine gdup B X1606 at_184 rfl (pc' := 185) rfl ?_
      refine gbipush B X1606 at_185 (v := (9 : Int32)) rfl (pc' := 187) rfl ?_
      refine gbipush B X1606 at_187 (v := (10 : Int32)) rfl (pc' := 189) rfl ?_
      refine gbastore B X1606 (i := 9) (n := 18) A1608 rfl (by decide) rfl (vs' := [(.int (10 : Int32)), (.int (10 : Int32)), (.int (10 : Int32)), (.int (10 : Int32)), (.int (10 : Int32)), (.int (10 : Int32)), (.int (10 : Int32)), (.int (10 : Int32)), (.int (10 : Int32)), (.int (10 : Int32)), (.int (0 : Int32)), (.int (0 : Int32)), (.int (0 : Int32)), (.int (0 : Int32)), (.int (0 : Int32)), (.int (0 : Int32)), (.int (0 : Int32)), (.int (0 : Int32))]) rfl (Or.inr z_a1559) at_189 (pc' := 190) rfl fun T1609 h1610 X1611 W1612 A1613 => ?_
      refine gdup B X1611 at_190 rfl (pc' := 191) rfl ?_
      refine gbipush B X1611 at_191 (v := (10 : Int32)) rfl (pc' := 193) rfl ?_
      refine gbipush B X1611 at_193 (v := (10 : Int32)) rfl (pc' := 195) rfl ?_
      refine gbastore B X1611 (i := 10) (n := 18) A1613 rfl (by decide) rfl (vs' := [(.int (10 : Int32)), (.int (10 : Int32)), (.int (10 : Int32)), (.int (10 : Int32)), (.int (10 : Int32)), (.int (10 : Int32)), (.int (10 : Int32)), (.int (10 : Int32)), (.int (10 : Int32)), (.int (10 : Int32)), (.int (10 : Int32)), (.int (0 : Int32)), (.int (0 : Int32)), (.int (0 : Int32)), (.int (0 : Int32)), (.int (0 : Int32)), (.int (0 : Int32)), (.int (0 : Int32))]) rfl (Or.inr z_a1559) at_195 (pc' := 196) rfl fun T1614 h1615 X1616 W1617 A1618 => ?_
      refine gdup B X1616 at_196 rfl (pc' := 197) rfl ?_
      refine gbipush B X1616 at_197 (v := (11 : Int32)) rfl (pc' := 199) rfl ?_
      refine gbipush B X1616 at_199 (v := (10 : Int32)) rfl (pc' := 201) rfl ?_
      refine gbastore B X1616 (i := 11) (n := 18) A1618 rfl (by decide) rfl (vs' := [(.int (10 : Int32)), (.int (10 : Int32)), (.int (10 : Int32)), (.int (10 : Int32)), (.int (10 : Int32)), (.int (10 : Int32)), (.int (10 : Int32)), (.int (10 : Int32)), (.int (10 : Int32)), (.int (10 : Int32)), (.int (10 : Int32)), (.int (10 : Int32)), (.int (0 : Int32)), (.int (0 : Int32)), (.int (0 : Int32)), (.int (0 : Int32)), (.int (0 : Int32)), (.int (0 : Int32))]) rfl (Or.inr z_a1559) at_201 (pc' := 202) rfl fun T1619 h1620 X1621 W1622 A1623 => ?_
      refine gdup B X1621 at_202 rfl (pc' := 203) rfl ?_
      refine gbipush B X1621 at_203 (v := (12 : Int32)) rfl (pc' := 205) rfl ?_
      refine gbipush B X1621 at_205 (v := (10 : Int32)) rfl (pc' := 207) rfl ?_
      refine gbastore B X1621 (i := 12) (n := 18) A1623 rfl (by decide) rfl (vs' := [(.int (10 : Int32)), (.int (10 : Int32)), (.int (10 : Int32)), (.int (10 : Int32)), (.int (10 : Int32)), (.int (10 : Int32)), (.int (10 : Int32)), (.int (10 : Int32)), (.int (10 : Int32)), (.int (10 : Int32)), (.int (10 : Int32)), (.int (10 : Int32)), (.int (10 : Int32)), (.int (0 : Int32)), (.int (0 : Int32)), (.int (0 : Int32)), (.int (0 : Int32)), (.int (0 : Int32))]) rfl (Or.inr z_a1559) at_207 (pc' := 208) rfl fun T1624 h1625 X1626 W1627 A1628 => ?_
      refine gdup B X1626 at_208 rfl (pc' := 209) rfl ?_
      refine gbipush B X1626 at_209 (v := (13 : Int32)) rfl (pc' := 211) rfl ?_
      refine gbipush B X1626 at_211 (v := (10 : Int32)) rfl (pc' := 213) rfl ?_
      refine gbastore B X1626 (i := 13) (n := 18) A1628 rfl (by decide) rfl (vs' := [(.int (10 : Int32)), (.int (10 : Int32)), (.int (10 : Int32)), (.int (10 : Int32)), (.int (10 : Int32)), (.int (10 : Int32)), (.int (10 : Int32)), (.int (10 : Int32)), (.int (10 : Int32)), (.int (10 : Int32)), (.int (10 : Int32)), (.int (10 : Int32)), (.int (10 : Int32)), (.int (10 : Int32)), (.int (0 : Int32)), (.int (0 : Int32)), (.int (0 : Int32)), (.int (0 : Int32))]) rfl (Or.inr z_a1559) at_213 (pc' := 214) rfl fun T1629 h1630 X1631 W1632 A1633 => ?_
      refine gdup B X1631 at_214 rfl (pc' := 215) rfl ?_
      refine gbipush B X1631 at_215 (v := (14 : Int32)) rfl (pc' := 217) rfl ?_
      refine gbipush B X1631 at_217 (v := (10 : Int32)) rfl (pc' := 219) rfl ?_
      refine gbastore B X1631 (i := 14) (n := 18) A1633 rfl (by decide) rfl (vs' := [(.int (10 : Int32)), (.int (10 : Int32)), (.int (10 : Int32)), (.int (10 : Int32)), (.int (10 : Int32)), (.int (10 : Int32)), (.int (10 : Int32)), (.int (10 : Int32)), (.int (10 : Int32)), (.int (10 : Int32)), (.int (10 : Int32)), (.int (10 : Int32)), (.int (10 : Int32)), (.int (10 : Int32)), (.int (10 : Int32)), (.int (0 : Int32)), (.int (0 : Int32)), (.int (0 : Int32))]) rfl (Or.inr z_a1559) at_219 (pc' := 220) rfl fun T1634 h1635 X1636 W1637 A1638 => ?_
      refine gdup B X1636 at_220 rfl (pc' := 221) rfl ?_
      refine gbipush B X1636 at_221 (v := (15 : Int32)) rfl (pc' := 223) rfl ?_
      refine gbipush B X1636 at_223 (v := (10 : Int32)) rfl (pc' := 225) rfl ?_
      refine gbastore B X1636 (i := 15) (n := 18) A1638 rfl (by decide) rfl (vs' := [(.int (10 : Int32)), (.int (10 : Int32)), (.int (10 : Int32)), (.int (10 : Int32)), (.int (10 : Int32)), (.int (10 : Int32)), (.int (10 : Int32)), (.int (10 : Int32)), (.int (10 : Int32)), (.int (10 : Int32)), (.int (10 : Int32)), (.int (10 : Int32)), (.int (10 : Int32)), (.int (10 : Int32)), (.int (10 : Int32)), (.int (10 : Int32)), (.int (0 : Int32)), (.int (0 : Int32))]) rfl (Or.inr z_a1559) at_225 (pc' := 226) rfl fun T1639 h1640 X1641 W1642 A1643 => ?_
      refine gdup B X1641 at_226 rfl (pc' := 227) rfl ?_
      refine gbipush B X1641 at_227 (v := (16 : Int32)) rfl (pc' := 229) rfl ?_
      refine gbipush B X1641 at_229 (v := (10 : Int32)) rfl (pc' := 231) rfl ?_
      refine gbastore B X1641 (i := 16) (n := 18) A1643 rfl (by decide) rfl (vs' := [(.int (10 : Int32)), (.int (10 : Int32)), (.int (10 : Int32)), (.int (10 : Int32)), (.int (10 : Int32)), (.int (10 : Int32)), (.int (10 : Int32)), (.int (10 : Int32)), (.int (10 : Int32)), (.int (10 : Int32)), (.int (10 : Int32)), (.int (10 : Int32)), (.int (10 : Int32)), (.int (10 : Int32)), (.int (10 : Int32)), (.int (10 : Int32)), (.int (10 : Int32)), (.int (0 : Int32))]) rfl (Or.inr z_a1559) at_231 (pc' := 232) rfl fun T1644 h1645 X1646 W1647 A1648 => ?_
      refine gdup B X1646 at_232 rfl (pc' := 233) rfl ?_
      refine gbipush B X1646 at_233 (v := (17 : Int32)) rfl (pc' := 235) rfl ?_
      refine gbipush B X1646 at_235 (v := (10 : Int32)) rfl (pc' := 237) rfl ?_
      refine gbastore B X1646 (i := 17) (n := 18) A1648 rfl (by decide) rfl (vs' := [(.int (10 : Int32)), (.int (10 : Int32)), (.int (10 : Int32)), (.int (10 : Int32)), (.int (10 : Int32)), (.int (10 : Int32)), (.int (10 : Int32)), (.int (10 : Int32)), (.int (10 : Int32)), (.int (10 : Int32)), (.int (10 : Int32)), (.int (10 : Int32)), (.int (10 : Int32)), (.int (10 : Int32)), (.int (10 : Int32)), (.int (10 : Int32)), (.int (10 : Int32)), (.int (10 : Int32))]) rfl (Or.inr z_a1559) at_237 (pc' := 238) rfl fun T1649 h1650 X1651 W1652 A1653 => ?_
      refine gastore B X1651 at_238 rfl (Ls' := #[.val (.int p0), .val (.long p1), .second, .val (.int p2), .val (.int p3), .val (.int qk), .val (.long qw), .second, .val (.int (1 : Int32)), .val (.int (ofs p0)), .val (.int qle), .val (.int qt), .val (.int (2 : Int32)), .val (.int (0 : Int32)), .val (.int (2 : Int32)), .val (.int (2 : Int32)), .val (.ref a1559), .unset, .unset, .unset, .unset, .unset]) rfl (pc' := 240) rfl ?_
      refine gaload B X1651 at_240 rfl rfl (pc' := 242) rfl ?_
      refine giconst B X1651 at_242 (v := (0 : Int32)) rfl (pc' := 243) rfl ?_
      refine gbipush B X1651 at_243 (v := (57 : Int32)) rfl (pc' := 245) rfl ?_
      refine gbastore B X1651 (i := 0) (n := 18) A1653 rfl (by decide) rfl (vs' := [(.int (57 : Int32)), (.int (10 : Int32)), (.int (10 : Int32)), (.int (10 : Int32)), (.int (10 : Int32)), (.int (10 : Int32)), (.int (10 : Int32)), (.int (10 : Int32)), (.int (10 : Int32)), (.int (10 : Int32)), (.int (10 : Int32)), (.int (10 : Int32)), (.int (10 : Int32)), (.int (10 : Int32)), (.int (10 : Int32)), (.int (10 : Int32)), (.int (10 : Int32)), (.int (10 : Int32))]) rfl (Or.inr z_a1559) at_245 (pc' := 246) rfl fun T1654 h1655 X1656 W1657 A1658 => ?_
      refine gaload B X1656 at_246 rfl rfl (pc' := 248) rfl ?_
      refine giconst B X1656 at_248 (v := (1 : Int32)) rfl (pc' := 249) rfl ?_
      refine gbipush B X1656 at_249 (v := (57 : Int32)) rfl (pc' := 251) rfl ?_
      refine gbastore B X1656 (i := 1) (n := 18) A1658 rfl (by decide) rfl (vs' := [(.int (57 : Int32)), (.int (57 : Int32)), (.int (10 : Int32)), (.int (10 : Int32)), (.int (10 : Int32)), (.int (10 : Int32)), (.int (10 : Int32)), (.int (10 : Int32)), (.int (10 : Int32)), (.int (10 : Int32)), (.int (10 : Int32)), (.int (10 : Int32)), (.int (10 : Int32)), (.int (10 : Int32)), (.int (10 : Int32)), (.int (10 : Int32)), (.int (10 : Int32)), (.int (10 : Int32))]) rfl (Or.inr z_a1559) at_251 (pc' := 252) rfl fun T1659 h1660 X1661 W1662 A1663 => ?_
      refine gaload B X1661 at_252 rfl rfl (pc' := 254) rfl ?_
      refine giload B X1661 at_254 rfl (pc' := 256) rfl ?_
      refine giload B X1661 at_256 rfl (pc' := 258) rfl ?_
      refine gbastore B X1661 (i := 2) A1663 (n := 18) rfl (by decide) rfl (vs' := (([57, 57, qle, 10, 10, 10, 10, 10, 10, 10, 10, 10, 10, 10, 10, 10, 10, 10] : List Int32).map Value.int)) (by rw [hle]; rfl) (Or.inr z_a1559) at_258 (pc' := 259) rfl fun T1664 h1665 X1666 W1667 A1668 => ?_
      refine giload B X1666 at_259 rfl (pc' := 261) rfl ?_
      refine giconst B X1666 at_261 (v := (1 : Int32)) rfl (pc' := 262) rfl ?_
      refine giadd B X1666 at_262 (v := (3 : Int32)) (by decide) (pc' := 263) rfl ?_
      refine gistore B X1666 at_263 (Ls' := #[.val (.int p0), .val (.long p1), .second, .val (.int p2), .val (.int p3), .val (.int qk), .val (.long qw), .second, .val (.int (1 : Int32)), .val (.int (ofs p0)), .val (.int qle), .val (.int qt), .val (.int (2 : Int32)), .val (.int (0 : Int32)), .val (.int (2 : Int32)), .val (.int (2 : Int32)), .val (.ref a1559), .val (.int (3 : Int32)), .unset, .unset, .unset, .unset]) rfl (pc' := 265) rfl ?_
      refine giload B X1666 at_265 rfl (pc' := 267) rfl ?_
      have c267_1669 : ¬ ((1 : Int32) = (0 : Int32)) := (by decide)
      refine gifN B X1666 at_267 ((if0 _ _).trans (feq c267_1669).1) (pc' := 270) rfl ?_
      refine gaload B X1666 at_270 rfl rfl (pc' := 272) rfl ?_
      refine giload B X1666 at_272 rfl (pc' := 274) rfl ?_
      refine gbipush B X1666 at_274 (v := (45 : Int32)) rfl (pc' := 276) rfl ?_
      refine gbastore B X1666 (i := 3) A1668 (n := 18) rfl (by decide) rfl (vs' := (([57, 57, qle, 45, 10, 10, 10, 10, 10, 10, 10, 10, 10, 10, 10, 10, 10, 10] : List Int32).map Value.int)) (rfl) (Or.inr z_a1559) at_276 (pc' := 277) rfl fun T1670 h1671 X1672 W1673 A1674 => ?_
      refine giload B X1672 at_277 rfl (pc' := 279) rfl ?_
      refine giconst B X1672 at_279 (v := (1 : Int32)) rfl (pc' := 280) rfl ?_
      refine giadd B X1672 at_280 (v := (4 : Int32)) (by decide) (pc' := 281) rfl ?_
      refine gistore B X1672 at_281 (Ls' := #[.val (.int p0), .val (.long p1), .second, .val (.int p2), .val (.int p3), .val (.int qk), .val (.long qw), .second, .val (.int (1 : Int32)), .val (.int (ofs p0)), .val (.int qle), .val (.int qt), .val (.int (2 : Int32)), .val (.int (0 : Int32)), .val (.int (2 : Int32)), .val (.int (2 : Int32)), .val (.ref a1559), .val (.int (4 : Int32)), .unset, .unset, .unset, .unset]) rfl (pc' := 283) rfl ?_
      have hL0 : ([57, 57, qle, 45, 10, 10, 10, 10, 10, 10, 10, 10, 10, 10, 10, 10, 10, 10] : List Int32).length = 18 := rfl
      have ha0 : ([57, 57, qle, 45, 10, 10, 10, 10, 10, 10, 10, 10, 10, 10, 10, 10, 10, 10] : List Int32).getD 2 0 = qle := rfl
      have hb0 : ([57, 57, qle, 45, 10, 10, 10, 10, 10, 10, 10, 10, 10, 10, 10, 10, 10, 10] : List Int32).getD 3 0 = 45 := rfl
      generalize ([57, 57, qle, 45, 10, 10, 10, 10, 10, 10, 10, 10, 10, 10, 10, 10, 10, 10] : List Int32) = bs0 at hL0 ha0 hb0 A1674
      have A1675 : VA Z h1671 a1559 .byte ((orec bs0 4 kN qw qt 0).map Value.int) := A1674
      refine gaload B X1672 at_283 rfl rfl (pc' := 285) rfl ?_
      refine giload B X1672 at_285 rfl (pc' := 287) rfl ?_
      refine giconst B X1672 at_287 (v := (0 : Int32)) rfl (pc' := 288) rfl ?_
      refine giload B X1672 at_288 rfl (pc' := 290) rfl ?_
      refine glload B X1672 at_290 rfl (pc' := 292) rfl ?_
      refine giload B X1672 at_292 rfl (pc' := 294) rfl ?_
      refine gcallS B X1672 (hw _ (List.mem_of_getElem? (i := 3) rfl)) (hw _ (List.mem_of_getElem? (i := 4) rfl)) (hw _ (List.mem_of_getElem? (i := 5) rfl)) (hw _ (List.mem_of_getElem? (i := 6) rfl)) (by decide) (mt1 l Z a0 hw a1559 (4 : Int32) (0 : Int32) qk qw qt (orec bs0 4 kN qw qt 0) 4 0 kN h1671 A1675 ((own_len ..).trans hL0) (by decide) (by decide) (by decide) (by decide) hk hk11 ht8) pd___BIIIJB_V rfl (argsL := [(.ref a1559), (.int (4 : Int32)), (.int (0 : Int32)), (.int qk), (.long qw), (.int qt)]) (st := []) rfl rfl (W := 0) (Nat.le_of_eq rfl) (by decide) (by decide) (by decide) (by decide) (allS (Or.inr z_a1559) all0) at_294 (pc' := 297) rfl fun T1676 h1677 v1678 X1679 K1680 Q1681 => ?_
      obtain ⟨rfl, A1682⟩ := Q1681
      have A1683 : VA Z h1677 a1559 .byte ((orec bs0 4 kN qw qt 1).map Value.int) := A1682
      show Go p e below _ _ _ _ T1676 (mkF m 297 #[.val (.int p0), .val (.long p1), .second, .val (.int p2), .val (.int p3), .val (.int qk), .val (.long qw), .second, .val (.int (1 : Int32)), .val (.int (ofs p0)), .val (.int qle), .val (.int qt), .val (.int (2 : Int32)), .val (.int (0 : Int32)), .val (.int (2 : Int32)), .val (.int (2 : Int32)), .val (.ref a1559), .val (.int (4 : Int32)), .unset, .unset, .unset, .unset] [])
      refine gaload B X1679 at_297 rfl rfl (pc' := 299) rfl ?_
      refine giload B X1679 at_299 rfl (pc' := 301) rfl ?_
      refine giconst B X1679 at_301 (v := (1 : Int32)) rfl (pc' := 302) rfl ?_
      refine giload B X1679 at_302 rfl (pc' := 304) rfl ?_
      refine glload B X1679 at_304 rfl (pc' := 306) rfl ?_
      refine giload B X1679 at_306 rfl (pc' := 308) rfl ?_
      refine gcallS B X1679 (hw _ (List.mem_of_getElem? (i := 3) rfl)) (hw _ (List.mem_of_getElem? (i := 4) rfl)) (hw _ (List.mem_of_getElem? (i := 5) rfl)) (hw _ (List.mem_of_getElem? (i := 6) rfl)) (by decide) (mt1 l Z a0 hw a1559 (4 : Int32) (1 : Int32) qk qw qt (orec bs0 4 kN qw qt 1) 4 1 kN h1677 A1683 ((own_len ..).trans hL0) (by decide) (by decide) (by decide) (by decide) hk hk11 ht8) pd___BIIIJB_V rfl (argsL := [(.ref a1559), (.int (4 : Int32)), (.int (1 : Int32)), (.int qk), (.long qw), (.int qt)]) (st := []) rfl rfl (W := 0) (Nat.le_of_eq rfl) (by decide) (by decide) (by decide) (by decide) (allS (Or.inr z_a1559) all0) at_308 (pc' := 311) rfl fun T1684 h1685 v1686 X1687 K1688 Q1689 => ?_
      obtain ⟨rfl, A1690⟩ := Q1689
      have A1691 : VA Z h1685 a1559 .byte ((orec bs0 4 kN qw qt 2).map Value.int) := A1690
      show Go p e below _ _ _ _ T1684 (mkF m 311 #[.val (.int p0), .val (.long p1), .second, .val (.int p2), .val (.int p3), .val (.int qk), .val (.long qw), .second, .val (.int (1 : Int32)), .val (.int (ofs p0)), .val (.int qle), .val (.int qt), .val (.int (2 : Int32)), .val (.int (0 : Int32)), .val (.int (2 : Int32)), .val (.int (2 : Int32)), .val (.ref a1559), .val (.int (4 : Int32)), .unset, .unset, .unset, .unset] [])
      refine gaload B X1687 at_311 rfl rfl (pc' := 313) rfl ?_
      refine giload B X1687 at_313 rfl (pc' := 315) rfl ?_
      refine giconst B X1687 at_315 (v := (2 : Int32)) rfl (pc' := 316) rfl ?_
      refine giload B X1687 at_316 rfl (pc' := 318) rfl ?_
      refine glload B X1687 at_318 rfl (pc' := 320) rfl ?_
      refine giload B X1687 at_320 rfl (pc' := 322) rfl ?_
      refine gcallS B X1687 (hw _ (List.mem_of_getElem? (i := 3) rfl)) (hw _ (List.mem_of_getElem? (i := 4) rfl)) (hw _ (List.mem_of_getElem? (i := 5) rfl)) (hw _ (List.mem_of_getElem? (i := 6) rfl)) (by decide) (mt1 l Z a0 hw a1559 (4 : Int32) (2 : Int32) qk qw qt (orec bs0 4 kN qw qt 2) 4 2 kN h1685 A1691 ((own_len ..).trans hL0) (by decide) (by decide) (by decide) (by decide) hk hk11 ht8) pd___BIIIJB_V rfl (argsL := [(.ref a1559), (.int (4 : Int32)), (.int (2 : Int32)), (.int qk), (.long qw), (.int qt)]) (st := []) rfl rfl (W := 0) (Nat.le_of_eq rfl) (by decide) (by decide) (by decide) (by decide) (allS (Or.inr z_a1559) all0) at_322 (pc' := 325) rfl fun T1692 h1693 v1694 X1695 K1696 Q1697 => ?_
      obtain ⟨rfl, A1698⟩ := Q1697
      have A1699 : VA Z h1693 a1559 .byte ((orec bs0 4 kN qw qt 3).map Value.int) := A1698
      show Go p e below _ _ _ _ T1692 (mkF m 325 #[.val (.int p0), .val (.long p1), .second, .val (.int p2), .val (.int p3), .val (.int qk), .val (.long qw), .second, .val (.int (1 : Int32)), .val (.int (ofs p0)), .val (.int qle), .val (.int qt), .val (.int (2 : Int32)), .val (.int (0 : Int32)), .val (.int (2 : Int32)), .val (.int (2 : Int32)), .val (.ref a1559), .val (.int (4 : Int32)), .unset, .unset, .unset, .unset] [])
      refine gaload B X1695 at_325 rfl rfl (pc' := 327) rfl ?_
      refine giload B X1695 at_327 rfl (pc' := 329) rfl ?_
      refine giconst B X1695 at_329 (v := (3 : Int32)) rfl (pc' := 330) rfl ?_
      refine giload B X1695 at_330 rfl (pc' := 332) rfl ?_
      refine glload B X1695 at_332 rfl (pc' := 334) rfl ?_
      refine giload B X1695 at_334 rfl (pc' := 336) rfl ?_
      refine gcallS B X1695 (hw _ (List.mem_of_getElem? (i := 3) rfl)) (hw _ (List.mem_of_getElem? (i := 4) rfl)) (hw _ (List.mem_of_getElem? (i := 5) rfl)) (hw _ (List.mem_of_getElem? (i := 6) rfl)) (by decide) (mt1 l Z a0 hw a1559 (4 : Int32) (3 : Int32) qk qw qt (orec bs0 4 kN qw qt 3) 4 3 kN h1693 A1699 ((own_len ..).trans hL0) (by decide) (by decide) (by decide) (by decide) hk hk11 ht8) pd___BIIIJB_V rfl (argsL := [(.ref a1559), (.int (4 : Int32)), (.int (3 : Int32)), (.int qk), (.long qw), (.int qt)]) (st := []) rfl rfl (W := 0) (Nat.le_of_eq rfl) (by decide) (by decide) (by decide) (by decide) (allS (Or.inr z_a1559) all0) at_336 (pc' := 339) rfl fun T1700 h1701 v1702 X1703 K1704 Q1705 => ?_
      obtain ⟨rfl, A1706⟩ := Q1705
      have A1707 : VA Z h1701 a1559 .byte ((orec bs0 4 kN qw qt 4).map Value.int) := A1706
      show Go p e below _ _ _ _ T1700 (mkF m 339 #[.val (.int p0), .val (.long p1), .second, .val (.int p2), .val (.int p3), .val (.int qk), .val (.long qw), .second, .val (.int (1 : Int32)), .val (.int (ofs p0)), .val (.int qle), .val (.int qt), .val (.int (2 : Int32)), .val (.int (0 : Int32)), .val (.int (2 : Int32)), .val (.int (2 : Int32)), .val (.ref a1559), .val (.int (4 : Int32)), .unset, .unset, .unset, .unset] [])
      refine gaload B X1703 at_339 rfl rfl (pc' := 341) rfl ?_
      refine giload B X1703 at_341 rfl (pc' := 343) rfl ?_
      refine giconst B X1703 at_343 (v := (4 : Int32)) rfl (pc' := 344) rfl ?_
      refine giload B X1703 at_344 rfl (pc' := 346) rfl ?_
      refine glload B X1703 at_346 rfl (pc' := 348) rfl ?_
      refine giload B X1703 at_348 rfl (pc' := 350) rfl ?_
      refine gcallS B X1703 (hw _ (List.mem_of_getElem? (i := 3) rfl)) (hw _ (List.mem_of_getElem? (i := 4) rfl)) (hw _ (List.mem_of_getElem? (i := 5) rfl)) (hw _ (List.mem_of_getElem? (i := 6) rfl)) (by decide) (mt1 l Z a0 hw a1559 (4 : Int32) (4 : Int32) qk qw qt (orec bs0 4 kN qw qt 4) 4 4 kN h1701 A1707 ((own_len ..).trans hL0) (by decide) (by decide) (by decide) (by decide) hk hk11 ht8) pd___BIIIJB_V rfl (argsL := [(.ref a1559), (.int (4 : Int32)), (.int (4 : Int32)), (.int qk), (.long qw), (.int qt)]) (st := []) rfl rfl (W := 0) (Nat.le_of_eq rfl) (by decide) (by decide) (by decide) (by decide) (allS (Or.inr z_a1559) all0) at_350 (pc' := 353) rfl fun T1708 h1709 v1710 X1711 K1712 Q1713 => ?_
      obtain ⟨rfl, A1714⟩ := Q1713
      have A1715 : VA Z h1709 a1559 .byte ((orec bs0 4 kN qw qt 5).map Value.int) := A1714
      show Go p e below _ _ _ _ T1708 (mkF m 353 #[.val (.int p0), .val (.long p1), .second, .val (.int p2), .val (.int p3), .val (.int qk), .val (.long qw), .second, .val (.int (1 : Int32)), .val (.int (ofs p0)), .val (.int qle), .val (.int qt), .val (.int (2 : Int32)), .val (.int (0 : Int32)), .val (.int (2 : Int32)), .val (.int (2 : Int32)), .val (.ref a1559), .val (.int (4 : Int32)), .unset, .unset, .unset, .unset] [])
      refine gaload B X1711 at_353 rfl rfl (pc' := 355) rfl ?_
      refine giload B X1711 at_355 rfl (pc' := 357) rfl ?_
      refine giconst B X1711 at_357 (v := (5 : Int32)) rfl (pc' := 358) rfl ?_
      refine giload B X1711 at_358 rfl (pc' := 360) rfl ?_
      refine glload B X1711 at_360 rfl (pc' := 362) rfl ?_
      refine giload B X1711 at_362 rfl (pc' := 364) rfl ?_
      refine gcallS B X1711 (hw _ (List.mem_of_getElem? (i := 3) rfl)) (hw _ (List.mem_of_getElem? (i := 4) rfl)) (hw _ (List.mem_of_getElem? (i := 5) rfl)) (hw _ (List.mem_of_getElem? (i := 6) rfl)) (by decide) (mt1 l Z a0 hw a1559 (4 : Int32) (5 : Int32) qk qw qt (orec bs0 4 kN qw qt 5) 4 5 kN h1709 A1715 ((own_len ..).trans hL0) (by decide) (by decide) (by decide) (by decide) hk hk11 ht8) pd___BIIIJB_V rfl (argsL := [(.ref a1559), (.int (4 : Int32)), (.int (5 : Int32)), (.int qk), (.long qw), (.int qt)]) (st := []) rfl rfl (W := 0) (Nat.le_of_eq rfl) (by decide) (by decide) (by decide) (by decide) (allS (Or.inr z_a1559) all0) at_364 (pc' := 367) rfl fun T1716 h1717 v1718 X1719 K1720 Q1721 => ?_
      obtain ⟨rfl, A1722⟩ := Q1721
      have A1723 : VA Z h1717 a1559 .byte ((orec bs0 4 kN qw qt 6).map Value.int) := A1722
      show Go p e below _ _ _ _ T1716 (mkF m 367 #[.val (.int p0), .val (.long p1), .second, .val (.int p2), .val (.int p3), .val (.int qk), .val (.long qw), .second, .val (.int (1 : Int32)), .val (.int (ofs p0)), .val (.int qle), .val (.int qt), .val (.int (2 : Int32)), .val (.int (0 : Int32)), .val (.int (2 : Int32)), .val (.int (2 : Int32)), .val (.ref a1559), .val (.int (4 : Int32)), .unset, .unset, .unset, .unset] [])
      refine gaload B X1719 at_367 rfl rfl (pc' := 369) rfl ?_
      refine giload B X1719 at_369 rfl (pc' := 371) rfl ?_
      refine gbipush B X1719 at_371 (v := (6 : Int32)) rfl (pc' := 373) rfl ?_
      refine giload B X1719 at_373 rfl (pc' := 375) rfl ?_
      refine glload B X1719 at_375 rfl (pc' := 377) rfl ?_
      refine giload B X1719 at_377 rfl (pc' := 379) rfl ?_
      refine gcallS B X1719 (hw _ (List.mem_of_getElem? (i := 3) rfl)) (hw _ (List.mem_of_getElem? (i := 4) rfl)) (hw _ (List.mem_of_getElem? (i := 5) rfl)) (hw _ (List.mem_of_getElem? (i := 6) rfl)) (by decide) (mt1 l Z a0 hw a1559 (4 : Int32) (6 : Int32) qk qw qt (orec bs0 4 kN qw qt 6) 4 6 kN h1717 A1723 ((own_len ..).trans hL0) (by decide) (by decide) (by decide) (by decide) hk hk11 ht8) pd___BIIIJB_V rfl (argsL := [(.ref a1559), (.int (4 : Int32)), (.int (6 : Int32)), (.int qk), (.long qw), (.int qt)]) (st := []) rfl rfl (W := 0) (Nat.le_of_eq rfl) (by decide) (by decide) (by decide) (by decide) (allS (Or.inr z_a1559) all0) at_379 (pc' := 382) rfl fun T1724 h1725 v1726 X1727 K1728 Q1729 => ?_
      obtain ⟨rfl, A1730⟩ := Q1729
      have A1731 : VA Z h1725 a1559 .byte ((orec bs0 4 kN qw qt 7).map Value.int) := A1730
      show Go p e below _ _ _ _ T1724 (mkF m 382 #[.val (.int p0), .val (.long p1), .second, .val (.int p2), .val (.int p3), .val (.int qk), .val (.long qw), .second, .val (.int (1 : Int32)), .val (.int (ofs p0)), .val (.int qle), .val (.int qt), .val (.int (2 : Int32)), .val (.int (0 : Int32)), .val (.int (2 : Int32)), .val (.int (2 : Int32)), .val (.ref a1559), .val (.int (4 : Int32)), .unset, .unset, .unset, .unset] [])
      refine gaload B X1727 at_382 rfl rfl (pc' := 384) rfl ?_
      refine giload B X1727 at_384 rfl (pc' := 386) rfl ?_
      refine gbipush B X1727 at_386 (v := (7 : Int32)) rfl (pc' := 388) rfl ?_
      refine giload B X1727 at_388 rfl (pc' := 390) rfl ?_
      refine glload B X1727 at_390 rfl (pc' := 392) rfl ?_
      refine giload B X1727 at_392 rfl (pc' := 394) rfl ?_
      refine gcallS B X1727 (hw _ (List.mem_of_getElem? (i := 3) rfl)) (hw _ (List.mem_of_getElem? (i := 4) rfl)) (hw _ (List.mem_of_getElem? (i := 5) rfl)) (hw _ (List.mem_of_getElem? (i := 6) rfl)) (by decide) (mt1 l Z a0 hw a1559 (4 : Int32) (7 : Int32) qk qw qt (orec bs0 4 kN qw qt 7) 4 7 kN h1725 A1731 ((own_len ..).trans hL0) (by decide) (by decide) (by decide) (by decide) hk hk11 ht8) pd___BIIIJB_V rfl (argsL := [(.ref a1559), (.int (4 : Int32)), (.int (7 : Int32)), (.int qk), (.long qw), (.int qt)]) (st := []) rfl rfl (W := 0) (Nat.le_of_eq rfl) (by decide) (by decide) (by decide) (by decide) (allS (Or.inr z_a1559) all0) at_394 (pc' := 397) rfl fun T1732 h1733 v1734 X1735 K1736 Q1737 => ?_
      obtain ⟨rfl, A1738⟩ := Q1737
      have A1739 : VA Z h1733 a1559 .byte ((orec bs0 4 kN qw qt 8).map Value.int) := A1738
      show Go p e below _ _ _ _ T1732 (mkF m 397 #[.val (.int p0), .val (.long p1), .second, .val (.int p2), .val (.int p3), .val (.int qk), .val (.long qw), .second, .val (.int (1 : Int32)), .val (.int (ofs p0)), .val (.int qle), .val (.int qt), .val (.int (2 : Int32)), .val (.int (0 : Int32)), .val (.int (2 : Int32)), .val (.int (2 : Int32)), .val (.ref a1559), .val (.int (4 : Int32)), .unset, .unset, .unset, .unset] [])
      refine gaload B X1735 at_397 rfl rfl (pc' := 399) rfl ?_
      refine giload B X1735 at_399 rfl (pc' := 401) rfl ?_
      refine gbipush B X1735 at_401 (v := (8 : Int32)) rfl (pc' := 403) rfl ?_
      refine giload B X1735 at_403 rfl (pc' := 405) rfl ?_
      refine glload B X1735 at_405 rfl (pc' := 407) rfl ?_
      refine giload B X1735 at_407 rfl (pc' := 409) rfl ?_
      refine gcallS B X1735 (hw _ (List.mem_of_getElem? (i := 3) rfl)) (hw _ (List.mem_of_getElem? (i := 4) rfl)) (hw _ (List.mem_of_getElem? (i := 5) rfl)) (hw _ (List.mem_of_getElem? (i := 6) rfl)) (by decide) (mt1 l Z a0 hw a1559 (4 : Int32) (8 : Int32) qk qw qt (orec bs0 4 kN qw qt 8) 4 8 kN h1733 A1739 ((own_len ..).trans hL0) (by decide) (by decide) (by decide) (by decide) hk hk11 ht8) pd___BIIIJB_V rfl (argsL := [(.ref a1559), (.int (4 : Int32)), (.int (8 : Int32)), (.int qk), (.long qw), (.int qt)]) (st := []) rfl rfl (W := 0) (Nat.le_of_eq rfl) (by decide) (by decide) (by decide) (by decide) (allS (Or.inr z_a1559) all0) at_409 (pc' := 412) rfl fun T1740 h1741 v1742 X1743 K1744 Q1745 => ?_
      obtain ⟨rfl, A1746⟩ := Q1745
      have A1747 : VA Z h1741 a1559 .byte ((orec bs0 4 kN qw qt 9).map Value.int) := A1746
      show Go p e below _ _ _ _ T1740 (mkF m 412 #[.val (.int p0), .val (.long p1), .second, .val (.int p2), .val (.int p3), .val (.int qk), .val (.long qw), .second, .val (.int (1 : Int32)), .val (.int (ofs p0)), .val (.int qle), .val (.int qt), .val (.int (2 : Int32)), .val (.int (0 : Int32)), .val (.int (2 : Int32)), .val (.int (2 : Int32)), .val (.ref a1559), .val (.int (4 : Int32)), .unset, .unset, .unset, .unset] [])
      refine gaload B X1743 at_412 rfl rfl (pc' := 414) rfl ?_
      refine giload B X1743 at_414 rfl (pc' := 416) rfl ?_
      refine gbipush B X1743 at_416 (v := (9 : Int32)) rfl (pc' := 418) rfl ?_
      refine giload B X1743 at_418 rfl (pc' := 420) rfl ?_
      refine glload B X1743 at_420 rfl (pc' := 422) rfl ?_
      refine giload B X1743 at_422 rfl (pc' := 424) rfl ?_
      refine gcallS B X1743 (hw _ (List.mem_of_getElem? (i := 3) rfl)) (hw _ (List.mem_of_getElem? (i := 4) rfl)) (hw _ (List.mem_of_getElem? (i := 5) rfl)) (hw _ (List.mem_of_getElem? (i := 6) rfl)) (by decide) (mt1 l Z a0 hw a1559 (4 : Int32) (9 : Int32) qk qw qt (orec bs0 4 kN qw qt 9) 4 9 kN h1741 A1747 ((own_len ..).trans hL0) (by decide) (by decide) (by decide) (by decide) hk hk11 ht8) pd___BIIIJB_V rfl (argsL := [(.ref a1559), (.int (4 : Int32)), (.int (9 : Int32)), (.int qk), (.long qw), (.int qt)]) (st := []) rfl rfl (W := 0) (Nat.le_of_eq rfl) (by decide) (by decide) (by decide) (by decide) (allS (Or.inr z_a1559) all0) at_424 (pc' := 427) rfl fun T1748 h1749 v1750 X1751 K1752 Q1753 => ?_
      obtain ⟨rfl, A1754⟩ := Q1753
      have A1755 : VA Z h1749 a1559 .byte ((orec bs0 4 kN qw qt 10).map Value.int) := A1754
      show Go p e below _ _ _ _ T1748 (mkF m 427 #[.val (.int p0), .val (.long p1), .second, .val (.int p2), .val (.int p3), .val (.int qk), .val (.long qw), .second, .val (.int (1 : Int32)), .val (.int (ofs p0)), .val (.int qle), .val (.int qt), .val (.int (2 : Int32)), .val (.int (0 : Int32)), .val (.int (2 : Int32)), .val (.int (2 : Int32)), .val (.ref a1559), .val (.int (4 : Int32)), .unset, .unset, .unset, .unset] [])
      refine gaload B X1751 at_427 rfl rfl (pc' := 429) rfl ?_
      refine giload B X1751 at_429 rfl (pc' := 431) rfl ?_
      refine gbipush B X1751 at_431 (v := (10 : Int32)) rfl (pc' := 433) rfl ?_
      refine giload B X1751 at_433 rfl (pc' := 435) rfl ?_
      refine glload B X1751 at_435 rfl (pc' := 437) rfl ?_
      refine giload B X1751 at_437 rfl (pc' := 439) rfl ?_
      refine gcallS B X1751 (hw _ (List.mem_of_getElem? (i := 3) rfl)) (hw _ (List.mem_of_getElem? (i := 4) rfl)) (hw _ (List.mem_of_getElem? (i := 5) rfl)) (hw _ (List.mem_of_getElem? (i := 6) rfl)) (by decide) (mt1 l Z a0 hw a1559 (4 : Int32) (10 : Int32) qk qw qt (orec bs0 4 kN qw qt 10) 4 10 kN h1749 A1755 ((own_len ..).trans hL0) (by decide) (by decide) (by decide) (by decide) hk hk11 ht8) pd___BIIIJB_V rfl (argsL := [(.ref a1559), (.int (4 : Int32)), (.int (10 : Int32)), (.int qk), (.long qw), (.int qt)]) (st := []) rfl rfl (W := 0) (Nat.le_of_eq rfl) (by decide) (by decide) (by decide) (by decide) (allS (Or.inr z_a1559) all0) at_439 (pc' := 442) rfl fun T1756 h1757 v1758 X1759 K1760 Q1761 => ?_
      obtain ⟨rfl, A1762⟩ := Q1761
      have A1763 : VA Z h1757 a1559 .byte ((orec bs0 4 kN qw qt 11).map Value.int) := A1762
      show Go p e below _ _ _ _ T1756 (mkF m 442 #[.val (.int p0), .val (.long p1), .second, .val (.int p2), .val (.int p3), .val (.int qk), .val (.long qw), .second, .val (.int (1 : Int32)), .val (.int (ofs p0)), .val (.int qle), .val (.int qt), .val (.int (2 : Int32)), .val (.int (0 : Int32)), .val (.int (2 : Int32)), .val (.int (2 : Int32)), .val (.ref a1559), .val (.int (4 : Int32)), .unset, .unset, .unset, .unset] [])
      refine gaload B X1759 at_442 rfl rfl (pc' := 444) rfl ?_
      refine giload B X1759 at_444 rfl (pc' := 446) rfl ?_
      refine gbipush B X1759 at_446 (v := (11 : Int32)) rfl (pc' := 448) rfl ?_
      refine giload B X1759 at_448 rfl (pc' := 450) rfl ?_
      refine glload B X1759 at_450 rfl (pc' := 452) rfl ?_
      refine giload B X1759 at_452 rfl (pc' := 454) rfl ?_
      refine gcallS B X1759 (hw _ (List.mem_of_getElem? (i := 3) rfl)) (hw _ (List.mem_of_getElem? (i := 4) rfl)) (hw _ (List.mem_of_getElem? (i := 5) rfl)) (hw _ (List.mem_of_getElem? (i := 6) rfl)) (by decide) (mt1 l Z a0 hw a1559 (4 : Int32) (11 : Int32) qk qw qt (orec bs0 4 kN qw qt 11) 4 11 kN h1757 A1763 ((own_len ..).trans hL0) (by decide) (by decide) (by decide) (by decide) hk hk11 ht8) pd___BIIIJB_V rfl (argsL := [(.ref a1559), (.int (4 : Int32)), (.int (11 : Int32)), (.int qk), (.long qw), (.int qt)]) (st := []) rfl rfl (W := 0) (Nat.le_of_eq rfl) (by decide) (by decide) (by decide) (by decide) (allS (Or.inr z_a1559) all0) at_454 (pc' := 457) rfl fun T1764 h1765 v1766 X1767 K1768 Q1769 => ?_
      obtain ⟨rfl, A1770⟩ := Q1769
      have A1771 : VA Z h1765 a1559 .byte ((orec bs0 4 kN qw qt 12).map Value.int) := A1770
      show Go p e below _ _ _ _ T1764 (mkF m 457 #[.val (.int p0), .val (.long p1), .second, .val (.int p2), .val (.int p3), .val (.int qk), .val (.long qw), .second, .val (.int (1 : Int32)), .val (.int (ofs p0)), .val (.int qle), .val (.int qt), .val (.int (2 : Int32)), .val (.int (0 : Int32)), .val (.int (2 : Int32)), .val (.int (2 : Int32)), .val (.ref a1559), .val (.int (4 : Int32)), .unset, .unset, .unset, .unset] [])
      refine giload B X1767 at_457 rfl (pc' := 459) rfl ?_
      have c459_1772 : (0 : Int32) = (0 : Int32) := (by decide)
      refine gifN B X1767 at_459 ((if0 _ _).trans (teq c459_1772).2) (pc' := 462) rfl ?_
      refine giload B X1767 at_462 rfl (pc' := 464) rfl ?_
      refine gbipush B X1767 at_464 (v := (32 : Int32)) rfl (pc' := 466) rfl ?_
      by_cases c466_1773 : qle = (32 : Int32)
      · refine gicN B X1767 at_466 (teq c466_1773).2 (pc' := 469) rfl ?_
        refine giload B X1767 at_469 rfl (pc' := 471) rfl ?_
        by_cases c471_1774 : qk = (0 : Int32)
        · refine gifY B X1767 (pc' := 481) at_471 ((if0 _ _).trans (teq c471_1774).1) (by decide) ?_
          refine gldc2 B X1767 (v := (-1 : Int64)) (hw _ (List.mem_of_getElem? (i := 21) rfl)) at_481 (pc' := 484) rfl ?_
          refine glstore B X1767 at_484 (Ls' := #[.val (.int p0), .val (.long p1), .second, .val (.int p2), .val (.int p3), .val (.int qk), .val (.long qw), .second, .val (.int (1 : Int32)), .val (.int (ofs p0)), .val (.int qle), .val (.int qt), .val (.int (2 : Int32)), .val (.int (0 : Int32)), .val (.int (2 : Int32)), .val (.int (2 : Int32)), .val (.ref a1559), .val (.int (4 : Int32)), .val (.long (-1 : Int64)), .second, .unset, .unset]) rfl (pc' := 486) rfl ?_
          refine ggoto B X1767 (pc' := 534) at_486 (by decide) ?_
          have kz : kN = 0 ∧ 3 ≤ 3 := ⟨(own_kz hk).mp c471_1774, by decide⟩
          refine gaload B X1767 at_534 rfl rfl (pc' := 536) rfl ?_
          refine giload B X1767 at_536 rfl (pc' := 538) rfl ?_
          have hru := own_run (sN := 4) hL0 (by decide) hk11 hww htn
          refine gcallS B X1767 (hw _ (List.mem_of_getElem? (i := 22) rfl)) (hw _ (List.mem_of_getElem? (i := 23) rfl)) (hw _ (List.mem_of_getElem? (i := 24) rfl)) (hw _ (List.mem_of_getElem? (i := 25) rfl)) (by decide) (mt3C1 l Z a0 hw a1559 (2 : Int32) (orec bs0 4 kN qw qt 12) h1765 A1771 2 (by decide) (by decide) ((own_len ..).trans hL0) 4 kN (4 : Int32) qk (3 : Int32) hru.2.2 (by decide) hk (((own_low hL0 (by decide) 2 (by decide)).trans ha0).trans c466_1773) (by decide) (by decide) ((own_low hL0 (by decide) 3 (by decide)).trans hb0) (by decide)) pd___BI_J rfl (argsL := [(.ref a1559), (.int (2 : Int32))]) (st := []) rfl rfl (W := 0) (Nat.le_of_eq rfl) (by decide) (by decide) (by decide) (by decide) (fun x q => nomatch q) at_538 (pc' := 541) rfl (pureG rfl rfl fun T1775 X1776 => ?_)
          refine glload B X1776 at_541 rfl (pc' := 543) rfl ?_
          refine glcmp B X1776 at_543 (pc' := 544) rfl ?_
          have c544_1777 : (ores (4 : Int32) qk (1 : Int32) kN (oacc (orec bs0 4 kN qw qt 12) 4 kN)) = (-1 : Int64) := if_pos (Or.inl kz.1)
          refine gifN B X1776 at_544 ((if0 _ _).trans (teq (((lw_eq (ores (4 : Int32) qk (1 : Int32) kN (oacc (orec bs0 4 kN qw qt 12) 4 kN)) (-1 : Int64))).mpr c544_1777)).2) (pc' := 547) rfl ?_
          refine giconst B X1776 at_547 (v := (1 : Int32)) rfl (pc' := 548) rfl ?_
          refine ggoto B X1776 (pc' := 552) at_548 (by decide) ?_
          exact gretN B X1776 (z' := (1 : Int32)) (by simp) (rfl) at_552 (by decide) (by decide) (rfl)
        · refine gifN B X1767 at_471 ((if0 _ _).trans (feq c471_1774).1) (pc' := 474) rfl ?_
          refine giload B X1767 at_474 rfl (pc' := 476) rfl ?_
          refine gbipush B X1767 at_476 (v := (9 : Int32)) rfl (pc' := 478) rfl ?_
          by_cases c478_1778 : (9 : Int32) < qk
          · refine gicN B X1767 at_478 (tlt c478_1778).2.2.2 (pc' := 481) rfl ?_
            refine gldc2 B X1767 (v := (-1 : Int64)) (hw _ (List.mem_of_getElem? (i := 21) rfl)) at_481 (pc' := 484) rfl ?_
            refine glstore B X1767 at_484 (Ls' := #[.val (.int p0), .val (.long p1), .second, .val (.int p2), .val (.int p3), .val (.int qk), .val (.long qw), .second, .val (.int (1 : Int32)), .val (.int (ofs p0)), .val (.int qle), .val (.int qt), .val (.int (2 : Int32)), .val (.int (0 : Int32)), .val (.int (2 : Int32)), .val (.int (2 : Int32)), .val (.ref a1559), .val (.int (4 : Int32)), .val (.long (-1 : Int64)), .second, .unset, .unset]) rfl (pc' := 486) rfl ?_
            refine ggoto B X1767 (pc' := 534) at_486 (by decide) ?_
            have hkp : 0 < kN := Nat.pos_of_ne_zero (mt (own_kz hk).mpr c471_1774)
            refine gaload B X1767 at_534 rfl rfl (pc' := 536) rfl ?_
            refine giload B X1767 at_536 rfl (pc' := 538) rfl ?_
            have hru := own_run (sN := 4) hL0 (by decide) hk11 hww htn
            refine gcallS B X1767 (hw _ (List.mem_of_getElem? (i := 22) rfl)) (hw _ (List.mem_of_getElem? (i := 23) rfl)) (hw _ (List.mem_of_getElem? (i := 24) rfl)) (hw _ (List.mem_of_getElem? (i := 25) rfl)) (by decide) (mt3C1 l Z a0 hw a1559 (2 : Int32) (orec bs0 4 kN qw qt 12) h1765 A1771 2 (by decide) (by decide) ((own_len ..).trans hL0) 4 kN (4 : Int32) qk (3 : Int32) hru.2.2 (by decide) hk (((own_low hL0 (by decide) 2 (by decide)).trans ha0).trans c466_1773) (by decide) (by decide) ((own_low hL0 (by decide) 3 (by decide)).trans hb0) (by decide)) pd___BI_J rfl (argsL := [(.ref a1559), (.int (2 : Int32))]) (st := []) rfl rfl (W := 0) (Nat.le_of_eq rfl) (by decide) (by decide) (by decide) (by decide) (fun x q => nomatch q) at_538 (pc' := 541) rfl (pureG rfl rfl fun T1779 X1780 => ?_)
            refine glload B X1780 at_541 rfl (pc' := 543) rfl ?_
            refine glcmp B X1780 at_543 (pc' := 544) rfl ?_
            have c544_1781 : (ores (4 : Int32) qk (1 : Int32) kN (oacc (orec bs0 4 kN qw qt 12) 4 kN)) = (-1 : Int64) := if_pos (Or.inr ((own_k9 hk).mp c478_1778))
            refine gifN B X1780 at_544 ((if0 _ _).trans (teq (((lw_eq (ores (4 : Int32) qk (1 : Int32) kN (oacc (orec bs0 4 kN qw qt 12) 4 kN)) (-1 : Int64))).mpr c544_1781)).2) (pc' := 547) rfl ?_
            refine giconst B X1780 at_547 (v := (1 : Int32)) rfl (pc' := 548) rfl ?_
            refine ggoto B X1780 (pc' := 552) at_548 (by decide) ?_
            exact gretN B X1780 (z' := (1 : Int32)) (by simp) (rfl) at_552 (by decide) (by decide) (rfl)
          · refine gicY B X1767 (pc' := 489) at_478 (flt c478_1778).2.2.2 (by decide) ?_
            refine glload B X1767 at_489 rfl (pc' := 491) rfl ?_
            refine giload B X1767 at_491 rfl (pc' := 493) rfl ?_
            have hk9 := mt (own_k9 hk).mpr c478_1778
            refine gcallS B X1767 (hw _ (List.mem_of_getElem? (i := 7) rfl)) (hw _ (List.mem_of_getElem? (i := 8) rfl)) (hw _ (List.mem_of_getElem? (i := 5) rfl)) (hw _ (List.mem_of_getElem? (i := 9) rfl)) (by decide) (mt2 l Z a0 hw qk kN h1765 hk (by omega)) pd__I_J rfl (argsL := [(.int qk)]) (st := [(.long qw)]) rfl rfl (W := 2) (Nat.le_of_eq rfl) (by decide) (by decide) (by decide) (by decide) (fun x q => nomatch q) at_493 (pc' := 496) rfl fun T1782 h1783 v1784 X1785 K1786 Q1787 => ?_
            have F1788 := A1771.keep K1786 nin0
            obtain rfl := Q1787
            show Go p e below _ _ _ _ T1782 (mkF m 496 #[.val (.int p0), .val (.long p1), .second, .val (.int p2), .val (.int p3), .val (.int qk), .val (.long qw), .second, .val (.int (1 : Int32)), .val (.int (ofs p0)), .val (.int qle), .val (.int qt), .val (.int (2 : Int32)), .val (.int (0 : Int32)), .val (.int (2 : Int32)), .val (.int (2 : Int32)), .val (.ref a1559), .val (.int (4 : Int32)), .unset, .unset, .unset, .unset] [(.long (opow kN)), (.long qw)])
            refine glrem B X1785 at_496 (own_p10 ⟨kN, by omega⟩).2.1 rfl (pc' := 497) rfl ?_
            refine gl2i B X1785 at_497 rfl (pc' := 498) rfl ?_
            refine gistore B X1785 at_498 (Ls' := #[.val (.int p0), .val (.long p1), .second, .val (.int p2), .val (.int p3), .val (.int qk), .val (.long qw), .second, .val (.int (1 : Int32)), .val (.int (ofs p0)), .val (.int qle), .val (.int qt), .val (.int (2 : Int32)), .val (.int (0 : Int32)), .val (.int (2 : Int32)), .val (.int (2 : Int32)), .val (.ref a1559), .val (.int (4 : Int32)), .unset, .unset, .val (.int (qw % (opow kN)).toInt32), .unset]) rfl (pc' := 500) rfl ?_
            refine giload B X1785 at_500 rfl (pc' := 502) rfl ?_
            have c502_1789 : ¬ ((1 : Int32) = (0 : Int32)) := (by decide)
            refine gifN B X1785 at_502 ((if0 _ _).trans (feq c502_1789).1) (pc' := 505) rfl ?_
            refine giload B X1785 at_505 rfl (pc' := 507) rfl ?_
            refine gineg B X1785 at_507 rfl (pc' := 508) rfl ?_
            refine ggoto B X1785 (pc' := 513) at_508 (by decide) ?_
            refine gistore B X1785 at_513 (Ls' := #[.val (.int p0), .val (.long p1), .second, .val (.int p2), .val (.int p3), .val (.int qk), .val (.long qw), .second, .val (.int (1 : Int32)), .val (.int (ofs p0)), .val (.int qle), .val (.int qt), .val (.int (2 : Int32)), .val (.int (0 : Int32)), .val (.int (2 : Int32)), .val (.int (2 : Int32)), .val (.ref a1559), .val (.int (4 : Int32)), .unset, .unset, .val (.int (qw % (opow kN)).toInt32), .val (.int (-(qw % (opow kN)).toInt32))]) rfl (pc' := 515) rfl ?_
            refine giload B X1785 at_515 rfl (pc' := 517) rfl ?_
            refine giload B X1785 at_517 rfl (pc' := 519) rfl ?_
            refine giadd B X1785 at_519 rfl (pc' := 520) rfl ?_
            refine gi2l B X1785 at_520 rfl (pc' := 521) rfl ?_
            refine gbipush B X1785 at_521 (v := (32 : Int32)) rfl (pc' := 523) rfl ?_
            refine glshl B X1785 at_523 rfl (pc' := 524) rfl ?_
            refine giload B X1785 at_524 rfl (pc' := 526) rfl ?_
            refine gi2l B X1785 at_526 rfl (pc' := 527) rfl ?_
            refine gldc2 B X1785 (v := (4294967295 : Int64)) (hw _ (List.mem_of_getElem? (i := 28) rfl)) at_527 (pc' := 530) rfl ?_
            refine gland B X1785 at_530 rfl (pc' := 531) rfl ?_
            refine glor B X1785 at_531 rfl (pc' := 532) rfl ?_
            refine glstore B X1785 at_532 (Ls' := #[.val (.int p0), .val (.long p1), .second, .val (.int p2), .val (.int p3), .val (.int qk), .val (.long qw), .second, .val (.int (1 : Int32)), .val (.int (ofs p0)), .val (.int qle), .val (.int qt), .val (.int (2 : Int32)), .val (.int (0 : Int32)), .val (.int (2 : Int32)), .val (.int (2 : Int32)), .val (.ref a1559), .val (.int (4 : Int32)), .val (.long ((((4 : Int32) + qk).toInt64 <<< ((32 : Int32) &&& 0x3f).toInt64) ||| ((-(qw % (opow kN)).toInt32).toInt64 &&& (4294967295 : Int64)))), .second, .val (.int (qw % (opow kN)).toInt32), .val (.int (-(qw % (opow kN)).toInt32))]) rfl (pc' := 534) rfl ?_
            have hkp : 0 < kN := Nat.pos_of_ne_zero (mt (own_kz hk).mpr c471_1774)
            refine gaload B X1785 at_534 rfl rfl (pc' := 536) rfl ?_
            refine giload B X1785 at_536 rfl (pc' := 538) rfl ?_
            have hru := own_run (sN := 4) hL0 (by decide) hk11 hww htn
            refine gcallS B X1785 (hw _ (List.mem_of_getElem? (i := 22) rfl)) (hw _ (List.mem_of_getElem? (i := 23) rfl)) (hw _ (List.mem_of_getElem? (i := 24) rfl)) (hw _ (List.mem_of_getElem? (i := 25) rfl)) (by decide) (mt3C1 l Z a0 hw a1559 (2 : Int32) (orec bs0 4 kN qw qt 12) h1783 F1788 2 (by decide) (by decide) ((own_len ..).trans hL0) 4 kN (4 : Int32) qk (3 : Int32) hru.2.2 (by decide) hk (((own_low hL0 (by decide) 2 (by decide)).trans ha0).trans c466_1773) (by decide) (by decide) ((own_low hL0 (by decide) 3 (by decide)).trans hb0) (by decide)) pd___BI_J rfl (argsL := [(.ref a1559), (.int (2 : Int32))]) (st := []) rfl rfl (W := 0) (Nat.le_of_eq rfl) (by decide) (by decide) (by decide) (by decide) (fun x q => nomatch q) at_538 (pc' := 541) rfl (pureG rfl rfl fun T1790 X1791 => ?_)
            refine glload B X1791 at_541 rfl (pc' := 543) rfl ?_
            refine glcmp B X1791 at_543 (pc' := 544) rfl ?_
            have c544_1792 : (ores (4 : Int32) qk (1 : Int32) kN (oacc (orec bs0 4 kN qw qt 12) 4 kN)) = ((((4 : Int32) + qk).toInt64 <<< ((32 : Int32) &&& 0x3f).toInt64) ||| ((-(qw % (opow kN)).toInt32).toInt64 &&& (4294967295 : Int64))) := by have k9 := mt (own_k9 hk).mpr c478_1778; rw [ores, if_neg (by omega), own_val hww (by omega) hru.1, if_neg (by decide)]
            refine gifN B X1791 at_544 ((if0 _ _).trans (teq (((lw_eq (ores (4 : Int32) qk (1 : Int32) kN (oacc (orec bs0 4 kN qw qt 12) 4 kN)) ((((4 : Int32) + qk).toInt64 <<< ((32 : Int32) &&& 0x3f).toInt64) ||| ((-(qw % (opow kN)).toInt32).toInt64 &&& (4294967295 : Int64))))).mpr c544_1792)).2) (pc' := 547) rfl ?_
            refine giconst B X1791 at_547 (v := (1 : Int32)) rfl (pc' := 548) rfl ?_
            refine ggoto B X1791 (pc' := 552) at_548 (by decide) ?_
            exact gretN B X1791 (z' := (1 : Int32)) (by simp) (rfl) at_552 (by decide) (by decide) (rfl)
      · refine gicY B X1767 (pc' := 481) at_466 (feq c466_1773).2 (by decide) ?_
        refine gldc2 B X1767 (v := (-1 : Int64)) (hw _ (List.mem_of_getElem? (i := 21) rfl)) at_481 (pc' := 484) rfl ?_
        refine glstore B X1767 at_484 (Ls' := #[.val (.int p0), .val (.long p1), .second, .val (.int p2), .val (.int p3), .val (.int qk), .val (.long qw), .second, .val (.int (1 : Int32)), .val (.int (ofs p0)), .val (.int qle), .val (.int qt), .val (.int (2 : Int32)), .val (.int (0 : Int32)), .val (.int (2 : Int32)), .val (.int (2 : Int32)), .val (.ref a1559), .val (.int (4 : Int32)), .val (.long (-1 : Int64)), .second, .unset, .unset]) rfl (pc' := 486) rfl ?_
        refine ggoto B X1767 (pc' := 534) at_486 (by decide) ?_
        refine gaload B X1767 at_534 rfl rfl (pc' := 536) rfl ?_
        refine giload B X1767 at_536 rfl (pc' := 538) rfl ?_
        refine gcallS B X1767 (hw _ (List.mem_of_getElem? (i := 22) rfl)) (hw _ (List.mem_of_getElem? (i := 23) rfl)) (hw _ (List.mem_of_getElem? (i := 24) rfl)) (hw _ (List.mem_of_getElem? (i := 25) rfl)) (by decide) (mt3B l Z a0 hw a1559 (2 : Int32) (orec bs0 4 kN qw qt 12) h1765 A1771 2 (by decide) (by decide) ((own_len ..).trans hL0) (fun q => c466_1773 (((own_low hL0 (by decide) 2 (by decide)).trans ha0).symm.trans q))) pd___BI_J rfl (argsL := [(.ref a1559), (.int (2 : Int32))]) (st := []) rfl rfl (W := 0) (Nat.le_of_eq rfl) (by decide) (by decide) (by decide) (by decide) (fun x q => nomatch q) at_538 (pc' := 541) rfl (pureG rfl rfl fun T1793 X1794 => ?_)
        refine glload B X1794 at_541 rfl (pc' := 543) rfl ?_
        refine glcmp B X1794 at_543 (pc' := 544) rfl ?_
        have c544_1795 : (-1 : Int64) = (-1 : Int64) := rfl
        refine gifN B X1794 at_544 ((if0 _ _).trans (teq (((lw_eq (-1 : Int64) (-1 : Int64))).mpr c544_1795)).2) (pc' := 547) rfl ?_
        refine giconst B X1794 at_547 (v := (1 : Int32)) rfl (pc' := 548) rfl ?_
        refine ggoto B X1794 (pc' := 552) at_548 (by decide) ?_
        exact gretN B X1794 (z' := (1 : Int32)) (by simp) (rfl) at_552 (by decide) (by decide) (rfl)
    · rw [e_b]
      refine gistore B X1069 at_88 (Ls' := #[.val (.int p0), .val (.long p1), .second, .val (.int p2), .val (.int p3), .val (.int qk), .val (.long qw), .second, .val (.int (1 : Int32)), .val (.int (ofs p0)), .val (.int qle), .val (.int qt), .val (.int (3 : Int32)), .unset, .unset, .unset, .unset, .unset, .unset, .unset, .unset, .unset]) rfl (pc' := 90) rfl ?_
      refine giload B X1069 at_90 rfl (pc' := 92) rfl ?_
      refine giconst B X1069 at_92 (v := (3 : Int32)) rfl (pc' := 93) rfl ?_
      have c93_1796 : (3 : Int32) = (3 : Int32) := (by decide)
      refine gicN B X1069 at_93 (teq c93_1796).2 (pc' := 96) rfl ?_
      refine giconst B X1069 at_96 (v := (1 : Int32)) rfl (pc' := 97) rfl ?_
      refine ggoto B X1069 (pc' := 101) at_97 (by decide) ?_
      refine gistore B X1069 at_101 (Ls' := #[.val (.int p0), .val (.long p1), .second, .val (.int p2), .val (.int p3), .val (.int qk), .val (.long qw), .second, .val (.int (1 : Int32)), .val (.int (ofs p0)), .val (.int qle), .val (.int qt), .val (.int (3 : Int32)), .val (.int (1 : Int32)), .unset, .unset, .unset, .unset, .unset, .unset, .unset, .unset]) rfl (pc' := 103) rfl ?_
      refine giload B X1069 at_103 rfl (pc' := 105) rfl ?_
      have c105_1797 : ¬ ((1 : Int32) = (0 : Int32)) := (by decide)
      refine gifN B X1069 at_105 ((if0 _ _).trans (feq c105_1797).1) (pc' := 108) rfl ?_
      refine giconst B X1069 at_108 (v := (0 : Int32)) rfl (pc' := 109) rfl ?_
      refine ggoto B X1069 (pc' := 114) at_109 (by decide) ?_
      refine gistore B X1069 at_114 (Ls' := #[.val (.int p0), .val (.long p1), .second, .val (.int p2), .val (.int p3), .val (.int qk), .val (.long qw), .second, .val (.int (1 : Int32)), .val (.int (ofs p0)), .val (.int qle), .val (.int qt), .val (.int (3 : Int32)), .val (.int (1 : Int32)), .val (.int (0 : Int32)), .unset, .unset, .unset, .unset, .unset, .unset, .unset]) rfl (pc' := 116) rfl ?_
      refine giload B X1069 at_116 rfl (pc' := 118) rfl ?_
      have c118_1798 : ¬ ((1 : Int32) = (0 : Int32)) := (by decide)
      refine gifN B X1069 at_118 ((if0 _ _).trans (feq c118_1798).1) (pc' := 121) rfl ?_
      refine giloadN B X1069 at_121 rfl (pc' := 122) rfl ?_
      refine gldc B X1069 (v := (-2147483648 : Int32)) (hw _ (List.mem_of_getElem? (i := 27) rfl)) at_122 (pc' := 124) rfl ?_
      refine gior B X1069 at_124 rfl (pc' := 125) rfl ?_
      refine ggoto B X1069 (pc' := 130) at_125 (by decide) ?_
      refine gistore B X1069 at_130 (Ls' := #[.val (.int p0), .val (.long p1), .second, .val (.int p2), .val (.int p3), .val (.int qk), .val (.long qw), .second, .val (.int (1 : Int32)), .val (.int (ofs p0)), .val (.int qle), .val (.int qt), .val (.int (3 : Int32)), .val (.int (1 : Int32)), .val (.int (0 : Int32)), .val (.int (p0 ||| (-2147483648 : Int32))), .unset, .unset, .unset, .unset, .unset, .unset]) rfl (pc' := 132) rfl ?_
      refine gbipush B X1069 at_132 (v := (18 : Int32)) rfl (pc' := 134) rfl ?_
      refine gnewarray B X1069 (cap := 18) (vs := [(.int (0 : Int32)), (.int (0 : Int32)), (.int (0 : Int32)), (.int (0 : Int32)), (.int (0 : Int32)), (.int (0 : Int32)), (.int (0 : Int32)), (.int (0 : Int32)), (.int (0 : Int32)), (.int (0 : Int32)), (.int (0 : Int32)), (.int (0 : Int32)), (.int (0 : Int32)), (.int (0 : Int32)), (.int (0 : Int32)), (.int (0 : Int32)), (.int (0 : Int32)), (.int (0 : Int32))]) (ty := .byte) rfl rfl (hw _ (List.mem_of_getElem? (i := 2) rfl)) (by decide) (by decide) (by decide) (by decide) (by decide) at_134 (pc' := 136) rfl fun T1799 h1800 a1801 X1802 q1803 E1804 z_a1801 A1805 => ?_
      refine gdup B X1802 at_136 rfl (pc' := 137) rfl ?_
      refine giconst B X1802 at_137 (v := (0 : Int32)) rfl (pc' := 138) rfl ?_
      refine gbipush B X1802 at_138 (v := (10 : Int32)) rfl (pc' := 140) rfl ?_
      refine gbastore B X1802 (i := 0) (n := 18) A1805 rfl (by decide) rfl (vs' := [(.int (10 : Int32)), (.int (0 : Int32)), (.int (0 : Int32)), (.int (0 : Int32)), (.int (0 : Int32)), (.int (0 : Int32)), (.int (0 : Int32)), (.int (0 : Int32)), (.int (0 : Int32)), (.int (0 : Int32)), (.int (0 : Int32)), (.int (0 : Int32)), (.int (0 : Int32)), (.int (0 : Int32)), (.int (0 : Int32)), (.int (0 : Int32)), (.int (0 : Int32)), (.int (0 : Int32))]) rfl (Or.inr z_a1801) at_140 (pc' := 141) rfl fun T1806 h1807 X1808 W1809 A1810 => ?_
      refine gdup B X1808 at_141 rfl (pc' := 142) rfl ?_
      refine giconst B X1808 at_142 (v := (1 : Int32)) rfl (pc' := 143) rfl ?_
      refine gbipush B X1808 at_143 (v := (10 : Int32)) rfl (pc' := 145) rfl ?_
      refine gbastore B X1808 (i := 1) (n := 18) A1810 rfl (by decide) rfl (vs' := [(.int (10 : Int32)), (.int (10 : Int32)), (.int (0 : Int32)), (.int (0 : Int32)), (.int (0 : Int32)), (.int (0 : Int32)), (.int (0 : Int32)), (.int (0 : Int32)), (.int (0 : Int32)), (.int (0 : Int32)), (.int (0 : Int32)), (.int (0 : Int32)), (.int (0 : Int32)), (.int (0 : Int32)), (.int (0 : Int32)), (.int (0 : Int32)), (.int (0 : Int32)), (.int (0 : Int32))]) rfl (Or.inr z_a1801) at_145 (pc' := 146) rfl fun T1811 h1812 X1813 W1814 A1815 => ?_
      refine gdup B X1813 at_146 rfl (pc' := 147) rfl ?_
      refine giconst B X1813 at_147 (v := (2 : Int32)) rfl (pc' := 148) rfl ?_
      refine gbipush B X1813 at_148 (v := (10 : Int32)) rfl (pc' := 150) rfl ?_
      refine gbastore B X1813 (i := 2) (n := 18) A1815 rfl (by decide) rfl (vs' := [(.int (10 : Int32)), (.int (10 : Int32)), (.int (10 : Int32)), (.int (0 : Int32)), (.int (0 : Int32)), (.int (0 : Int32)), (.int (0 : Int32)), (.int (0 : Int32)), (.int (0 : Int32)), (.int (0 : Int32)), (.int (0 : Int32)), (.int (0 : Int32)), (.int (0 : Int32)), (.int (0 : Int32)), (.int (0 : Int32)), (.int (0 : Int32)), (.int (0 : Int32)), (.int (0 : Int32))]) rfl (Or.inr z_a1801) at_150 (pc' := 151) rfl fun T1816 h1817 X1818 W1819 A1820 => ?_
      refine gdup B X1818 at_151 rfl (pc' := 152) rfl ?_
      refine giconst B X1818 at_152 (v := (3 : Int32)) rfl (pc' := 153) rfl ?_
      refine gbipush B X1818 at_153 (v := (10 : Int32)) rfl (pc' := 155) rfl ?_
      refine gbastore B X1818 (i := 3) (n := 18) A1820 rfl (by decide) rfl (vs' := [(.int (10 : Int32)), (.int (10 : Int32)), (.int (10 : Int32)), (.int (10 : Int32)), (.int (0 : Int32)), (.int (0 : Int32)), (.int (0 : Int32)), (.int (0 : Int32)), (.int (0 : Int32)), (.int (0 : Int32)), (.int (0 : Int32)), (.int (0 : Int32)), (.int (0 : Int32)), (.int (0 : Int32)), (.int (0 : Int32)), (.int (0 : Int32)), (.int (0 : Int32)), (.int (0 : Int32))]) rfl (Or.inr z_a1801) at_155 (pc' := 156) rfl fun T1821 h1822 X1823 W1824 A1825 => ?_
      refine gdup B X1823 at_156 rfl (pc' := 157) rfl ?_
      refine giconst B X1823 at_157 (v := (4 : Int32)) rfl (pc' := 158) rfl ?_
      refine gbipush B X1823 at_158 (v := (10 : Int32)) rfl (pc' := 160) rfl ?_
      refine gbastore B X1823 (i := 4) (n := 18) A1825 rfl (by decide) rfl (vs' := [(.int (10 : Int32)), (.int (10 : Int32)), (.int (10 : Int32)), (.int (10 : Int32)), (.int (10 : Int32)), (.int (0 : Int32)), (.int (0 : Int32)), (.int (0 : Int32)), (.int (0 : Int32)), (.int (0 : Int32)), (.int (0 : Int32)), (.int (0 : Int32)), (.int (0 : Int32)), (.int (0 : Int32)), (.int (0 : Int32)), (.int (0 : Int32)), (.int (0 : Int32)), (.int (0 : Int32))]) rfl (Or.inr z_a1801) at_160 (pc' := 161) rfl fun T1826 h1827 X1828 W1829 A1830 => ?_
      refine gdup B X1828 at_161 rfl (pc' := 162) rfl ?_
      refine giconst B X1828 at_162 (v := (5 : Int32)) rfl (pc' := 163) rfl ?_
      refine gbipush B X1828 at_163 (v := (10 : Int32)) rfl (pc' := 165) rfl ?_
      refine gbastore B X1828 (i := 5) (n := 18) A1830 rfl (by decide) rfl (vs' := [(.int (10 : Int32)), (.int (10 : Int32)), (.int (10 : Int32)), (.int (10 : Int32)), (.int (10 : Int32)), (.int (10 : Int32)), (.int (0 : Int32)), (.int (0 : Int32)), (.int (0 : Int32)), (.int (0 : Int32)), (.int (0 : Int32)), (.int (0 : Int32)), (.int (0 : Int32)), (.int (0 : Int32)), (.int (0 : Int32)), (.int (0 : Int32)), (.int (0 : Int32)), (.int (0 : Int32))]) rfl (Or.inr z_a1801) at_165 (pc' := 166) rfl fun T1831 h1832 X1833 W1834 A1835 => ?_
      refine gdup B X1833 at_166 rfl (pc' := 167) rfl ?_
      refine gbipush B X1833 at_167 (v := (6 : Int32)) rfl (pc' := 169) rfl ?_
      refine gbipush B X1833 at_169 (v := (10 : Int32)) rfl (pc' := 171) rfl ?_
      refine gbastore B X1833 (i := 6) (n := 18) A1835 rfl (by decide) rfl (vs' := [(.int (10 : Int32)), (.int (10 : Int32)), (.int (10 : Int32)), (.int (10 : Int32)), (.int (10 : Int32)), (.int (10 : Int32)), (.int (10 : Int32)), (.int (0 : Int32)), (.int (0 : Int32)), (.int (0 : Int32)), (.int (0 : Int32)), (.int (0 : Int32)), (.int (0 : Int32)), (.int (0 : Int32)), (.int (0 : Int32)), (.int (0 : Int32)), (.int (0 : Int32)), (.int (0 : Int32))]) rfl (Or.inr z_a1801) at_171 (pc' := 172) rfl fun T1836 h1837 X1838 W1839 A1840 => ?_
      refine gdup B X1838 at_172 rfl (pc' := 173) rfl ?_
      refine gbipush B X1838 at_173 (v := (7 : Int32)) rfl (pc' := 175) rfl ?_
      refine gbipush B X1838 at_175 (v := (10 : Int32)) rfl (pc' := 177) rfl ?_
      refine gbastore B X1838 (i := 7) (n := 18) A1840 rfl (by decide) rfl (vs' := [(.int (10 : Int32)), (.int (10 : Int32)), (.int (10 : Int32)), (.int (10 : Int32)), (.int (10 : Int32)), (.int (10 : Int32)), (.int (10 : Int32)), (.int (10 : Int32)), (.int (0 : Int32)), (.int (0 : Int32)), (.int (0 : Int32)), (.int (0 : Int32)), (.int (0 : Int32)), (.int (0 : Int32)), (.int (0 : Int32)), (.int (0 : Int32)), (.int (0 : Int32)), (.int (0 : Int32))]) rfl (Or.inr z_a1801) at_177 (pc' := 178) rfl fun T1841 h1842 X1843 W1844 A1845 => ?_
      refine gdup B X1843 at_178 rfl (pc' := 179) rfl ?_
      refine gbipush B X1843 at_179 (v := (8 : Int32)) rfl (pc' := 181) rfl ?_
      refine gbipush B X1843 at_181 (v := (10 : Int32)) rfl (pc' := 183) rfl ?_
      refine gbastore B X1843 (i := 8) (n := 18) A1845 rfl (by decide) rfl (vs' := [(.int (10 : Int32)), (.int (10 : Int32)), (.int (10 : Int32)), (.int (10 : Int32)), (.int (10 : Int32)), (.int (10 : Int32)), (.int (10 : Int32)), (.int (10 : Int32)), (.int (10 : Int32)), (.int (0 : Int32)), (.int (0 : Int32)), (.int (0 : Int32)), (.int (0 : Int32)), (.int (0 : Int32)), (.int (0 : Int32)), (.int (0 : Int32)), (.int (0 : Int32)), (.int (0 : Int32))]) rfl (Or.inr z_a1801) at_183 (pc' := 184) rfl fun T1846 h1847 X1848 W1849 A1850 => ?_
      refine gdup B X1848 at_184 rfl (pc' := 185) rfl ?_
      refine gbipush B X1848 at_185 (v := (9 : Int32)) rfl (pc' := 187) rfl ?_
      refine gbipush B X1848 at_187 (v := (10 : Int32)) rfl (pc' := 189) rfl ?_
      refine gbastore B X1848 (i := 9) (n := 18) A1850 rfl (by decide) rfl (vs' := [(.int (10 : Int32)), (.int (10 : Int32)), (.int (10 : Int32)), (.int (10 : Int32)), (.int (10 : Int32)), (.int (10 : Int32)), (.int (10 : Int32)), (.int (10 : Int32)), (.int (10 : Int32)), (.int (10 : Int32)), (.int (0 : Int32)), (.int (0 : Int32)), (.int (0 : Int32)), (.int (0 : Int32)), (.int (0 : Int32)), (.int (0 : Int32)), (.int (0 : Int32)), (.int (0 : Int32))]) rfl (Or.inr z_a1801) at_189 (pc' := 190) rfl fun T1851 h1852 X1853 W1854 A1855 => ?_
      refine gdup B X1853 at_190 rfl (pc' := 191) rfl ?_
      refine gbipush B X1853 at_191 (v := (10 : Int32)) rfl (pc' := 193) rfl ?_
      refine gbipush B X1853 at_193 (v := (10 : Int32)) rfl (pc' := 195) rfl ?_
      refine gbastore B X1853 (i := 10) (n := 18) A1855 rfl (by decide) rfl (vs' := [(.int (10 : Int32)), (.int (10 : Int32)), (.int (10 : Int32)), (.int (10 : Int32)), (.int (10 : Int32)), (.int (10 : Int32)), (.int (10 : Int32)), (.int (10 : Int32)), (.int (10 : Int32)), (.int (10 : Int32)), (.int (10 : Int32)), (.int (0 : Int32)), (.int (0 : Int32)), (.int (0 : Int32)), (.int (0 : Int32)), (.int (0 : Int32)), (.int (0 : Int32)), (.int (0 : Int32))]) rfl (Or.inr z_a1801) at_195 (pc' := 196) rfl fun T1856 h1857 X1858 W1859 A1860 => ?_
      refine gdup B X1858 at_196 rfl (pc' := 197) rfl ?_
      refine gbipush B X1858 at_197 (v := (11 : Int32)) rfl (pc' := 199) rfl ?_
      refine gbipush B X1858 at_199 (v := (10 : Int32)) rfl (pc' := 201) rfl ?_
      refine gbastore B X1858 (i := 11) (n := 18) A1860 rfl (by decide) rfl (vs' := [(.int (10 : Int32)), (.int (10 : Int32)), (.int (10 : Int32)), (.int (10 : Int32)), (.int (10 : Int32)), (.int (10 : Int32)), (.int (10 : Int32)), (.int (10 : Int32)), (.int (10 : Int32)), (.int (10 : Int32)), (.int (10 : Int32)), (.int (10 : Int32)), (.int (0 : Int32)), (.int (0 : Int32)), (.int (0 : Int32)), (.int (0 : Int32)), (.int (0 : Int32)), (.int (0 : Int32))]) rfl (Or.inr z_a1801) at_201 (pc' := 202) rfl fun T1861 h1862 X1863 W1864 A1865 => ?_
      refine gdup B X1863 at_202 rfl (pc' := 203) rfl ?_
      refine gbipush B X1863 at_203 (v := (12 : Int32)) rfl (pc' := 205) rfl ?_
      refine gbipush B X1863 at_205 (v := (10 : Int32)) rfl (pc' := 207) rfl ?_
      refine gbastore B X1863 (i := 12) (n := 18) A1865 rfl (by decide) rfl (vs' := [(.int (10 : Int32)), (.int (10 : Int32)), (.int (10 : Int32)), (.int (10 : Int32)), (.int (10 : Int32)), (.int (10 : Int32)), (.int (10 : Int32)), (.int (10 : Int32)), (.int (10 : Int32)), (.int (10 : Int32)), (.int (10 : Int32)), (.int (10 : Int32)), (.int (10 : Int32)), (.int (0 : Int32)), (.int (0 : Int32)), (.int (0 : Int32)), (.int (0 : Int32)), (.int (0 : Int32))]) rfl (Or.inr z_a1801) at_207 (pc' := 208) rfl fun T1866 h1867 X1868 W1869 A1870 => ?_
      refine gdup B X1868 at_208 rfl (pc' := 209) rfl ?_
      refine gbipush B X1868 at_209 (v := (13 : Int32)) rfl (pc' := 211) rfl ?_
      refine gbipush B X1868 at_211 (v := (10 : Int32)) rfl (pc' := 213) rfl ?_
      refine gbastore B X1868 (i := 13) (n := 18) A1870 rfl (by decide) rfl (vs' := [(.int (10 : Int32)), (.int (10 : Int32)), (.int (10 : Int32)), (.int (10 : Int32)), (.int (10 : Int32)), (.int (10 : Int32)), (.int (10 : Int32)), (.int (10 : Int32)), (.int (10 : Int32)), (.int (10 : Int32)), (.int (10 : Int32)), (.int (10 : Int32)), (.int (10 : Int32)), (.int (10 : Int32)), (.int (0 : Int32)), (.int (0 : Int32)), (.int (0 : Int32)), (.int (0 : Int32))]) rfl (Or.inr z_a1801) at_213 (pc' := 214) rfl fun T1871 h1872 X1873 W1874 A1875 => ?_
      refine gdup B X1873 at_214 rfl (pc' := 215) rfl ?_
      refine gbipush B X1873 at_215 (v := (14 : Int32)) rfl (pc' := 217) rfl ?_
      refine gbipush B X1873 at_217 (v := (10 : Int32)) rfl (pc' := 219) rfl ?_
      refine gbastore B X1873 (i := 14) (n := 18) A1875 rfl (by decide) rfl (vs' := [(.int (10 : Int32)), (.int (10 : Int32)), (.int (10 : Int32)), (.int (10 : Int32)), (.int (10 : Int32)), (.int (10 : Int32)), (.int (10 : Int32)), (.int (10 : Int32)), (.int (10 : Int32)), (.int (10 : Int32)), (.int (10 : Int32)), (.int (10 : Int32)), (.int (10 : Int32)), (.int (10 : Int32)), (.int (10 : Int32)), (.int (0 : Int32)), (.int (0 : Int32)), (.int (0 : Int32))]) rfl (Or.inr z_a1801) at_219 (pc' := 220) rfl fun T1876 h1877 X1878 W1879 A1880 => ?_
      refine gdup B X1878 at_220 rfl (pc' := 221) rfl ?_
      refine gbipush B X1878 at_221 (v := (15 : Int32)) rfl (pc' := 223) rfl ?_
      refine gbipush B X1878 at_223 (v := (10 : Int32)) rfl (pc' := 225) rfl ?_
      refine gbastore B X1878 (i := 15) (n := 18) A1880 rfl (by decide) rfl (vs' := [(.int (10 : Int32)), (.int (10 : Int32)), (.int (10 : Int32)), (.int (10 : Int32)), (.int (10 : Int32)), (.int (10 : Int32)), (.int (10 : Int32)), (.int (10 : Int32)), (.int (10 : Int32)), (.int (10 : Int32)), (.int (10 : Int32)), (.int (10 : Int32)), (.int (10 : Int32)), (.int (10 : Int32)), (.int (10 : Int32)), (.int (10 : Int32)), (.int (0 : Int32)), (.int (0 : Int32))]) rfl (Or.inr z_a1801) at_225 (pc' := 226) rfl fun T1881 h1882 X1883 W1884 A1885 => ?_
      refine gdup B X1883 at_226 rfl (pc' := 227) rfl ?_
      refine gbipush B X1883 at_227 (v := (16 : Int32)) rfl (pc' := 229) rfl ?_
      refine gbipush B X1883 at_229 (v := (10 : Int32)) rfl (pc' := 231) rfl ?_
      refine gbastore B X1883 (i := 16) (n := 18) A1885 rfl (by decide) rfl (vs' := [(.int (10 : Int32)), (.int (10 : Int32)), (.int (10 : Int32)), (.int (10 : Int32)), (.int (10 : Int32)), (.int (10 : Int32)), (.int (10 : Int32)), (.int (10 : Int32)), (.int (10 : Int32)), (.int (10 : Int32)), (.int (10 : Int32)), (.int (10 : Int32)), (.int (10 : Int32)), (.int (10 : Int32)), (.int (10 : Int32)), (.int (10 : Int32)), (.int (10 : Int32)), (.int (0 : Int32))]) rfl (Or.inr z_a1801) at_231 (pc' := 232) rfl fun T1886 h1887 X1888 W1889 A1890 => ?_
      refine gdup B X1888 at_232 rfl (pc' := 233) rfl ?_
      refine gbipush B X1888 at_233 (v := (17 : Int32)) rfl (pc' := 235) rfl ?_
      refine gbipush B X1888 at_235 (v := (10 : Int32)) rfl (pc' := 237) rfl ?_
      refine gbastore B X1888 (i := 17) (n := 18) A1890 rfl (by decide) rfl (vs' := [(.int (10 : Int32)), (.int (10 : Int32)), (.int (10 : Int32)), (.int (10 : Int32)), (.int (10 : Int32)), (.int (10 : Int32)), (.int (10 : Int32)), (.int (10 : Int32)), (.int (10 : Int32)), (.int (10 : Int32)), (.int (10 : Int32)), (.int (10 : Int32)), (.int (10 : Int32)), (.int (10 : Int32)), (.int (10 : Int32)), (.int (10 : Int32)), (.int (10 : Int32)), (.int (10 : Int32))]) rfl (Or.inr z_a1801) at_237 (pc' := 238) rfl fun T1891 h1892 X1893 W1894 A1895 => ?_
      refine gastore B X1893 at_238 rfl (Ls' := #[.val (.int p0), .val (.long p1), .second, .val (.int p2), .val (.int p3), .val (.int qk), .val (.long qw), .second, .val (.int (1 : Int32)), .val (.int (ofs p0)), .val (.int qle), .val (.int qt), .val (.int (3 : Int32)), .val (.int (1 : Int32)), .val (.int (0 : Int32)), .val (.int (p0 ||| (-2147483648 : Int32))), .val (.ref a1801), .unset, .unset, .unset, .unset, .unset]) rfl (pc' := 240) rfl ?_
      refine gaload B X1893 at_240 rfl rfl (pc' := 242) rfl ?_
      refine giconst B X1893 at_242 (v := (0 : Int32)) rfl (pc' := 243) rfl ?_
      refine gbipush B X1893 at_243 (v := (57 : Int32)) rfl (pc' := 245) rfl ?_
      refine gbastore B X1893 (i := 0) (n := 18) A1895 rfl (by decide) rfl (vs' := [(.int (57 : Int32)), (.int (10 : Int32)), (.int (10 : Int32)), (.int (10 : Int32)), (.int (10 : Int32)), (.int (10 : Int32)), (.int (10 : Int32)), (.int (10 : Int32)), (.int (10 : Int32)), (.int (10 : Int32)), (.int (10 : Int32)), (.int (10 : Int32)), (.int (10 : Int32)), (.int (10 : Int32)), (.int (10 : Int32)), (.int (10 : Int32)), (.int (10 : Int32)), (.int (10 : Int32))]) rfl (Or.inr z_a1801) at_245 (pc' := 246) rfl fun T1896 h1897 X1898 W1899 A1900 => ?_
      refine gaload B X1898 at_246 rfl rfl (pc' := 248) rfl ?_
      refine giconst B X1898 at_248 (v := (1 : Int32)) rfl (pc' := 249) rfl ?_
      refine gbipush B X1898 at_249 (v := (57 : Int32)) rfl (pc' := 251) rfl ?_
      refine gbastore B X1898 (i := 1) (n := 18) A1900 rfl (by decide) rfl (vs' := [(.int (57 : Int32)), (.int (57 : Int32)), (.int (10 : Int32)), (.int (10 : Int32)), (.int (10 : Int32)), (.int (10 : Int32)), (.int (10 : Int32)), (.int (10 : Int32)), (.int (10 : Int32)), (.int (10 : Int32)), (.int (10 : Int32)), (.int (10 : Int32)), (.int (10 : Int32)), (.int (10 : Int32)), (.int (10 : Int32)), (.int (10 : Int32)), (.int (10 : Int32)), (.int (10 : Int32))]) rfl (Or.inr z_a1801) at_251 (pc' := 252) rfl fun T1901 h1902 X1903 W1904 A1905 => ?_
      refine gaload B X1903 at_252 rfl rfl (pc' := 254) rfl ?_
      refine giload B X1903 at_254 rfl (pc' := 256) rfl ?_
      refine giload B X1903 at_256 rfl (pc' := 258) rfl ?_
      refine gbastore B X1903 (i := 0) A1905 (n := 18) rfl (by decide) rfl (vs' := (([qle, 57, 10, 10, 10, 10, 10, 10, 10, 10, 10, 10, 10, 10, 10, 10, 10, 10] : List Int32).map Value.int)) (by rw [hle]; rfl) (Or.inr z_a1801) at_258 (pc' := 259) rfl fun T1906 h1907 X1908 W1909 A1910 => ?_
      refine giload B X1908 at_259 rfl (pc' := 261) rfl ?_
      refine giconst B X1908 at_261 (v := (1 : Int32)) rfl (pc' := 262) rfl ?_
      refine giadd B X1908 at_262 (v := (1 : Int32)) (by decide) (pc' := 263) rfl ?_
      refine gistore B X1908 at_263 (Ls' := #[.val (.int p0), .val (.long p1), .second, .val (.int p2), .val (.int p3), .val (.int qk), .val (.long qw), .second, .val (.int (1 : Int32)), .val (.int (ofs p0)), .val (.int qle), .val (.int qt), .val (.int (3 : Int32)), .val (.int (1 : Int32)), .val (.int (0 : Int32)), .val (.int (p0 ||| (-2147483648 : Int32))), .val (.ref a1801), .val (.int (1 : Int32)), .unset, .unset, .unset, .unset]) rfl (pc' := 265) rfl ?_
      refine giload B X1908 at_265 rfl (pc' := 267) rfl ?_
      have c267_1911 : ¬ ((1 : Int32) = (0 : Int32)) := (by decide)
      refine gifN B X1908 at_267 ((if0 _ _).trans (feq c267_1911).1) (pc' := 270) rfl ?_
      refine gaload B X1908 at_270 rfl rfl (pc' := 272) rfl ?_
      refine giload B X1908 at_272 rfl (pc' := 274) rfl ?_
      refine gbipush B X1908 at_274 (v := (45 : Int32)) rfl (pc' := 276) rfl ?_
      refine gbastore B X1908 (i := 1) A1910 (n := 18) rfl (by decide) rfl (vs' := (([qle, 45, 10, 10, 10, 10, 10, 10, 10, 10, 10, 10, 10, 10, 10, 10, 10, 10] : List Int32).map Value.int)) (rfl) (Or.inr z_a1801) at_276 (pc' := 277) rfl fun T1912 h1913 X1914 W1915 A1916 => ?_
      refine giload B X1914 at_277 rfl (pc' := 279) rfl ?_
      refine giconst B X1914 at_279 (v := (1 : Int32)) rfl (pc' := 280) rfl ?_
      refine giadd B X1914 at_280 (v := (2 : Int32)) (by decide) (pc' := 281) rfl ?_
      refine gistore B X1914 at_281 (Ls' := #[.val (.int p0), .val (.long p1), .second, .val (.int p2), .val (.int p3), .val (.int qk), .val (.long qw), .second, .val (.int (1 : Int32)), .val (.int (ofs p0)), .val (.int qle), .val (.int qt), .val (.int (3 : Int32)), .val (.int (1 : Int32)), .val (.int (0 : Int32)), .val (.int (p0 ||| (-2147483648 : Int32))), .val (.ref a1801), .val (.int (2 : Int32)), .unset, .unset, .unset, .unset]) rfl (pc' := 283) rfl ?_
      have hL0 : ([qle, 45, 10, 10, 10, 10, 10, 10, 10, 10, 10, 10, 10, 10, 10, 10, 10, 10] : List Int32).length = 18 := rfl
      have ha0 : ([qle, 45, 10, 10, 10, 10, 10, 10, 10, 10, 10, 10, 10, 10, 10, 10, 10, 10] : List Int32).getD 0 0 = qle := rfl
      have hb0 : ([qle, 45, 10, 10, 10, 10, 10, 10, 10, 10, 10, 10, 10, 10, 10, 10, 10, 10] : List Int32).getD 1 0 = 45 := rfl
      generalize ([qle, 45, 10, 10, 10, 10, 10, 10, 10, 10, 10, 10, 10, 10, 10, 10, 10, 10] : List Int32) = bs0 at hL0 ha0 hb0 A1916
      have A1917 : VA Z h1913 a1801 .byte ((orec bs0 2 kN qw qt 0).map Value.int) := A1916
      refine gaload B X1914 at_283 rfl rfl (pc' := 285) rfl ?_
      refine giload B X1914 at_285 rfl (pc' := 287) rfl ?_
      refine giconst B X1914 at_287 (v := (0 : Int32)) rfl (pc' := 288) rfl ?_
      refine giload B X1914 at_288 rfl (pc' := 290) rfl ?_
      refine glload B X1914 at_290 rfl (pc' := 292) rfl ?_
      refine giload B X1914 at_292 rfl (pc' := 294) rfl ?_
      refine gcallS B X1914 (hw _ (List.mem_of_getElem? (i := 3) rfl)) (hw _ (List.mem_of_getElem? (i := 4) rfl)) (hw _ (List.mem_of_getElem? (i := 5) rfl)) (hw _ (List.mem_of_getElem? (i := 6) rfl)) (by decide) (mt1 l Z a0 hw a1801 (2 : Int32) (0 : Int32) qk qw qt (orec bs0 2 kN qw qt 0) 2 0 kN h1913 A1917 ((own_len ..).trans hL0) (by decide) (by decide) (by decide) (by decide) hk hk11 ht8) pd___BIIIJB_V rfl (argsL := [(.ref a1801), (.int (2 : Int32)), (.int (0 : Int32)), (.int qk), (.long qw), (.int qt)]) (st := []) rfl rfl (W := 0) (Nat.le_of_eq rfl) (by decide) (by decide) (by decide) (by decide) (allS (Or.inr z_a1801) all0) at_294 (pc' := 297) rfl fun T1918 h1919 v1920 X1921 K1922 Q1923 => ?_
      obtain ⟨rfl, A1924⟩ := Q1923
      have A1925 : VA Z h1919 a1801 .byte ((orec bs0 2 kN qw qt 1).map Value.int) := A1924
      show Go p e below _ _ _ _ T1918 (mkF m 297 #[.val (.int p0), .val (.long p1), .second, .val (.int p2), .val (.int p3), .val (.int qk), .val (.long qw), .second, .val (.int (1 : Int32)), .val (.int (ofs p0)), .val (.int qle), .val (.int qt), .val (.int (3 : Int32)), .val (.int (1 : Int32)), .val (.int (0 : Int32)), .val (.int (p0 ||| (-2147483648 : Int32))), .val (.ref a1801), .val (.int (2 : Int32)), .unset, .unset, .unset, .unset] [])
      refine gaload B X1921 at_297 rfl rfl (pc' := 299) rfl ?_
      refine giload B X1921 at_299 rfl (pc' := 301) rfl ?_
      refine giconst B X1921 at_301 (v := (1 : Int32)) rfl (pc' := 302) rfl ?_
      refine giload B X1921 at_302 rfl (pc' := 304) rfl ?_
      refine glload B X1921 at_304 rfl (pc' := 306) rfl ?_
      refine giload B X1921 at_306 rfl (pc' := 308) rfl ?_
      refine gcallS B X1921 (hw _ (List.mem_of_getElem? (i := 3) rfl)) (hw _ (List.mem_of_getElem? (i := 4) rfl)) (hw _ (List.mem_of_getElem? (i := 5) rfl)) (hw _ (List.mem_of_getElem? (i := 6) rfl)) (by decide) (mt1 l Z a0 hw a1801 (2 : Int32) (1 : Int32) qk qw qt (orec bs0 2 kN qw qt 1) 2 1 kN h1919 A1925 ((own_len ..).trans hL0) (by decide) (by decide) (by decide) (by decide) hk hk11 ht8) pd___BIIIJB_V rfl (argsL := [(.ref a1801), (.int (2 : Int32)), (.int (1 : Int32)), (.int qk), (.long qw), (.int qt)]) (st := []) rfl rfl (W := 0) (Nat.le_of_eq rfl) (by decide) (by decide) (by decide) (by decide) (allS (Or.inr z_a1801) all0) at_308 (pc' := 311) rfl fun T1926 h1927 v1928 X1929 K1930 Q1931 => ?_
      obtain ⟨rfl, A1932⟩ := Q1931
      have A1933 : VA Z h1927 a1801 .byte ((orec bs0 2 kN qw qt 2).map Value.int) := A1932
      show Go p e below _ _ _ _ T1926 (mkF m 311 #[.val (.int p0), .val (.long p1), .second, .val (.int p2), .val (.int p3), .val (.int qk), .val (.long qw), .second, .val (.int (1 : Int32)), .val (.int (ofs p0)), .val (.int qle), .val (.int qt), .val (.int (3 : Int32)), .val (.int (1 : Int32)), .val (.int (0 : Int32)), .val (.int (p0 ||| (-2147483648 : Int32))), .val (.ref a1801), .val (.int (2 : Int32)), .unset, .unset, .unset, .unset] [])
      refine gaload B X1929 at_311 rfl rfl (pc' := 313) rfl ?_
      refine giload B X1929 at_313 rfl (pc' := 315) rfl ?_
      refine giconst B X1929 at_315 (v := (2 : Int32)) rfl (pc' := 316) rfl ?_
      refine giload B X1929 at_316 rfl (pc' := 318) rfl ?_
      refine glload B X1929 at_318 rfl (pc' := 320) rfl ?_
      refine giload B X1929 at_320 rfl (pc' := 322) rfl ?_
      refine gcallS B X1929 (hw _ (List.mem_of_getElem? (i := 3) rfl)) (hw _ (List.mem_of_getElem? (i := 4) rfl)) (hw _ (List.mem_of_getElem? (i := 5) rfl)) (hw _ (List.mem_of_getElem? (i := 6) rfl)) (by decide) (mt1 l Z a0 hw a1801 (2 : Int32) (2 : Int32) qk qw qt (orec bs0 2 kN qw qt 2) 2 2 kN h1927 A1933 ((own_len ..).trans hL0) (by decide) (by decide) (by decide) (by decide) hk hk11 ht8) pd___BIIIJB_V rfl (argsL := [(.ref a1801), (.int (2 : Int32)), (.int (2 : Int32)), (.int qk), (.long qw), (.int qt)]) (st := []) rfl rfl (W := 0) (Nat.le_of_eq rfl) (by decide) (by decide) (by decide) (by decide) (allS (Or.inr z_a1801) all0) at_322 (pc' := 325) rfl fun T1934 h1935 v1936 X1937 K1938 Q1939 => ?_
      obtain ⟨rfl, A1940⟩ := Q1939
      have A1941 : VA Z h1935 a1801 .byte ((orec bs0 2 kN qw qt 3).map Value.int) := A1940
      show Go p e below _ _ _ _ T1934 (mkF m 325 #[.val (.int p0), .val (.long p1), .second, .val (.int p2), .val (.int p3), .val (.int qk), .val (.long qw), .second, .val (.int (1 : Int32)), .val (.int (ofs p0)), .val (.int qle), .val (.int qt), .val (.int (3 : Int32)), .val (.int (1 : Int32)), .val (.int (0 : Int32)), .val (.int (p0 ||| (-2147483648 : Int32))), .val (.ref a1801), .val (.int (2 : Int32)), .unset, .unset, .unset, .unset] [])
      refine gaload B X1937 at_325 rfl rfl (pc' := 327) rfl ?_
      refine giload B X1937 at_327 rfl (pc' := 329) rfl ?_
      refine giconst B X1937 at_329 (v := (3 : Int32)) rfl (pc' := 330) rfl ?_
      refine giload B X1937 at_330 rfl (pc' := 332) rfl ?_
      refine glload B X1937 at_332 rfl (pc' := 334) rfl ?_
      refine giload B X1937 at_334 rfl (pc' := 336) rfl ?_
      refine gcallS B X1937 (hw _ (List.mem_of_getElem? (i := 3) rfl)) (hw _ (List.mem_of_getElem? (i := 4) rfl)) (hw _ (List.mem_of_getElem? (i := 5) rfl)) (hw _ (List.mem_of_getElem? (i := 6) rfl)) (by decide) (mt1 l Z a0 hw a1801 (2 : Int32) (3 : Int32) qk qw qt (orec bs0 2 kN qw qt 3) 2 3 kN h1935 A1941 ((own_len ..).trans hL0) (by decide) (by decide) (by decide) (by decide) hk hk11 ht8) pd___BIIIJB_V rfl (argsL := [(.ref a1801), (.int (2 : Int32)), (.int (3 : Int32)), (.int qk), (.long qw), (.int qt)]) (st := []) rfl rfl (W := 0) (Nat.le_of_eq rfl) (by decide) (by decide) (by decide) (by decide) (allS (Or.inr z_a1801) all0) at_336 (pc' := 339) rfl fun T1942 h1943 v1944 X1945 K1946 Q1947 => ?_
      obtain ⟨rfl, A1948⟩ := Q1947
      have A1949 : VA Z h1943 a1801 .byte ((orec bs0 2 kN qw qt 4).map Value.int) := A1948
      show Go p e below _ _ _ _ T1942 (mkF m 339 #[.val (.int p0), .val (.long p1), .second, .val (.int p2), .val (.int p3), .val (.int qk), .val (.long qw), .second, .val (.int (1 : Int32)), .val (.int (ofs p0)), .val (.int qle), .val (.int qt), .val (.int (3 : Int32)), .val (.int (1 : Int32)), .val (.int (0 : Int32)), .val (.int (p0 ||| (-2147483648 : Int32))), .val (.ref a1801), .val (.int (2 : Int32)), .unset, .unset, .unset, .unset] [])
      refine gaload B X1945 at_339 rfl rfl (pc' := 341) rfl ?_
      refine giload B X1945 at_341 rfl (pc' := 343) rfl ?_
      refine giconst B X1945 at_343 (v := (4 : Int32)) rfl (pc' := 344) rfl ?_
      refine giload B X1945 at_344 rfl (pc' := 346) rfl ?_
      refine glload B X1945 at_346 rfl (pc' := 348) rfl ?_
      refine giload B X1945 at_348 rfl (pc' := 350) rfl ?_
      refine gcallS B X1945 (hw _ (List.mem_of_getElem? (i := 3) rfl)) (hw _ (List.mem_of_getElem? (i := 4) rfl)) (hw _ (List.mem_of_getElem? (i := 5) rfl)) (hw _ (List.mem_of_getElem? (i := 6) rfl)) (by decide) (mt1 l Z a0 hw a1801 (2 : Int32) (4 : Int32) qk qw qt (orec bs0 2 kN qw qt 4) 2 4 kN h1943 A1949 ((own_len ..).trans hL0) (by decide) (by decide) (by decide) (by decide) hk hk11 ht8) pd___BIIIJB_V rfl (argsL := [(.ref a1801), (.int (2 : Int32)), (.int (4 : Int32)), (.int qk), (.long qw), (.int qt)]) (st := []) rfl rfl (W := 0) (Nat.le_of_eq rfl) (by decide) (by decide) (by decide) (by decide) (allS (Or.inr z_a1801) all0) at_350 (pc' := 353) rfl fun T1950 h1951 v1952 X1953 K1954 Q1955 => ?_
      obtain ⟨rfl, A1956⟩ := Q1955
      have A1957 : VA Z h1951 a1801 .byte ((orec bs0 2 kN qw qt 5).map Value.int) := A1956
      show Go p e below _ _ _ _ T1950 (mkF m 353 #[.val (.int p0), .val (.long p1), .second, .val (.int p2), .val (.int p3), .val (.int qk), .val (.long qw), .second, .val (.int (1 : Int32)), .val (.int (ofs p0)), .val (.int qle), .val (.int qt), .val (.int (3 : Int32)), .val (.int (1 : Int32)), .val (.int (0 : Int32)), .val (.int (p0 ||| (-2147483648 : Int32))), .val (.ref a1801), .val (.int (2 : Int32)), .unset, .unset, .unset, .unset] [])
      refine gaload B X1953 at_353 rfl rfl (pc' := 355) rfl ?_
      refine giload B X1953 at_355 rfl (pc' := 357) rfl ?_
      refine giconst B X1953 at_357 (v := (5 : Int32)) rfl (pc' := 358) rfl ?_
      refine giload B X1953 at_358 rfl (pc' := 360) rfl ?_
      refine glload B X1953 at_360 rfl (pc' := 362) rfl ?_
      refine giload B X1953 at_362 rfl (pc' := 364) rfl ?_
      refine gcallS B X1953 (hw _ (List.mem_of_getElem? (i := 3) rfl)) (hw _ (List.mem_of_getElem? (i := 4) rfl)) (hw _ (List.mem_of_getElem? (i := 5) rfl)) (hw _ (List.mem_of_getElem? (i := 6) rfl)) (by decide) (mt1 l Z a0 hw a1801 (2 : Int32) (5 : Int32) qk qw qt (orec bs0 2 kN qw qt 5) 2 5 kN h1951 A1957 ((own_len ..).trans hL0) (by decide) (by decide) (by decide) (by decide) hk hk11 ht8) pd___BIIIJB_V rfl (argsL := [(.ref a1801), (.int (2 : Int32)), (.int (5 : Int32)), (.int qk), (.long qw), (.int qt)]) (st := []) rfl rfl (W := 0) (Nat.le_of_eq rfl) (by decide) (by decide) (by decide) (by decide) (allS (Or.inr z_a1801) all0) at_364 (pc' := 367) rfl fun T1958 h1959 v1960 X1961 K1962 Q1963 => ?_
      obtain ⟨rfl, A1964⟩ := Q1963
      have A1965 : VA Z h1959 a1801 .byte ((orec bs0 2 kN qw qt 6).map Value.int) := A1964
      show Go p e below _ _ _ _ T1958 (mkF m 367 #[.val (.int p0), .val (.long p1), .second, .val (.int p2), .val (.int p3), .val (.int qk), .val (.long qw), .second, .val (.int (1 : Int32)), .val (.int (ofs p0)), .val (.int qle), .val (.int qt), .val (.int (3 : Int32)), .val (.int (1 : Int32)), .val (.int (0 : Int32)), .val (.int (p0 ||| (-2147483648 : Int32))), .val (.ref a1801), .val (.int (2 : Int32)), .unset, .unset, .unset, .unset] [])
      refine gaload B X1961 at_367 rfl rfl (pc' := 369) rfl ?_
      refine giload B X1961 at_369 rfl (pc' := 371) rfl ?_
      refine gbipush B X1961 at_371 (v := (6 : Int32)) rfl (pc' := 373) rfl ?_
      refine giload B X1961 at_373 rfl (pc' := 375) rfl ?_
      refine glload B X1961 at_375 rfl (pc' := 377) rfl ?_
      refine giload B X1961 at_377 rfl (pc' := 379) rfl ?_
      refine gcallS B X1961 (hw _ (List.mem_of_getElem? (i := 3) rfl)) (hw _ (List.mem_of_getElem? (i := 4) rfl)) (hw _ (List.mem_of_getElem? (i := 5) rfl)) (hw _ (List.mem_of_getElem? (i := 6) rfl)) (by decide) (mt1 l Z a0 hw a1801 (2 : Int32) (6 : Int32) qk qw qt (orec bs0 2 kN qw qt 6) 2 6 kN h1959 A1965 ((own_len ..).trans hL0) (by decide) (by decide) (by decide) (by decide) hk hk11 ht8) pd___BIIIJB_V rfl (argsL := [(.ref a1801), (.int (2 : Int32)), (.int (6 : Int32)), (.int qk), (.long qw), (.int qt)]) (st := []) rfl rfl (W := 0) (Nat.le_of_eq rfl) (by decide) (by decide) (by decide) (by decide) (allS (Or.inr z_a1801) all0) at_379 (pc' := 382) rfl fun T1966 h1967 v1968 X1969 K1970 Q1971 => ?_
      obtain ⟨rfl, A1972⟩ := Q1971
      have A1973 : VA Z h1967 a1801 .byte ((orec bs0 2 kN qw qt 7).map Value.int) := A1972
      show Go p e below _ _ _ _ T1966 (mkF m 382 #[.val (.int p0), .val (.long p1), .second, .val (.int p2), .val (.int p3), .val (.int qk), .val (.long qw), .second, .val (.int (1 : Int32)), .val (.int (ofs p0)), .val (.int qle), .val (.int qt), .val (.int (3 : Int32)), .val (.int (1 : Int32)), .val (.int (0 : Int32)), .val (.int (p0 ||| (-2147483648 : Int32))), .val (.ref a1801), .val (.int (2 : Int32)), .unset, .unset, .unset, .unset] [])
      refine gaload B X1969 at_382 rfl rfl (pc' := 384) rfl ?_
      refine giload B X1969 at_384 rfl (pc' := 386) rfl ?_
      refine gbipush B X1969 at_386 (v := (7 : Int32)) rfl (pc' := 388) rfl ?_
      refine giload B X1969 at_388 rfl (pc' := 390) rfl ?_
      refine glload B X1969 at_390 rfl (pc' := 392) rfl ?_
      refine giload B X1969 at_392 rfl (pc' := 394) rfl ?_
      refine gcallS B X1969 (hw _ (List.mem_of_getElem? (i := 3) rfl)) (hw _ (List.mem_of_getElem? (i := 4) rfl)) (hw _ (List.mem_of_getElem? (i := 5) rfl)) (hw _ (List.mem_of_getElem? (i := 6) rfl)) (by decide) (mt1 l Z a0 hw a1801 (2 : Int32) (7 : Int32) qk qw qt (orec bs0 2 kN qw qt 7) 2 7 kN h1967 A1973 ((own_len ..).trans hL0) (by decide) (by decide) (by decide) (by decide) hk hk11 ht8) pd___BIIIJB_V rfl (argsL := [(.ref a1801), (.int (2 : Int32)), (.int (7 : Int32)), (.int qk), (.long qw), (.int qt)]) (st := []) rfl rfl (W := 0) (Nat.le_of_eq rfl) (by decide) (by decide) (by decide) (by decide) (allS (Or.inr z_a1801) all0) at_394 (pc' := 397) rfl fun T1974 h1975 v1976 X1977 K1978 Q1979 => ?_
      obtain ⟨rfl, A1980⟩ := Q1979
      have A1981 : VA Z h1975 a1801 .byte ((orec bs0 2 kN qw qt 8).map Value.int) := A1980
      show Go p e below _ _ _ _ T1974 (mkF m 397 #[.val (.int p0), .val (.long p1), .second, .val (.int p2), .val (.int p3), .val (.int qk), .val (.long qw), .second, .val (.int (1 : Int32)), .val (.int (ofs p0)), .val (.int qle), .val (.int qt), .val (.int (3 : Int32)), .val (.int (1 : Int32)), .val (.int (0 : Int32)), .val (.int (p0 ||| (-2147483648 : Int32))), .val (.ref a1801), .val (.int (2 : Int32)), .unset, .unset, .unset, .unset] [])
      refine gaload B X1977 at_397 rfl rfl (pc' := 399) rfl ?_
      refine giload B X1977 at_399 rfl (pc' := 401) rfl ?_
      refine gbipush B X1977 at_401 (v := (8 : Int32)) rfl (pc' := 403) rfl ?_
      refine giload B X1977 at_403 rfl (pc' := 405) rfl ?_
      refine glload B X1977 at_405 rfl (pc' := 407) rfl ?_
      refine giload B X1977 at_407 rfl (pc' := 409) rfl ?_
      refine gcallS B X1977 (hw _ (List.mem_of_getElem? (i := 3) rfl)) (hw _ (List.mem_of_getElem? (i := 4) rfl)) (hw _ (List.mem_of_getElem? (i := 5) rfl)) (hw _ (List.mem_of_getElem? (i := 6) rfl)) (by decide) (mt1 l Z a0 hw a1801 (2 : Int32) (8 : Int32) qk qw qt (orec bs0 2 kN qw qt 8) 2 8 kN h1975 A1981 ((own_len ..).trans hL0) (by decide) (by decide) (by decide) (by decide) hk hk11 ht8) pd___BIIIJB_V rfl (argsL := [(.ref a1801), (.int (2 : Int32)), (.int (8 : Int32)), (.int qk), (.long qw), (.int qt)]) (st := []) rfl rfl (W := 0) (Nat.le_of_eq rfl) (by decide) (by decide) (by decide) (by decide) (allS (Or.inr z_a1801) all0) at_409 (pc' := 412) rfl fun T1982 h1983 v1984 X1985 K1986 Q1987 => ?_
      obtain ⟨rfl, A1988⟩ := Q1987
      have A1989 : VA Z h1983 a1801 .byte ((orec bs0 2 kN qw qt 9).map Value.int) := A1988
      show Go p e below _ _ _ _ T1982 (mkF m 412 #[.val (.int p0), .val (.long p1), .second, .val (.int p2), .val (.int p3), .val (.int qk), .val (.long qw), .second, .val (.int (1 : Int32)), .val (.int (ofs p0)), .val (.int qle), .val (.int qt), .val (.int (3 : Int32)), .val (.int (1 : Int32)), .val (.int (0 : Int32)), .val (.int (p0 ||| (-2147483648 : Int32))), .val (.ref a1801), .val (.int (2 : Int32)), .unset, .unset, .unset, .unset] [])
      refine gaload B X1985 at_412 rfl rfl (pc' := 414) rfl ?_
      refine giload B X1985 at_414 rfl (pc' := 416) rfl ?_
      refine gbipush B X1985 at_416 (v := (9 : Int32)) rfl (pc' := 418) rfl ?_
      refine giload B X1985 at_418 rfl (pc' := 420) rfl ?_
      refine glload B X1985 at_420 rfl (pc' := 422) rfl ?_
      refine giload B X1985 at_422 rfl (pc' := 424) rfl ?_
      refine gcallS B X1985 (hw _ (List.mem_of_getElem? (i := 3) rfl)) (hw _ (List.mem_of_getElem? (i := 4) rfl)) (hw _ (List.mem_of_getElem? (i := 5) rfl)) (hw _ (List.mem_of_getElem? (i := 6) rfl)) (by decide) (mt1 l Z a0 hw a1801 (2 : Int32) (9 : Int32) qk qw qt (orec bs0 2 kN qw qt 9) 2 9 kN h1983 A1989 ((own_len ..).trans hL0) (by decide) (by decide) (by decide) (by decide) hk hk11 ht8) pd___BIIIJB_V rfl (argsL := [(.ref a1801), (.int (2 : Int32)), (.int (9 : Int32)), (.int qk), (.long qw), (.int qt)]) (st := []) rfl rfl (W := 0) (Nat.le_of_eq rfl) (by decide) (by decide) (by decide) (by decide) (allS (Or.inr z_a1801) all0) at_424 (pc' := 427) rfl fun T1990 h1991 v1992 X1993 K1994 Q1995 => ?_
      obtain ⟨rfl, A1996⟩ := Q1995
      have A1997 : VA Z h1991 a1801 .byte ((orec bs0 2 kN qw qt 10).map Value.int) := A1996
      show Go p e below _ _ _ _ T1990 (mkF m 427 #[.val (.int p0), .val (.long p1), .second, .val (.int p2), .val (.int p3), .val (.int qk), .val (.long qw), .second, .val (.int (1 : Int32)), .val (.int (ofs p0)), .val (.int qle), .val (.int qt), .val (.int (3 : Int32)), .val (.int (1 : Int32)), .val (.int (0 : Int32)), .val (.int (p0 ||| (-2147483648 : Int32))), .val (.ref a1801), .val (.int (2 : Int32)), .unset, .unset, .unset, .unset] [])
      refine gaload B X1993 at_427 rfl rfl (pc' := 429) rfl ?_
      refine giload B X1993 at_429 rfl (pc' := 431) rfl ?_
      refine gbipush B X1993 at_431 (v := (10 : Int32)) rfl (pc' := 433) rfl ?_
      refine giload B X1993 at_433 rfl (pc' := 435) rfl ?_
      refine glload B X1993 at_435 rfl (pc' := 437) rfl ?_
      refine giload B X1993 at_437 rfl (pc' := 439) rfl ?_
      refine gcallS B X1993 (hw _ (List.mem_of_getElem? (i := 3) rfl)) (hw _ (List.mem_of_getElem? (i := 4) rfl)) (hw _ (List.mem_of_getElem? (i := 5) rfl)) (hw _ (List.mem_of_getElem? (i := 6) rfl)) (by decide) (mt1 l Z a0 hw a1801 (2 : Int32) (10 : Int32) qk qw qt (orec bs0 2 kN qw qt 10) 2 10 kN h1991 A1997 ((own_len ..).trans hL0) (by decide) (by decide) (by decide) (by decide) hk hk11 ht8) pd___BIIIJB_V rfl (argsL := [(.ref a1801), (.int (2 : Int32)), (.int (10 : Int32)), (.int qk), (.long qw), (.int qt)]) (st := []) rfl rfl (W := 0) (Nat.le_of_eq rfl) (by decide) (by decide) (by decide) (by decide) (allS (Or.inr z_a1801) all0) at_439 (pc' := 442) rfl fun T1998 h1999 v2000 X2001 K2002 Q2003 => ?_
      obtain ⟨rfl, A2004⟩ := Q2003
      have A2005 : VA Z h1999 a1801 .byte ((orec bs0 2 kN qw qt 11).map Value.int) := A2004
      show Go p e below _ _ _ _ T1998 (mkF m 442 #[.val (.int p0), .val (.long p1), .second, .val (.int p2), .val (.int p3), .val (.int qk), .val (.long qw), .second, .val (.int (1 : Int32)), .val (.int (ofs p0)), .val (.int qle), .val (.int qt), .val (.int (3 : Int32)), .val (.int (1 : Int32)), .val (.int (0 : Int32)), .val (.int (p0 ||| (-2147483648 : Int32))), .val (.ref a1801), .val (.int (2 : Int32)), .unset, .unset, .unset, .unset] [])
      refine gaload B X2001 at_442 rfl rfl (pc' := 444) rfl ?_
      refine giload B X2001 at_444 rfl (pc' := 446) rfl ?_
      refine gbipush B X2001 at_446 (v := (11 : Int32)) rfl (pc' := 448) rfl ?_
      refine giload B X2001 at_448 rfl (pc' := 450) rfl ?_
      refine glload B X2001 at_450 rfl (pc' := 452) rfl ?_
      refine giload B X2001 at_452 rfl (pc' := 454) rfl ?_
      refine gcallS B X2001 (hw _ (List.mem_of_getElem? (i := 3) rfl)) (hw _ (List.mem_of_getElem? (i := 4) rfl)) (hw _ (List.mem_of_getElem? (i := 5) rfl)) (hw _ (List.mem_of_getElem? (i := 6) rfl)) (by decide) (mt1 l Z a0 hw a1801 (2 : Int32) (11 : Int32) qk qw qt (orec bs0 2 kN qw qt 11) 2 11 kN h1999 A2005 ((own_len ..).trans hL0) (by decide) (by decide) (by decide) (by decide) hk hk11 ht8) pd___BIIIJB_V rfl (argsL := [(.ref a1801), (.int (2 : Int32)), (.int (11 : Int32)), (.int qk), (.long qw), (.int qt)]) (st := []) rfl rfl (W := 0) (Nat.le_of_eq rfl) (by decide) (by decide) (by decide) (by decide) (allS (Or.inr z_a1801) all0) at_454 (pc' := 457) rfl fun T2006 h2007 v2008 X2009 K2010 Q2011 => ?_
      obtain ⟨rfl, A2012⟩ := Q2011
      have A2013 : VA Z h2007 a1801 .byte ((orec bs0 2 kN qw qt 12).map Value.int) := A2012
      show Go p e below _ _ _ _ T2006 (mkF m 457 #[.val (.int p0), .val (.long p1), .second, .val (.int p2), .val (.int p3), .val (.int qk), .val (.long qw), .second, .val (.int (1 : Int32)), .val (.int (ofs p0)), .val (.int qle), .val (.int qt), .val (.int (3 : Int32)), .val (.int (1 : Int32)), .val (.int (0 : Int32)), .val (.int (p0 ||| (-2147483648 : Int32))), .val (.ref a1801), .val (.int (2 : Int32)), .unset, .unset, .unset, .unset] [])
      refine giload B X2009 at_457 rfl (pc' := 459) rfl ?_
      have c459_2014 : ¬ ((1 : Int32) = (0 : Int32)) := (by decide)
      refine gifY B X2009 (pc' := 481) at_459 ((if0 _ _).trans (feq c459_2014).2) (by decide) ?_
      refine gldc2 B X2009 (v := (-1 : Int64)) (hw _ (List.mem_of_getElem? (i := 21) rfl)) at_481 (pc' := 484) rfl ?_
      refine glstore B X2009 at_484 (Ls' := #[.val (.int p0), .val (.long p1), .second, .val (.int p2), .val (.int p3), .val (.int qk), .val (.long qw), .second, .val (.int (1 : Int32)), .val (.int (ofs p0)), .val (.int qle), .val (.int qt), .val (.int (3 : Int32)), .val (.int (1 : Int32)), .val (.int (0 : Int32)), .val (.int (p0 ||| (-2147483648 : Int32))), .val (.ref a1801), .val (.int (2 : Int32)), .val (.long (-1 : Int64)), .second, .unset, .unset]) rfl (pc' := 486) rfl ?_
      refine ggoto B X2009 (pc' := 534) at_486 (by decide) ?_
      refine gaload B X2009 at_534 rfl rfl (pc' := 536) rfl ?_
      refine giload B X2009 at_536 rfl (pc' := 538) rfl ?_
      refine gcallS B X2009 (hw _ (List.mem_of_getElem? (i := 22) rfl)) (hw _ (List.mem_of_getElem? (i := 23) rfl)) (hw _ (List.mem_of_getElem? (i := 24) rfl)) (hw _ (List.mem_of_getElem? (i := 25) rfl)) (by decide) (mt3A l Z a0 hw a1801 (p0 ||| (-2147483648 : Int32)) (orec bs0 2 kN qw qt 12) h2007 A2013 (own_neg _)) pd___BI_J rfl (argsL := [(.ref a1801), (.int (p0 ||| (-2147483648 : Int32)))]) (st := []) rfl rfl (W := 0) (Nat.le_of_eq rfl) (by decide) (by decide) (by decide) (by decide) (fun x q => nomatch q) at_538 (pc' := 541) rfl (pureG rfl rfl fun T2015 X2016 => ?_)
      refine glload B X2016 at_541 rfl (pc' := 543) rfl ?_
      refine glcmp B X2016 at_543 (pc' := 544) rfl ?_
      have c544_2017 : (-1 : Int64) = (-1 : Int64) := rfl
      refine gifN B X2016 at_544 ((if0 _ _).trans (teq (((lw_eq (-1 : Int64) (-1 : Int64))).mpr c544_2017)).2) (pc' := 547) rfl ?_
      refine giconst B X2016 at_547 (v := (1 : Int32)) rfl (pc' := 548) rfl ?_
      refine ggoto B X2016 (pc' := 552) at_548 (by decide) ?_
      exact gretN B X2016 (z' := (1 : Int32)) (by simp) (rfl) at_552 (by decide) (by decide) (rfl)
set_option maxRecDepth 65536 in
set_option maxHeartbeats 4000000 in
theorem comes_1 {Post : Tables → Env → Array Value → State → Outcome → State → Prop} (hpost : ∀ tb e args s v u, (limb_1_1.after args s (.returned v) u = true ∧ limb_1_2.after args s (.returned v) u = true ∧ True) → FrameEnd s (.returned v) u (Jvm.fieldLocs frame_1_writes args s ++ Jvm.arrayLocs frame_1_arrays args s ++ Jvm.staticLocs frame_1_statics s) 32 384 → Post tb e args s (.returned v) u) :
    ArmFor flags0 classFile x code maxLocals ret World_1 tables_1 room_1 Calls_1 rest_1 Pre_1 Post := by
  intro l hfl _ _ p e ha hc hk s m args below hf hA hF happ hP
  obtain ⟨hcalls, hrest, hpre⟩ := hP
  obtain ⟨-, -, -, hnamed, -, -, -, hat⟩ := (Spec.applies_iff hf).mp happ
  obtain ⟨hg, hn⟩ := and_e (Cond.before_iff.mp (show (Jvm.Cond.and given_1 narrow_1).before args s = true from hpre))
  obtain ⟨g2, g3⟩ := and_e hg
  obtain ⟨g4, g5⟩ := and_e g3
  obtain ⟨g6, g7⟩ := and_e g5
  obtain ⟨g8, g9⟩ := and_e g7
  obtain ⟨w0, w1, w2, w3, rfl⟩ : ∃ w0 w1 w2 w3 : Value, args = #[w0, w1, w2, w3] := by
    have hs : args.size = 4 := by simpa [Cond.value, given_1] using g2
    obtain ⟨L⟩ := args
    match L, hs with
    | [w0, w1, w2, w3], _ => exact ⟨w0, w1, w2, w3, rfl⟩
  have hw := fun d (hd : d ∈ tables_1) => atoms_spec (ws := Jvm.Cond.code x code maxLocals ret :: tables_1) hat d (List.mem_cons_of_mem _ hd)
  obtain ⟨i0, ei0⟩ := is_v g4
  obtain rfl : w0 = (.int i0) := Option.some.inj ei0
  obtain ⟨i1, ei1⟩ := isL_v g6
  obtain rfl : w1 = (.long i1) := Option.some.inj ei1
  obtain ⟨i2, ei2⟩ := is_v g8
  obtain rfl : w2 = (.int i2) := Option.some.inj ei2
  obtain ⟨i3, ei3⟩ := is_v g9
  obtain rfl : w3 = (.int i3) := Option.some.inj ei3
  obtain ⟨n, o, h1, h2, h3, _, L, rfl, ⟨rfl, N, N2⟩, hq⟩ := mt0 l s _ hw i0 i1 i2 i3 s.heap tables_1 p e ha hc hk s m _ below hf ((Spec.applies_iff_loose hf).mp happ).1 ⟨rfl, State.Warmed39.refl s, rfl⟩ trivial
  refine ⟨n, _, h1, h2, h3, hpost _ _ _ _ _ _ ⟨Cond.after_iff.mpr rfl, Cond.after_iff.mpr (eq_i res_at (Term.int_eval (1)) rfl), trivial⟩ ⟨hq.1, hq.2.1, (hq.2.2.sift fun y hy => Or.inr ((N2 y hy).elim (fun z => nomatch z) id)).mono (by decide) (by decide)⟩⟩
theorem main_1_1 : Claimed_1_1 := comes_1 fun _ _ _ _ _ _ h hF => ⟨h.1, hF⟩
theorem main_1_2 : Claimed_1_2 := comes_1 fun _ _ _ _ _ _ h hF => ⟨h.2.1, hF⟩
end Jvm.Pilot.@@N@@
namespace Jvm.Pilot.@@N@@
open Jvm Jvm.ClassFile Sem Op Lib Jvm.Free Jvm.Stand Jvm.Pilot.@@N@@.Jvm.D
/-! MADE BY PROGRAM (witnessworld.py) out of the Statement's table words and the real class files: 11 classes; the members and pool entries that the words name. The judged class is class 1, her method 3. -/
namespace start1
open Jvm.ClassFile
def u (s : String) : CpInfo := .utf8 (stringToUtf16 s)
/-- a pool by its gaps: so many unusable entries, then the entry; so many at the end -/
def gap : Nat → List CpInfo → List CpInfo
  | 0, r => r
  | n + 1, r => .unusable :: gap n r
def poolList (es : List (Nat × CpInfo)) (last : Nat) : List CpInfo := es.foldr (fun e r => gap e.1 (e.2 :: r)) (gap last [])
def pool (es : List (Nat × CpInfo)) (last : Nat) : Array CpInfo := ⟨poolList es last⟩
def fileOf (pool : Array CpInfo) (this : Nat) (attrs : Array Attribute := #[]) (ms : Array MethodInfo := #[]) (fl : Nat := 33) (sup : Nat := 0) (ifs : Array Nat := #[]) (fds : Array FieldInfo := #[]) : ClassFile where
  minorVersion := 0
  majorVersion := 65
  constantPool := pool
  accessFlags := fl
  thisClass := this
  superClass := sup
  interfaces := ifs
  fields := fds
  methods := ms
  attributes := attrs
def plain (name : String) (sup : Option ClassId) : Class where
  name := name
  kind := .ordinary
  loader := none
  accessFlags := 33
  super := sup
  interfaces := #[]
  cf := none
  fields := #[]
  methods := #[]
  instanceTypes := #[]
  staticTypes := #[]
  resolved := #[]
  callSites := []
  init := .initialized
  statics := none
  mirror := none

def pool0 : Array CpInfo := pool [(5, u "<init>"), (0, u "()V"), (1, .class_ 10), (1, u "java/lang/Object")] 113

def k0m0 : Method := { name := "<init>", desc := "()V", sig := { parameters := [], returnType := none }, accessFlags := 1, code := none }
/-- java/lang/Object -/
def k0 : Class := { plain "java/lang/Object" none with
  accessFlags := 33
  interfaces := #[]
  cf := some (fileOf pool0 8 #[] #[{ accessFlags := 1, nameIndex := 5, descriptorIndex := 6, attributes := #[] }] 33 0 #[] #[])
  fields := #[]
  methods := #[k0m0]
  instanceTypes := #[]
  staticTypes := #[]
  resolved := Array.replicate 124 none
  statics := none }

def pool1 : Array CpInfo := pool [(2, .class_ 4), (1, u "java/lang/Object"), (0, u "<init>"), (0, u "()V"), (0, .long 10), (1, .long 100), (1, .long 1000), (1, .long 10000), (1, .long 100000), (1, .long 1000000), (1, .long 10000000), (1, .long 100000000), (1, .long 1000000000), (1, .long 10000000000), (1, .methodref 28 29), (0, .class_ 30), (0, .nameAndType 31 32), (0, u "com/example/nabu/nabu/protocol/PlainFieldsNumberPinLaw"), (0, u "pow10"), (0, u "(I)J"), (0, .integer 2147483647), (2, .long 9223372036854775807), (3, .integer 2147483648), (0, .methodref 28 42), (0, .nameAndType 43 44), (0, u "put"), (0, u "([BIIIJB)V"), (0, .long 18446744073709551615), (1, .long 4294967295), (1, .methodref 50 51), (0, .class_ 52), (0, .nameAndType 53 54), (0, u "com/example/nabu/nabu/protocol/PlainFields"), (0, u "number"), (0, u "([BI)J"), (3, u "law"), (0, u "(IJII)Z")] 4

def k1m0 : Method := { name := "<init>", desc := "()V", sig := { parameters := [], returnType := none }, accessFlags := 2, code := none }
def k1c1 : Code := { maxStack := 5, maxLocals := 2, code := method_2_code, exceptionTable := #[], attributes := #[] }
def k1m1 : Method := { name := "pow10", desc := "(I)J", sig := { parameters := [.int], returnType := some .long }, accessFlags := 10, code := some k1c1 }
def k1c2 : Code := { maxStack := 7, maxLocals := 7, code := method_3_code, exceptionTable := #[], attributes := #[] }
def k1m2 : Method := { name := "put", desc := "([BIIIJB)V", sig := { parameters := [(.array .byte), .int, .int, .int, .long, .byte], returnType := none }, accessFlags := 10, code := some k1c2 }
def k1c3 : Code := { maxStack := 7, maxLocals := 22, code := code, exceptionTable := #[], attributes := #[] }
def k1m3 : Method := { name := "law", desc := "(IJII)Z", sig := { parameters := [.int, .long, .int, .int], returnType := some .boolean }, accessFlags := 9, code := some k1c3 }
/-- com/example/nabu/nabu/protocol/PlainFieldsNumberPinLaw -/
def k1 : Class := { plain "com/example/nabu/nabu/protocol/PlainFieldsNumberPinLaw" (some 0) with
  accessFlags := 49
  interfaces := #[]
  cf := some (fileOf pool1 28 #[] #[{ accessFlags := 2, nameIndex := 5, descriptorIndex := 6, attributes := #[] }, { accessFlags := 10, nameIndex := 31, descriptorIndex := 32, attributes := #[] }, { accessFlags := 10, nameIndex := 43, descriptorIndex := 44, attributes := #[] }, { accessFlags := 9, nameIndex := 58, descriptorIndex := 59, attributes := #[] }] 49 2 #[] #[])
  fields := #[]
  methods := #[k1m0, k1m1, k1m2, k1m3]
  instanceTypes := #[]
  staticTypes := #[]
  resolved := Array.replicate 64 none
  statics := none }

def pool2 : Array CpInfo := pool [(2, .class_ 4), (1, u "java/lang/Object"), (0, u "<init>"), (0, u "()V"), (0, .class_ 8), (0, u "com/example/nabu/nabu/protocol/PlainFields"), (0, .long 18446744073709551615), (1, .long 4294967295), (1, u "NONE"), (0, u "J"), (1, u "MAX_DIGITS"), (0, u "I"), (6, u "number"), (0, u "([BI)J")] 9

def k2m0 : Method := { name := "<init>", desc := "()V", sig := { parameters := [], returnType := none }, accessFlags := 2, code := none }
def k2c1 : Code := { maxStack := 6, maxLocals := 7, code := prog_49_method_3_code, exceptionTable := #[], attributes := #[] }
def k2m1 : Method := { name := "number", desc := "([BI)J", sig := { parameters := [(.array .byte), .int], returnType := some .long }, accessFlags := 8, code := some k2c1 }
/-- com/example/nabu/nabu/protocol/PlainFields -/
def k2 : Class := { plain "com/example/nabu/nabu/protocol/PlainFields" (some 0) with
  accessFlags := 48
  interfaces := #[]
  cf := some (fileOf pool2 7 #[] #[{ accessFlags := 2, nameIndex := 5, descriptorIndex := 6, attributes := #[] }, { accessFlags := 8, nameIndex := 24, descriptorIndex := 25, attributes := #[] }] 48 2 #[] #[{ accessFlags := 24, nameIndex := 13, descriptorIndex := 14, attributes := #[] }, { accessFlags := 26, nameIndex := 16, descriptorIndex := 17, attributes := #[] }])
  fields := #[{ name := "NONE", type := .long, accessFlags := 24, slot := 0, constantValue := 0 }, { name := "MAX_DIGITS", type := .int, accessFlags := 26, slot := 1, constantValue := 0 }]
  methods := #[k2m0, k2m1]
  instanceTypes := #[]
  staticTypes := #[.long, .int]
  resolved := Array.replicate 35 none
  statics := none }

def pool3 : Array CpInfo := pool [(1, u "java/lang/Cloneable"), (0, .class_ 1), (0, u "java/lang/Object"), (0, .class_ 3)] 3

/-- java/lang/Cloneable -/
def k3 : Class := { plain "java/lang/Cloneable" (some 0) with
  accessFlags := 1537
  interfaces := #[]
  cf := some (fileOf pool3 2 #[] #[] 1537 4 #[] #[])
  fields := #[]
  methods := #[]
  instanceTypes := #[]
  staticTypes := #[]
  resolved := Array.replicate 8 none
  statics := none }

def pool4 : Array CpInfo := pool [(1, u "java/io/Serializable"), (0, .class_ 1), (0, u "java/lang/Object"), (0, .class_ 3)] 3

/-- java/io/Serializable -/
def k4 : Class := { plain "java/io/Serializable" (some 0) with
  accessFlags := 1537
  interfaces := #[]
  cf := some (fileOf pool4 2 #[] #[] 1537 4 #[] #[])
  fields := #[]
  methods := #[]
  instanceTypes := #[]
  staticTypes := #[]
  resolved := Array.replicate 8 none
  statics := none }

/-- the primitive byte -/
def k5 : Class := { plain "byte" none with kind := .primitive 'B', accessFlags := 0x411 }
/-- [B -/
def k6 : Class := { plain "[B" (some 0) with kind := .array 5 .byte, interfaces := #[3, 4], accessFlags := 1041 }

/-- the primitive int -/
def k7 : Class := { plain "int" none with kind := .primitive 'I', accessFlags := 0x411 }
/-- [I -/
def k8 : Class := { plain "[I" (some 0) with kind := .array 7 .int, interfaces := #[3, 4], accessFlags := 1041 }

/-- the primitive long -/
def k9 : Class := { plain "long" none with kind := .primitive 'J', accessFlags := 0x411 }
/-- [J -/
def k10 : Class := { plain "[J" (some 0) with kind := .array 9 .long, interfaces := #[3, 4], accessFlags := 1041 }

def heap : Heap := #[]
def classes : Array Class := #[k0, k1, k2, k3, k4, k5, k6, k7, k8, k9, k10]
def interned : List (Array UInt16 × Addr) := []
def slotsUsed : Nat := 0
def theMethod : MethodId := ⟨1, 3⟩
def args0 : Array Value := #[.int 5, .long 300, .int 7, .int 13]
def aboutOver (below : List Frame) : State where
  vm := { classes := classes, interned := interned.toArray }
  heap := heap
  slotsUsed := slotsUsed
  threads := #[{ frames := .invoking theMethod args0 :: below }]
def below0 : List Frame := [.native { method := ⟨0, 0⟩, args := #[] }]
def about1 : State := aboutOver below0
def p0 : Program := .bare "" "" ""
def e0 : Env := launch0.env 0 0 0
theorem w_frames : about1.frames = Frame.invoking theMethod args0 :: below0 := rfl
set_option maxRecDepth 65536 in
theorem w_args : argsFit about1.vm theMethod args0 = true := by decide +kernel
set_option maxRecDepth 65536 in
theorem w_heap : heapFits about1 = true := by decide +kernel
set_option maxRecDepth 65536 in
theorem w_runnable : about1.curStatus? = some .runnable := by decide +kernel
set_option maxRecDepth 65536 in
theorem w_alone : about1.alone = true := by decide +kernel
set_option maxRecDepth 65536 in
theorem w_named : about1.methodNamed? x = some theMethod := by decide +kernel
set_option maxRecDepth 65536 in
theorem w_hears : about1.hears theMethod below0 = true := by decide +kernel
set_option maxRecDepth 65536 in
theorem w_ripe : about1.ripe theMethod args0 below0 = true := by decide +kernel
theorem w_running : about1.status = .running := rfl
set_option maxRecDepth 65536 in
theorem w_room : about1.hasRoom e0.platform room_1 = true :=
  launch0.hasRoom_least _ room_1 (by decide +kernel) (by decide +kernel) (by decide +kernel) (by decide +kernel) (by decide +kernel) (by decide +kernel)
theorem allAtoms_all (ts : List Jvm.Cond) (a : Array Jvm.Value) (st : Jvm.State) : (allAtoms ts).before a st = ts.all (fun c => c.before a st) := by
  induction ts with
  | nil => rfl
  | cons c t ih =>
    show (Jvm.Cond.and c (allAtoms t)).before a st = _
    rw [Jvm.Cond.before_and, ih, List.all_cons]
def words1 : List Jvm.Cond := Jvm.Cond.code x code maxLocals ret :: tables_1
/-- a 'code' word, met by the world's own term for the bytes: nothing is compared byte by byte -/
theorem code_word {y : MethodName} {bytes : ByteArray} {mx : Nat} {rt : Option FieldType} {a : Array Value} {s : State} {m : MethodId} {meth : Method} {c : Code} (h1 : s.methodNamed? y = some m) (h2 : s.vm.method? m = some meth) (h3 : meth.code = some c) (h4 : c.code = bytes)
    (h5 : (c.maxLocals == mx && c.exceptionTable.isEmpty && decide (c.maxStack ≤ mostOperands) && decide (meth.sig.returnType = rt) && !meth.locks && decide (parseMethodDescriptor y.desc = some meth.sig)) = true) : (Jvm.Cond.code y bytes mx rt).before a s = true := by
  simp only [Bool.and_eq_true, beq_iff_eq, Bool.not_eq_true', decide_eq_true_eq] at h5
  obtain ⟨⟨⟨⟨⟨g1, g2⟩, g3⟩, g4⟩, g5⟩, g6⟩ := h5
  simp [Cond.before, Cond.holds, Cond.value, h1, h2, h3, h4, g1, g2, g3, g4, g5, g6]
def isCode : Jvm.Cond → Bool
  | .code _ _ _ _ => true
  | _ => false
theorem all_split {L : List Jvm.Cond} {P : Jvm.Cond → Bool} (h1 : L.all (fun c => isCode c || P c) = true) (h2 : ∀ c ∈ L.filter isCode, P c = true) : L.all P = true := by
  refine List.all_eq_true.mpr fun c hc => ?_
  have h := List.all_eq_true.mp h1 c hc
  rcases Bool.eq_false_or_eq_true (isCode c) with hi | hi
  · exact h2 c (List.mem_filter.mpr ⟨hc, hi⟩)
  · simpa [hi] using h
set_option maxRecDepth 65536 in
theorem w_c0 : (Jvm.Cond.code x code maxLocals ret).before args0 about1 = true := code_word (m := ⟨1, 3⟩) (meth := k1m3) (c := k1c3) (by decide +kernel) rfl rfl rfl (by decide +kernel)
set_option maxRecDepth 65536 in
theorem w_c1 : (Jvm.Cond.code ({ cls := "com/example/nabu/nabu/protocol/PlainFieldsNumberPinLaw", name := "put", desc := "([BIIIJB)V" } : Jvm.MethodName) method_3_code (7 : Nat) (Option.none : Option Jvm.ClassFile.FieldType)).before args0 about1 = true := code_word (m := ⟨1, 2⟩) (meth := k1m2) (c := k1c2) (by decide +kernel) rfl rfl rfl (by decide +kernel)
set_option maxRecDepth 65536 in
theorem w_c2 : (Jvm.Cond.code ({ cls := "com/example/nabu/nabu/protocol/PlainFieldsNumberPinLaw", name := "pow10", desc := "(I)J" } : Jvm.MethodName) method_2_code (2 : Nat) (Option.some Jvm.ClassFile.FieldType.long)).before args0 about1 = true := code_word (m := ⟨1, 1⟩) (meth := k1m1) (c := k1c1) (by decide +kernel) rfl rfl rfl (by decide +kernel)
set_option maxRecDepth 65536 in
theorem w_c3 : (Jvm.Cond.code ({ cls := "com/example/nabu/nabu/protocol/PlainFields", name := "number", desc := "([BI)J" } : Jvm.MethodName) prog_49_method_3_code (7 : Nat) (Option.some Jvm.ClassFile.FieldType.long)).before args0 about1 = true := code_word (m := ⟨2, 1⟩) (meth := k2m1) (c := k2c1) (by decide +kernel) rfl rfl rfl (by decide +kernel)
def codes1 : List Jvm.Cond := [Jvm.Cond.code x code maxLocals ret, Jvm.Cond.code ({ cls := "com/example/nabu/nabu/protocol/PlainFieldsNumberPinLaw", name := "put", desc := "([BIIIJB)V" } : Jvm.MethodName) method_3_code (7 : Nat) (Option.none : Option Jvm.ClassFile.FieldType), Jvm.Cond.code ({ cls := "com/example/nabu/nabu/protocol/PlainFieldsNumberPinLaw", name := "pow10", desc := "(I)J" } : Jvm.MethodName) method_2_code (2 : Nat) (Option.some Jvm.ClassFile.FieldType.long), Jvm.Cond.code ({ cls := "com/example/nabu/nabu/protocol/PlainFields", name := "number", desc := "([BI)J" } : Jvm.MethodName) prog_49_method_3_code (7 : Nat) (Option.some Jvm.ClassFile.FieldType.long)]
set_option maxRecDepth 65536 in
theorem codes_eq : words1.filter isCode = codes1 := rfl
theorem w_codes : ∀ c ∈ words1.filter isCode, c.before args0 about1 = true := by
  rw [codes_eq]
  intro c hc
  simp only [codes1, List.mem_cons, List.not_mem_nil, or_false] at hc
  rcases hc with rfl | rfl | rfl | rfl
  · exact w_c0
  · exact w_c1
  · exact w_c2
  · exact w_c3
set_option maxRecDepth 65536 in
theorem w_t1 : (words1.take 24).all (fun c => isCode c || c.before args0 about1) = true := by decide +kernel
set_option maxRecDepth 65536 in
theorem w_t2 : (words1.drop 24).all (fun c => isCode c || c.before args0 about1) = true := by decide +kernel
theorem w_tables : (allAtoms (Jvm.Cond.code x code maxLocals ret :: tables_1)).before args0 about1 = true := by
  rw [allAtoms_all]
  show words1.all (fun c => c.before args0 about1) = true
  refine all_split ?_ w_codes
  rw [← List.take_append_drop 24 words1, List.all_append, w_t1, w_t2]
  rfl
set_option maxRecDepth 65536 in
theorem w_case : (Jvm.Cond.and given_1 narrow_1).before args0 about1 = true := by decide +kernel
theorem w_applies : (headSpec (Jvm.Cond.code x code maxLocals ret :: tables_1) room_1).applies x e0.platform about1 = true :=
  (Spec.applies_iff w_frames).mpr ⟨w_running, w_runnable, w_alone, w_named, w_hears, w_ripe, w_room, w_tables⟩
theorem atStart : AtStart classFile x code maxLocals ret World_1 tables_1 room_1 Calls_1 rest_1 Pre_1 launch0 p0 e0 about1 theMethod args0 below0 :=
  ⟨lists_1, trivial, launch0.admits_env _ _ _, launch0.least_env, fairChoices_fair.cas, fairChoices_fair.clock, w_frames, w_args, w_heap, w_applies, trivial, trivial, w_case⟩
end start1
theorem witness_1 : WitnessClaimed_1 := ⟨start1.p0, start1.e0, start1.about1, start1.theMethod, start1.args0, start1.below0, start1.atStart⟩
end Jvm.Pilot.@@N@@
