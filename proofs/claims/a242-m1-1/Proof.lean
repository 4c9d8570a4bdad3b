import JvmDerived
import JvmDerived.Pilot.@@N@@Statement
import JvmDerived.Pilot.@@N@@Code
set_option linter.unusedVariables false
set_option linter.unusedSimpArgs false
namespace Jvm.OwnKit
open Sem ClassFile Op Lib Jvm.Stand Jvm.Free Jvm.LawKit Jvm.RoadKit
/-- every written place is one of ws or new -/
def FrW (h0 : Heap) (ws : List Addr) (L : List Loc) : Prop := ∀ y ∈ L, y.base ∈ ws ∨ h0.size ≤ y.base
/-- what stays fixed while a body runs -/
def Fix (p : Program) (Z s : State) (m : MethodId) (meth : Method) (c : Code) (bytes : ByteArray) (maxL : Nat) (own nm : String) (ret : Option FieldType) : Prop :=
  p.tables.exec = Jvm.exec ∧ Z.Warmed39 s.vm ∧ c.code = bytes ∧ c.maxLocals = maxL ∧ s.vm.findClass own = some m.cls ∧ meth.name = nm ∧ meth.sig.returnType = ret ∧ meth.locks = false
/-- where the run stands: its heap h, what was kept since h0 -/
def St (p : Program) (l : Launch) (e : Env) (R : Room) (s : State) (m : MethodId) (args : Array Value) (below : List Frame) (meth : Method) (c : Code) (h0 : Heap) (ws : List Addr) (T : State) (h : Heap) (cells slots : Nat) : Prop :=
  ∃ locs, Stand p l e R s m args below meth c T locs cells slots ∧ T.heap = h ∧ Keep h0 h ws ∧ FrW h0 ws locs
/-- from T with the top frame f the body comes to its end, and Q holds there -/
def Go (p : Program) (e : Env) (below : List Frame) (s : State) (K N : Nat) (h0 : Heap) (ws : List Addr) (Q : Option Value → Heap → Prop) (T : State) (f : JFrame) : Prop :=
  ∃ t o, Steps p.tables e below (T.setTop f) t ∧ t.status = .running ∧ Ended t below o ∧ ∃ v L, o = .returned v ∧ (Q v t.heap ∧ Keep h0 t.heap ws ∧ FrW h0 ws L) ∧ FrameEnd s o t L K N
/-- a method's contract: called with as' at the heap h0 it returns, writes ws and new cells alone, and Q holds -/
def Meth (l : Launch) (Z : State) (y : MethodName) (bytes : ByteArray) (maxL : Nat) (ret : Option FieldType) (rm : Room) (as' : Array Value) (h0 : Heap) (ws : List Addr) (Q : Option Value → Heap → Prop) : Prop :=
  ∀ wl, MetFree l y (head1 (Cond.code y bytes maxL ret :: wl) rm) (fun a U => a = as' ∧ Z.Warmed39 U.vm ∧ U.heap = h0) (fun _ _ _ _ _ => True) (fun _ U o U' => ∃ v L, o = .returned v ∧ (Q v U'.heap ∧ Keep h0 U'.heap ws ∧ FrW h0 ws L) ∧ FrameEnd U o U' L rm.cells rm.slots)
/-- an array of the kind ty that holds vs -/
def VA (Z : State) (h : Heap) (a : Addr) (ty : FieldType) (vs : List Value) : Prop := ∃ c : Cell, Arr Z h a c ty ∧ c.slots = vs.toArray ∧ vs.length < 2 ^ 31
section Arrays
variable {Z : State} {h h' : Heap} {a b : Addr} {ty : FieldType} {vs : List Value} {sl : Nat} {v : Value} {ws : List Addr}
theorem VA.lt (F : VA Z h a ty vs) : a < h.size := by obtain ⟨c, A, -⟩ := F; exact A.lt
theorem VA.ext (F : VA Z h a ty vs) (E : Ext h h') : VA Z h' a ty vs := by obtain ⟨c, A, r⟩ := F; exact ⟨c, A.ext E, r⟩
theorem VA.other (F : VA Z h b ty vs) (W : Wr h h' a sl v) (q : b ≠ a) : VA Z h' b ty vs := by obtain ⟨c, A, r⟩ := F; exact ⟨c, A.other W q, r⟩
theorem VA.keep (F : VA Z h a ty vs) (K : Keep h h' ws) (q : a ∉ ws) : VA Z h' a ty vs := by obtain ⟨c, A, r⟩ := F; exact ⟨c, ⟨K.2.1 a c A.1 q, A.2⟩, r⟩
theorem VA.set (F : VA Z h a ty vs) (W : Wr h h' a sl v) : VA Z h' a ty (vs.set sl v) := by
  obtain ⟨c, A, r, n⟩ := F
  refine ⟨_, A.same W, ?_, by simpa using n⟩
  show c.slots.setIfInBounds sl v = _
  rw [r]; simp
theorem VA.new {k : ClassId} {n : Int32} (A : Arr Z h a (newA k ty n) ty) (q : ¬ n < 0) : VA Z h a ty (List.replicate n.toNatClampNeg (defaultValue ty)) :=
  ⟨_, A, by simp [newA], by rw [List.length_replicate]; exact (back32 q).2⟩
theorem VA.len31 (F : VA Z h a ty vs) : vs.length < 2 ^ 31 := by obtain ⟨c, A, r, n⟩ := F; exact n
theorem inb {n : Nat} {j : Int32} (hj : 0 ≤ j.toInt ∧ j.toInt < n) : ¬ (j < 0 ∨ n ≤ j.toNatClampNeg) := by
  simp only [Int32.lt_iff_toInt_lt, Int32.toNatClampNeg, Int32.reduceToInt]; omega
theorem own_at {xs : List Int32} {j : Nat} (hj : j < xs.length) : (xs.map Value.int)[j]? = some (.int (xs.getD j 0)) := by
  simp [List.getElem?_eq_getElem hj]
theorem own_atL {xs : List Int64} {j : Nat} (hj : j < xs.length) : (xs.map Value.long)[j]? = some (.long (xs.getD j 0)) := by
  simp [List.getElem?_eq_getElem hj]
theorem own_set (xs : List Int32) (i : Nat) (v : Int32) : (xs.map Value.int).set i (.int v) = (xs.set i v).map Value.int := by simp [List.map_set]
theorem own_setL (xs : List Int64) (i : Nat) (v : Int64) : (xs.map Value.long).set i (.long v) = (xs.set i v).map Value.long := by simp [List.map_set]
theorem own_nat {j : Int32} {n : Nat} (h : 0 ≤ j.toInt ∧ j.toInt < n) : j.toNatClampNeg < n := by simp only [Int32.toNatClampNeg]; omega
end Arrays
section Go
variable {p : Program} {l : Launch} {e : Env} {R : Room} {s : State} {m : MethodId} {args : Array Value} {below : List Frame} {meth : Method} {c : Code} {Z : State} {bytes : ByteArray} {maxL : Nat} {own nm : String} {ret : Option FieldType} {h0 : Heap} {ws : List Addr} {T T' : State} {locs : List Loc} {h : Heap} {cells slots K N : Nat} {Q : Option Value → Heap → Prop} {pc pc' : Nat} {Ls Ls' : Array Slot} {st : List Value} {a0 : Array Value}
theorem Go.to {f f' : JFrame} (k : ∀ t, Steps p.tables e below (T'.setTop f') t → Steps p.tables e below (T.setTop f) t) (g : Go p e below s K N h0 ws Q T' f') : Go p e below s K N h0 ws Q T f := by
  obtain ⟨t, o, a, r⟩ := g; exact ⟨t, o, k t a, r⟩
theorem Go.mono {Q' : Option Value → Heap → Prop} {f : JFrame} (g : Go p e below s K N h0 ws Q T f) (hq : ∀ v h, Q v h → Q' v h) : Go p e below s K N h0 ws Q' T f := by
  obtain ⟨t, o, a, b, d, v, L, e1, ⟨q, r⟩, z⟩ := g; exact ⟨t, o, a, b, d, v, L, e1, ⟨hq _ _ q, r⟩, z⟩
theorem Go.entry {f f' : JFrame} (q : f = f') (g : Go p e below s K N h0 ws Q T f') : Go p e below s K N h0 ws Q T f := q ▸ g
theorem St.more (X : St p l e R s m args below meth c h0 ws T h cells slots) {cells' slots' : Nat} (h1 : cells ≤ cells') (h2 : slots ≤ slots') : St p l e R s m args below meth c h0 ws T h cells' slots' := by
  obtain ⟨L, X, r⟩ := X; exact ⟨L, X.more h1 h2, r⟩
theorem St.kept (X : St p l e R s m args below meth c h0 ws T h cells slots) : Keep h0 h ws := by obtain ⟨L, X, e1, k, f⟩ := X; exact k
theorem St.here (X : St p l e R s m args below meth c h0 ws T h cells slots) : At T m c below := by obtain ⟨L, X, r⟩ := X; exact X.here
theorem Meth.mono {y : MethodName} {rm : Room} {as' : Array Value} {Q' : Option Value → Heap → Prop} (M : Meth l Z y bytes maxL ret rm as' h0 ws Q) (hq : ∀ v h, Q v h → Q' v h) : Meth l Z y bytes maxL ret rm as' h0 ws Q' := by
  intro wl p e ha hc hk s m args below hf happ hP hK
  obtain ⟨n, o, a, b, d, v, L, e1, ⟨q, r⟩, z⟩ := M wl p e ha hc hk s m args below hf happ hP hK
  exact ⟨n, o, a, b, d, v, L, e1, ⟨hq _ _ q, r⟩, z⟩
theorem Meth.of {y : MethodName} {rm : Room} {as' : Array Value} (hpl : plainFor y = true)
    (body : ∀ (p : Program) (e : Env) (s : State) (m : MethodId) (below : List Frame) (meth : Method) (c : Code) (T : State), Fix p Z s m meth c bytes maxL y.cls y.name ret → St p l e rm s m as' below meth c h0 ws T h0 0 0 → Go p e below s rm.cells rm.slots h0 ws Q T (entryFrame m as' maxL)) :
    Meth l Z y bytes maxL ret rm as' h0 ws Q := by
  intro wl
  refine MetFree.of_bodySF hpl hisR ?_
  intro p e s m args below meth c s₁ Bd hml0 hP hK
  obtain ⟨rfl, hZ, hh⟩ := hP
  have X0 : Stand p l e rm s m _ below meth c s₁ [] 0 0 := Stand.of_body Bd
  have e0 : s₁.heap = h0 := by rw [← hh, Bd.state]; rfl
  exact body p e s m below meth c s₁ ⟨Bd.exec, hZ, Bd.bytes, hml0, findClass_of_methodNamed Bd.named, (name_of_methodNamed Bd.named Bd.method).1, Bd.returns, Bd.notSynchronized⟩ ⟨[], X0, e0, Keep.refl _ _, fun y hy => nomatch hy⟩

theorem giload (B : Fix p Z s m meth c bytes maxL own nm ret) (X : St p l e R s m args below meth c h0 ws T h cells slots) {k : Nat} {v : Int32} (hd : decode bytes pc = .ok (.iload k, 2)) (hl : Ls[k]? = some (.val (.int v))) (hp : pc' = pc + 2) (g : Go p e below s K N h0 ws Q T (mkF m pc' Ls (.int v :: st))) : Go p e below s K N h0 ws Q T (mkF m pc Ls st) := by
  subst hp; obtain ⟨L, X, -⟩ := X; exact Go.to (fun t k => XS.iload X.here B.1 rfl (hb B.2.2.1 hd) hl k) g
theorem giloadN (B : Fix p Z s m meth c bytes maxL own nm ret) (X : St p l e R s m args below meth c h0 ws T h cells slots) {k : Fin 4} {v : Int32} (hd : decode bytes pc = .ok (.iload_n k, 1)) (hl : Ls[k.val]? = some (.val (.int v))) (hp : pc' = pc + 1) (g : Go p e below s K N h0 ws Q T (mkF m pc' Ls (.int v :: st))) : Go p e below s K N h0 ws Q T (mkF m pc Ls st) := by
  subst hp; obtain ⟨L, X, -⟩ := X; exact Go.to (fun t k => XS.iloadN X.here B.1 rfl (hb B.2.2.1 hd) hl k) g
theorem gistore (B : Fix p Z s m meth c bytes maxL own nm ret) (X : St p l e R s m args below meth c h0 ws T h cells slots) {k : Nat} {v : Int32} (hd : decode bytes pc = .ok (.istore k, 2)) (hl : storeLocals Ls k (.int v) = some Ls') (hp : pc' = pc + 2) (g : Go p e below s K N h0 ws Q T (mkF m pc' Ls' st)) : Go p e below s K N h0 ws Q T (mkF m pc Ls (.int v :: st)) := by
  subst hp; obtain ⟨L, X, -⟩ := X; exact Go.to (fun t k => XS.istore X.here B.1 rfl (hb B.2.2.1 hd) rfl hl k) g
theorem gistoreN (B : Fix p Z s m meth c bytes maxL own nm ret) (X : St p l e R s m args below meth c h0 ws T h cells slots) {k : Fin 4} {v : Int32} (hd : decode bytes pc = .ok (.istore_n k, 1)) (hl : storeLocals Ls k.val (.int v) = some Ls') (hp : pc' = pc + 1) (g : Go p e below s K N h0 ws Q T (mkF m pc' Ls' st)) : Go p e below s K N h0 ws Q T (mkF m pc Ls (.int v :: st)) := by
  subst hp; obtain ⟨L, X, -⟩ := X; exact Go.to (fun t k => XS.istoreN X.here B.1 rfl (hb B.2.2.1 hd) rfl hl k) g
theorem glload (B : Fix p Z s m meth c bytes maxL own nm ret) (X : St p l e R s m args below meth c h0 ws T h cells slots) {k : Nat} {v : Int64} (hd : decode bytes pc = .ok (.lload k, 2)) (hl : Ls[k]? = some (.val (.long v))) (hp : pc' = pc + 2) (g : Go p e below s K N h0 ws Q T (mkF m pc' Ls (.long v :: st))) : Go p e below s K N h0 ws Q T (mkF m pc Ls st) := by
  subst hp; obtain ⟨L, X, -⟩ := X; exact Go.to (fun t k => XS.lload X.here B.1 rfl (hb B.2.2.1 hd) hl k) g
theorem glloadN (B : Fix p Z s m meth c bytes maxL own nm ret) (X : St p l e R s m args below meth c h0 ws T h cells slots) {k : Fin 4} {v : Int64} (hd : decode bytes pc = .ok (.lload_n k, 1)) (hl : Ls[k.val]? = some (.val (.long v))) (hp : pc' = pc + 1) (g : Go p e below s K N h0 ws Q T (mkF m pc' Ls (.long v :: st))) : Go p e below s K N h0 ws Q T (mkF m pc Ls st) := by
  subst hp; obtain ⟨L, X, -⟩ := X; exact Go.to (fun t k => XS.lloadN X.here B.1 rfl (hb B.2.2.1 hd) hl k) g
theorem glstore (B : Fix p Z s m meth c bytes maxL own nm ret) (X : St p l e R s m args below meth c h0 ws T h cells slots) {k : Nat} {v : Int64} (hd : decode bytes pc = .ok (.lstore k, 2)) (hl : storeLocals Ls k (.long v) = some Ls') (hp : pc' = pc + 2) (g : Go p e below s K N h0 ws Q T (mkF m pc' Ls' st)) : Go p e below s K N h0 ws Q T (mkF m pc Ls (.long v :: st)) := by
  subst hp; obtain ⟨L, X, -⟩ := X; exact Go.to (fun t k => XS.lstore X.here B.1 rfl (hb B.2.2.1 hd) rfl hl k) g
theorem glstoreN (B : Fix p Z s m meth c bytes maxL own nm ret) (X : St p l e R s m args below meth c h0 ws T h cells slots) {k : Fin 4} {v : Int64} (hd : decode bytes pc = .ok (.lstore_n k, 1)) (hl : storeLocals Ls k.val (.long v) = some Ls') (hp : pc' = pc + 1) (g : Go p e below s K N h0 ws Q T (mkF m pc' Ls' st)) : Go p e below s K N h0 ws Q T (mkF m pc Ls (.long v :: st)) := by
  subst hp; obtain ⟨L, X, -⟩ := X; exact Go.to (fun t k => XS.lstoreN X.here B.1 rfl (hb B.2.2.1 hd) rfl hl k) g
theorem gaload (B : Fix p Z s m meth c bytes maxL own nm ret) (X : St p l e R s m args below meth c h0 ws T h cells slots) {k : Nat} {v : Value} (hd : decode bytes pc = .ok (.aload k, 2)) (hl : Ls[k]? = some (.val v)) (hv : v.isRef = true) (hp : pc' = pc + 2) (g : Go p e below s K N h0 ws Q T (mkF m pc' Ls (v :: st))) : Go p e below s K N h0 ws Q T (mkF m pc Ls st) := by
  subst hp; obtain ⟨L, X, -⟩ := X; exact Go.to (fun t k => XS.aload X.here B.1 rfl (hb B.2.2.1 hd) hl hv k) g
theorem galoadN (B : Fix p Z s m meth c bytes maxL own nm ret) (X : St p l e R s m args below meth c h0 ws T h cells slots) {k : Fin 4} {v : Value} (hd : decode bytes pc = .ok (.aload_n k, 1)) (hl : Ls[k.val]? = some (.val v)) (hv : v.isRef = true) (hp : pc' = pc + 1) (g : Go p e below s K N h0 ws Q T (mkF m pc' Ls (v :: st))) : Go p e below s K N h0 ws Q T (mkF m pc Ls st) := by
  subst hp; obtain ⟨L, X, -⟩ := X; exact Go.to (fun t k => XS.aloadN X.here B.1 rfl (hb B.2.2.1 hd) hl hv k) g
theorem gastore (B : Fix p Z s m meth c bytes maxL own nm ret) (X : St p l e R s m args below meth c h0 ws T h cells slots) {k : Nat} {v : Value} (hd : decode bytes pc = .ok (.astore k, 2)) (hv : v.isRef = true) (hl : storeLocals Ls k v = some Ls') (hp : pc' = pc + 2) (g : Go p e below s K N h0 ws Q T (mkF m pc' Ls' st)) : Go p e below s K N h0 ws Q T (mkF m pc Ls (v :: st)) := by
  subst hp; obtain ⟨L, X, -⟩ := X; exact Go.to (fun t k => XS.astore X.here B.1 rfl (hb B.2.2.1 hd) rfl hv hl k) g
theorem gastoreN (B : Fix p Z s m meth c bytes maxL own nm ret) (X : St p l e R s m args below meth c h0 ws T h cells slots) {k : Fin 4} {v : Value} (hd : decode bytes pc = .ok (.astore_n k, 1)) (hv : v.isRef = true) (hl : storeLocals Ls k.val v = some Ls') (hp : pc' = pc + 1) (g : Go p e below s K N h0 ws Q T (mkF m pc' Ls' st)) : Go p e below s K N h0 ws Q T (mkF m pc Ls (v :: st)) := by
  subst hp; obtain ⟨L, X, -⟩ := X; exact Go.to (fun t k => XS.astoreN X.here B.1 rfl (hb B.2.2.1 hd) rfl hv hl k) g
theorem giconst (B : Fix p Z s m meth c bytes maxL own nm ret) (X : St p l e R s m args below meth c h0 ws T h cells slots) {i : Int} {v : Int32} (hd : decode bytes pc = .ok (.iconst i, 1)) (hv : Int32.ofInt i = v) (hp : pc' = pc + 1) (g : Go p e below s K N h0 ws Q T (mkF m pc' Ls (.int v :: st))) : Go p e below s K N h0 ws Q T (mkF m pc Ls st) := by
  subst hp; subst hv; obtain ⟨L, X, -⟩ := X; exact Go.to (fun t k => XS.iconst X.here B.1 rfl (hb B.2.2.1 hd) k) g
theorem gbipush (B : Fix p Z s m meth c bytes maxL own nm ret) (X : St p l e R s m args below meth c h0 ws T h cells slots) {i : Int} {v : Int32} (hd : decode bytes pc = .ok (.bipush i, 2)) (hv : (Int8.ofInt i).toInt32 = v) (hp : pc' = pc + 2) (g : Go p e below s K N h0 ws Q T (mkF m pc' Ls (.int v :: st))) : Go p e below s K N h0 ws Q T (mkF m pc Ls st) := by
  subst hp; subst hv; obtain ⟨L, X, -⟩ := X; exact Go.to (fun t k => XS.bipush X.here B.1 rfl (hb B.2.2.1 hd) k) g
theorem gsipush (B : Fix p Z s m meth c bytes maxL own nm ret) (X : St p l e R s m args below meth c h0 ws T h cells slots) {i : Int} {v : Int32} (hd : decode bytes pc = .ok (.sipush i, 3)) (hv : (Int16.ofInt i).toInt32 = v) (hp : pc' = pc + 3) (g : Go p e below s K N h0 ws Q T (mkF m pc' Ls (.int v :: st))) : Go p e below s K N h0 ws Q T (mkF m pc Ls st) := by
  subst hp; subst hv; obtain ⟨L, X, -⟩ := X; exact Go.to (fun t k => XS.sipush X.here B.1 rfl (hb B.2.2.1 hd) k) g
theorem glconst (B : Fix p Z s m meth c bytes maxL own nm ret) (X : St p l e R s m args below meth c h0 ws T h cells slots) {k : Fin 2} {v : Int64} (hd : decode bytes pc = .ok (.lconst k, 1)) (hv : Int64.ofNat k = v) (hp : pc' = pc + 1) (g : Go p e below s K N h0 ws Q T (mkF m pc' Ls (.long v :: st))) : Go p e below s K N h0 ws Q T (mkF m pc Ls st) := by
  subst hp; subst hv; obtain ⟨L, X, -⟩ := X; exact Go.to (fun t k => XS.lconst X.here B.1 rfl (hb B.2.2.1 hd) k) g
theorem gnull (B : Fix p Z s m meth c bytes maxL own nm ret) (X : St p l e R s m args below meth c h0 ws T h cells slots)  (hd : decode bytes pc = .ok (.aconst_null, 1))  (hp : pc' = pc + 1) (g : Go p e below s K N h0 ws Q T (mkF m pc' Ls (.null :: st))) : Go p e below s K N h0 ws Q T (mkF m pc Ls st) := by
  subst hp; obtain ⟨L, X, -⟩ := X; exact Go.to (fun t k => XS.aconstNull X.here B.1 rfl (hb B.2.2.1 hd)  k) g
theorem giadd (B : Fix p Z s m meth c bytes maxL own nm ret) (X : St p l e R s m args below meth c h0 ws T h cells slots) {x y : Int32} {v : Int32} (hd : decode bytes pc = .ok (.iadd, 1))  (hv : x + y = v) (hp : pc' = pc + 1) (g : Go p e below s K N h0 ws Q T (mkF m pc' Ls (.int v :: st))) : Go p e below s K N h0 ws Q T (mkF m pc Ls (.int y :: .int x :: st)) := by
  subst hp; subst hv; obtain ⟨L, X, -⟩ := X; exact Go.to (fun t k => XS.iadd X.here B.1 rfl (hb B.2.2.1 hd) rfl k) g
theorem gladd (B : Fix p Z s m meth c bytes maxL own nm ret) (X : St p l e R s m args below meth c h0 ws T h cells slots) {x y : Int64} {v : Int64} (hd : decode bytes pc = .ok (.ladd, 1))  (hv : x + y = v) (hp : pc' = pc + 1) (g : Go p e below s K N h0 ws Q T (mkF m pc' Ls (.long v :: st))) : Go p e below s K N h0 ws Q T (mkF m pc Ls (.long y :: .long x :: st)) := by
  subst hp; subst hv; obtain ⟨L, X, -⟩ := X; exact Go.to (fun t k => XS.ladd X.here B.1 rfl (hb B.2.2.1 hd) rfl k) g
theorem gisub (B : Fix p Z s m meth c bytes maxL own nm ret) (X : St p l e R s m args below meth c h0 ws T h cells slots) {x y : Int32} {v : Int32} (hd : decode bytes pc = .ok (.isub, 1))  (hv : x - y = v) (hp : pc' = pc + 1) (g : Go p e below s K N h0 ws Q T (mkF m pc' Ls (.int v :: st))) : Go p e below s K N h0 ws Q T (mkF m pc Ls (.int y :: .int x :: st)) := by
  subst hp; subst hv; obtain ⟨L, X, -⟩ := X; exact Go.to (fun t k => XS.isub X.here B.1 rfl (hb B.2.2.1 hd) rfl k) g
theorem glsub (B : Fix p Z s m meth c bytes maxL own nm ret) (X : St p l e R s m args below meth c h0 ws T h cells slots) {x y : Int64} {v : Int64} (hd : decode bytes pc = .ok (.lsub, 1))  (hv : x - y = v) (hp : pc' = pc + 1) (g : Go p e below s K N h0 ws Q T (mkF m pc' Ls (.long v :: st))) : Go p e below s K N h0 ws Q T (mkF m pc Ls (.long y :: .long x :: st)) := by
  subst hp; subst hv; obtain ⟨L, X, -⟩ := X; exact Go.to (fun t k => XS.lsub X.here B.1 rfl (hb B.2.2.1 hd) rfl k) g
theorem gimul (B : Fix p Z s m meth c bytes maxL own nm ret) (X : St p l e R s m args below meth c h0 ws T h cells slots) {x y : Int32} {v : Int32} (hd : decode bytes pc = .ok (.imul, 1))  (hv : x * y = v) (hp : pc' = pc + 1) (g : Go p e below s K N h0 ws Q T (mkF m pc' Ls (.int v :: st))) : Go p e below s K N h0 ws Q T (mkF m pc Ls (.int y :: .int x :: st)) := by
  subst hp; subst hv; obtain ⟨L, X, -⟩ := X; exact Go.to (fun t k => XS.imul X.here B.1 rfl (hb B.2.2.1 hd) rfl k) g
theorem glmul (B : Fix p Z s m meth c bytes maxL own nm ret) (X : St p l e R s m args below meth c h0 ws T h cells slots) {x y : Int64} {v : Int64} (hd : decode bytes pc = .ok (.lmul, 1))  (hv : x * y = v) (hp : pc' = pc + 1) (g : Go p e below s K N h0 ws Q T (mkF m pc' Ls (.long v :: st))) : Go p e below s K N h0 ws Q T (mkF m pc Ls (.long y :: .long x :: st)) := by
  subst hp; subst hv; obtain ⟨L, X, -⟩ := X; exact Go.to (fun t k => XS.lmul X.here B.1 rfl (hb B.2.2.1 hd) rfl k) g
theorem giand (B : Fix p Z s m meth c bytes maxL own nm ret) (X : St p l e R s m args below meth c h0 ws T h cells slots) {x y : Int32} {v : Int32} (hd : decode bytes pc = .ok (.iand, 1))  (hv : x &&& y = v) (hp : pc' = pc + 1) (g : Go p e below s K N h0 ws Q T (mkF m pc' Ls (.int v :: st))) : Go p e below s K N h0 ws Q T (mkF m pc Ls (.int y :: .int x :: st)) := by
  subst hp; subst hv; obtain ⟨L, X, -⟩ := X; exact Go.to (fun t k => XS.iand X.here B.1 rfl (hb B.2.2.1 hd) rfl k) g
theorem gland (B : Fix p Z s m meth c bytes maxL own nm ret) (X : St p l e R s m args below meth c h0 ws T h cells slots) {x y : Int64} {v : Int64} (hd : decode bytes pc = .ok (.land, 1))  (hv : x &&& y = v) (hp : pc' = pc + 1) (g : Go p e below s K N h0 ws Q T (mkF m pc' Ls (.long v :: st))) : Go p e below s K N h0 ws Q T (mkF m pc Ls (.long y :: .long x :: st)) := by
  subst hp; subst hv; obtain ⟨L, X, -⟩ := X; exact Go.to (fun t k => XS.land X.here B.1 rfl (hb B.2.2.1 hd) rfl k) g
theorem gior (B : Fix p Z s m meth c bytes maxL own nm ret) (X : St p l e R s m args below meth c h0 ws T h cells slots) {x y : Int32} {v : Int32} (hd : decode bytes pc = .ok (.ior, 1))  (hv : x ||| y = v) (hp : pc' = pc + 1) (g : Go p e below s K N h0 ws Q T (mkF m pc' Ls (.int v :: st))) : Go p e below s K N h0 ws Q T (mkF m pc Ls (.int y :: .int x :: st)) := by
  subst hp; subst hv; obtain ⟨L, X, -⟩ := X; exact Go.to (fun t k => XS.ior X.here B.1 rfl (hb B.2.2.1 hd) rfl k) g
theorem glor (B : Fix p Z s m meth c bytes maxL own nm ret) (X : St p l e R s m args below meth c h0 ws T h cells slots) {x y : Int64} {v : Int64} (hd : decode bytes pc = .ok (.lor, 1))  (hv : x ||| y = v) (hp : pc' = pc + 1) (g : Go p e below s K N h0 ws Q T (mkF m pc' Ls (.long v :: st))) : Go p e below s K N h0 ws Q T (mkF m pc Ls (.long y :: .long x :: st)) := by
  subst hp; subst hv; obtain ⟨L, X, -⟩ := X; exact Go.to (fun t k => XS.lor X.here B.1 rfl (hb B.2.2.1 hd) rfl k) g
theorem gixor (B : Fix p Z s m meth c bytes maxL own nm ret) (X : St p l e R s m args below meth c h0 ws T h cells slots) {x y : Int32} {v : Int32} (hd : decode bytes pc = .ok (.ixor, 1))  (hv : x ^^^ y = v) (hp : pc' = pc + 1) (g : Go p e below s K N h0 ws Q T (mkF m pc' Ls (.int v :: st))) : Go p e below s K N h0 ws Q T (mkF m pc Ls (.int y :: .int x :: st)) := by
  subst hp; subst hv; obtain ⟨L, X, -⟩ := X; exact Go.to (fun t k => XS.ixor X.here B.1 rfl (hb B.2.2.1 hd) rfl k) g
theorem glxor (B : Fix p Z s m meth c bytes maxL own nm ret) (X : St p l e R s m args below meth c h0 ws T h cells slots) {x y : Int64} {v : Int64} (hd : decode bytes pc = .ok (.lxor, 1))  (hv : x ^^^ y = v) (hp : pc' = pc + 1) (g : Go p e below s K N h0 ws Q T (mkF m pc' Ls (.long v :: st))) : Go p e below s K N h0 ws Q T (mkF m pc Ls (.long y :: .long x :: st)) := by
  subst hp; subst hv; obtain ⟨L, X, -⟩ := X; exact Go.to (fun t k => XS.lxor X.here B.1 rfl (hb B.2.2.1 hd) rfl k) g
theorem gidiv (B : Fix p Z s m meth c bytes maxL own nm ret) (X : St p l e R s m args below meth c h0 ws T h cells slots) {x y : Int32} {v : Int32} (hd : decode bytes pc = .ok (.idiv, 1)) (hy : y ≠ 0) (hv : x / y = v) (hp : pc' = pc + 1) (g : Go p e below s K N h0 ws Q T (mkF m pc' Ls (.int v :: st))) : Go p e below s K N h0 ws Q T (mkF m pc Ls (.int y :: .int x :: st)) := by
  subst hp; subst hv; obtain ⟨L, X, -⟩ := X; exact Go.to (fun t k => XS.idiv X.here B.1 rfl (hb B.2.2.1 hd) rfl hy k) g
theorem gldiv (B : Fix p Z s m meth c bytes maxL own nm ret) (X : St p l e R s m args below meth c h0 ws T h cells slots) {x y : Int64} {v : Int64} (hd : decode bytes pc = .ok (.ldiv, 1)) (hy : y ≠ 0) (hv : x / y = v) (hp : pc' = pc + 1) (g : Go p e below s K N h0 ws Q T (mkF m pc' Ls (.long v :: st))) : Go p e below s K N h0 ws Q T (mkF m pc Ls (.long y :: .long x :: st)) := by
  subst hp; subst hv; obtain ⟨L, X, -⟩ := X; exact Go.to (fun t k => XS.ldiv X.here B.1 rfl (hb B.2.2.1 hd) rfl hy k) g
theorem girem (B : Fix p Z s m meth c bytes maxL own nm ret) (X : St p l e R s m args below meth c h0 ws T h cells slots) {x y v : Int32} (hd : decode bytes pc = .ok (.irem, 1)) (hy : y ≠ 0) (hv : x % y = v) (hp : pc' = pc + 1) (g : Go p e below s K N h0 ws Q T (mkF m pc' Ls (.int v :: st))) : Go p e below s K N h0 ws Q T (mkF m pc Ls (.int y :: .int x :: st)) := by
  subst hp; subst hv; obtain ⟨L, X, -⟩ := X; exact Go.to (fun t k => iremM X B.1 rfl (hb B.2.2.1 hd) rfl hy k) g
theorem glrem (B : Fix p Z s m meth c bytes maxL own nm ret) (X : St p l e R s m args below meth c h0 ws T h cells slots) {x y v : Int64} (hd : decode bytes pc = .ok (.lrem, 1)) (hy : y ≠ 0) (hv : x % y = v) (hp : pc' = pc + 1) (g : Go p e below s K N h0 ws Q T (mkF m pc' Ls (.long v :: st))) : Go p e below s K N h0 ws Q T (mkF m pc Ls (.long y :: .long x :: st)) := by
  subst hp; subst hv; obtain ⟨L, X, -⟩ := X; exact Go.to (fun t k => XS.lrem X.here B.1 rfl (hb B.2.2.1 hd) rfl hy (by rw [lrem_mod]; exact k)) g
theorem gishl (B : Fix p Z s m meth c bytes maxL own nm ret) (X : St p l e R s m args below meth c h0 ws T h cells slots) {x y : Int32} {v : Int32} (hd : decode bytes pc = .ok (.ishl, 1))  (hv : x <<< (y &&& 31) = v) (hp : pc' = pc + 1) (g : Go p e below s K N h0 ws Q T (mkF m pc' Ls (.int v :: st))) : Go p e below s K N h0 ws Q T (mkF m pc Ls (.int y :: .int x :: st)) := by
  subst hp; subst hv; obtain ⟨L, X, -⟩ := X; exact Go.to (fun t k => XS.ishl X.here B.1 rfl (hb B.2.2.1 hd) rfl k) g
theorem gishr (B : Fix p Z s m meth c bytes maxL own nm ret) (X : St p l e R s m args below meth c h0 ws T h cells slots) {x y : Int32} {v : Int32} (hd : decode bytes pc = .ok (.ishr, 1))  (hv : x >>> (y &&& 31) = v) (hp : pc' = pc + 1) (g : Go p e below s K N h0 ws Q T (mkF m pc' Ls (.int v :: st))) : Go p e below s K N h0 ws Q T (mkF m pc Ls (.int y :: .int x :: st)) := by
  subst hp; subst hv; obtain ⟨L, X, -⟩ := X; exact Go.to (fun t k => XS.ishr X.here B.1 rfl (hb B.2.2.1 hd) rfl k) g
theorem giushr (B : Fix p Z s m meth c bytes maxL own nm ret) (X : St p l e R s m args below meth c h0 ws T h cells slots) {x y : Int32} {v : Int32} (hd : decode bytes pc = .ok (.iushr, 1))  (hv : (x.toUInt32 >>> (y &&& 31).toUInt32).toInt32 = v) (hp : pc' = pc + 1) (g : Go p e below s K N h0 ws Q T (mkF m pc' Ls (.int v :: st))) : Go p e below s K N h0 ws Q T (mkF m pc Ls (.int y :: .int x :: st)) := by
  subst hp; subst hv; obtain ⟨L, X, -⟩ := X; exact Go.to (fun t k => XS.iushr X.here B.1 rfl (hb B.2.2.1 hd) rfl k) g
theorem glshl (B : Fix p Z s m meth c bytes maxL own nm ret) (X : St p l e R s m args below meth c h0 ws T h cells slots) {x : Int64} {y : Int32} {v : Int64} (hd : decode bytes pc = .ok (.lshl, 1))  (hv : x <<< (y &&& 0x3f).toInt64 = v) (hp : pc' = pc + 1) (g : Go p e below s K N h0 ws Q T (mkF m pc' Ls (.long v :: st))) : Go p e below s K N h0 ws Q T (mkF m pc Ls (.int y :: .long x :: st)) := by
  subst hp; subst hv; obtain ⟨L, X, -⟩ := X; exact Go.to (fun t k => XS.lshl X.here B.1 rfl (hb B.2.2.1 hd) rfl k) g
theorem glshr (B : Fix p Z s m meth c bytes maxL own nm ret) (X : St p l e R s m args below meth c h0 ws T h cells slots) {x : Int64} {y : Int32} {v : Int64} (hd : decode bytes pc = .ok (.lshr, 1))  (hv : x >>> (y &&& 0x3f).toInt64 = v) (hp : pc' = pc + 1) (g : Go p e below s K N h0 ws Q T (mkF m pc' Ls (.long v :: st))) : Go p e below s K N h0 ws Q T (mkF m pc Ls (.int y :: .long x :: st)) := by
  subst hp; subst hv; obtain ⟨L, X, -⟩ := X; exact Go.to (fun t k => XS.lshr X.here B.1 rfl (hb B.2.2.1 hd) rfl k) g
theorem glushr (B : Fix p Z s m meth c bytes maxL own nm ret) (X : St p l e R s m args below meth c h0 ws T h cells slots) {x : Int64} {y : Int32} {v : Int64} (hd : decode bytes pc = .ok (.lushr, 1))  (hv : (x.toUInt64 >>> (y &&& 0x3f).toInt64.toUInt64).toInt64 = v) (hp : pc' = pc + 1) (g : Go p e below s K N h0 ws Q T (mkF m pc' Ls (.long v :: st))) : Go p e below s K N h0 ws Q T (mkF m pc Ls (.int y :: .long x :: st)) := by
  subst hp; subst hv; obtain ⟨L, X, -⟩ := X; exact Go.to (fun t k => XS.lushr X.here B.1 rfl (hb B.2.2.1 hd) rfl k) g
theorem gineg (B : Fix p Z s m meth c bytes maxL own nm ret) (X : St p l e R s m args below meth c h0 ws T h cells slots) {x : Int32} {v : Int32} (hd : decode bytes pc = .ok (.ineg, 1))  (hv : -x = v) (hp : pc' = pc + 1) (g : Go p e below s K N h0 ws Q T (mkF m pc' Ls (.int v :: st))) : Go p e below s K N h0 ws Q T (mkF m pc Ls (.int x :: st)) := by
  subst hp; subst hv; obtain ⟨L, X, -⟩ := X; exact Go.to (fun t k => XS.ineg X.here B.1 rfl (hb B.2.2.1 hd) rfl k) g
theorem glneg (B : Fix p Z s m meth c bytes maxL own nm ret) (X : St p l e R s m args below meth c h0 ws T h cells slots) {x : Int64} {v : Int64} (hd : decode bytes pc = .ok (.lneg, 1))  (hv : -x = v) (hp : pc' = pc + 1) (g : Go p e below s K N h0 ws Q T (mkF m pc' Ls (.long v :: st))) : Go p e below s K N h0 ws Q T (mkF m pc Ls (.long x :: st)) := by
  subst hp; subst hv; obtain ⟨L, X, -⟩ := X; exact Go.to (fun t k => XS.lneg X.here B.1 rfl (hb B.2.2.1 hd) rfl k) g
theorem gi2l (B : Fix p Z s m meth c bytes maxL own nm ret) (X : St p l e R s m args below meth c h0 ws T h cells slots) {x : Int32} {v : Int64} (hd : decode bytes pc = .ok (.i2l, 1))  (hv : x.toInt64 = v) (hp : pc' = pc + 1) (g : Go p e below s K N h0 ws Q T (mkF m pc' Ls (.long v :: st))) : Go p e below s K N h0 ws Q T (mkF m pc Ls (.int x :: st)) := by
  subst hp; subst hv; obtain ⟨L, X, -⟩ := X; exact Go.to (fun t k => XS.i2l X.here B.1 rfl (hb B.2.2.1 hd) rfl k) g
theorem gl2i (B : Fix p Z s m meth c bytes maxL own nm ret) (X : St p l e R s m args below meth c h0 ws T h cells slots) {x : Int64} {v : Int32} (hd : decode bytes pc = .ok (.l2i, 1))  (hv : x.toInt32 = v) (hp : pc' = pc + 1) (g : Go p e below s K N h0 ws Q T (mkF m pc' Ls (.int v :: st))) : Go p e below s K N h0 ws Q T (mkF m pc Ls (.long x :: st)) := by
  subst hp; subst hv; obtain ⟨L, X, -⟩ := X; exact Go.to (fun t k => XS.l2i X.here B.1 rfl (hb B.2.2.1 hd) rfl k) g
theorem gi2b (B : Fix p Z s m meth c bytes maxL own nm ret) (X : St p l e R s m args below meth c h0 ws T h cells slots) {x : Int32} {v : Int32} (hd : decode bytes pc = .ok (.i2b, 1))  (hv : x.toInt8.toInt32 = v) (hp : pc' = pc + 1) (g : Go p e below s K N h0 ws Q T (mkF m pc' Ls (.int v :: st))) : Go p e below s K N h0 ws Q T (mkF m pc Ls (.int x :: st)) := by
  subst hp; subst hv; obtain ⟨L, X, -⟩ := X; exact Go.to (fun t k => XS.i2b X.here B.1 rfl (hb B.2.2.1 hd) rfl k) g
theorem gi2s (B : Fix p Z s m meth c bytes maxL own nm ret) (X : St p l e R s m args below meth c h0 ws T h cells slots) {x : Int32} {v : Int32} (hd : decode bytes pc = .ok (.i2s, 1))  (hv : x.toInt16.toInt32 = v) (hp : pc' = pc + 1) (g : Go p e below s K N h0 ws Q T (mkF m pc' Ls (.int v :: st))) : Go p e below s K N h0 ws Q T (mkF m pc Ls (.int x :: st)) := by
  subst hp; subst hv; obtain ⟨L, X, -⟩ := X; exact Go.to (fun t k => XS.i2s X.here B.1 rfl (hb B.2.2.1 hd) rfl k) g
theorem gi2c (B : Fix p Z s m meth c bytes maxL own nm ret) (X : St p l e R s m args below meth c h0 ws T h cells slots) {x : Int32} {v : Int32} (hd : decode bytes pc = .ok (.i2c, 1))  (hv : x.toUInt32.toUInt16.toUInt32.toInt32 = v) (hp : pc' = pc + 1) (g : Go p e below s K N h0 ws Q T (mkF m pc' Ls (.int v :: st))) : Go p e below s K N h0 ws Q T (mkF m pc Ls (.int x :: st)) := by
  subst hp; subst hv; obtain ⟨L, X, -⟩ := X; exact Go.to (fun t k => XS.i2c X.here B.1 rfl (hb B.2.2.1 hd) rfl k) g
theorem glcmp (B : Fix p Z s m meth c bytes maxL own nm ret) (X : St p l e R s m args below meth c h0 ws T h cells slots) {x y : Int64} (hd : decode bytes pc = .ok (.lcmp, 1))  (hp : pc' = pc + 1) (g : Go p e below s K N h0 ws Q T (mkF m pc' Ls (.int (lcmpW x y) :: st))) : Go p e below s K N h0 ws Q T (mkF m pc Ls (.long y :: .long x :: st)) := by
  subst hp; obtain ⟨L, X, -⟩ := X; exact Go.to (fun t k => XS.lcmp X.here B.1 rfl (hb B.2.2.1 hd) rfl k) g
theorem gdup (B : Fix p Z s m meth c bytes maxL own nm ret) (X : St p l e R s m args below meth c h0 ws T h cells slots) {x : Value} (hd : decode bytes pc = .ok (.dup, 1)) (hc : x.category = 1) (hp : pc' = pc + 1) (g : Go p e below s K N h0 ws Q T (mkF m pc' Ls (x :: x :: st))) : Go p e below s K N h0 ws Q T (mkF m pc Ls (x :: st)) := by
  subst hp; obtain ⟨L, X, -⟩ := X; exact Go.to (fun t k => XS.dup X.here B.1 rfl (hb B.2.2.1 hd) rfl hc k) g
theorem gpop (B : Fix p Z s m meth c bytes maxL own nm ret) (X : St p l e R s m args below meth c h0 ws T h cells slots) {x : Value} (hd : decode bytes pc = .ok (.pop, 1)) (hc : x.category = 1) (hp : pc' = pc + 1) (g : Go p e below s K N h0 ws Q T (mkF m pc' Ls st)) : Go p e below s K N h0 ws Q T (mkF m pc Ls (x :: st)) := by
  subst hp; obtain ⟨L, X, -⟩ := X; exact Go.to (fun t k => XS.pop X.here B.1 rfl (hb B.2.2.1 hd) rfl hc k) g
theorem gdup_x1 (B : Fix p Z s m meth c bytes maxL own nm ret) (X : St p l e R s m args below meth c h0 ws T h cells slots) {x y : Value} (hd : decode bytes pc = .ok (.dup_x1, 1)) (hc : x.category = 1) (hc2 : y.category = 1) (hp : pc' = pc + 1) (g : Go p e below s K N h0 ws Q T (mkF m pc' Ls (x :: y :: x :: st))) : Go p e below s K N h0 ws Q T (mkF m pc Ls (x :: y :: st)) := by
  subst hp; obtain ⟨L, X, -⟩ := X; exact Go.to (fun t k => XS.dupX1 X.here B.1 rfl (hb B.2.2.1 hd) rfl hc hc2 k) g
theorem gdup2 (B : Fix p Z s m meth c bytes maxL own nm ret) (X : St p l e R s m args below meth c h0 ws T h cells slots) {x y : Value} (hd : decode bytes pc = .ok (.dup2, 1)) (hc : x.category = 1) (hc2 : y.category = 1) (hp : pc' = pc + 1) (g : Go p e below s K N h0 ws Q T (mkF m pc' Ls (x :: y :: x :: y :: st))) : Go p e below s K N h0 ws Q T (mkF m pc Ls (x :: y :: st)) := by
  subst hp; obtain ⟨L, X, -⟩ := X; exact Go.to (fun t k => Jvm.Free.XT.dup2 X.here B.1 rfl (hb B.2.2.1 hd) rfl hc hc2 k) g
theorem xdup_x2 {tb : Tables} [Ours tb] {target : State} {g : JFrame} (h : At T m c below) (hx : tb.exec = Jvm.exec) (hg : g.method = m) {x y z : Value} {rest : List Value} (hd : decode c.code g.pc = .ok (.dup_x2, 1)) (hs : g.stack = x :: y :: z :: rest) (hc : x.category = 1) (hc' : y.category = 1) (hc2 : z.category = 1)
    (hr : Steps tb e below (T.setTop { g with pc := g.pc + 1, stack := x :: y :: z :: x :: rest }) target) : Steps tb e below (T.setTop g) target := by
  subst hg
  jvm_step h [h.top, hx, hd, hs, hc, hc', hc2]
  exact hr
theorem gdup_x2 (B : Fix p Z s m meth c bytes maxL own nm ret) (X : St p l e R s m args below meth c h0 ws T h cells slots) {x y z : Value} (hd : decode bytes pc = .ok (.dup_x2, 1)) (hc : x.category = 1) (hc2 : y.category = 1) (hc3 : z.category = 1) (hp : pc' = pc + 1) (g : Go p e below s K N h0 ws Q T (mkF m pc' Ls (x :: y :: z :: x :: st))) : Go p e below s K N h0 ws Q T (mkF m pc Ls (x :: y :: z :: st)) := by
  subst hp; obtain ⟨L, X, -⟩ := X; exact Go.to (fun t k => xdup_x2 X.here B.1 rfl (hb B.2.2.1 hd) rfl hc hc2 hc3 k) g
theorem giinc (B : Fix p Z s m meth c bytes maxL own nm ret) (X : St p l e R s m args below meth c h0 ws T h cells slots) {k : Nat} {cst : Int} {x v : Int32} (hd : decode bytes pc = .ok (.iinc k cst, 3)) (hl : Ls[k]? = some (.val (.int x))) (hv : x + Int32.ofInt cst = v) (hl' : storeLocals Ls k (.int v) = some Ls') (hp : pc' = pc + 3) (g : Go p e below s K N h0 ws Q T (mkF m pc' Ls' st)) : Go p e below s K N h0 ws Q T (mkF m pc Ls st) := by
  subst hp; subst hv; obtain ⟨L, X, -⟩ := X; exact Go.to (fun t k => XS.iinc X.here B.1 rfl (hb B.2.2.1 hd) hl hl' k) g
theorem ggoto (B : Fix p Z s m meth c bytes maxL own nm ret) (X : St p l e R s m args below meth c h0 ws T h cells slots) {o : Int} (hd : decode bytes pc = .ok (.goto o, 3)) (ho : 0 ≤ (pc : Int) + o ∧ ((pc : Int) + o).toNat = pc') (g : Go p e below s K N h0 ws Q T (mkF m pc' Ls st)) : Go p e below s K N h0 ws Q T (mkF m pc Ls st) := by
  obtain ⟨L, X, -⟩ := X; exact Go.to (fun t k => XS.goto X.here B.1 rfl (pc0 := pc) rfl (hb B.2.2.1 hd) ho.1 ho.2 k) g
theorem gifY (B : Fix p Z s m meth c bytes maxL own nm ret) (X : St p l e R s m args below meth c h0 ws T h cells slots) {cd : ClassFile.Cond} {o : Int} {x : Int32} (hd : decode bytes pc = .ok (.ifCond cd o, 3)) (hc : ifCond.holds cd x = true) (ho : 0 ≤ (pc : Int) + o ∧ ((pc : Int) + o).toNat = pc') (g : Go p e below s K N h0 ws Q T (mkF m pc' Ls st)) : Go p e below s K N h0 ws Q T (mkF m pc Ls (.int x :: st)) := by
  obtain ⟨L, X, -⟩ := X; exact Go.to (fun t k => XS.ifYes X.here B.1 rfl (pc0 := pc) rfl (hb B.2.2.1 hd) rfl hc ho.1 ho.2 k) g
theorem gifN (B : Fix p Z s m meth c bytes maxL own nm ret) (X : St p l e R s m args below meth c h0 ws T h cells slots) {cd : ClassFile.Cond} {o : Int} {x : Int32} (hd : decode bytes pc = .ok (.ifCond cd o, 3)) (hc : ifCond.holds cd x = false) (hp : pc' = pc + 3) (g : Go p e below s K N h0 ws Q T (mkF m pc' Ls st)) : Go p e below s K N h0 ws Q T (mkF m pc Ls (.int x :: st)) := by
  subst hp; obtain ⟨L, X, -⟩ := X; exact Go.to (fun t k => XS.ifNo X.here B.1 rfl (hb B.2.2.1 hd) rfl hc k) g
theorem gicY (B : Fix p Z s m meth c bytes maxL own nm ret) (X : St p l e R s m args below meth c h0 ws T h cells slots) {cd : ClassFile.Cond} {o : Int} {x y : Int32} (hd : decode bytes pc = .ok (.if_icmp cd o, 3)) (hc : if_icmp.holds cd x y = true) (ho : 0 ≤ (pc : Int) + o ∧ ((pc : Int) + o).toNat = pc') (g : Go p e below s K N h0 ws Q T (mkF m pc' Ls st)) : Go p e below s K N h0 ws Q T (mkF m pc Ls (.int y :: .int x :: st)) := by
  obtain ⟨L, X, -⟩ := X; exact Go.to (fun t k => XS.icmpYes X.here B.1 rfl (pc0 := pc) rfl (hb B.2.2.1 hd) rfl hc ho.1 ho.2 k) g
theorem gicN (B : Fix p Z s m meth c bytes maxL own nm ret) (X : St p l e R s m args below meth c h0 ws T h cells slots) {cd : ClassFile.Cond} {o : Int} {x y : Int32} (hd : decode bytes pc = .ok (.if_icmp cd o, 3)) (hc : if_icmp.holds cd x y = false) (hp : pc' = pc + 3) (g : Go p e below s K N h0 ws Q T (mkF m pc' Ls st)) : Go p e below s K N h0 ws Q T (mkF m pc Ls (.int y :: .int x :: st)) := by
  subst hp; obtain ⟨L, X, -⟩ := X; exact Go.to (fun t k => XS.icmpNo X.here B.1 rfl (hb B.2.2.1 hd) rfl hc k) g
theorem gnullN (B : Fix p Z s m meth c bytes maxL own nm ret) (X : St p l e R s m args below meth c h0 ws T h cells slots) {a : Addr} {o : Int} (hd : decode bytes pc = .ok (.ifnull o, 3)) (hp : pc' = pc + 3) (g : Go p e below s K N h0 ws Q T (mkF m pc' Ls st)) : Go p e below s K N h0 ws Q T (mkF m pc Ls (.ref a :: st)) := by
  subst hp; obtain ⟨L, X, -⟩ := X; exact Go.to (fun t k => XS.ifnullNo X.here B.1 rfl (hb B.2.2.1 hd) rfl k) g
theorem gldc (B : Fix p Z s m meth c bytes maxL own nm ret) (X : St p l e R s m args below meth c h0 ws T h cells slots) {i : Nat} {v : Int32} (w : (Cond.constant own i v).before a0 Z = true) (hd : decode bytes pc = .ok (.ldc i, 2)) (hp : pc' = pc + 2) (g : Go p e below s K N h0 ws Q T (mkF m pc' Ls (.int v :: st))) : Go p e below s K N h0 ws Q T (mkF m pc Ls st) := by
  subst hp; obtain ⟨L, X, -⟩ := X; exact Go.to (fun t k => X.ldcInt B.1 B.2.2.2.2.1 (mvT B.2.1 w) (g := mkF m pc Ls st) rfl (hb B.2.2.1 hd) t k) g
theorem gldcw (B : Fix p Z s m meth c bytes maxL own nm ret) (X : St p l e R s m args below meth c h0 ws T h cells slots) {i : Nat} {v : Int32} (w : (Cond.constant own i v).before a0 Z = true) (hd : decode bytes pc = .ok (.ldc_w i, 3)) (hp : pc' = pc + 3) (g : Go p e below s K N h0 ws Q T (mkF m pc' Ls (.int v :: st))) : Go p e below s K N h0 ws Q T (mkF m pc Ls st) := by
  subst hp; obtain ⟨L, X, -⟩ := X; exact Go.to (fun t k => X.ldcwInt B.1 B.2.2.2.2.1 (mvT B.2.1 w) (g := mkF m pc Ls st) rfl (hb B.2.2.1 hd) t k) g
theorem gldc2 (B : Fix p Z s m meth c bytes maxL own nm ret) (X : St p l e R s m args below meth c h0 ws T h cells slots) {i : Nat} {v : Int64} (w : (Cond.constantLong own i v).before a0 Z = true) (hd : decode bytes pc = .ok (.ldc2_w i, 3)) (hp : pc' = pc + 3) (g : Go p e below s K N h0 ws Q T (mkF m pc' Ls (.long v :: st))) : Go p e below s K N h0 ws Q T (mkF m pc Ls st) := by
  subst hp; obtain ⟨L, X, -⟩ := X; exact Go.to (fun t k => X.ldc2Long B.1 B.2.2.2.2.1 (mvT B.2.1 w) (g := mkF m pc Ls st) rfl (hb B.2.2.1 hd) t k) g
theorem giaload (B : Fix p Z s m meth c bytes maxL own nm ret) (X : St p l e R s m args below meth c h0 ws T h cells slots) {a : Addr} {vs : List Value} {j : Int32} {v : Value} {n : Nat} (A : VA Z h a .int vs) (hn : vs.length = n) (hj : 0 ≤ j.toInt ∧ j.toInt < n) (hv : vs[j.toNatClampNeg]? = some v) (hd : decode bytes pc = .ok (.iaload, 1)) (hp : pc' = pc + 1) (g : Go p e below s K N h0 ws Q T (mkF m pc' Ls (v :: st))) : Go p e below s K N h0 ws Q T (mkF m pc Ls (.int j :: .ref a :: st)) := by
  subst hp; subst hn; obtain ⟨L, X, eT, -⟩ := X; obtain ⟨cl, A, r, n⟩ := A
  exact Go.to (fun t k => X.iaload B.1 (by rw [eT]; exact A.1) (State.isArrayOf_alike B.2.1.alike A.2.1) A.2.2 (by rw [r]; exact inb (by simpa using hj)) (by rw [r]; simpa using hv) (g := mkF m pc Ls (.int j :: .ref a :: st)) rfl rfl (hb B.2.2.1 hd) t k) g
theorem glaload (B : Fix p Z s m meth c bytes maxL own nm ret) (X : St p l e R s m args below meth c h0 ws T h cells slots) {a : Addr} {vs : List Value} {j : Int32} {v : Value} {n : Nat} (A : VA Z h a .long vs) (hn : vs.length = n) (hj : 0 ≤ j.toInt ∧ j.toInt < n) (hv : vs[j.toNatClampNeg]? = some v) (hd : decode bytes pc = .ok (.laload, 1)) (hp : pc' = pc + 1) (g : Go p e below s K N h0 ws Q T (mkF m pc' Ls (v :: st))) : Go p e below s K N h0 ws Q T (mkF m pc Ls (.int j :: .ref a :: st)) := by
  subst hp; subst hn; obtain ⟨L, X, eT, -⟩ := X; obtain ⟨cl, A, r, n⟩ := A
  exact Go.to (fun t k => X.laload B.1 (by rw [eT]; exact A.1) (State.isArrayOf_alike B.2.1.alike A.2.1) A.2.2 (by rw [r]; exact inb (by simpa using hj)) (by rw [r]; simpa using hv) (g := mkF m pc Ls (.int j :: .ref a :: st)) rfl rfl (hb B.2.2.1 hd) t k) g
theorem gbaload (B : Fix p Z s m meth c bytes maxL own nm ret) (X : St p l e R s m args below meth c h0 ws T h cells slots) {a : Addr} {vs : List Value} {j : Int32} {v : Value} {n : Nat} (A : VA Z h a .byte vs) (hn : vs.length = n) (hj : 0 ≤ j.toInt ∧ j.toInt < n) (hv : vs[j.toNatClampNeg]? = some v) (hd : decode bytes pc = .ok (.baload, 1)) (hp : pc' = pc + 1) (g : Go p e below s K N h0 ws Q T (mkF m pc' Ls (v :: st))) : Go p e below s K N h0 ws Q T (mkF m pc Ls (.int j :: .ref a :: st)) := by
  subst hp; subst hn; obtain ⟨L, X, eT, -⟩ := X; obtain ⟨cl, A, r, n⟩ := A
  exact Go.to (fun t k => X.baloadBytes B.1 (by rw [eT]; exact A.1) (State.isArrayOf_alike B.2.1.alike A.2.1) A.2.2 (by rw [r]; exact inb (by simpa using hj)) (by rw [r]; simpa using hv) (g := mkF m pc Ls (.int j :: .ref a :: st)) rfl rfl (hb B.2.2.1 hd) t k) g
theorem gzaload (B : Fix p Z s m meth c bytes maxL own nm ret) (X : St p l e R s m args below meth c h0 ws T h cells slots) {a : Addr} {vs : List Value} {j : Int32} {v : Value} {n : Nat} (A : VA Z h a .boolean vs) (hn : vs.length = n) (hj : 0 ≤ j.toInt ∧ j.toInt < n) (hv : vs[j.toNatClampNeg]? = some v) (hd : decode bytes pc = .ok (.baload, 1)) (hp : pc' = pc + 1) (g : Go p e below s K N h0 ws Q T (mkF m pc' Ls (v :: st))) : Go p e below s K N h0 ws Q T (mkF m pc Ls (.int j :: .ref a :: st)) := by
  subst hp; subst hn; obtain ⟨L, X, eT, -⟩ := X; obtain ⟨cl, A, r, n⟩ := A
  exact Go.to (fun t k => X.baloadBooleans B.1 (by rw [eT]; exact A.1) (State.isArrayOf_alike B.2.1.alike A.2.1) A.2.2 (by rw [r]; exact inb (by simpa using hj)) (by rw [r]; simpa using hv) (g := mkF m pc Ls (.int j :: .ref a :: st)) rfl rfl (hb B.2.2.1 hd) t k) g
theorem glength (B : Fix p Z s m meth c bytes maxL own nm ret) (X : St p l e R s m args below meth c h0 ws T h cells slots) {a : Addr} {ty : FieldType} {vs : List Value} {n : Int32} {k : Nat} (A : VA Z h a ty vs) (hk : vs.length = k) (hn : n.toInt = k) (hd : decode bytes pc = .ok (.arraylength, 1)) (hp : pc' = pc + 1) (g : Go p e below s K N h0 ws Q T (mkF m pc' Ls (.int n :: st))) : Go p e below s K N h0 ws Q T (mkF m pc Ls (.ref a :: st)) := by
  subst hp; subst hk; obtain ⟨L, X, eT, -⟩ := X; obtain ⟨cl, A, r, q⟩ := A
  have e1 : cl.slots.size.toInt32 = n := by rw [r]; apply Int32.toInt_inj.mp; rw [len_toInt (by simpa using q), hn]; simp
  exact Go.to (fun t k => X.arraylength B.1 (by rw [eT]; exact A.1) (State.isArrayOf_alike B.2.1.alike A.2.1) (g := mkF m pc Ls (.ref a :: st)) rfl rfl (hb B.2.2.1 hd) t (by rw [e1]; exact k)) g
theorem giastore (B : Fix p Z s m meth c bytes maxL own nm ret) (X : St p l e R s m args below meth c h0 ws T h cells slots) {a : Addr} {vs vs' : List Value} {j : Int32} {x : Int32} {i n : Nat} (A : VA Z h a .int vs) (hn : vs.length = n) (hj : 0 ≤ j.toInt ∧ j.toInt < n) (hi : j.toNatClampNeg = i) (hvs : vs.set i (.int x) = vs') (ha : a ∈ ws ∨ h0.size ≤ a) (hd : decode bytes pc = .ok (.iastore, 1)) (hp : pc' = pc + 1) (g : ∀ T' h', St p l e R s m args below meth c h0 ws T' h' cells slots → Wr h h' a i (.int x) → VA Z h' a .int vs' → Go p e below s K N h0 ws Q T' (mkF m pc' Ls st)) : Go p e below s K N h0 ws Q T (mkF m pc Ls (.int x :: .int j :: .ref a :: st)) := by
  subst hp; subst hi; subst hvs; subst hn; obtain ⟨L, X, eT, KK, FF⟩ := X; have A0 := A; obtain ⟨cl, A, r, n⟩ := A
  obtain ⟨T', h', X', e', W, k⟩ := stI X B.1 B.2.1 eT A (by rw [r]; exact inb (by simpa using hj)) (g := mkF m pc Ls (.int x :: .int j :: .ref a :: st)) rfl rfl (hb B.2.2.1 hd)
  exact Go.to k (g T' h' ⟨_, X', e', KK.wr W ha, fun y hy => (List.mem_append.mp hy).elim (FF y) fun q => by cases List.mem_singleton.mp q; exact ha⟩ W (A0.set W))
theorem glastore (B : Fix p Z s m meth c bytes maxL own nm ret) (X : St p l e R s m args below meth c h0 ws T h cells slots) {a : Addr} {vs vs' : List Value} {j : Int32} {x : Int64} {i n : Nat} (A : VA Z h a .long vs) (hn : vs.length = n) (hj : 0 ≤ j.toInt ∧ j.toInt < n) (hi : j.toNatClampNeg = i) (hvs : vs.set i (.long x) = vs') (ha : a ∈ ws ∨ h0.size ≤ a) (hd : decode bytes pc = .ok (.lastore, 1)) (hp : pc' = pc + 1) (g : ∀ T' h', St p l e R s m args below meth c h0 ws T' h' cells slots → Wr h h' a i (.long x) → VA Z h' a .long vs' → Go p e below s K N h0 ws Q T' (mkF m pc' Ls st)) : Go p e below s K N h0 ws Q T (mkF m pc Ls (.long x :: .int j :: .ref a :: st)) := by
  subst hp; subst hi; subst hvs; subst hn; obtain ⟨L, X, eT, KK, FF⟩ := X; have A0 := A; obtain ⟨cl, A, r, n⟩ := A
  obtain ⟨T', h', X', e', W, k⟩ := stJ X B.1 B.2.1 eT A (by rw [r]; exact inb (by simpa using hj)) (g := mkF m pc Ls (.long x :: .int j :: .ref a :: st)) rfl rfl (hb B.2.2.1 hd)
  exact Go.to k (g T' h' ⟨_, X', e', KK.wr W ha, fun y hy => (List.mem_append.mp hy).elim (FF y) fun q => by cases List.mem_singleton.mp q; exact ha⟩ W (A0.set W))
theorem gbastore (B : Fix p Z s m meth c bytes maxL own nm ret) (X : St p l e R s m args below meth c h0 ws T h cells slots) {a : Addr} {vs vs' : List Value} {j : Int32} {x : Int32} {i n : Nat} (A : VA Z h a .byte vs) (hn : vs.length = n) (hj : 0 ≤ j.toInt ∧ j.toInt < n) (hi : j.toNatClampNeg = i) (hvs : vs.set i (.int x.toInt8.toInt32) = vs') (ha : a ∈ ws ∨ h0.size ≤ a) (hd : decode bytes pc = .ok (.bastore, 1)) (hp : pc' = pc + 1) (g : ∀ T' h', St p l e R s m args below meth c h0 ws T' h' cells slots → Wr h h' a i (.int x.toInt8.toInt32) → VA Z h' a .byte vs' → Go p e below s K N h0 ws Q T' (mkF m pc' Ls st)) : Go p e below s K N h0 ws Q T (mkF m pc Ls (.int x :: .int j :: .ref a :: st)) := by
  subst hp; subst hi; subst hvs; subst hn; obtain ⟨L, X, eT, KK, FF⟩ := X; have A0 := A; obtain ⟨cl, A, r, n⟩ := A
  obtain ⟨T', h', X', e', W, k⟩ := stB X B.1 B.2.1 eT A (by rw [r]; exact inb (by simpa using hj)) (g := mkF m pc Ls (.int x :: .int j :: .ref a :: st)) rfl rfl (hb B.2.2.1 hd)
  exact Go.to k (g T' h' ⟨_, X', e', KK.wr W ha, fun y hy => (List.mem_append.mp hy).elim (FF y) fun q => by cases List.mem_singleton.mp q; exact ha⟩ W (A0.set W))
theorem gzastore (B : Fix p Z s m meth c bytes maxL own nm ret) (X : St p l e R s m args below meth c h0 ws T h cells slots) {a : Addr} {vs vs' : List Value} {j : Int32} {x : Int32} {i n : Nat} (A : VA Z h a .boolean vs) (hn : vs.length = n) (hj : 0 ≤ j.toInt ∧ j.toInt < n) (hi : j.toNatClampNeg = i) (hvs : vs.set i (.int (x &&& 1)) = vs') (ha : a ∈ ws ∨ h0.size ≤ a) (hd : decode bytes pc = .ok (.bastore, 1)) (hp : pc' = pc + 1) (g : ∀ T' h', St p l e R s m args below meth c h0 ws T' h' cells slots → Wr h h' a i (.int (x &&& 1)) → VA Z h' a .boolean vs' → Go p e below s K N h0 ws Q T' (mkF m pc' Ls st)) : Go p e below s K N h0 ws Q T (mkF m pc Ls (.int x :: .int j :: .ref a :: st)) := by
  subst hp; subst hi; subst hvs; subst hn; obtain ⟨L, X, eT, KK, FF⟩ := X; have A0 := A; obtain ⟨cl, A, r, n⟩ := A
  obtain ⟨T', h', X', e', W, k⟩ := stZ X B.1 B.2.1 eT A (by rw [r]; exact inb (by simpa using hj)) (g := mkF m pc Ls (.int x :: .int j :: .ref a :: st)) rfl rfl (hb B.2.2.1 hd)
  exact Go.to k (g T' h' ⟨_, X', e', KK.wr W ha, fun y hy => (List.mem_append.mp hy).elim (FF y) fun q => by cases List.mem_singleton.mp q; exact ha⟩ W (A0.set W))
theorem gnewarray (B : Fix p Z s m meth c bytes maxL own nm ret) (X : St p l e R s m args below meth c h0 ws T h cells slots) {aty : ArrayType} {n : Int32} {cap : Nat} {vs : List Value} {ty : FieldType} (hty : newarray.typeOf aty = ty) (hvs : List.replicate n.toNatClampNeg (defaultValue ty) = vs) (w : (Cond.arrayClass ty).before a0 Z = true) (hn : 0 ≤ n.toInt) (hcap : n.toInt ≤ cap) (hb8 : cap * 8 ≤ 536870912) (hc : cells + 1 ≤ R.cells) (hl : slots + cap ≤ R.slots) (hd : decode bytes pc = .ok (.newarray aty, 2)) (hp : pc' = pc + 2) (g : ∀ T' h' a, St p l e R s m args below meth c h0 ws T' h' (cells + 1) (slots + cap) → a = h.size → Ext h h' → h0.size ≤ a → VA Z h' a ty vs → Go p e below s K N h0 ws Q T' (mkF m pc' Ls (.ref a :: st))) : Go p e below s K N h0 ws Q T (mkF m pc Ls (.int n :: st)) := by
  subst hp; subst hty; subst hvs; obtain ⟨L, X, eT, KK, FF⟩ := X
  have hn' : ¬ n < 0 := by rw [Int32.lt_iff_toInt_lt, show (0 : Int32).toInt = 0 from rfl]; omega
  obtain ⟨T', h', cA, X', e', E, A, k⟩ := newP X B.1 B.2.1 w eT (g := mkF m pc Ls (.int n :: st)) rfl (hb B.2.2.1 hd) rfl hn' (cap := cap) (by simp only [Int32.toNatClampNeg]; omega) hb8 hc hl
  exact Go.to k (g T' h' _ ⟨_, X', e', KK.ext E, FF⟩ rfl E KK.1 (VA.new A hn'))
theorem gnewarrayE (B : Fix p Z s m meth c bytes maxL own nm ret) (X : St p l e R s m args below meth c h0 ws T h cells slots) {aty : ArrayType} {n : Int32} {cap : Nat} {vs : List Value} {ty : FieldType} {ad : String} (had : "[" ++ ty.toString = ad) (hty : newarray.typeOf aty = ty) (hvs : List.replicate n.toNatClampNeg (defaultValue ty) = vs) (w : (Cond.arrayClass ty).before a0 Z = true) (hn : 0 ≤ n.toInt) (hcap : n.toInt ≤ cap) (hb8 : cap * 8 ≤ 536870912) (hc : cells + 1 ≤ R.cells) (hl : slots + cap ≤ R.slots) (hd : decode bytes pc = .ok (.newarray aty, 2)) (hp : pc' = pc + 2) (g : ∀ T' h' a, St p l e R s m args below meth c h0 ws T' h' (cells + 1) (slots + cap) → a = h.size → Ext h h' → h0.size ≤ a → VA Z h' a ty vs → Exa Z h' a ad → Go p e below s K N h0 ws Q T' (mkF m pc' Ls (.ref a :: st))) : Go p e below s K N h0 ws Q T (mkF m pc Ls (.int n :: st)) := by
  subst hp; subst hty; subst hvs; obtain ⟨L, X, eT, KK, FF⟩ := X
  have hn' : ¬ n < 0 := by rw [Int32.lt_iff_toInt_lt, show (0 : Int32).toInt = 0 from rfl]; omega
  obtain ⟨T', h', cA, X', e', E, A, EA, k⟩ := newPE X B.1 B.2.1 w eT (g := mkF m pc Ls (.int n :: st)) rfl (hb B.2.2.1 hd) rfl hn' (cap := cap) (by simp only [Int32.toNatClampNeg]; omega) hb8 hc hl had
  exact Go.to k (g T' h' _ ⟨_, X', e', KK.ext E, FF⟩ rfl E KK.1 (VA.new A hn') EA)
theorem gclone (B : Fix p Z s m meth c bytes maxL own nm ret) (X : St p l e R s m args below meth c h0 ws T h cells slots) {a : Addr} {i W cap n : Nat} {vs : List Value} {ty : FieldType} {ad : String} (w1 : (Cond.methodLink own i ⟨ad, "clone", "()Ljava/lang/Object;"⟩).before a0 Z = true) (w2 : (Cond.sameMethod ad "java/lang/Object" "clone" "()Ljava/lang/Object;").before a0 Z = true) (w3 : (Cond.native ⟨"java/lang/Object", "clone", "()Ljava/lang/Object;"⟩).before a0 Z = true) (w4 : (Cond.instanceMethod ⟨"java/lang/Object", "clone", "()Ljava/lang/Object;"⟩).before a0 Z = true) (w5 : (Cond.selects ad ⟨ad, "clone", "()Ljava/lang/Object;"⟩ ⟨"java/lang/Object", "clone", "()Ljava/lang/Object;"⟩).before a0 Z = true) (w6 : (Cond.castable ad "java/lang/Cloneable").before a0 Z = true) (A : VA Z h a ty vs) (E : Exa Z h a ad) (hf : ∀ v ∈ vs, fits ty v = true) (hn : vs.length = n) (hcap : n ≤ cap) (hsz : Ls.size = maxL) (hfr : 1 ≤ R.frames) (hW : (st.map fun v => v.category).sum ≤ W) (hl : W + 14 ≤ R.locals) (hc : cells + 1 ≤ R.cells) (hs : slots + cap ≤ R.slots) (hd : decode bytes pc = .ok (.invokevirtual i, 3)) (hp : pc' = pc + 3) (g : ∀ T' h' a', St p l e R s m args below meth c h0 ws T' h' (cells + 1) (slots + cap) → a' = h.size → Ext h h' → h0.size ≤ a' → VA Z h' a' ty vs → Exa Z h' a' ad → Go p e below s K N h0 ws Q T' (mkF m pc' Ls (.ref a' :: st))) : Go p e below s K N h0 ws Q T (mkF m pc Ls (.ref a :: st)) := by
  subst hp; subst hn; obtain ⟨L0, X, eT, KK, FF⟩ := X; obtain ⟨cl, A, r, q⟩ := A
  have FC : FitC Z cl := fitC_of A fun i hi v hv => hf v (by rw [r] at hv; simp at hv; exact List.mem_of_getElem? hv)
  obtain ⟨T', h', X', e', E1, A', EA, k⟩ := cloneA X B.1 B.2.1 B.2.2.2.2.1 w1 w2 w3 w4 w5 w6 eT A E FC (g := mkF m pc Ls (.ref a :: st)) rfl (hsz.trans B.2.2.2.1.symm) rfl (hb B.2.2.1 hd) hfr (W := W) (cap := cap) (by show 2 * 0 + _ ≤ _; rw [Nat.mul_zero, Nat.zero_add]; exact hW) hl (by rw [r]; simpa using hcap) hc hs
  exact Go.to k (g T' h' _ ⟨_, X', e', KK.ext E1, FF⟩ rfl E1 KK.1 ⟨_, A', r, q⟩ EA)
theorem gcast (B : Fix p Z s m meth c bytes maxL own nm ret) (X : St p l e R s m args below meth c h0 ws T h cells slots) {a : Addr} {i : Nat} {K0 : String} (w : (Cond.classLink own i K0).before a0 Z = true) (F : Ins Z h a K0 true) (hd : decode bytes pc = .ok (.checkcast i, 3)) (hp : pc' = pc + 3) (g : ∀ T', St p l e R s m args below meth c h0 ws T' h cells slots → Go p e below s K N h0 ws Q T' (mkF m pc' Ls (.ref a :: st))) : Go p e below s K N h0 ws Q T (mkF m pc Ls (.ref a :: st)) := by
  subst hp; obtain ⟨L0, X, eT, r⟩ := X
  obtain ⟨T', X', e', k⟩ := castY X B.1 B.2.1 B.2.2.2.2.1 w eT F (g := mkF m pc Ls (.ref a :: st)) rfl rfl (hb B.2.2.1 hd)
  exact Go.to k (g T' ⟨L0, X', e', r⟩)
theorem gget (B : Fix p Z s m meth c bytes maxL own nm ret) (X : St p l e R s m args below meth c h0 ws T h cells slots) {a : Addr} {i : Nat} {C n d : String} {v : Value} (w : (Cond.fieldLink own i C n d).before a0 Z = true) (F : Fld Z h a C n d v) (hd : decode bytes pc = .ok (.getfield i, 3)) (hp : pc' = pc + 3) (g : ∀ T', St p l e R s m args below meth c h0 ws T' h cells slots → Go p e below s K N h0 ws Q T' (mkF m pc' Ls (v :: st))) : Go p e below s K N h0 ws Q T (mkF m pc Ls (.ref a :: st)) := by
  subst hp; obtain ⟨L, X, eT, r⟩ := X
  obtain ⟨T', X', e', k⟩ := getF X B.1 B.2.1 B.2.2.2.2.1 (host := "") (Or.inl w) Via.refl eT F (g := mkF m pc Ls (.ref a :: st)) rfl rfl (hb B.2.2.1 hd)
  exact Go.to k (g T' ⟨L, X', e', r⟩)
theorem gput (B : Fix p Z s m meth c bytes maxL own nm ret) (X : St p l e R s m args below meth c h0 ws T h cells slots) {a : Addr} {i kk : Nat} {C O n d : String} {ty : FieldType} {v old : Value} (w : (Cond.fieldLink own i O n d).before a0 Z = true) (F : Fld Z h a O n d old) (E : Exa Z h a C) (L : (Cond.lays C O n d).before a0 Z = true ∨ ((Cond.laysFinal C O n d).before a0 Z = true ∧ own = O ∧ nm = "<init>")) (wi : (Cond.instantiable C kk).before a0 Z = true) (hty : parseFieldDescriptor d = some ty) (hn : narrow ty v = v) (hf : fits ty v = true) (ha : a ∈ ws ∨ h0.size ≤ a) (hd : decode bytes pc = .ok (.putfield i, 3)) (hp : pc' = pc + 3) (g : ∀ T' h', St p l e R s m args below meth c h0 ws T' h' cells slots → Wr h h' a (Jvm.RoadKit.slotOf Z O n d) v → Go p e below s K N h0 ws Q T' (mkF m pc' Ls st)) : Go p e below s K N h0 ws Q T (mkF m pc Ls (v :: .ref a :: st)) := by
  subst hp; obtain ⟨L0, X, eT, KK, FF⟩ := X
  obtain ⟨T', h', X', e', W, k⟩ := putF X B.1 B.2.1 B.2.2.2.2.1 (host := "") (Or.inl w) Via.refl eT F E (L.imp id fun q => ⟨q.1, q.2.1, B.2.2.2.2.2.1.trans q.2.2⟩) wi hty hn hf (g := mkF m pc Ls (v :: .ref a :: st)) rfl rfl (hb B.2.2.1 hd)
  exact Go.to k (g T' h' ⟨_, X', e', KK.wr W ha, fun y hy => (List.mem_append.mp hy).elim (FF y) fun q => by cases List.mem_singleton.mp q; exact ha⟩ W)
theorem gnew (B : Fix p Z s m meth c bytes maxL own nm ret) (X : St p l e R s m args below meth c h0 ws T h cells slots) {i n : Nat} {C : String} (w : (Cond.classLink own i C).before a0 Z = true) (wi : (Cond.instantiable C n).before a0 Z = true) (wz : (Cond.initialized C).before a0 Z = true) (hc : cells + 1 ≤ R.cells) (hl : slots + n ≤ R.slots) (hd : decode bytes pc = .ok (.new i, 3)) (hp : pc' = pc + 3) (g : ∀ T' h' a, St p l e R s m args below meth c h0 ws T' h' (cells + 1) (slots + n) → a = h.size → Ext h h' → h0.size ≤ a → Exa Z h' a C → (∀ {O nm d : String} {ty : FieldType}, Laid Z a0 C O nm d → parseFieldDescriptor d = some ty → Fld Z h' a O nm d (defaultValue ty)) → Go p e below s K N h0 ws Q T' (mkF m pc' Ls (.ref a :: st))) : Go p e below s K N h0 ws Q T (mkF m pc Ls st) := by
  subst hp; obtain ⟨L0, X, eT, KK, FF⟩ := X
  obtain ⟨T', h', X', e', E, A, D, -, k⟩ := newO X B.1 B.2.1 B.2.2.2.2.1 w wi wz eT (g := mkF m pc Ls st) rfl (hb B.2.2.1 hd) hc hl
  exact Go.to k (g T' h' _ ⟨_, X', e', KK.ext E, FF⟩ rfl E KK.1 A D)
theorem ginitO (B : Fix p Z s m meth c bytes maxL own nm ret) (X : St p l e R s m args below meth c h0 ws T h cells slots) {a : Addr} {i W : Nat} (w1 : (Cond.methodLink own i Lib.objectInit).before a0 Z = true) (w2 : (Cond.instanceMethod Lib.objectInit).before a0 Z = true) (w3 : (Cond.code Lib.objectInit ⟨#[0xb1]⟩ 1 none).before a0 Z = true) (hsz : Ls.size = maxL) (hf : 1 ≤ R.frames) (hW : (st.map fun v => v.category).sum ≤ W) (hl : W + 12 ≤ R.locals) (hd : decode bytes pc = .ok (.invokespecial i, 3)) (hp : pc' = pc + 3) (g : ∀ T', St p l e R s m args below meth c h0 ws T' h cells slots → Go p e below s K N h0 ws Q T' (mkF m pc' Ls st)) : Go p e below s K N h0 ws Q T (mkF m pc Ls (.ref a :: st)) := by
  subst hp; obtain ⟨L0, X, eT, r⟩ := X
  obtain ⟨T', X', e', k⟩ := initO X B.1 B.2.1 B.2.2.2.2.1 w1 w2 w3 eT (g := mkF m pc Ls (.ref a :: st)) rfl (hsz.trans B.2.2.2.1.symm) rfl (hb B.2.2.1 hd) hf (W := W) (by show 2 * 0 + _ ≤ _; rw [Nat.mul_zero, Nat.zero_add]; exact hW) hl
  exact Go.to k (g T' ⟨L0, X', e', r⟩)
theorem gcallS (B : Fix p Z s m meth c bytes maxL own nm ret) (X : St p l e R s m args below meth c h0 ws T h cells slots) {y : MethodName} {bytes' : ByteArray} {maxL' : Nat} {ret' : Option FieldType} {rm : Room} {ws' : List Addr} {Q' : Option Value → Heap → Prop} {stk argsL : List Value} {i W : Nat} {ps : List FieldType} {rr : Option FieldType}  (w1 : (Cond.methodLink own i y).before a0 Z = true) (w2 : (Cond.static y).before a0 Z = true) (w3 : (Cond.initialized y.cls).before a0 Z = true) (w4 : (Cond.code y bytes' maxL' ret').before a0 Z = true) (hy : y.cls ≠ "java/lang/invoke/MethodHandle" ∧ y.cls ≠ "java/lang/invoke/VarHandle") (M : Meth l Z y bytes' maxL' ret' rm argsL.toArray h ws' Q') (hpd : parseMethodDescriptor y.desc = some ⟨ps, rr⟩) (hlen : argsL.length = ps.length) (hstk : stk = argsL.reverse ++ st) (hsz : Ls.size = maxL) (hW : (st.map fun v => v.category).sum ≤ W) (hfr : rm.frames + 1 ≤ R.frames) (hlo : W + (maxL' + 11) + rm.locals ≤ R.locals) (hcs : cells + rm.cells ≤ R.cells) (hss : slots + rm.slots ≤ R.slots) (hws : ∀ x ∈ ws', x ∈ ws ∨ h0.size ≤ x) (hd : decode bytes pc = .ok (.invokestatic i, 3)) (hp : pc' = pc + 3)
    (g : ∀ T' h' v, St p l e R s m args below meth c h0 ws T' h' (cells + rm.cells) (slots + rm.slots) → Keep h h' ws' → Q' v h' → Go p e below s K N h0 ws Q T' (mkF m pc' Ls (v.toList ++ st))) : Go p e below s K N h0 ws Q T (mkF m pc Ls stk) := by
  subst hp; subst hstk; obtain ⟨L0, X, eT, KK, FF⟩ := X
  obtain ⟨v2, _, ⟨T2, L2, c2, n2⟩, -, X2, ⟨Lc2, hq, l2, y2, z2⟩, k2⟩ := Jvm.LawKit.callS X B.1 (y := y) B.2.2.2.2.1 (mvT B.2.1 w1) (mvT B.2.1 w2) (mvT B.2.1 w3) (mvT B.2.1 w4) hy (backOf (W := W) (Q := fun v h' L => Q' v h' ∧ Keep h h' ws' ∧ FrW h ws' L) (M []) B.2.1 w4 w3 hfr hlo) (g := mkF m pc Ls (argsL.reverse ++ st)) rfl (hsz.trans B.2.2.2.1.symm) (argsL := argsL) (rest := st) (lenOf hpd hlen) rfl (by show 2 * 0 + _ ≤ _; rw [Nat.mul_zero, Nat.zero_add]; exact hW) (hb B.2.2.1 hd) (fun _ _ => ⟨rfl, eT, hcs, hss⟩)
  dsimp only [Pt.U, Pt.locs, Pt.cells, Pt.slots] at X2 l2 y2 z2 k2 hq
  subst l2 y2 z2
  refine Go.to k2 (g T2 T2.heap v2 ⟨_, X2, rfl, KK.trans hq.2.1 hws, fun y hy => (List.mem_append.mp hy).elim (FF y) fun q => ?_⟩ hq.2.1 hq.1)
  exact (hq.2.2 y q).elim (fun z => hws _ z) fun z => Or.inr (Nat.le_trans KK.1 z)
theorem gcallI (B : Fix p Z s m meth c bytes maxL own nm ret) (X : St p l e R s m args below meth c h0 ws T h cells slots) {y : MethodName} {bytes' : ByteArray} {maxL' : Nat} {ret' : Option FieldType} {rm : Room} {ws' : List Addr} {Q' : Option Value → Heap → Prop} {stk argsL : List Value} {i W : Nat} {ps : List FieldType} {rr : Option FieldType} {a : Addr} (hni : y.name = "<init>") (hret : ret' = none) (w1 : (Cond.methodLink own i y).before a0 Z = true) (w2 : (Cond.instanceMethod y).before a0 Z = true) (w3 : (Cond.initialized y.cls).before a0 Z = true) (w4 : (Cond.code y bytes' maxL' ret').before a0 Z = true) (hy : y.cls ≠ "java/lang/invoke/MethodHandle" ∧ y.cls ≠ "java/lang/invoke/VarHandle") (M : Meth l Z y bytes' maxL' ret' rm (.ref a :: argsL).toArray h ws' Q') (hpd : parseMethodDescriptor y.desc = some ⟨ps, rr⟩) (hlen : argsL.length = ps.length) (hstk : stk = argsL.reverse ++ .ref a :: st) (hsz : Ls.size = maxL) (hW : (st.map fun v => v.category).sum ≤ W) (hfr : rm.frames + 1 ≤ R.frames) (hlo : W + (maxL' + 11) + rm.locals ≤ R.locals) (hcs : cells + rm.cells ≤ R.cells) (hss : slots + rm.slots ≤ R.slots) (hws : ∀ x ∈ ws', x ∈ ws ∨ h0.size ≤ x) (hd : decode bytes pc = .ok (.invokespecial i, 3)) (hp : pc' = pc + 3)
    (g : ∀ T' h' v, St p l e R s m args below meth c h0 ws T' h' (cells + rm.cells) (slots + rm.slots) → Keep h h' ws' → Q' v h' → Go p e below s K N h0 ws Q T' (mkF m pc' Ls (v.toList ++ st))) : Go p e below s K N h0 ws Q T (mkF m pc Ls stk) := by
  subst hp; subst hstk; obtain ⟨L0, X, eT, KK, FF⟩ := X
  subst hret
  obtain ⟨v2, _, ⟨T2, L2, c2, n2⟩, -, X2, ⟨Lc2, hq, l2, y2, z2⟩, k2⟩ := X.specialBack B.1 (y := y) hni B.2.2.2.2.1 (mvT B.2.1 w1) (mvT B.2.1 w2) (mvT B.2.1 w4) hy (backOf (W := W) (Q := fun v h' L => Q' v h' ∧ Keep h h' ws' ∧ FrW h ws' L) (M []) B.2.1 w4 w3 hfr hlo) (g := mkF m pc Ls (argsL.reverse ++ .ref a :: st)) rfl (hsz.trans B.2.2.2.1.symm) (Steps.refl _) (a := a) (argsL := argsL) (rest := st) (lenOf hpd hlen) rfl (by show 2 * 0 + _ ≤ _; rw [Nat.mul_zero, Nat.zero_add]; exact hW) (hb B.2.2.1 hd) (fun _ _ => ⟨rfl, eT, hcs, hss⟩)
  dsimp only [Pt.U, Pt.locs, Pt.cells, Pt.slots] at X2 l2 y2 z2 k2 hq
  subst l2 y2 z2
  refine Go.to (fun t kt => k2.trans kt) (g T2 T2.heap v2 ⟨_, X2, rfl, KK.trans hq.2.1 hws, fun y hy => (List.mem_append.mp hy).elim (FF y) fun q => ?_⟩ hq.2.1 hq.1)
  exact (hq.2.2 y q).elim (fun z => hws _ z) fun z => Or.inr (Nat.le_trans KK.1 z)
theorem gcallV (B : Fix p Z s m meth c bytes maxL own nm ret) (X : St p l e R s m args below meth c h0 ws T h cells slots) {y : MethodName} {bytes' : ByteArray} {maxL' : Nat} {ret' : Option FieldType} {rm : Room} {ws' : List Addr} {Q' : Option Value → Heap → Prop} {stk argsL : List Value} {i W : Nat} {ps : List FieldType} {rr : Option FieldType} {a : Addr} {z : MethodName} {C : String} (E : Exa Z h a C) (w1 : (Cond.methodLink own i y).before a0 Z = true) (w2 : (Cond.declares y).before a0 Z = true) (w5 : (Cond.selects C y z).before a0 Z = true) (w6 : (Cond.instanceMethod z).before a0 Z = true) (w3 : (Cond.initialized z.cls).before a0 Z = true) (w4 : (Cond.code z bytes' maxL' ret').before a0 Z = true) (hyz : y = z) (hy : y.cls ≠ "java/lang/invoke/MethodHandle" ∧ y.cls ≠ "java/lang/invoke/VarHandle") (M : Meth l Z z bytes' maxL' ret' rm (.ref a :: argsL).toArray h ws' Q') (hpd : parseMethodDescriptor y.desc = some ⟨ps, rr⟩) (hlen : argsL.length = ps.length) (hstk : stk = argsL.reverse ++ .ref a :: st) (hsz : Ls.size = maxL) (hW : (st.map fun v => v.category).sum ≤ W) (hfr : rm.frames + 1 ≤ R.frames) (hlo : W + (maxL' + 11) + rm.locals ≤ R.locals) (hcs : cells + rm.cells ≤ R.cells) (hss : slots + rm.slots ≤ R.slots) (hws : ∀ x ∈ ws', x ∈ ws ∨ h0.size ≤ x) (hd : decode bytes pc = .ok (.invokevirtual i, 3)) (hp : pc' = pc + 3)
    (g : ∀ T' h' v, St p l e R s m args below meth c h0 ws T' h' (cells + rm.cells) (slots + rm.slots) → Keep h h' ws' → Q' v h' → Go p e below s K N h0 ws Q T' (mkF m pc' Ls (v.toList ++ st))) : Go p e below s K N h0 ws Q T (mkF m pc Ls stk) := by
  subst hp; subst hstk; obtain ⟨L0, X, eT, KK, FF⟩ := X
  subst hyz
  obtain ⟨cq, kq, qa, qb, qc⟩ := isOf B.2.1 eT E
  obtain ⟨v2, _, ⟨T2, L2, c2, n2⟩, -, X2, ⟨Lc2, hq, l2, y2, z2⟩, k2⟩ := X.virtualBack B.1 (y := y) (z := y) B.2.2.2.2.1 (mvT B.2.1 w1) (mvT B.2.1 w2) (notFace_of_selects (args := #[]) (mvT B.2.1 w5)) (mvT B.2.1 w5) (mvT B.2.1 w6) hy (backOf (W := W) (Q := fun v h' L => Q' v h' ∧ Keep h h' ws' ∧ FrW h ws' L) (M []) B.2.1 w4 w3 hfr hlo) qa qc (g := mkF m pc Ls (argsL.reverse ++ .ref a :: st)) rfl (hsz.trans B.2.2.2.1.symm) (Steps.refl _) (argsL := argsL) (rest := st) (lenOf hpd hlen) rfl (by show 2 * 0 + _ ≤ _; rw [Nat.mul_zero, Nat.zero_add]; exact hW) (hb B.2.2.1 hd) (fun _ _ => ⟨rfl, eT, hcs, hss⟩)
  dsimp only [Pt.U, Pt.locs, Pt.cells, Pt.slots] at X2 l2 y2 z2 k2 hq
  subst l2 y2 z2
  refine Go.to (fun t kt => k2.trans kt) (g T2 T2.heap v2 ⟨_, X2, rfl, KK.trans hq.2.1 hws, fun y hy => (List.mem_append.mp hy).elim (FF y) fun q => ?_⟩ hq.2.1 hq.1)
  exact (hq.2.2 y q).elim (fun z => hws _ z) fun z => Or.inr (Nat.le_trans KK.1 z)
theorem gcallP (B : Fix p Z s m meth c bytes maxL own nm ret) (X : St p l e R s m args below meth c h0 ws T h cells slots) {y : MethodName} {bytes' : ByteArray} {maxL' : Nat} {ret' : Option FieldType} {rm : Room} {ws' : List Addr} {Q' : Option Value → Heap → Prop} {stk argsL : List Value} {i W : Nat} {ps : List FieldType} {rr : Option FieldType} {a : Addr} {C : String} (E : Exa Z h a C) (w1 : (Cond.methodLink own i y).before a0 Z = true) (w2 : (Cond.instanceMethod y).before a0 Z = true) {nn : Nat} (w5 : (Cond.instantiable y.cls nn).before a0 Z = true) (w6 : (Cond.privateMethod y).before a0 Z = true) (w3 : (Cond.initialized y.cls).before a0 Z = true) (w4 : (Cond.code y bytes' maxL' ret').before a0 Z = true) (hy : y.cls ≠ "java/lang/invoke/MethodHandle" ∧ y.cls ≠ "java/lang/invoke/VarHandle") (M : Meth l Z y bytes' maxL' ret' rm (.ref a :: argsL).toArray h ws' Q') (hpd : parseMethodDescriptor y.desc = some ⟨ps, rr⟩) (hlen : argsL.length = ps.length) (hstk : stk = argsL.reverse ++ .ref a :: st) (hsz : Ls.size = maxL) (hW : (st.map fun v => v.category).sum ≤ W) (hfr : rm.frames + 1 ≤ R.frames) (hlo : W + (maxL' + 11) + rm.locals ≤ R.locals) (hcs : cells + rm.cells ≤ R.cells) (hss : slots + rm.slots ≤ R.slots) (hws : ∀ x ∈ ws', x ∈ ws ∨ h0.size ≤ x) (hd : decode bytes pc = .ok (.invokevirtual i, 3)) (hp : pc' = pc + 3)
    (g : ∀ T' h' v, St p l e R s m args below meth c h0 ws T' h' (cells + rm.cells) (slots + rm.slots) → Keep h h' ws' → Q' v h' → Go p e below s K N h0 ws Q T' (mkF m pc' Ls (v.toList ++ st))) : Go p e below s K N h0 ws Q T (mkF m pc Ls stk) := by
  subst hp; subst hstk; obtain ⟨L0, X, eT, KK, FF⟩ := X
  obtain ⟨cq, q, q'⟩ := E.cell
  obtain ⟨ci, ki, i1, i2, -, i4, -⟩ := Cond.instantiable_spec (mvT (args := args) B.2.1 w5)
  have w5' : (Cond.selects y.cls y y).before args s = true := selects_self_of_private i1 i2 (by simp only [Bool.or_eq_false_iff] at i4; exact i4.1) (Cond.privateMethod_at (mvP B.2.1 w6 (args := #[]))) (mvT B.2.1 w2) hy
  obtain ⟨v2, _, ⟨T2, L2, c2, n2⟩, -, X2, ⟨Lc2, hq, l2, y2, z2⟩, k2⟩ := X.privateBack B.1 (y := y) B.2.2.2.2.1 (mvT B.2.1 w1) (mvT B.2.1 w2) w5' (Cond.privateMethod_at (mvP B.2.1 w6 (args := #[]))) (mvT B.2.1 w4) hy (backOf (W := W) (Q := fun v h' L => Q' v h' ∧ Keep h h' ws' ∧ FrW h ws' L) (M []) B.2.1 w4 w3 hfr hlo) (g := mkF m pc Ls (argsL.reverse ++ .ref a :: st)) rfl (hsz.trans B.2.2.2.1.symm) (Steps.refl _) (a := a) (by rw [eT]; exact q) q' (argsL := argsL) (rest := st) (lenOf hpd hlen) rfl (by show 2 * 0 + _ ≤ _; rw [Nat.mul_zero, Nat.zero_add]; exact hW) (hb B.2.2.1 hd) (fun _ _ => ⟨rfl, eT, hcs, hss⟩)
  dsimp only [Pt.U, Pt.locs, Pt.cells, Pt.slots] at X2 l2 y2 z2 k2 hq
  subst l2 y2 z2
  refine Go.to (fun t kt => k2.trans kt) (g T2 T2.heap v2 ⟨_, X2, rfl, KK.trans hq.2.1 hws, fun y hy => (List.mem_append.mp hy).elim (FF y) fun q => ?_⟩ hq.2.1 hq.1)
  exact (hq.2.2 y q).elim (fun z => hws _ z) fun z => Or.inr (Nat.le_trans KK.1 z)
theorem pureG {rm : Room} {r : Value} {ws' : List Addr} (hc : rm.cells = 0) (hs : rm.slots = 0) (g : ∀ T', St p l e R s m args below meth c h0 ws T' h cells slots → Go p e below s K N h0 ws Q T' (mkF m pc' Ls (r :: st))) : ∀ T' h' v, St p l e R s m args below meth c h0 ws T' h' (cells + rm.cells) (slots + rm.slots) → Keep h h' ws' → (v = some r ∧ h' = h) → Go p e below s K N h0 ws Q T' (mkF m pc' Ls (v.toList ++ st)) := by
  rintro T' h' v X k ⟨rfl, rfl⟩
  rw [hc, hs] at X; exact g T' X
theorem pureV {rm : Room} {ws' : List Addr} (hc : rm.cells = 0) (hs : rm.slots = 0) (g : ∀ T', St p l e R s m args below meth c h0 ws T' h cells slots → Go p e below s K N h0 ws Q T' (mkF m pc' Ls st)) : ∀ T' h' v, St p l e R s m args below meth c h0 ws T' h' (cells + rm.cells) (slots + rm.slots) → Keep h h' ws' → (v = none ∧ h' = h) → Go p e below s K N h0 ws Q T' (mkF m pc' Ls (v.toList ++ st)) := by
  rintro T' h' v X k ⟨rfl, rfl⟩
  rw [hc, hs] at X; exact g T' X
theorem joinH (X : St p l e R s m args below meth c h0 ws T h cells slots) {F : JFrame} {P : Heap → Prop} {cells' slots' : Nat} (b : (∀ T' h', St p l e R s m args below meth c h0 ws T' h' cells' slots' → P h' → Go p e below s K N h0 ws Q T' F) → Go p e below s K N h0 ws Q T (mkF m pc Ls st)) (k : ∀ T' h', St p l e R s m args below meth c h0 ws T' h' cells' slots' → P h' → Go p e below s K N h0 ws Q T' F) : Go p e below s K N h0 ws Q T (mkF m pc Ls st) := b k
theorem joinG {α : Type} (B : Fix p Z s m meth c bytes maxL own nm ret) (X : St p l e R s m args below meth c h0 ws T h cells slots) {F : α → JFrame} {r : α} {f : JFrame} (b : (∀ T', St p l e R s m args below meth c h0 ws T' h cells slots → Go p e below s K N h0 ws Q T' (F r)) → Go p e below s K N h0 ws Q T f) (k : ∀ T', St p l e R s m args below meth c h0 ws T' h cells slots → Go p e below s K N h0 ws Q T' (F r)) : Go p e below s K N h0 ws Q T f := b k
theorem nbb (x : Int32) : x.toInt8.toInt32.toInt8.toInt32 = x.toInt8.toInt32 := by simp
theorem nb (x : Int32) : nar .byte x.toInt8.toInt32 = x.toInt8.toInt32 := by simp [nar]
theorem retI (X : Stand p l e R s m args below meth c T locs cells slots) (hx : p.tables.exec = Jvm.exec) {z : Int32} {rest : List Value} (hret : meth.sig.returnType = some .int) (hd : decode c.code pc = .ok (.ireturn, 1)) {fs : List Frame}
    (hl : ∀ (f : JFrame) (acts : List Action), f.method = m → f.locked = none → f.entered = [] → (doReturn e (T.setTop f) acts (some (.int z))).1 = T.setFrames fs) : Steps p.tables e below (T.setTop (mkF m pc Ls (.int z :: rest))) (T.setFrames fs) := by
  have hm' : T.vm.method? m = some meth := X.method'
  have hn : narrow .int (.int z) = .int z := rfl
  show Steps p.tables e below (T.setTop { method := m, pc := pc, locals := Ls, stack := _ :: rest, locked := none }) _
  jvm_step X.here [X.here.top, hx, hd, hm', hret, hn]
  first | (intro acts; rw [hl _ acts rfl rfl rfl]) | rw [hl _ _ rfl rfl rfl]
  exact Steps.refl _
theorem gretI (B : Fix p Z s m meth c bytes maxL own nm (some .int)) (X : St p l e R s m args below meth c h0 ws T h cells slots) {z : Int32} (hd : decode bytes pc = .ok (.ireturn, 1)) (hk : cells ≤ K) (hn : slots ≤ N) (hQ : Q (some (.int z)) h) : Go p e below s K N h0 ws Q T (mkF m pc Ls (.int z :: st)) := by
  obtain ⟨L0, X, eT, KK, FF⟩ := X; have hlk := B.2.2.2.2.2.2.2; have hrt := B.2.2.2.2.2.2.1
  obtain ⟨fs, hr, hrun, hended, hW, hsame⟩ := X.leave (v := some (.int z)) (fun h => by rw [hrt] at h; cases h) hlk
  exact ⟨_, _, retI X B.1 hrt (hb B.2.2.1 hd) hr, hrun, hended, _, _, rfl, ⟨by show Q _ T.heap; rw [eT]; exact hQ, by show Keep h0 T.heap ws; rw [eT]; exact KK, FF⟩, ⟨_, rfl⟩, hW, hsame.mono hk hn⟩
theorem gretN {t : FieldType} (B : Fix p Z s m meth c bytes maxL own nm (some t)) (X : St p l e R s m args below meth c h0 ws T h cells slots) {z z' : Int32} (ht : t = .boolean ∨ t = .byte ∨ t = .char ∨ t = .short) (hz : nar t z = z') (hd : decode bytes pc = .ok (.ireturn, 1)) (hk : cells ≤ K) (hn : slots ≤ N) (hQ : Q (some (.int z')) h) : Go p e below s K N h0 ws Q T (mkF m pc Ls (.int z :: st)) := by
  subst hz; obtain ⟨L0, X, eT, KK, FF⟩ := X; have hlk := B.2.2.2.2.2.2.2; have hrt := B.2.2.2.2.2.2.1
  obtain ⟨fs, hr, hrun, hended, hW, hsame⟩ := X.leave (v := some (.int (nar t z))) (fun h => by rw [hrt] at h; cases h) hlk
  exact ⟨_, _, retN X B.1 hrt ht (hb B.2.2.1 hd) hr, hrun, hended, _, _, rfl, ⟨by show Q _ T.heap; rw [eT]; exact hQ, by show Keep h0 T.heap ws; rw [eT]; exact KK, FF⟩, ⟨_, rfl⟩, hW, hsame.mono hk hn⟩
theorem gretL (B : Fix p Z s m meth c bytes maxL own nm (some .long)) (X : St p l e R s m args below meth c h0 ws T h cells slots) {z : Int64} (hd : decode bytes pc = .ok (.lreturn, 1)) (hk : cells ≤ K) (hn : slots ≤ N) (hQ : Q (some (.long z)) h) : Go p e below s K N h0 ws Q T (mkF m pc Ls (.long z :: st)) := by
  obtain ⟨L0, X, eT, KK, FF⟩ := X; have hlk := B.2.2.2.2.2.2.2; have hrt := B.2.2.2.2.2.2.1
  obtain ⟨fs, hr, hrun, hended, hW, hsame⟩ := X.leave (v := some (.long z)) (fun h => by rw [hrt] at h; cases h) hlk
  exact ⟨_, _, retOut X B.1 hrt rfl (Or.inr (Or.inl ⟨rfl, rfl, _, rfl⟩)) (hb B.2.2.1 hd) hr, hrun, hended, _, _, rfl, ⟨by show Q _ T.heap; rw [eT]; exact hQ, by show Keep h0 T.heap ws; rw [eT]; exact KK, FF⟩, ⟨_, rfl⟩, hW, hsame.mono hk hn⟩
theorem gretA {t : FieldType} (B : Fix p Z s m meth c bytes maxL own nm (some t)) (X : St p l e R s m args below meth c h0 ws T h cells slots) {a : Addr} (ht : t.isReference = true) (hnn : narrow t (.ref a) = .ref a) (hd : decode bytes pc = .ok (.areturn, 1)) (hk : cells ≤ K) (hn : slots ≤ N) (hQ : Q (some (.ref a)) h) : Go p e below s K N h0 ws Q T (mkF m pc Ls (.ref a :: st)) := by
  obtain ⟨L0, X, eT, KK, FF⟩ := X; have hlk := B.2.2.2.2.2.2.2; have hrt := B.2.2.2.2.2.2.1
  obtain ⟨fs, hr, hrun, hended, hW, hsame⟩ := X.leave (v := some (.ref a)) (fun h => by rw [hrt] at h; cases h) hlk
  exact ⟨_, _, retOut X B.1 hrt hnn (Or.inr (Or.inr (Or.inr (Or.inr ⟨rfl, ht, rfl⟩)))) (hb B.2.2.1 hd) hr, hrun, hended, _, _, rfl, ⟨by show Q _ T.heap; rw [eT]; exact hQ, by show Keep h0 T.heap ws; rw [eT]; exact KK, FF⟩, ⟨_, rfl⟩, hW, hsame.mono hk hn⟩
theorem gretV (B : Fix p Z s m meth c bytes maxL own nm none) (X : St p l e R s m args below meth c h0 ws T h cells slots)  (hd : decode bytes pc = .ok (.return_, 1)) (hk : cells ≤ K) (hn : slots ≤ N) (hQ : Q (none) h) : Go p e below s K N h0 ws Q T (mkF m pc Ls []) := by
  obtain ⟨L0, X, eT, KK, FF⟩ := X; have hlk := B.2.2.2.2.2.2.2; have hrt := B.2.2.2.2.2.2.1
  obtain ⟨fs, hr, hrun, hended, hW, hsame⟩ := X.leave (v := none) (fun h => rfl) hlk
  exact ⟨_, _, X.returnOut B.1 hrt (hb B.2.2.1 hd) hr, hrun, hended, _, _, rfl, ⟨by show Q _ T.heap; rw [eT]; exact hQ, by show Keep h0 T.heap ws; rw [eT]; exact KK, FF⟩, ⟨_, rfl⟩, hW, hsame.mono hk hn⟩
end Go
end Jvm.OwnKit
namespace Jvm.Pilot.@@N@@
open Jvm Jvm.ClassFile Sem Op Lib Jvm.Free Jvm.Stand Jvm.LawKit Jvm.RoadKit Jvm.OwnKit Bundle Jvm.Pilot.@@N@@.Jvm.D
theorem d2_0 : decode method_2_code 0 = .ok (.aload_n 0, 1) := by decide +kernel
theorem d2_1 : decode method_2_code 1 = .ok (.iconst 0, 1) := by decide +kernel
theorem d2_2 : decode method_2_code 2 = .ok (.baload, 1) := by decide +kernel
theorem d2_3 : decode method_2_code 3 = .ok (.sipush 255, 3) := by decide +kernel
theorem d2_6 : decode method_2_code 6 = .ok (.iand, 1) := by decide +kernel
theorem d2_7 : decode method_2_code 7 = .ok (.bipush 24, 2) := by decide +kernel
theorem d2_9 : decode method_2_code 9 = .ok (.ishl, 1) := by decide +kernel
theorem d2_10 : decode method_2_code 10 = .ok (.aload_n 0, 1) := by decide +kernel
theorem d2_11 : decode method_2_code 11 = .ok (.iconst 1, 1) := by decide +kernel
theorem d2_12 : decode method_2_code 12 = .ok (.baload, 1) := by decide +kernel
theorem d2_13 : decode method_2_code 13 = .ok (.sipush 255, 3) := by decide +kernel
theorem d2_16 : decode method_2_code 16 = .ok (.iand, 1) := by decide +kernel
theorem d2_17 : decode method_2_code 17 = .ok (.bipush 16, 2) := by decide +kernel
theorem d2_19 : decode method_2_code 19 = .ok (.ishl, 1) := by decide +kernel
theorem d2_20 : decode method_2_code 20 = .ok (.ior, 1) := by decide +kernel
theorem d2_21 : decode method_2_code 21 = .ok (.aload_n 0, 1) := by decide +kernel
theorem d2_22 : decode method_2_code 22 = .ok (.iconst 2, 1) := by decide +kernel
theorem d2_23 : decode method_2_code 23 = .ok (.baload, 1) := by decide +kernel
theorem d2_24 : decode method_2_code 24 = .ok (.sipush 255, 3) := by decide +kernel
theorem d2_27 : decode method_2_code 27 = .ok (.iand, 1) := by decide +kernel
theorem d2_28 : decode method_2_code 28 = .ok (.bipush 8, 2) := by decide +kernel
theorem d2_30 : decode method_2_code 30 = .ok (.ishl, 1) := by decide +kernel
theorem d2_31 : decode method_2_code 31 = .ok (.ior, 1) := by decide +kernel
theorem d2_32 : decode method_2_code 32 = .ok (.aload_n 0, 1) := by decide +kernel
theorem d2_33 : decode method_2_code 33 = .ok (.iconst 3, 1) := by decide +kernel
theorem d2_34 : decode method_2_code 34 = .ok (.baload, 1) := by decide +kernel
theorem d2_35 : decode method_2_code 35 = .ok (.sipush 255, 3) := by decide +kernel
theorem d2_38 : decode method_2_code 38 = .ok (.iand, 1) := by decide +kernel
theorem d2_39 : decode method_2_code 39 = .ok (.ior, 1) := by decide +kernel
theorem d2_40 : decode method_2_code 40 = .ok (.ireturn, 1) := by decide +kernel
theorem pn2 : plainFor (⟨"com/example/dokaz/dokaz/crypto/Aes256GcmNoncePinLaw", "be4", "([B)I"⟩ : MethodName) = true := plainFor_of_name (by first | (simp [plainName, overriddenIn]; done) | decide +kernel)
theorem ef2_R (m : MethodId) (x0 : Addr) : entryFrame m #[(.ref x0)] 1 = mkF m 0 #[.val (.ref x0)] [] := by first | (simp [entryFrame, mkF, argsToLocals, Value.category]; done) | rfl
def f2 (x0 : Int32) (x1 : Int32) (x2 : Int32) (x3 : Int32) : Int32 := (((((x0 &&& (255 : Int32)) <<< ((24 : Int32) &&& 31)) ||| ((x1 &&& (255 : Int32)) <<< ((16 : Int32) &&& 31))) ||| ((x2 &&& (255 : Int32)) <<< ((8 : Int32) &&& 31))) ||| (x3 &&& (255 : Int32)))
def rmr2 : Room := { frames := 0, cells := 0, slots := 0, locals := 0 }
set_option maxRecDepth 65536 in
set_option maxHeartbeats 4000000 in
theorem mtb4 (l : Launch) (Z : State) (a0 : Array Value) (hw : ∀ d ∈ tables_1, d.before a0 Z = true) (a : Addr) (x0 x1 x2 x3 x4 x5 x6 x7 x8 x9 x10 x11 : Int32) (h0 : Heap) (F : VA Z h0 a .byte [(.int x0), (.int x1), (.int x2), (.int x3), (.int x4), (.int x5), (.int x6), (.int x7), (.int x8), (.int x9), (.int x10), (.int x11)]) : Meth l Z (⟨"com/example/dokaz/dokaz/crypto/Aes256GcmNoncePinLaw", "be4", "([B)I"⟩ : MethodName) method_2_code 1 (some .int) rmr2 #[(.ref a)] h0 [] (fun vr h' => vr = some (.int (f2 x0 x1 x2 x3)) ∧ h' = h0) := by
  refine Meth.of pn2 ?_
  intro p e s m below meth c T B X
  refine Go.entry (ef2_R m a) ?_
  refine galoadN B X d2_0 rfl rfl (pc' := 1) rfl ?_
  refine giconst B X d2_1 (v := (0 : Int32)) rfl (pc' := 2) rfl ?_
  refine gbaload B X (n := 12) F rfl (by decide) (v := (.int x0)) rfl d2_2 (pc' := 3) rfl ?_
  refine gsipush B X d2_3 (v := (255 : Int32)) rfl (pc' := 6) rfl ?_
  refine giand B X d2_6 rfl (pc' := 7) rfl ?_
  refine gbipush B X d2_7 (v := (24 : Int32)) rfl (pc' := 9) rfl ?_
  refine gishl B X d2_9 rfl (pc' := 10) rfl ?_
  refine galoadN B X d2_10 rfl rfl (pc' := 11) rfl ?_
  refine giconst B X d2_11 (v := (1 : Int32)) rfl (pc' := 12) rfl ?_
  refine gbaload B X (n := 12) F rfl (by decide) (v := (.int x1)) rfl d2_12 (pc' := 13) rfl ?_
  refine gsipush B X d2_13 (v := (255 : Int32)) rfl (pc' := 16) rfl ?_
  refine giand B X d2_16 rfl (pc' := 17) rfl ?_
  refine gbipush B X d2_17 (v := (16 : Int32)) rfl (pc' := 19) rfl ?_
  refine gishl B X d2_19 rfl (pc' := 20) rfl ?_
  refine gior B X d2_20 rfl (pc' := 21) rfl ?_
  refine galoadN B X d2_21 rfl rfl (pc' := 22) rfl ?_
  refine giconst B X d2_22 (v := (2 : Int32)) rfl (pc' := 23) rfl ?_
  refine gbaload B X (n := 12) F rfl (by decide) (v := (.int x2)) rfl d2_23 (pc' := 24) rfl ?_
  refine gsipush B X d2_24 (v := (255 : Int32)) rfl (pc' := 27) rfl ?_
  refine giand B X d2_27 rfl (pc' := 28) rfl ?_
  refine gbipush B X d2_28 (v := (8 : Int32)) rfl (pc' := 30) rfl ?_
  refine gishl B X d2_30 rfl (pc' := 31) rfl ?_
  refine gior B X d2_31 rfl (pc' := 32) rfl ?_
  refine galoadN B X d2_32 rfl rfl (pc' := 33) rfl ?_
  refine giconst B X d2_33 (v := (3 : Int32)) rfl (pc' := 34) rfl ?_
  refine gbaload B X (n := 12) F rfl (by decide) (v := (.int x3)) rfl d2_34 (pc' := 35) rfl ?_
  refine gsipush B X d2_35 (v := (255 : Int32)) rfl (pc' := 38) rfl ?_
  refine giand B X d2_38 rfl (pc' := 39) rfl ?_
  refine gior B X d2_39 rfl (pc' := 40) rfl ?_
  exact gretI B X d2_40 (by decide) (by decide) (⟨rfl, rfl⟩)
theorem d3_0 : decode method_3_code 0 = .ok (.aload_n 0, 1) := by decide +kernel
theorem d3_1 : decode method_3_code 1 = .ok (.iconst 4, 1) := by decide +kernel
theorem d3_2 : decode method_3_code 2 = .ok (.baload, 1) := by decide +kernel
theorem d3_3 : decode method_3_code 3 = .ok (.i2l, 1) := by decide +kernel
theorem d3_4 : decode method_3_code 4 = .ok (.ldc2_w 7, 3) := by decide +kernel
theorem d3_7 : decode method_3_code 7 = .ok (.land, 1) := by decide +kernel
theorem d3_8 : decode method_3_code 8 = .ok (.bipush 56, 2) := by decide +kernel
theorem d3_10 : decode method_3_code 10 = .ok (.lshl, 1) := by decide +kernel
theorem d3_11 : decode method_3_code 11 = .ok (.aload_n 0, 1) := by decide +kernel
theorem d3_12 : decode method_3_code 12 = .ok (.iconst 5, 1) := by decide +kernel
theorem d3_13 : decode method_3_code 13 = .ok (.baload, 1) := by decide +kernel
theorem d3_14 : decode method_3_code 14 = .ok (.i2l, 1) := by decide +kernel
theorem d3_15 : decode method_3_code 15 = .ok (.ldc2_w 7, 3) := by decide +kernel
theorem d3_18 : decode method_3_code 18 = .ok (.land, 1) := by decide +kernel
theorem d3_19 : decode method_3_code 19 = .ok (.bipush 48, 2) := by decide +kernel
theorem d3_21 : decode method_3_code 21 = .ok (.lshl, 1) := by decide +kernel
theorem d3_22 : decode method_3_code 22 = .ok (.lor, 1) := by decide +kernel
theorem d3_23 : decode method_3_code 23 = .ok (.aload_n 0, 1) := by decide +kernel
theorem d3_24 : decode method_3_code 24 = .ok (.bipush 6, 2) := by decide +kernel
theorem d3_26 : decode method_3_code 26 = .ok (.baload, 1) := by decide +kernel
theorem d3_27 : decode method_3_code 27 = .ok (.i2l, 1) := by decide +kernel
theorem d3_28 : decode method_3_code 28 = .ok (.ldc2_w 7, 3) := by decide +kernel
theorem d3_31 : decode method_3_code 31 = .ok (.land, 1) := by decide +kernel
theorem d3_32 : decode method_3_code 32 = .ok (.bipush 40, 2) := by decide +kernel
theorem d3_34 : decode method_3_code 34 = .ok (.lshl, 1) := by decide +kernel
theorem d3_35 : decode method_3_code 35 = .ok (.lor, 1) := by decide +kernel
theorem d3_36 : decode method_3_code 36 = .ok (.aload_n 0, 1) := by decide +kernel
theorem d3_37 : decode method_3_code 37 = .ok (.bipush 7, 2) := by decide +kernel
theorem d3_39 : decode method_3_code 39 = .ok (.baload, 1) := by decide +kernel
theorem d3_40 : decode method_3_code 40 = .ok (.i2l, 1) := by decide +kernel
theorem d3_41 : decode method_3_code 41 = .ok (.ldc2_w 7, 3) := by decide +kernel
theorem d3_44 : decode method_3_code 44 = .ok (.land, 1) := by decide +kernel
theorem d3_45 : decode method_3_code 45 = .ok (.bipush 32, 2) := by decide +kernel
theorem d3_47 : decode method_3_code 47 = .ok (.lshl, 1) := by decide +kernel
theorem d3_48 : decode method_3_code 48 = .ok (.lor, 1) := by decide +kernel
theorem d3_49 : decode method_3_code 49 = .ok (.aload_n 0, 1) := by decide +kernel
theorem d3_50 : decode method_3_code 50 = .ok (.bipush 8, 2) := by decide +kernel
theorem d3_52 : decode method_3_code 52 = .ok (.baload, 1) := by decide +kernel
theorem d3_53 : decode method_3_code 53 = .ok (.i2l, 1) := by decide +kernel
theorem d3_54 : decode method_3_code 54 = .ok (.ldc2_w 7, 3) := by decide +kernel
theorem d3_57 : decode method_3_code 57 = .ok (.land, 1) := by decide +kernel
theorem d3_58 : decode method_3_code 58 = .ok (.bipush 24, 2) := by decide +kernel
theorem d3_60 : decode method_3_code 60 = .ok (.lshl, 1) := by decide +kernel
theorem d3_61 : decode method_3_code 61 = .ok (.lor, 1) := by decide +kernel
theorem d3_62 : decode method_3_code 62 = .ok (.aload_n 0, 1) := by decide +kernel
theorem d3_63 : decode method_3_code 63 = .ok (.bipush 9, 2) := by decide +kernel
theorem d3_65 : decode method_3_code 65 = .ok (.baload, 1) := by decide +kernel
theorem d3_66 : decode method_3_code 66 = .ok (.i2l, 1) := by decide +kernel
theorem d3_67 : decode method_3_code 67 = .ok (.ldc2_w 7, 3) := by decide +kernel
theorem d3_70 : decode method_3_code 70 = .ok (.land, 1) := by decide +kernel
theorem d3_71 : decode method_3_code 71 = .ok (.bipush 16, 2) := by decide +kernel
theorem d3_73 : decode method_3_code 73 = .ok (.lshl, 1) := by decide +kernel
theorem d3_74 : decode method_3_code 74 = .ok (.lor, 1) := by decide +kernel
theorem d3_75 : decode method_3_code 75 = .ok (.aload_n 0, 1) := by decide +kernel
theorem d3_76 : decode method_3_code 76 = .ok (.bipush 10, 2) := by decide +kernel
theorem d3_78 : decode method_3_code 78 = .ok (.baload, 1) := by decide +kernel
theorem d3_79 : decode method_3_code 79 = .ok (.i2l, 1) := by decide +kernel
theorem d3_80 : decode method_3_code 80 = .ok (.ldc2_w 7, 3) := by decide +kernel
theorem d3_83 : decode method_3_code 83 = .ok (.land, 1) := by decide +kernel
theorem d3_84 : decode method_3_code 84 = .ok (.bipush 8, 2) := by decide +kernel
theorem d3_86 : decode method_3_code 86 = .ok (.lshl, 1) := by decide +kernel
theorem d3_87 : decode method_3_code 87 = .ok (.lor, 1) := by decide +kernel
theorem d3_88 : decode method_3_code 88 = .ok (.aload_n 0, 1) := by decide +kernel
theorem d3_89 : decode method_3_code 89 = .ok (.bipush 11, 2) := by decide +kernel
theorem d3_91 : decode method_3_code 91 = .ok (.baload, 1) := by decide +kernel
theorem d3_92 : decode method_3_code 92 = .ok (.i2l, 1) := by decide +kernel
theorem d3_93 : decode method_3_code 93 = .ok (.ldc2_w 7, 3) := by decide +kernel
theorem d3_96 : decode method_3_code 96 = .ok (.land, 1) := by decide +kernel
theorem d3_97 : decode method_3_code 97 = .ok (.lor, 1) := by decide +kernel
theorem d3_98 : decode method_3_code 98 = .ok (.lreturn, 1) := by decide +kernel
theorem pn3 : plainFor (⟨"com/example/dokaz/dokaz/crypto/Aes256GcmNoncePinLaw", "be8", "([B)J"⟩ : MethodName) = true := plainFor_of_name (by first | (simp [plainName, overriddenIn]; done) | decide +kernel)
theorem ef3_R (m : MethodId) (x0 : Addr) : entryFrame m #[(.ref x0)] 1 = mkF m 0 #[.val (.ref x0)] [] := by first | (simp [entryFrame, mkF, argsToLocals, Value.category]; done) | rfl
def f3 (x4 : Int32) (x5 : Int32) (x6 : Int32) (x7 : Int32) (x8 : Int32) (x9 : Int32) (x10 : Int32) (x11 : Int32) : Int64 := (((((((((x4.toInt64 &&& (255 : Int64)) <<< ((56 : Int32) &&& 0x3f).toInt64) ||| ((x5.toInt64 &&& (255 : Int64)) <<< ((48 : Int32) &&& 0x3f).toInt64)) ||| ((x6.toInt64 &&& (255 : Int64)) <<< ((40 : Int32) &&& 0x3f).toInt64)) ||| ((x7.toInt64 &&& (255 : Int64)) <<< ((32 : Int32) &&& 0x3f).toInt64)) ||| ((x8.toInt64 &&& (255 : Int64)) <<< ((24 : Int32) &&& 0x3f).toInt64)) ||| ((x9.toInt64 &&& (255 : Int64)) <<< ((16 : Int32) &&& 0x3f).toInt64)) ||| ((x10.toInt64 &&& (255 : Int64)) <<< ((8 : Int32) &&& 0x3f).toInt64)) ||| (x11.toInt64 &&& (255 : Int64)))
def rmr3 : Room := { frames := 0, cells := 0, slots := 0, locals := 0 }
set_option maxRecDepth 65536 in
set_option maxHeartbeats 4000000 in
theorem mtb8 (l : Launch) (Z : State) (a0 : Array Value) (hw : ∀ d ∈ tables_1, d.before a0 Z = true) (a : Addr) (x0 x1 x2 x3 x4 x5 x6 x7 x8 x9 x10 x11 : Int32) (h0 : Heap) (F : VA Z h0 a .byte [(.int x0), (.int x1), (.int x2), (.int x3), (.int x4), (.int x5), (.int x6), (.int x7), (.int x8), (.int x9), (.int x10), (.int x11)]) : Meth l Z (⟨"com/example/dokaz/dokaz/crypto/Aes256GcmNoncePinLaw", "be8", "([B)J"⟩ : MethodName) method_3_code 1 (some .long) rmr3 #[(.ref a)] h0 [] (fun vr h' => vr = some (.long (f3 x4 x5 x6 x7 x8 x9 x10 x11)) ∧ h' = h0) := by
  refine Meth.of pn3 ?_
  intro p e s m below meth c T B X
  refine Go.entry (ef3_R m a) ?_
  refine galoadN B X d3_0 rfl rfl (pc' := 1) rfl ?_
  refine giconst B X d3_1 (v := (4 : Int32)) rfl (pc' := 2) rfl ?_
  refine gbaload B X (n := 12) F rfl (by decide) (v := (.int x4)) rfl d3_2 (pc' := 3) rfl ?_
  refine gi2l B X d3_3 rfl (pc' := 4) rfl ?_
  refine gldc2 B X (v := (255 : Int64)) (hw _ (List.mem_of_getElem? (i := 21) rfl)) d3_4 (pc' := 7) rfl ?_
  refine gland B X d3_7 rfl (pc' := 8) rfl ?_
  refine gbipush B X d3_8 (v := (56 : Int32)) rfl (pc' := 10) rfl ?_
  refine glshl B X d3_10 rfl (pc' := 11) rfl ?_
  refine galoadN B X d3_11 rfl rfl (pc' := 12) rfl ?_
  refine giconst B X d3_12 (v := (5 : Int32)) rfl (pc' := 13) rfl ?_
  refine gbaload B X (n := 12) F rfl (by decide) (v := (.int x5)) rfl d3_13 (pc' := 14) rfl ?_
  refine gi2l B X d3_14 rfl (pc' := 15) rfl ?_
  refine gldc2 B X (v := (255 : Int64)) (hw _ (List.mem_of_getElem? (i := 21) rfl)) d3_15 (pc' := 18) rfl ?_
  refine gland B X d3_18 rfl (pc' := 19) rfl ?_
  refine gbipush B X d3_19 (v := (48 : Int32)) rfl (pc' := 21) rfl ?_
  refine glshl B X d3_21 rfl (pc' := 22) rfl ?_
  refine glor B X d3_22 rfl (pc' := 23) rfl ?_
  refine galoadN B X d3_23 rfl rfl (pc' := 24) rfl ?_
  refine gbipush B X d3_24 (v := (6 : Int32)) rfl (pc' := 26) rfl ?_
  refine gbaload B X (n := 12) F rfl (by decide) (v := (.int x6)) rfl d3_26 (pc' := 27) rfl ?_
  refine gi2l B X d3_27 rfl (pc' := 28) rfl ?_
  refine gldc2 B X (v := (255 : Int64)) (hw _ (List.mem_of_getElem? (i := 21) rfl)) d3_28 (pc' := 31) rfl ?_
  refine gland B X d3_31 rfl (pc' := 32) rfl ?_
  refine gbipush B X d3_32 (v := (40 : Int32)) rfl (pc' := 34) rfl ?_
  refine glshl B X d3_34 rfl (pc' := 35) rfl ?_
  refine glor B X d3_35 rfl (pc' := 36) rfl ?_
  refine galoadN B X d3_36 rfl rfl (pc' := 37) rfl ?_
  refine gbipush B X d3_37 (v := (7 : Int32)) rfl (pc' := 39) rfl ?_
  refine gbaload B X (n := 12) F rfl (by decide) (v := (.int x7)) rfl d3_39 (pc' := 40) rfl ?_
  refine gi2l B X d3_40 rfl (pc' := 41) rfl ?_
  refine gldc2 B X (v := (255 : Int64)) (hw _ (List.mem_of_getElem? (i := 21) rfl)) d3_41 (pc' := 44) rfl ?_
  refine gland B X d3_44 rfl (pc' := 45) rfl ?_
  refine gbipush B X d3_45 (v := (32 : Int32)) rfl (pc' := 47) rfl ?_
  refine glshl B X d3_47 rfl (pc' := 48) rfl ?_
  refine glor B X d3_48 rfl (pc' := 49) rfl ?_
  refine galoadN B X d3_49 rfl rfl (pc' := 50) rfl ?_
  refine gbipush B X d3_50 (v := (8 : Int32)) rfl (pc' := 52) rfl ?_
  refine gbaload B X (n := 12) F rfl (by decide) (v := (.int x8)) rfl d3_52 (pc' := 53) rfl ?_
  refine gi2l B X d3_53 rfl (pc' := 54) rfl ?_
  refine gldc2 B X (v := (255 : Int64)) (hw _ (List.mem_of_getElem? (i := 21) rfl)) d3_54 (pc' := 57) rfl ?_
  refine gland B X d3_57 rfl (pc' := 58) rfl ?_
  refine gbipush B X d3_58 (v := (24 : Int32)) rfl (pc' := 60) rfl ?_
  refine glshl B X d3_60 rfl (pc' := 61) rfl ?_
  refine glor B X d3_61 rfl (pc' := 62) rfl ?_
  refine galoadN B X d3_62 rfl rfl (pc' := 63) rfl ?_
  refine gbipush B X d3_63 (v := (9 : Int32)) rfl (pc' := 65) rfl ?_
  refine gbaload B X (n := 12) F rfl (by decide) (v := (.int x9)) rfl d3_65 (pc' := 66) rfl ?_
  refine gi2l B X d3_66 rfl (pc' := 67) rfl ?_
  refine gldc2 B X (v := (255 : Int64)) (hw _ (List.mem_of_getElem? (i := 21) rfl)) d3_67 (pc' := 70) rfl ?_
  refine gland B X d3_70 rfl (pc' := 71) rfl ?_
  refine gbipush B X d3_71 (v := (16 : Int32)) rfl (pc' := 73) rfl ?_
  refine glshl B X d3_73 rfl (pc' := 74) rfl ?_
  refine glor B X d3_74 rfl (pc' := 75) rfl ?_
  refine galoadN B X d3_75 rfl rfl (pc' := 76) rfl ?_
  refine gbipush B X d3_76 (v := (10 : Int32)) rfl (pc' := 78) rfl ?_
  refine gbaload B X (n := 12) F rfl (by decide) (v := (.int x10)) rfl d3_78 (pc' := 79) rfl ?_
  refine gi2l B X d3_79 rfl (pc' := 80) rfl ?_
  refine gldc2 B X (v := (255 : Int64)) (hw _ (List.mem_of_getElem? (i := 21) rfl)) d3_80 (pc' := 83) rfl ?_
  refine gland B X d3_83 rfl (pc' := 84) rfl ?_
  refine gbipush B X d3_84 (v := (8 : Int32)) rfl (pc' := 86) rfl ?_
  refine glshl B X d3_86 rfl (pc' := 87) rfl ?_
  refine glor B X d3_87 rfl (pc' := 88) rfl ?_
  refine galoadN B X d3_88 rfl rfl (pc' := 89) rfl ?_
  refine gbipush B X d3_89 (v := (11 : Int32)) rfl (pc' := 91) rfl ?_
  refine gbaload B X (n := 12) F rfl (by decide) (v := (.int x11)) rfl d3_91 (pc' := 92) rfl ?_
  refine gi2l B X d3_92 rfl (pc' := 93) rfl ?_
  refine gldc2 B X (v := (255 : Int64)) (hw _ (List.mem_of_getElem? (i := 21) rfl)) d3_93 (pc' := 96) rfl ?_
  refine gland B X d3_96 rfl (pc' := 97) rfl ?_
  refine glor B X d3_97 rfl (pc' := 98) rfl ?_
  exact gretL B X d3_98 (by decide) (by decide) (⟨rfl, rfl⟩)
theorem own_byte (z : Int32) (i : Nat) (h : i < 8) : z.toInt8.toInt32.toBitVec.getLsbD i = z.toBitVec.getLsbD i := by
  show (BitVec.signExtend 32 (BitVec.signExtend 8 z.toBitVec)).getLsbD i = _
  rw [BitVec.getLsbD_signExtend, if_pos h, BitVec.getLsbD_signExtend, if_pos (by omega)]
  simp [h, show i < 32 by omega]
theorem own_255 (i : Nat) : (255 : Int32).toBitVec.getLsbD i = decide (i < 8) := by
  by_cases h : i < 32
  · have : ∀ j : Fin 32, (255 : Int32).toBitVec.getLsbD j.1 = decide (j.1 < 8) := by decide
    exact this ⟨i, h⟩
  · rw [BitVec.getLsbD_of_ge _ _ (by omega)]; simp; omega
theorem own_255L (i : Nat) : (255 : Int64).toBitVec.getLsbD i = decide (i < 8) := by
  by_cases h : i < 64
  · have : ∀ j : Fin 64, (255 : Int64).toBitVec.getLsbD j.1 = decide (j.1 < 8) := by decide
    exact this ⟨i, h⟩
  · rw [BitVec.getLsbD_of_ge _ _ (by omega)]; simp; omega
theorem own_b32 (z : Int32) (i : Nat) : (z.toInt8.toInt32 &&& 255).toBitVec.getLsbD i = (decide (i < 8) && z.toBitVec.getLsbD i) := by
  rw [Int32.toBitVec_and, BitVec.getLsbD_and, own_255]
  by_cases h : i < 8
  · rw [own_byte z i h]; simp [h]
  · simp [h]
theorem own_b64 (z : Int32) (i : Nat) : (z.toInt8.toInt32.toInt64 &&& 255).toBitVec.getLsbD i = (decide (i < 8) && z.toBitVec.getLsbD i) := by
  rw [Int64.toBitVec_and, BitVec.getLsbD_and, own_255L]
  by_cases h : i < 8
  · have : z.toInt8.toInt32.toInt64.toBitVec.getLsbD i = z.toInt8.toInt32.toBitVec.getLsbD i := by
      show (BitVec.signExtend 64 z.toInt8.toInt32.toBitVec).getLsbD i = _
      rw [BitVec.getLsbD_signExtend, if_pos (by omega)]; simp [show i < 64 by omega]
    rw [this, own_byte z i h]; simp [h]
  · simp [h]
theorem own_part (b : Nat → Bool) (k i w : Nat) (hi : i < w) : (decide (i < w) && !decide (i < k) && (decide (i - k < 8) && b (k + (i - k)))) = (decide (k ≤ i ∧ i < k + 8) && b i) := by
  by_cases h : k ≤ i
  · have e : k + (i - k) = i := by omega
    rw [e]
    by_cases h2 : i < k + 8
    · simp [h, h2, show ¬ i < k by omega, show i - k < 8 by omega, hi]
    · simp [h2, show ¬ i - k < 8 by omega]
  · simp [h, show i < k by omega]
theorem own_sh24 (w : Int32) : (w <<< ((24 : Int32) &&& 31)).toBitVec = w.toBitVec <<< 24 := rfl
theorem own_sh16 (w : Int32) : (w <<< ((16 : Int32) &&& 31)).toBitVec = w.toBitVec <<< 16 := rfl
theorem own_sh8 (w : Int32) : (w <<< ((8 : Int32) &&& 31)).toBitVec = w.toBitVec <<< 8 := rfl
theorem own_u24 (w : Int32) : ((w.toUInt32 >>> ((24 : Int32) &&& 31).toUInt32).toInt32).toBitVec = w.toBitVec >>> 24 := rfl
theorem own_u16 (w : Int32) : ((w.toUInt32 >>> ((16 : Int32) &&& 31).toUInt32).toInt32).toBitVec = w.toBitVec >>> 16 := rfl
theorem own_u8 (w : Int32) : ((w.toUInt32 >>> ((8 : Int32) &&& 31).toUInt32).toInt32).toBitVec = w.toBitVec >>> 8 := rfl
theorem own_se (x : BitVec 64) (i : Nat) : (x.signExtend 32).getLsbD i = (decide (i < 32) && x.getLsbD i) := by
  rw [BitVec.getLsbD_signExtend]
  by_cases h : i < 32
  · rw [if_pos (by omega)]
  · simp [h]
theorem own_partL (b : Nat → Bool) (k i : Nat) (hi : i < 64) : (decide (i < 64) && !decide (i < k) && (decide (i - k < 8) && (decide (i - k < 32) && b (k + (i - k))))) = (decide (k ≤ i ∧ i < k + 8) && b i) := by
  rw [← own_part b k i 64 hi]
  by_cases h : i - k < 8
  · simp [h, show i - k < 32 by omega]
  · simp [h]
theorem own_part8 (b : Nat → Bool) {i : Nat} : (decide (i < 8) && (decide (i < 32) && b i)) = (decide (i < 8) && b i) := by
  by_cases h : i < 8
  · simp [h, show i < 32 by omega]
  · simp [h]
theorem own_partX (b c : Nat → Bool) (k i : Nat) (hi : i < 64) : (decide (i < 64) && !decide (i < k) && (decide (i - k < 8) && ((decide (i - k < 32) && b (k + (i - k))) ^^ (decide (i - k < 32) && c (k + (i - k)))))) = (decide (k ≤ i ∧ i < k + 8) && (b i ^^ c i)) := by
  rw [← own_part (fun j => b j ^^ c j) k i 64 hi]
  by_cases h : i - k < 8
  · simp [h, show i - k < 32 by omega]
  · simp [h]
theorem own_part8x (b c : Nat → Bool) {i : Nat} : (decide (i < 8) && ((decide (i < 32) && b i) ^^ (decide (i < 32) && c i))) = (decide (i < 8) && (b i ^^ c i)) := by
  by_cases h : i < 8
  · simp [h, show i < 32 by omega]
  · simp [h]
theorem own_xb (x y : Int32) (i : Nat) : (decide (i < 8) && (x.toInt8.toInt32 ^^^ y.toInt8.toInt32).toBitVec.getLsbD i) = (decide (i < 8) && (x.toBitVec.getLsbD i ^^ y.toBitVec.getLsbD i)) := by
  by_cases h : i < 8
  · rw [Int32.toBitVec_xor, BitVec.getLsbD_xor, own_byte x i h, own_byte y i h]
  · simp [h]

theorem own_be4 (h : Int32) : f2 ((h.toUInt32 >>> ((24 : Int32) &&& 31).toUInt32).toInt32).toInt8.toInt32 ((h.toUInt32 >>> ((16 : Int32) &&& 31).toUInt32).toInt32).toInt8.toInt32 ((h.toUInt32 >>> ((8 : Int32) &&& 31).toUInt32).toInt32).toInt8.toInt32 h.toInt8.toInt32 = h := by
  apply Int32.toBitVec_inj.mp
  apply BitVec.eq_of_getLsbD_eq
  intro i hi
  unfold f2
  simp only [Int32.toBitVec_or, BitVec.getLsbD_or, own_sh24, own_sh16, own_sh8, BitVec.getLsbD_shiftLeft, own_b32, own_u24, own_u16, own_u8, BitVec.getLsbD_ushiftRight]
  rw [own_part (fun j => h.toBitVec.getLsbD j) 24 i 32 hi, own_part (fun j => h.toBitVec.getLsbD j) 16 i 32 hi, own_part (fun j => h.toBitVec.getLsbD j) 8 i 32 hi]
  cases h.toBitVec.getLsbD i
  · simp
  · simp; omega
theorem own_L56 (w : Int64) : (w <<< (((56 : Int32) &&& 0x3f).toInt64)).toBitVec = w.toBitVec <<< 56 := rfl
theorem own_U56 (w : Int64) : ((w.toUInt64 >>> (((56 : Int32) &&& 0x3f).toInt64).toUInt64).toInt64).toBitVec = w.toBitVec >>> 56 := rfl
theorem own_L48 (w : Int64) : (w <<< (((48 : Int32) &&& 0x3f).toInt64)).toBitVec = w.toBitVec <<< 48 := rfl
theorem own_U48 (w : Int64) : ((w.toUInt64 >>> (((48 : Int32) &&& 0x3f).toInt64).toUInt64).toInt64).toBitVec = w.toBitVec >>> 48 := rfl
theorem own_L40 (w : Int64) : (w <<< (((40 : Int32) &&& 0x3f).toInt64)).toBitVec = w.toBitVec <<< 40 := rfl
theorem own_U40 (w : Int64) : ((w.toUInt64 >>> (((40 : Int32) &&& 0x3f).toInt64).toUInt64).toInt64).toBitVec = w.toBitVec >>> 40 := rfl
theorem own_L32 (w : Int64) : (w <<< (((32 : Int32) &&& 0x3f).toInt64)).toBitVec = w.toBitVec <<< 32 := rfl
theorem own_U32 (w : Int64) : ((w.toUInt64 >>> (((32 : Int32) &&& 0x3f).toInt64).toUInt64).toInt64).toBitVec = w.toBitVec >>> 32 := rfl
theorem own_L24 (w : Int64) : (w <<< (((24 : Int32) &&& 0x3f).toInt64)).toBitVec = w.toBitVec <<< 24 := rfl
theorem own_U24 (w : Int64) : ((w.toUInt64 >>> (((24 : Int32) &&& 0x3f).toInt64).toUInt64).toInt64).toBitVec = w.toBitVec >>> 24 := rfl
theorem own_L16 (w : Int64) : (w <<< (((16 : Int32) &&& 0x3f).toInt64)).toBitVec = w.toBitVec <<< 16 := rfl
theorem own_U16 (w : Int64) : ((w.toUInt64 >>> (((16 : Int32) &&& 0x3f).toInt64).toUInt64).toInt64).toBitVec = w.toBitVec >>> 16 := rfl
theorem own_L8 (w : Int64) : (w <<< (((8 : Int32) &&& 0x3f).toInt64)).toBitVec = w.toBitVec <<< 8 := rfl
theorem own_U8 (w : Int64) : ((w.toUInt64 >>> (((8 : Int32) &&& 0x3f).toInt64).toUInt64).toInt64).toBitVec = w.toBitVec >>> 8 := rfl
theorem own_U0 (w : Int64) : w.toInt32.toBitVec = w.toBitVec.signExtend 32 := rfl
theorem own_be8 (v : Int64) : f3 (((v.toUInt64 >>> (((56 : Int32) &&& 0x3f).toInt64).toUInt64).toInt64).toInt32).toInt8.toInt32 (((v.toUInt64 >>> (((48 : Int32) &&& 0x3f).toInt64).toUInt64).toInt64).toInt32).toInt8.toInt32 (((v.toUInt64 >>> (((40 : Int32) &&& 0x3f).toInt64).toUInt64).toInt64).toInt32).toInt8.toInt32 (((v.toUInt64 >>> (((32 : Int32) &&& 0x3f).toInt64).toUInt64).toInt64).toInt32).toInt8.toInt32 (((v.toUInt64 >>> (((24 : Int32) &&& 0x3f).toInt64).toUInt64).toInt64).toInt32).toInt8.toInt32 (((v.toUInt64 >>> (((16 : Int32) &&& 0x3f).toInt64).toUInt64).toInt64).toInt32).toInt8.toInt32 (((v.toUInt64 >>> (((8 : Int32) &&& 0x3f).toInt64).toUInt64).toInt64).toInt32).toInt8.toInt32 (v.toInt32).toInt8.toInt32 = v := by
  apply Int64.toBitVec_inj.mp
  apply BitVec.eq_of_getLsbD_eq
  intro i hi
  unfold f3
  simp only [Int64.toBitVec_or, BitVec.getLsbD_or, BitVec.getLsbD_shiftLeft, own_b64, own_se, BitVec.getLsbD_ushiftRight, own_U0, own_L56, own_U56, own_L48, own_U48, own_L40, own_U40, own_L32, own_U32, own_L24, own_U24, own_L16, own_U16, own_L8, own_U8]
  rw [own_partL (fun j => v.toBitVec.getLsbD j) 56 i hi, own_partL (fun j => v.toBitVec.getLsbD j) 48 i hi, own_partL (fun j => v.toBitVec.getLsbD j) 40 i hi, own_partL (fun j => v.toBitVec.getLsbD j) 32 i hi, own_partL (fun j => v.toBitVec.getLsbD j) 24 i hi, own_partL (fun j => v.toBitVec.getLsbD j) 16 i hi, own_partL (fun j => v.toBitVec.getLsbD j) 8 i hi, own_part8 (fun j => v.toBitVec.getLsbD j)]
  cases v.toBitVec.getLsbD i
  · simp
  · simp; omega
theorem own_be8x (v n : Int64) : f3 ((((v.toUInt64 >>> (((56 : Int32) &&& 0x3f).toInt64).toUInt64).toInt64).toInt32).toInt8.toInt32 ^^^ (((n.toUInt64 >>> (((56 : Int32) &&& 0x3f).toInt64).toUInt64).toInt64).toInt32).toInt8.toInt32).toInt8.toInt32 ((((v.toUInt64 >>> (((48 : Int32) &&& 0x3f).toInt64).toUInt64).toInt64).toInt32).toInt8.toInt32 ^^^ (((n.toUInt64 >>> (((48 : Int32) &&& 0x3f).toInt64).toUInt64).toInt64).toInt32).toInt8.toInt32).toInt8.toInt32 ((((v.toUInt64 >>> (((40 : Int32) &&& 0x3f).toInt64).toUInt64).toInt64).toInt32).toInt8.toInt32 ^^^ (((n.toUInt64 >>> (((40 : Int32) &&& 0x3f).toInt64).toUInt64).toInt64).toInt32).toInt8.toInt32).toInt8.toInt32 ((((v.toUInt64 >>> (((32 : Int32) &&& 0x3f).toInt64).toUInt64).toInt64).toInt32).toInt8.toInt32 ^^^ (((n.toUInt64 >>> (((32 : Int32) &&& 0x3f).toInt64).toUInt64).toInt64).toInt32).toInt8.toInt32).toInt8.toInt32 ((((v.toUInt64 >>> (((24 : Int32) &&& 0x3f).toInt64).toUInt64).toInt64).toInt32).toInt8.toInt32 ^^^ (((n.toUInt64 >>> (((24 : Int32) &&& 0x3f).toInt64).toUInt64).toInt64).toInt32).toInt8.toInt32).toInt8.toInt32 ((((v.toUInt64 >>> (((16 : Int32) &&& 0x3f).toInt64).toUInt64).toInt64).toInt32).toInt8.toInt32 ^^^ (((n.toUInt64 >>> (((16 : Int32) &&& 0x3f).toInt64).toUInt64).toInt64).toInt32).toInt8.toInt32).toInt8.toInt32 ((((v.toUInt64 >>> (((8 : Int32) &&& 0x3f).toInt64).toUInt64).toInt64).toInt32).toInt8.toInt32 ^^^ (((n.toUInt64 >>> (((8 : Int32) &&& 0x3f).toInt64).toUInt64).toInt64).toInt32).toInt8.toInt32).toInt8.toInt32 ((v.toInt32).toInt8.toInt32 ^^^ (n.toInt32).toInt8.toInt32).toInt8.toInt32 = v ^^^ n := by
  apply Int64.toBitVec_inj.mp
  apply BitVec.eq_of_getLsbD_eq
  intro i hi
  unfold f3
  simp only [Int64.toBitVec_or, Int64.toBitVec_xor, BitVec.getLsbD_or, BitVec.getLsbD_xor, BitVec.getLsbD_shiftLeft, own_b64, own_xb, own_se, BitVec.getLsbD_ushiftRight, own_U0, own_L56, own_U56, own_L48, own_U48, own_L40, own_U40, own_L32, own_U32, own_L24, own_U24, own_L16, own_U16, own_L8, own_U8]
  rw [own_partX (fun j => v.toBitVec.getLsbD j) (fun j => n.toBitVec.getLsbD j) 56 i hi, own_partX (fun j => v.toBitVec.getLsbD j) (fun j => n.toBitVec.getLsbD j) 48 i hi, own_partX (fun j => v.toBitVec.getLsbD j) (fun j => n.toBitVec.getLsbD j) 40 i hi, own_partX (fun j => v.toBitVec.getLsbD j) (fun j => n.toBitVec.getLsbD j) 32 i hi, own_partX (fun j => v.toBitVec.getLsbD j) (fun j => n.toBitVec.getLsbD j) 24 i hi, own_partX (fun j => v.toBitVec.getLsbD j) (fun j => n.toBitVec.getLsbD j) 16 i hi, own_partX (fun j => v.toBitVec.getLsbD j) (fun j => n.toBitVec.getLsbD j) 8 i hi, own_part8x (fun j => v.toBitVec.getLsbD j) (fun j => n.toBitVec.getLsbD j)]
  cases v.toBitVec.getLsbD i <;> cases n.toBitVec.getLsbD i
  · simp
  · simp; omega
  · simp; omega
  · simp

theorem own_sh0 (n : Int64) : (n.toUInt64 >>> (((0 : Int32) &&& 0x3f).toInt64).toUInt64).toInt64 = n := by
  apply Int64.toBitVec_inj.mp
  show n.toBitVec >>> 0 = n.toBitVec
  exact BitVec.ushiftRight_zero n.toBitVec
theorem own_fits (x0 x1 x2 x3 x4 x5 x6 x7 x8 x9 x10 x11 : Int32) : ∀ v ∈ [Value.int x0.toInt8.toInt32, Value.int x1.toInt8.toInt32, Value.int x2.toInt8.toInt32, Value.int x3.toInt8.toInt32, Value.int x4.toInt8.toInt32, Value.int x5.toInt8.toInt32, Value.int x6.toInt8.toInt32, Value.int x7.toInt8.toInt32, Value.int x8.toInt8.toInt32, Value.int x9.toInt8.toInt32, Value.int x10.toInt8.toInt32, Value.int x11.toInt8.toInt32], fits .byte v = true := by
  intro v hv
  simp only [List.mem_cons, List.not_mem_nil, or_false] at hv
  rcases hv with rfl | rfl | rfl | rfl | rfl | rfl | rfl | rfl | rfl | rfl | rfl | rfl <;> exact fits_nar_byte _
theorem d1_0 : decode prog_5_method_4_code 0 = .ok (.aload_n 0, 1) := by decide +kernel
theorem d1_1 : decode prog_5_method_4_code 1 = .ok (.invokevirtual 37, 3) := by decide +kernel
theorem d1_4 : decode prog_5_method_4_code 4 = .ok (.checkcast 38, 3) := by decide +kernel
theorem d1_7 : decode prog_5_method_4_code 7 = .ok (.astore_n 3, 1) := by decide +kernel
theorem d1_8 : decode prog_5_method_4_code 8 = .ok (.iconst 0, 1) := by decide +kernel
theorem d1_9 : decode prog_5_method_4_code 9 = .ok (.istore 4, 2) := by decide +kernel
theorem d1_11 : decode prog_5_method_4_code 11 = .ok (.iload 4, 2) := by decide +kernel
theorem d1_13 : decode prog_5_method_4_code 13 = .ok (.bipush 8, 2) := by decide +kernel
theorem d1_15 : decode prog_5_method_4_code 15 = .ok (.if_icmp .ge 29, 3) := by decide +kernel
theorem d1_18 : decode prog_5_method_4_code 18 = .ok (.aload_n 3, 1) := by decide +kernel
theorem d1_19 : decode prog_5_method_4_code 19 = .ok (.bipush 11, 2) := by decide +kernel
theorem d1_21 : decode prog_5_method_4_code 21 = .ok (.iload 4, 2) := by decide +kernel
theorem d1_23 : decode prog_5_method_4_code 23 = .ok (.isub, 1) := by decide +kernel
theorem d1_24 : decode prog_5_method_4_code 24 = .ok (.dup2, 1) := by decide +kernel
theorem d1_25 : decode prog_5_method_4_code 25 = .ok (.baload, 1) := by decide +kernel
theorem d1_26 : decode prog_5_method_4_code 26 = .ok (.lload_n 1, 1) := by decide +kernel
theorem d1_27 : decode prog_5_method_4_code 27 = .ok (.bipush 8, 2) := by decide +kernel
theorem d1_29 : decode prog_5_method_4_code 29 = .ok (.iload 4, 2) := by decide +kernel
theorem d1_31 : decode prog_5_method_4_code 31 = .ok (.imul, 1) := by decide +kernel
theorem d1_32 : decode prog_5_method_4_code 32 = .ok (.lushr, 1) := by decide +kernel
theorem d1_33 : decode prog_5_method_4_code 33 = .ok (.l2i, 1) := by decide +kernel
theorem d1_34 : decode prog_5_method_4_code 34 = .ok (.i2b, 1) := by decide +kernel
theorem d1_35 : decode prog_5_method_4_code 35 = .ok (.ixor, 1) := by decide +kernel
theorem d1_36 : decode prog_5_method_4_code 36 = .ok (.i2b, 1) := by decide +kernel
theorem d1_37 : decode prog_5_method_4_code 37 = .ok (.bastore, 1) := by decide +kernel
theorem d1_38 : decode prog_5_method_4_code 38 = .ok (.iinc 4 1, 3) := by decide +kernel
theorem d1_41 : decode prog_5_method_4_code 41 = .ok (.goto (-30), 3) := by decide +kernel
theorem d1_44 : decode prog_5_method_4_code 44 = .ok (.aload_n 3, 1) := by decide +kernel
theorem d1_45 : decode prog_5_method_4_code 45 = .ok (.areturn, 1) := by decide +kernel
theorem pn1 : plainFor (⟨"com/example/dokaz/dokaz/crypto/Aes256Gcm", "nonce", "([BJ)[B"⟩ : MethodName) = true := plainFor_of_name (by first | (simp [plainName, overriddenIn]; done) | decide +kernel)
theorem ef1_RJ (m : MethodId) (x0 : Addr) (x1 : Int64) : entryFrame m #[(.ref x0), (.long x1)] 5 = mkF m 0 #[.val (.ref x0), .val (.long x1), .second, .unset, .unset] [] := by first | (simp [entryFrame, mkF, argsToLocals, Value.category]; done) | rfl
def rmr1 : Room := { frames := 1, cells := 1, slots := 12, locals := 14 }
set_option maxRecDepth 65536 in
set_option maxHeartbeats 4000000 in
theorem mt1 (l : Launch) (Z : State) (a0 : Array Value) (hw : ∀ d ∈ tables_1, d.before a0 Z = true) (a : Addr) (n : Int64) (x0 x1 x2 x3 x4 x5 x6 x7 x8 x9 x10 x11 : Int32) (h0 : Heap) (F : VA Z h0 a .byte [(.int x0), (.int x1), (.int x2), (.int x3), (.int x4), (.int x5), (.int x6), (.int x7), (.int x8), (.int x9), (.int x10), (.int x11)]) (E : Exa Z h0 a "[B") (hf : ∀ v ∈ [(.int x0), (.int x1), (.int x2), (.int x3), (.int x4), (.int x5), (.int x6), (.int x7), (.int x8), (.int x9), (.int x10), (.int x11)], fits .byte v = true) : Meth l Z (⟨"com/example/dokaz/dokaz/crypto/Aes256Gcm", "nonce", "([BJ)[B"⟩ : MethodName) prog_5_method_4_code 5 (some (.array .byte)) rmr1 #[(.ref a), (.long n)] h0 [] (fun v h' => ∃ b, v = some (.ref b) ∧ h0.size ≤ b ∧ VA Z h' b .byte [.int (x0), .int (x1), .int (x2), .int (x3), .int ((x4 ^^^ ((n.toUInt64 >>> ((56 : Int32) &&& 0x3f).toInt64.toUInt64).toInt64).toInt32.toInt8.toInt32).toInt8.toInt32), .int ((x5 ^^^ ((n.toUInt64 >>> ((48 : Int32) &&& 0x3f).toInt64.toUInt64).toInt64).toInt32.toInt8.toInt32).toInt8.toInt32), .int ((x6 ^^^ ((n.toUInt64 >>> ((40 : Int32) &&& 0x3f).toInt64.toUInt64).toInt64).toInt32.toInt8.toInt32).toInt8.toInt32), .int ((x7 ^^^ ((n.toUInt64 >>> ((32 : Int32) &&& 0x3f).toInt64.toUInt64).toInt64).toInt32.toInt8.toInt32).toInt8.toInt32), .int ((x8 ^^^ ((n.toUInt64 >>> ((24 : Int32) &&& 0x3f).toInt64.toUInt64).toInt64).toInt32.toInt8.toInt32).toInt8.toInt32), .int ((x9 ^^^ ((n.toUInt64 >>> ((16 : Int32) &&& 0x3f).toInt64.toUInt64).toInt64).toInt32.toInt8.toInt32).toInt8.toInt32), .int ((x10 ^^^ ((n.toUInt64 >>> ((8 : Int32) &&& 0x3f).toInt64.toUInt64).toInt64).toInt32.toInt8.toInt32).toInt8.toInt32), .int ((x11 ^^^ n.toInt32.toInt8.toInt32).toInt8.toInt32)]) := by
  refine Meth.of pn1 ?_
  intro p e s m below meth c T B X
  refine Go.entry (ef1_RJ m a n) ?_
  refine galoadN B X d1_0 rfl rfl (pc' := 1) rfl ?_
  refine gclone B X (W := 0) (cap := 12) (hw _ (List.mem_of_getElem? (i := 5) rfl)) (hw _ (List.mem_of_getElem? (i := 6) rfl)) (hw _ (List.mem_of_getElem? (i := 10) rfl)) (hw _ (List.mem_of_getElem? (i := 8) rfl)) (hw _ (List.mem_of_getElem? (i := 9) rfl)) (hw _ (List.mem_of_getElem? (i := 11) rfl)) F E hf (n := 12) rfl (by decide) rfl (by decide) (Nat.le_of_eq rfl) (by decide) (by decide) (by decide) d1_1 (pc' := 4) rfl fun T1 h2 a3 X4 q5 E6 z_a3 A7 E8 => ?_
  have n9 : a ≠ a3 := by rw [q5]; exact Nat.ne_of_lt F.lt
  have E10 := E.ext E6
  have F11 := F.ext E6
  refine gcast B X4 (hw _ (List.mem_of_getElem? (i := 12) rfl)) (Ins.self E8) d1_4 (pc' := 7) rfl fun T12 X13 => ?_
  refine gastoreN B X13 d1_7 rfl (Ls' := #[.val (.ref a), .val (.long n), .second, .val (.ref a3), .unset]) rfl (pc' := 8) rfl ?_
  refine giconst B X13 d1_8 (v := (0 : Int32)) rfl (pc' := 9) rfl ?_
  refine gistore B X13 d1_9 (Ls' := #[.val (.ref a), .val (.long n), .second, .val (.ref a3), .val (.int (0 : Int32))]) rfl (pc' := 11) rfl ?_
  refine giload B X13 d1_11 rfl (pc' := 13) rfl ?_
  refine gbipush B X13 d1_13 (v := (8 : Int32)) rfl (pc' := 15) rfl ?_
  have c15_14 : (0 : Int32) < (8 : Int32) := (by decide)
  refine gicN B X13 d1_15 (tlt c15_14).2.1 (pc' := 18) rfl ?_
  refine galoadN B X13 d1_18 rfl rfl (pc' := 19) rfl ?_
  refine gbipush B X13 d1_19 (v := (11 : Int32)) rfl (pc' := 21) rfl ?_
  refine giload B X13 d1_21 rfl (pc' := 23) rfl ?_
  refine gisub B X13 d1_23 (v := (11 : Int32)) (by decide) (pc' := 24) rfl ?_
  refine gdup2 B X13 d1_24 rfl rfl (pc' := 25) rfl ?_
  refine gbaload B X13 (n := 12) A7 rfl (by decide) (v := (.int x11)) rfl d1_25 (pc' := 26) rfl ?_
  refine glloadN B X13 d1_26 rfl (pc' := 27) rfl ?_
  refine gbipush B X13 d1_27 (v := (8 : Int32)) rfl (pc' := 29) rfl ?_
  refine giload B X13 d1_29 rfl (pc' := 31) rfl ?_
  refine gimul B X13 d1_31 (v := (0 : Int32)) (by decide) (pc' := 32) rfl ?_
  refine glushr B X13 d1_32 (v := n) (own_sh0 n) (pc' := 33) rfl ?_
  refine gl2i B X13 d1_33 rfl (pc' := 34) rfl ?_
  refine gi2b B X13 d1_34 rfl (pc' := 35) rfl ?_
  refine gixor B X13 d1_35 rfl (pc' := 36) rfl ?_
  refine gi2b B X13 d1_36 rfl (pc' := 37) rfl ?_
  refine gbastore B X13 (i := 11) (n := 12) A7 rfl (by decide) rfl (vs' := [(.int x0), (.int x1), (.int x2), (.int x3), (.int x4), (.int x5), (.int x6), (.int x7), (.int x8), (.int x9), (.int x10), (.int (x11 ^^^ n.toInt32.toInt8.toInt32).toInt8.toInt32)]) (by rw [Jvm.OwnKit.nbb]; rfl) (Or.inr z_a3) d1_37 (pc' := 38) rfl fun T15 h16 X17 W18 A19 => ?_
  have E20 := E10.wr W18
  have F21 := F11.other W18 n9
  have E22 := E8.wr W18
  refine giinc B X17 d1_38 rfl (v := (1 : Int32)) (by decide) (Ls' := #[.val (.ref a), .val (.long n), .second, .val (.ref a3), .val (.int (1 : Int32))]) rfl (pc' := 41) rfl ?_
  refine ggoto B X17 (pc' := 11) d1_41 (by decide) ?_
  refine giload B X17 d1_11 rfl (pc' := 13) rfl ?_
  refine gbipush B X17 d1_13 (v := (8 : Int32)) rfl (pc' := 15) rfl ?_
  have c15_23 : (1 : Int32) < (8 : Int32) := (by decide)
  refine gicN B X17 d1_15 (tlt c15_23).2.1 (pc' := 18) rfl ?_
  refine galoadN B X17 d1_18 rfl rfl (pc' := 19) rfl ?_
  refine gbipush B X17 d1_19 (v := (11 : Int32)) rfl (pc' := 21) rfl ?_
  refine giload B X17 d1_21 rfl (pc' := 23) rfl ?_
  refine gisub B X17 d1_23 (v := (10 : Int32)) (by decide) (pc' := 24) rfl ?_
  refine gdup2 B X17 d1_24 rfl rfl (pc' := 25) rfl ?_
  refine gbaload B X17 (n := 12) A19 rfl (by decide) (v := (.int x10)) rfl d1_25 (pc' := 26) rfl ?_
  refine glloadN B X17 d1_26 rfl (pc' := 27) rfl ?_
  refine gbipush B X17 d1_27 (v := (8 : Int32)) rfl (pc' := 29) rfl ?_
  refine giload B X17 d1_29 rfl (pc' := 31) rfl ?_
  refine gimul B X17 d1_31 (v := (8 : Int32)) (by decide) (pc' := 32) rfl ?_
  refine glushr B X17 d1_32 rfl (pc' := 33) rfl ?_
  refine gl2i B X17 d1_33 rfl (pc' := 34) rfl ?_
  refine gi2b B X17 d1_34 rfl (pc' := 35) rfl ?_
  refine gixor B X17 d1_35 rfl (pc' := 36) rfl ?_
  refine gi2b B X17 d1_36 rfl (pc' := 37) rfl ?_
  refine gbastore B X17 (i := 10) (n := 12) A19 rfl (by decide) rfl (vs' := [(.int x0), (.int x1), (.int x2), (.int x3), (.int x4), (.int x5), (.int x6), (.int x7), (.int x8), (.int x9), (.int (x10 ^^^ ((n.toUInt64 >>> ((8 : Int32) &&& 0x3f).toInt64.toUInt64).toInt64).toInt32.toInt8.toInt32).toInt8.toInt32), (.int (x11 ^^^ n.toInt32.toInt8.toInt32).toInt8.toInt32)]) (by rw [Jvm.OwnKit.nbb]; rfl) (Or.inr z_a3) d1_37 (pc' := 38) rfl fun T24 h25 X26 W27 A28 => ?_
  have E29 := E20.wr W27
  have F30 := F21.other W27 n9
  have E31 := E22.wr W27
  refine giinc B X26 d1_38 rfl (v := (2 : Int32)) (by decide) (Ls' := #[.val (.ref a), .val (.long n), .second, .val (.ref a3), .val (.int (2 : Int32))]) rfl (pc' := 41) rfl ?_
  refine ggoto B X26 (pc' := 11) d1_41 (by decide) ?_
  refine giload B X26 d1_11 rfl (pc' := 13) rfl ?_
  refine gbipush B X26 d1_13 (v := (8 : Int32)) rfl (pc' := 15) rfl ?_
  have c15_32 : (2 : Int32) < (8 : Int32) := (by decide)
  refine gicN B X26 d1_15 (tlt c15_32).2.1 (pc' := 18) rfl ?_
  refine galoadN B X26 d1_18 rfl rfl (pc' := 19) rfl ?_
  refine gbipush B X26 d1_19 (v := (11 : Int32)) rfl (pc' := 21) rfl ?_
  refine giload B X26 d1_21 rfl (pc' := 23) rfl ?_
  refine gisub B X26 d1_23 (v := (9 : Int32)) (by decide) (pc' := 24) rfl ?_
  refine gdup2 B X26 d1_24 rfl rfl (pc' := 25) rfl ?_
  refine gbaload B X26 (n := 12) A28 rfl (by decide) (v := (.int x9)) rfl d1_25 (pc' := 26) rfl ?_
  refine glloadN B X26 d1_26 rfl (pc' := 27) rfl ?_
  refine gbipush B X26 d1_27 (v := (8 : Int32)) rfl (pc' := 29) rfl ?_
  refine giload B X26 d1_29 rfl (pc' := 31) rfl ?_
  refine gimul B X26 d1_31 (v := (16 : Int32)) (by decide) (pc' := 32) rfl ?_
  refine glushr B X26 d1_32 rfl (pc' := 33) rfl ?_
  refine gl2i B X26 d1_33 rfl (pc' := 34) rfl ?_
  refine gi2b B X26 d1_34 rfl (pc' := 35) rfl ?_
  refine gixor B X26 d1_35 rfl (pc' := 36) rfl ?_
  refine gi2b B X26 d1_36 rfl (pc' := 37) rfl ?_
  refine gbastore B X26 (i := 9) (n := 12) A28 rfl (by decide) rfl (vs' := [(.int x0), (.int x1), (.int x2), (.int x3), (.int x4), (.int x5), (.int x6), (.int x7), (.int x8), (.int (x9 ^^^ ((n.toUInt64 >>> ((16 : Int32) &&& 0x3f).toInt64.toUInt64).toInt64).toInt32.toInt8.toInt32).toInt8.toInt32), (.int (x10 ^^^ ((n.toUInt64 >>> ((8 : Int32) &&& 0x3f).toInt64.toUInt64).toInt64).toInt32.toInt8.toInt32).toInt8.toInt32), (.int (x11 ^^^ n.toInt32.toInt8.toInt32).toInt8.toInt32)]) (by rw [Jvm.OwnKit.nbb]; rfl) (Or.inr z_a3) d1_37 (pc' := 38) rfl fun T33 h34 X35 W36 A37 => ?_
  have E38 := E29.wr W36
  have F39 := F30.other W36 n9
  have E40 := E31.wr W36
  refine giinc B X35 d1_38 rfl (v := (3 : Int32)) (by decide) (Ls' := #[.val (.ref a), .val (.long n), .second, .val (.ref a3), .val (.int (3 : Int32))]) rfl (pc' := 41) rfl ?_
  refine ggoto B X35 (pc' := 11) d1_41 (by decide) ?_
  refine giload B X35 d1_11 rfl (pc' := 13) rfl ?_
  refine gbipush B X35 d1_13 (v := (8 : Int32)) rfl (pc' := 15) rfl ?_
  have c15_41 : (3 : Int32) < (8 : Int32) := (by decide)
  refine gicN B X35 d1_15 (tlt c15_41).2.1 (pc' := 18) rfl ?_
  refine galoadN B X35 d1_18 rfl rfl (pc' := 19) rfl ?_
  refine gbipush B X35 d1_19 (v := (11 : Int32)) rfl (pc' := 21) rfl ?_
  refine giload B X35 d1_21 rfl (pc' := 23) rfl ?_
  refine gisub B X35 d1_23 (v := (8 : Int32)) (by decide) (pc' := 24) rfl ?_
  refine gdup2 B X35 d1_24 rfl rfl (pc' := 25) rfl ?_
  refine gbaload B X35 (n := 12) A37 rfl (by decide) (v := (.int x8)) rfl d1_25 (pc' := 26) rfl ?_
  refine glloadN B X35 d1_26 rfl (pc' := 27) rfl ?_
  refine gbipush B X35 d1_27 (v := (8 : Int32)) rfl (pc' := 29) rfl ?_
  refine giload B X35 d1_29 rfl (pc' := 31) rfl ?_
  refine gimul B X35 d1_31 (v := (24 : Int32)) (by decide) (pc' := 32) rfl ?_
  refine glushr B X35 d1_32 rfl (pc' := 33) rfl ?_
  refine gl2i B X35 d1_33 rfl (pc' := 34) rfl ?_
  refine gi2b B X35 d1_34 rfl (pc' := 35) rfl ?_
  refine gixor B X35 d1_35 rfl (pc' := 36) rfl ?_
  refine gi2b B X35 d1_36 rfl (pc' := 37) rfl ?_
  refine gbastore B X35 (i := 8) (n := 12) A37 rfl (by decide) rfl (vs' := [(.int x0), (.int x1), (.int x2), (.int x3), (.int x4), (.int x5), (.int x6), (.int x7), (.int (x8 ^^^ ((n.toUInt64 >>> ((24 : Int32) &&& 0x3f).toInt64.toUInt64).toInt64).toInt32.toInt8.toInt32).toInt8.toInt32), (.int (x9 ^^^ ((n.toUInt64 >>> ((16 : Int32) &&& 0x3f).toInt64.toUInt64).toInt64).toInt32.toInt8.toInt32).toInt8.toInt32), (.int (x10 ^^^ ((n.toUInt64 >>> ((8 : Int32) &&& 0x3f).toInt64.toUInt64).toInt64).toInt32.toInt8.toInt32).toInt8.toInt32), (.int (x11 ^^^ n.toInt32.toInt8.toInt32).toInt8.toInt32)]) (by rw [Jvm.OwnKit.nbb]; rfl) (Or.inr z_a3) d1_37 (pc' := 38) rfl fun T42 h43 X44 W45 A46 => ?_
  have E47 := E38.wr W45
  have F48 := F39.other W45 n9
  have E49 := E40.wr W45
  refine giinc B X44 d1_38 rfl (v := (4 : Int32)) (by decide) (Ls' := #[.val (.ref a), .val (.long n), .second, .val (.ref a3), .val (.int (4 : Int32))]) rfl (pc' := 41) rfl ?_
  refine ggoto B X44 (pc' := 11) d1_41 (by decide) ?_
  refine giload B X44 d1_11 rfl (pc' := 13) rfl ?_
  refine gbipush B X44 d1_13 (v := (8 : Int32)) rfl (pc' := 15) rfl ?_
  have c15_50 : (4 : Int32) < (8 : Int32) := (by decide)
  refine gicN B X44 d1_15 (tlt c15_50).2.1 (pc' := 18) rfl ?_
  refine galoadN B X44 d1_18 rfl rfl (pc' := 19) rfl ?_
  refine gbipush B X44 d1_19 (v := (11 : Int32)) rfl (pc' := 21) rfl ?_
  refine giload B X44 d1_21 rfl (pc' := 23) rfl ?_
  refine gisub B X44 d1_23 (v := (7 : Int32)) (by decide) (pc' := 24) rfl ?_
  refine gdup2 B X44 d1_24 rfl rfl (pc' := 25) rfl ?_
  refine gbaload B X44 (n := 12) A46 rfl (by decide) (v := (.int x7)) rfl d1_25 (pc' := 26) rfl ?_
  refine glloadN B X44 d1_26 rfl (pc' := 27) rfl ?_
  refine gbipush B X44 d1_27 (v := (8 : Int32)) rfl (pc' := 29) rfl ?_
  refine giload B X44 d1_29 rfl (pc' := 31) rfl ?_
  refine gimul B X44 d1_31 (v := (32 : Int32)) (by decide) (pc' := 32) rfl ?_
  refine glushr B X44 d1_32 rfl (pc' := 33) rfl ?_
  refine gl2i B X44 d1_33 rfl (pc' := 34) rfl ?_
  refine gi2b B X44 d1_34 rfl (pc' := 35) rfl ?_
  refine gixor B X44 d1_35 rfl (pc' := 36) rfl ?_
  refine gi2b B X44 d1_36 rfl (pc' := 37) rfl ?_
  refine gbastore B X44 (i := 7) (n := 12) A46 rfl (by decide) rfl (vs' := [(.int x0), (.int x1), (.int x2), (.int x3), (.int x4), (.int x5), (.int x6), (.int (x7 ^^^ ((n.toUInt64 >>> ((32 : Int32) &&& 0x3f).toInt64.toUInt64).toInt64).toInt32.toInt8.toInt32).toInt8.toInt32), (.int (x8 ^^^ ((n.toUInt64 >>> ((24 : Int32) &&& 0x3f).toInt64.toUInt64).toInt64).toInt32.toInt8.toInt32).toInt8.toInt32), (.int (x9 ^^^ ((n.toUInt64 >>> ((16 : Int32) &&& 0x3f).toInt64.toUInt64).toInt64).toInt32.toInt8.toInt32).toInt8.toInt32), (.int (x10 ^^^ ((n.toUInt64 >>> ((8 : Int32) &&& 0x3f).toInt64.toUInt64).toInt64).toInt32.toInt8.toInt32).toInt8.toInt32), (.int (x11 ^^^ n.toInt32.toInt8.toInt32).toInt8.toInt32)]) (by rw [Jvm.OwnKit.nbb]; rfl) (Or.inr z_a3) d1_37 (pc' := 38) rfl fun T51 h52 X53 W54 A55 => ?_
  have E56 := E47.wr W54
  have F57 := F48.other W54 n9
  have E58 := E49.wr W54
  refine giinc B X53 d1_38 rfl (v := (5 : Int32)) (by decide) (Ls' := #[.val (.ref a), .val (.long n), .second, .val (.ref a3), .val (.int (5 : Int32))]) rfl (pc' := 41) rfl ?_
  refine ggoto B X53 (pc' := 11) d1_41 (by decide) ?_
  refine giload B X53 d1_11 rfl (pc' := 13) rfl ?_
  refine gbipush B X53 d1_13 (v := (8 : Int32)) rfl (pc' := 15) rfl ?_
  have c15_59 : (5 : Int32) < (8 : Int32) := (by decide)
  refine gicN B X53 d1_15 (tlt c15_59).2.1 (pc' := 18) rfl ?_
  refine galoadN B X53 d1_18 rfl rfl (pc' := 19) rfl ?_
  refine gbipush B X53 d1_19 (v := (11 : Int32)) rfl (pc' := 21) rfl ?_
  refine giload B X53 d1_21 rfl (pc' := 23) rfl ?_
  refine gisub B X53 d1_23 (v := (6 : Int32)) (by decide) (pc' := 24) rfl ?_
  refine gdup2 B X53 d1_24 rfl rfl (pc' := 25) rfl ?_
  refine gbaload B X53 (n := 12) A55 rfl (by decide) (v := (.int x6)) rfl d1_25 (pc' := 26) rfl ?_
  refine glloadN B X53 d1_26 rfl (pc' := 27) rfl ?_
  refine gbipush B X53 d1_27 (v := (8 : Int32)) rfl (pc' := 29) rfl ?_
  refine giload B X53 d1_29 rfl (pc' := 31) rfl ?_
  refine gimul B X53 d1_31 (v := (40 : Int32)) (by decide) (pc' := 32) rfl ?_
  refine glushr B X53 d1_32 rfl (pc' := 33) rfl ?_
  refine gl2i B X53 d1_33 rfl (pc' := 34) rfl ?_
  refine gi2b B X53 d1_34 rfl (pc' := 35) rfl ?_
  refine gixor B X53 d1_35 rfl (pc' := 36) rfl ?_
  refine gi2b B X53 d1_36 rfl (pc' := 37) rfl ?_
  refine gbastore B X53 (i := 6) (n := 12) A55 rfl (by decide) rfl (vs' := [(.int x0), (.int x1), (.int x2), (.int x3), (.int x4), (.int x5), (.int (x6 ^^^ ((n.toUInt64 >>> ((40 : Int32) &&& 0x3f).toInt64.toUInt64).toInt64).toInt32.toInt8.toInt32).toInt8.toInt32), (.int (x7 ^^^ ((n.toUInt64 >>> ((32 : Int32) &&& 0x3f).toInt64.toUInt64).toInt64).toInt32.toInt8.toInt32).toInt8.toInt32), (.int (x8 ^^^ ((n.toUInt64 >>> ((24 : Int32) &&& 0x3f).toInt64.toUInt64).toInt64).toInt32.toInt8.toInt32).toInt8.toInt32), (.int (x9 ^^^ ((n.toUInt64 >>> ((16 : Int32) &&& 0x3f).toInt64.toUInt64).toInt64).toInt32.toInt8.toInt32).toInt8.toInt32), (.int (x10 ^^^ ((n.toUInt64 >>> ((8 : Int32) &&& 0x3f).toInt64.toUInt64).toInt64).toInt32.toInt8.toInt32).toInt8.toInt32), (.int (x11 ^^^ n.toInt32.toInt8.toInt32).toInt8.toInt32)]) (by rw [Jvm.OwnKit.nbb]; rfl) (Or.inr z_a3) d1_37 (pc' := 38) rfl fun T60 h61 X62 W63 A64 => ?_
  have E65 := E56.wr W63
  have F66 := F57.other W63 n9
  have E67 := E58.wr W63
  refine giinc B X62 d1_38 rfl (v := (6 : Int32)) (by decide) (Ls' := #[.val (.ref a), .val (.long n), .second, .val (.ref a3), .val (.int (6 : Int32))]) rfl (pc' := 41) rfl ?_
  refine ggoto B X62 (pc' := 11) d1_41 (by decide) ?_
  refine giload B X62 d1_11 rfl (pc' := 13) rfl ?_
  refine gbipush B X62 d1_13 (v := (8 : Int32)) rfl (pc' := 15) rfl ?_
  have c15_68 : (6 : Int32) < (8 : Int32) := (by decide)
  refine gicN B X62 d1_15 (tlt c15_68).2.1 (pc' := 18) rfl ?_
  refine galoadN B X62 d1_18 rfl rfl (pc' := 19) rfl ?_
  refine gbipush B X62 d1_19 (v := (11 : Int32)) rfl (pc' := 21) rfl ?_
  refine giload B X62 d1_21 rfl (pc' := 23) rfl ?_
  refine gisub B X62 d1_23 (v := (5 : Int32)) (by decide) (pc' := 24) rfl ?_
  refine gdup2 B X62 d1_24 rfl rfl (pc' := 25) rfl ?_
  refine gbaload B X62 (n := 12) A64 rfl (by decide) (v := (.int x5)) rfl d1_25 (pc' := 26) rfl ?_
  refine glloadN B X62 d1_26 rfl (pc' := 27) rfl ?_
  refine gbipush B X62 d1_27 (v := (8 : Int32)) rfl (pc' := 29) rfl ?_
  refine giload B X62 d1_29 rfl (pc' := 31) rfl ?_
  refine gimul B X62 d1_31 (v := (48 : Int32)) (by decide) (pc' := 32) rfl ?_
  refine glushr B X62 d1_32 rfl (pc' := 33) rfl ?_
  refine gl2i B X62 d1_33 rfl (pc' := 34) rfl ?_
  refine gi2b B X62 d1_34 rfl (pc' := 35) rfl ?_
  refine gixor B X62 d1_35 rfl (pc' := 36) rfl ?_
  refine gi2b B X62 d1_36 rfl (pc' := 37) rfl ?_
  refine gbastore B X62 (i := 5) (n := 12) A64 rfl (by decide) rfl (vs' := [(.int x0), (.int x1), (.int x2), (.int x3), (.int x4), (.int (x5 ^^^ ((n.toUInt64 >>> ((48 : Int32) &&& 0x3f).toInt64.toUInt64).toInt64).toInt32.toInt8.toInt32).toInt8.toInt32), (.int (x6 ^^^ ((n.toUInt64 >>> ((40 : Int32) &&& 0x3f).toInt64.toUInt64).toInt64).toInt32.toInt8.toInt32).toInt8.toInt32), (.int (x7 ^^^ ((n.toUInt64 >>> ((32 : Int32) &&& 0x3f).toInt64.toUInt64).toInt64).toInt32.toInt8.toInt32).toInt8.toInt32), (.int (x8 ^^^ ((n.toUInt64 >>> ((24 : Int32) &&& 0x3f).toInt64.toUInt64).toInt64).toInt32.toInt8.toInt32).toInt8.toInt32), (.int (x9 ^^^ ((n.toUInt64 >>> ((16 : Int32) &&& 0x3f).toInt64.toUInt64).toInt64).toInt32.toInt8.toInt32).toInt8.toInt32), (.int (x10 ^^^ ((n.toUInt64 >>> ((8 : Int32) &&& 0x3f).toInt64.toUInt64).toInt64).toInt32.toInt8.toInt32).toInt8.toInt32), (.int (x11 ^^^ n.toInt32.toInt8.toInt32).toInt8.toInt32)]) (by rw [Jvm.OwnKit.nbb]; rfl) (Or.inr z_a3) d1_37 (pc' := 38) rfl fun T69 h70 X71 W72 A73 => ?_
  have E74 := E65.wr W72
  have F75 := F66.other W72 n9
  have E76 := E67.wr W72
  refine giinc B X71 d1_38 rfl (v := (7 : Int32)) (by decide) (Ls' := #[.val (.ref a), .val (.long n), .second, .val (.ref a3), .val (.int (7 : Int32))]) rfl (pc' := 41) rfl ?_
  refine ggoto B X71 (pc' := 11) d1_41 (by decide) ?_
  refine giload B X71 d1_11 rfl (pc' := 13) rfl ?_
  refine gbipush B X71 d1_13 (v := (8 : Int32)) rfl (pc' := 15) rfl ?_
  have c15_77 : (7 : Int32) < (8 : Int32) := (by decide)
  refine gicN B X71 d1_15 (tlt c15_77).2.1 (pc' := 18) rfl ?_
  refine galoadN B X71 d1_18 rfl rfl (pc' := 19) rfl ?_
  refine gbipush B X71 d1_19 (v := (11 : Int32)) rfl (pc' := 21) rfl ?_
  refine giload B X71 d1_21 rfl (pc' := 23) rfl ?_
  refine gisub B X71 d1_23 (v := (4 : Int32)) (by decide) (pc' := 24) rfl ?_
  refine gdup2 B X71 d1_24 rfl rfl (pc' := 25) rfl ?_
  refine gbaload B X71 (n := 12) A73 rfl (by decide) (v := (.int x4)) rfl d1_25 (pc' := 26) rfl ?_
  refine glloadN B X71 d1_26 rfl (pc' := 27) rfl ?_
  refine gbipush B X71 d1_27 (v := (8 : Int32)) rfl (pc' := 29) rfl ?_
  refine giload B X71 d1_29 rfl (pc' := 31) rfl ?_
  refine gimul B X71 d1_31 (v := (56 : Int32)) (by decide) (pc' := 32) rfl ?_
  refine glushr B X71 d1_32 rfl (pc' := 33) rfl ?_
  refine gl2i B X71 d1_33 rfl (pc' := 34) rfl ?_
  refine gi2b B X71 d1_34 rfl (pc' := 35) rfl ?_
  refine gixor B X71 d1_35 rfl (pc' := 36) rfl ?_
  refine gi2b B X71 d1_36 rfl (pc' := 37) rfl ?_
  refine gbastore B X71 (i := 4) (n := 12) A73 rfl (by decide) rfl (vs' := [(.int x0), (.int x1), (.int x2), (.int x3), (.int (x4 ^^^ ((n.toUInt64 >>> ((56 : Int32) &&& 0x3f).toInt64.toUInt64).toInt64).toInt32.toInt8.toInt32).toInt8.toInt32), (.int (x5 ^^^ ((n.toUInt64 >>> ((48 : Int32) &&& 0x3f).toInt64.toUInt64).toInt64).toInt32.toInt8.toInt32).toInt8.toInt32), (.int (x6 ^^^ ((n.toUInt64 >>> ((40 : Int32) &&& 0x3f).toInt64.toUInt64).toInt64).toInt32.toInt8.toInt32).toInt8.toInt32), (.int (x7 ^^^ ((n.toUInt64 >>> ((32 : Int32) &&& 0x3f).toInt64.toUInt64).toInt64).toInt32.toInt8.toInt32).toInt8.toInt32), (.int (x8 ^^^ ((n.toUInt64 >>> ((24 : Int32) &&& 0x3f).toInt64.toUInt64).toInt64).toInt32.toInt8.toInt32).toInt8.toInt32), (.int (x9 ^^^ ((n.toUInt64 >>> ((16 : Int32) &&& 0x3f).toInt64.toUInt64).toInt64).toInt32.toInt8.toInt32).toInt8.toInt32), (.int (x10 ^^^ ((n.toUInt64 >>> ((8 : Int32) &&& 0x3f).toInt64.toUInt64).toInt64).toInt32.toInt8.toInt32).toInt8.toInt32), (.int (x11 ^^^ n.toInt32.toInt8.toInt32).toInt8.toInt32)]) (by rw [Jvm.OwnKit.nbb]; rfl) (Or.inr z_a3) d1_37 (pc' := 38) rfl fun T78 h79 X80 W81 A82 => ?_
  have E83 := E74.wr W81
  have F84 := F75.other W81 n9
  have E85 := E76.wr W81
  refine giinc B X80 d1_38 rfl (v := (8 : Int32)) (by decide) (Ls' := #[.val (.ref a), .val (.long n), .second, .val (.ref a3), .val (.int (8 : Int32))]) rfl (pc' := 41) rfl ?_
  refine ggoto B X80 (pc' := 11) d1_41 (by decide) ?_
  refine giload B X80 d1_11 rfl (pc' := 13) rfl ?_
  refine gbipush B X80 d1_13 (v := (8 : Int32)) rfl (pc' := 15) rfl ?_
  have c15_86 : ¬ ((8 : Int32) < (8 : Int32)) := (by decide)
  refine gicY B X80 (pc' := 44) d1_15 (flt c15_86).2.1 (by decide) ?_
  refine galoadN B X80 d1_44 rfl rfl (pc' := 45) rfl ?_
  exact gretA B X80 rfl rfl d1_45 (by decide) (by decide) (⟨a3, rfl, z_a3, A82⟩)
theorem pn0 : plainFor (⟨"com/example/dokaz/dokaz/crypto/Aes256GcmNoncePinLaw", "law", "(IJJ)Z"⟩ : MethodName) = true := plainFor_of_name (by first | (simp [plainName, overriddenIn]; done) | decide +kernel)
theorem ef0_IJJ (m : MethodId) (x0 : Int32) (x1 : Int64) (x2 : Int64) : entryFrame m #[(.int x0), (.long x1), (.long x2)] 8 = mkF m 0 #[.val (.int x0), .val (.long x1), .second, .val (.long x2), .second, .unset, .unset, .unset] [] := by first | (simp [entryFrame, mkF, argsToLocals, Value.category]; done) | rfl
theorem pd___BJ__B : parseMethodDescriptor "([BJ)[B" = some ⟨[(.array .byte), .long], some (.array .byte)⟩ := by decide +kernel
theorem pd___B_I : parseMethodDescriptor "([B)I" = some ⟨[(.array .byte)], some .int⟩ := by decide +kernel
theorem pd___B_J : parseMethodDescriptor "([B)J" = some ⟨[(.array .byte)], some .long⟩ := by decide +kernel
set_option maxRecDepth 65536 in
set_option maxHeartbeats 4000000 in
theorem mt0 (l : Launch) (Z : State) (a0 : Array Value) (hw : ∀ d ∈ tables_1, d.before a0 Z = true) (p0 : Int32) (p1 : Int64) (p2 : Int64) (h0 : Heap) : Meth l Z x code maxLocals ret room_1 #[(.int p0), (.long p1), (.long p2)] h0 [] (fun v h' => v = some (.int 1)) := by
  refine Meth.of pn0 ?_
  intro p e s m below meth c T B X
  have B : Fix p Z s m meth c code 8 "com/example/dokaz/dokaz/crypto/Aes256GcmNoncePinLaw" "law" (some .boolean) := B
  refine Go.entry (ef0_IJJ m p0 p1 p2) ?_
  refine gbipush B X at_0 (v := (12 : Int32)) rfl (pc' := 2) rfl ?_
  refine gnewarrayE B X (cap := 12) (vs := [(.int (0 : Int32)), (.int (0 : Int32)), (.int (0 : Int32)), (.int (0 : Int32)), (.int (0 : Int32)), (.int (0 : Int32)), (.int (0 : Int32)), (.int (0 : Int32)), (.int (0 : Int32)), (.int (0 : Int32)), (.int (0 : Int32)), (.int (0 : Int32))]) (ty := .byte) (ad := "[B") (by decide) rfl rfl (hw _ (List.mem_of_getElem? (i := 0) rfl)) (by decide) (by decide) (by decide) (by decide) (by decide) at_2 (pc' := 4) rfl fun T87 h88 a89 X90 q91 E92 z_a89 A93 E94 => ?_
  refine gastore B X90 at_4 rfl (Ls' := #[.val (.int p0), .val (.long p1), .second, .val (.long p2), .second, .val (.ref a89), .unset, .unset]) rfl (pc' := 6) rfl ?_
  refine gaload B X90 at_6 rfl rfl (pc' := 8) rfl ?_
  refine giconst B X90 at_8 (v := (0 : Int32)) rfl (pc' := 9) rfl ?_
  refine giloadN B X90 at_9 rfl (pc' := 10) rfl ?_
  refine gbipush B X90 at_10 (v := (24 : Int32)) rfl (pc' := 12) rfl ?_
  refine giushr B X90 at_12 rfl (pc' := 13) rfl ?_
  refine gi2b B X90 at_13 rfl (pc' := 14) rfl ?_
  refine gbastore B X90 (i := 0) (n := 12) A93 rfl (by decide) rfl (vs' := [(.int ((p0.toUInt32 >>> ((24 : Int32) &&& 31).toUInt32).toInt32).toInt8.toInt32), (.int (0 : Int32)), (.int (0 : Int32)), (.int (0 : Int32)), (.int (0 : Int32)), (.int (0 : Int32)), (.int (0 : Int32)), (.int (0 : Int32)), (.int (0 : Int32)), (.int (0 : Int32)), (.int (0 : Int32)), (.int (0 : Int32))]) (by rw [Jvm.OwnKit.nbb]; rfl) (Or.inr z_a89) at_14 (pc' := 15) rfl fun T95 h96 X97 W98 A99 => ?_
  have E100 := E94.wr W98
  refine gaload B X97 at_15 rfl rfl (pc' := 17) rfl ?_
  refine giconst B X97 at_17 (v := (1 : Int32)) rfl (pc' := 18) rfl ?_
  refine giloadN B X97 at_18 rfl (pc' := 19) rfl ?_
  refine gbipush B X97 at_19 (v := (16 : Int32)) rfl (pc' := 21) rfl ?_
  refine giushr B X97 at_21 rfl (pc' := 22) rfl ?_
  refine gi2b B X97 at_22 rfl (pc' := 23) rfl ?_
  refine gbastore B X97 (i := 1) (n := 12) A99 rfl (by decide) rfl (vs' := [(.int ((p0.toUInt32 >>> ((24 : Int32) &&& 31).toUInt32).toInt32).toInt8.toInt32), (.int ((p0.toUInt32 >>> ((16 : Int32) &&& 31).toUInt32).toInt32).toInt8.toInt32), (.int (0 : Int32)), (.int (0 : Int32)), (.int (0 : Int32)), (.int (0 : Int32)), (.int (0 : Int32)), (.int (0 : Int32)), (.int (0 : Int32)), (.int (0 : Int32)), (.int (0 : Int32)), (.int (0 : Int32))]) (by rw [Jvm.OwnKit.nbb]; rfl) (Or.inr z_a89) at_23 (pc' := 24) rfl fun T101 h102 X103 W104 A105 => ?_
  have E106 := E100.wr W104
  refine gaload B X103 at_24 rfl rfl (pc' := 26) rfl ?_
  refine giconst B X103 at_26 (v := (2 : Int32)) rfl (pc' := 27) rfl ?_
  refine giloadN B X103 at_27 rfl (pc' := 28) rfl ?_
  refine gbipush B X103 at_28 (v := (8 : Int32)) rfl (pc' := 30) rfl ?_
  refine giushr B X103 at_30 rfl (pc' := 31) rfl ?_
  refine gi2b B X103 at_31 rfl (pc' := 32) rfl ?_
  refine gbastore B X103 (i := 2) (n := 12) A105 rfl (by decide) rfl (vs' := [(.int ((p0.toUInt32 >>> ((24 : Int32) &&& 31).toUInt32).toInt32).toInt8.toInt32), (.int ((p0.toUInt32 >>> ((16 : Int32) &&& 31).toUInt32).toInt32).toInt8.toInt32), (.int ((p0.toUInt32 >>> ((8 : Int32) &&& 31).toUInt32).toInt32).toInt8.toInt32), (.int (0 : Int32)), (.int (0 : Int32)), (.int (0 : Int32)), (.int (0 : Int32)), (.int (0 : Int32)), (.int (0 : Int32)), (.int (0 : Int32)), (.int (0 : Int32)), (.int (0 : Int32))]) (by rw [Jvm.OwnKit.nbb]; rfl) (Or.inr z_a89) at_32 (pc' := 33) rfl fun T107 h108 X109 W110 A111 => ?_
  have E112 := E106.wr W110
  refine gaload B X109 at_33 rfl rfl (pc' := 35) rfl ?_
  refine giconst B X109 at_35 (v := (3 : Int32)) rfl (pc' := 36) rfl ?_
  refine giloadN B X109 at_36 rfl (pc' := 37) rfl ?_
  refine gi2b B X109 at_37 rfl (pc' := 38) rfl ?_
  refine gbastore B X109 (i := 3) (n := 12) A111 rfl (by decide) rfl (vs' := [(.int ((p0.toUInt32 >>> ((24 : Int32) &&& 31).toUInt32).toInt32).toInt8.toInt32), (.int ((p0.toUInt32 >>> ((16 : Int32) &&& 31).toUInt32).toInt32).toInt8.toInt32), (.int ((p0.toUInt32 >>> ((8 : Int32) &&& 31).toUInt32).toInt32).toInt8.toInt32), (.int p0.toInt8.toInt32), (.int (0 : Int32)), (.int (0 : Int32)), (.int (0 : Int32)), (.int (0 : Int32)), (.int (0 : Int32)), (.int (0 : Int32)), (.int (0 : Int32)), (.int (0 : Int32))]) (by rw [Jvm.OwnKit.nbb]; rfl) (Or.inr z_a89) at_38 (pc' := 39) rfl fun T113 h114 X115 W116 A117 => ?_
  have E118 := E112.wr W116
  refine gaload B X115 at_39 rfl rfl (pc' := 41) rfl ?_
  refine giconst B X115 at_41 (v := (4 : Int32)) rfl (pc' := 42) rfl ?_
  refine glloadN B X115 at_42 rfl (pc' := 43) rfl ?_
  refine gbipush B X115 at_43 (v := (56 : Int32)) rfl (pc' := 45) rfl ?_
  refine glushr B X115 at_45 rfl (pc' := 46) rfl ?_
  refine gl2i B X115 at_46 rfl (pc' := 47) rfl ?_
  refine gi2b B X115 at_47 rfl (pc' := 48) rfl ?_
  refine gbastore B X115 (i := 4) (n := 12) A117 rfl (by decide) rfl (vs' := [(.int ((p0.toUInt32 >>> ((24 : Int32) &&& 31).toUInt32).toInt32).toInt8.toInt32), (.int ((p0.toUInt32 >>> ((16 : Int32) &&& 31).toUInt32).toInt32).toInt8.toInt32), (.int ((p0.toUInt32 >>> ((8 : Int32) &&& 31).toUInt32).toInt32).toInt8.toInt32), (.int p0.toInt8.toInt32), (.int ((p1.toUInt64 >>> ((56 : Int32) &&& 0x3f).toInt64.toUInt64).toInt64).toInt32.toInt8.toInt32), (.int (0 : Int32)), (.int (0 : Int32)), (.int (0 : Int32)), (.int (0 : Int32)), (.int (0 : Int32)), (.int (0 : Int32)), (.int (0 : Int32))]) (by rw [Jvm.OwnKit.nbb]; rfl) (Or.inr z_a89) at_48 (pc' := 49) rfl fun T119 h120 X121 W122 A123 => ?_
  have E124 := E118.wr W122
  refine gaload B X121 at_49 rfl rfl (pc' := 51) rfl ?_
  refine giconst B X121 at_51 (v := (5 : Int32)) rfl (pc' := 52) rfl ?_
  refine glloadN B X121 at_52 rfl (pc' := 53) rfl ?_
  refine gbipush B X121 at_53 (v := (48 : Int32)) rfl (pc' := 55) rfl ?_
  refine glushr B X121 at_55 rfl (pc' := 56) rfl ?_
  refine gl2i B X121 at_56 rfl (pc' := 57) rfl ?_
  refine gi2b B X121 at_57 rfl (pc' := 58) rfl ?_
  refine gbastore B X121 (i := 5) (n := 12) A123 rfl (by decide) rfl (vs' := [(.int ((p0.toUInt32 >>> ((24 : Int32) &&& 31).toUInt32).toInt32).toInt8.toInt32), (.int ((p0.toUInt32 >>> ((16 : Int32) &&& 31).toUInt32).toInt32).toInt8.toInt32), (.int ((p0.toUInt32 >>> ((8 : Int32) &&& 31).toUInt32).toInt32).toInt8.toInt32), (.int p0.toInt8.toInt32), (.int ((p1.toUInt64 >>> ((56 : Int32) &&& 0x3f).toInt64.toUInt64).toInt64).toInt32.toInt8.toInt32), (.int ((p1.toUInt64 >>> ((48 : Int32) &&& 0x3f).toInt64.toUInt64).toInt64).toInt32.toInt8.toInt32), (.int (0 : Int32)), (.int (0 : Int32)), (.int (0 : Int32)), (.int (0 : Int32)), (.int (0 : Int32)), (.int (0 : Int32))]) (by rw [Jvm.OwnKit.nbb]; rfl) (Or.inr z_a89) at_58 (pc' := 59) rfl fun T125 h126 X127 W128 A129 => ?_
  have E130 := E124.wr W128
  refine gaload B X127 at_59 rfl rfl (pc' := 61) rfl ?_
  refine gbipush B X127 at_61 (v := (6 : Int32)) rfl (pc' := 63) rfl ?_
  refine glloadN B X127 at_63 rfl (pc' := 64) rfl ?_
  refine gbipush B X127 at_64 (v := (40 : Int32)) rfl (pc' := 66) rfl ?_
  refine glushr B X127 at_66 rfl (pc' := 67) rfl ?_
  refine gl2i B X127 at_67 rfl (pc' := 68) rfl ?_
  refine gi2b B X127 at_68 rfl (pc' := 69) rfl ?_
  refine gbastore B X127 (i := 6) (n := 12) A129 rfl (by decide) rfl (vs' := [(.int ((p0.toUInt32 >>> ((24 : Int32) &&& 31).toUInt32).toInt32).toInt8.toInt32), (.int ((p0.toUInt32 >>> ((16 : Int32) &&& 31).toUInt32).toInt32).toInt8.toInt32), (.int ((p0.toUInt32 >>> ((8 : Int32) &&& 31).toUInt32).toInt32).toInt8.toInt32), (.int p0.toInt8.toInt32), (.int ((p1.toUInt64 >>> ((56 : Int32) &&& 0x3f).toInt64.toUInt64).toInt64).toInt32.toInt8.toInt32), (.int ((p1.toUInt64 >>> ((48 : Int32) &&& 0x3f).toInt64.toUInt64).toInt64).toInt32.toInt8.toInt32), (.int ((p1.toUInt64 >>> ((40 : Int32) &&& 0x3f).toInt64.toUInt64).toInt64).toInt32.toInt8.toInt32), (.int (0 : Int32)), (.int (0 : Int32)), (.int (0 : Int32)), (.int (0 : Int32)), (.int (0 : Int32))]) (by rw [Jvm.OwnKit.nbb]; rfl) (Or.inr z_a89) at_69 (pc' := 70) rfl fun T131 h132 X133 W134 A135 => ?_
  have E136 := E130.wr W134
  refine gaload B X133 at_70 rfl rfl (pc' := 72) rfl ?_
  refine gbipush B X133 at_72 (v := (7 : Int32)) rfl (pc' := 74) rfl ?_
  refine glloadN B X133 at_74 rfl (pc' := 75) rfl ?_
  refine gbipush B X133 at_75 (v := (32 : Int32)) rfl (pc' := 77) rfl ?_
  refine glushr B X133 at_77 rfl (pc' := 78) rfl ?_
  refine gl2i B X133 at_78 rfl (pc' := 79) rfl ?_
  refine gi2b B X133 at_79 rfl (pc' := 80) rfl ?_
  refine gbastore B X133 (i := 7) (n := 12) A135 rfl (by decide) rfl (vs' := [(.int ((p0.toUInt32 >>> ((24 : Int32) &&& 31).toUInt32).toInt32).toInt8.toInt32), (.int ((p0.toUInt32 >>> ((16 : Int32) &&& 31).toUInt32).toInt32).toInt8.toInt32), (.int ((p0.toUInt32 >>> ((8 : Int32) &&& 31).toUInt32).toInt32).toInt8.toInt32), (.int p0.toInt8.toInt32), (.int ((p1.toUInt64 >>> ((56 : Int32) &&& 0x3f).toInt64.toUInt64).toInt64).toInt32.toInt8.toInt32), (.int ((p1.toUInt64 >>> ((48 : Int32) &&& 0x3f).toInt64.toUInt64).toInt64).toInt32.toInt8.toInt32), (.int ((p1.toUInt64 >>> ((40 : Int32) &&& 0x3f).toInt64.toUInt64).toInt64).toInt32.toInt8.toInt32), (.int ((p1.toUInt64 >>> ((32 : Int32) &&& 0x3f).toInt64.toUInt64).toInt64).toInt32.toInt8.toInt32), (.int (0 : Int32)), (.int (0 : Int32)), (.int (0 : Int32)), (.int (0 : Int32))]) (by rw [Jvm.OwnKit.nbb]; rfl) (Or.inr z_a89) at_80 (pc' := 81) rfl fun T137 h138 X139 W140 A141 => ?_
  have E142 := E136.wr W140
  refine gaload B X139 at_81 rfl rfl (pc' := 83) rfl ?_
  refine gbipush B X139 at_83 (v := (8 : Int32)) rfl (pc' := 85) rfl ?_
  refine glloadN B X139 at_85 rfl (pc' := 86) rfl ?_
  refine gbipush B X139 at_86 (v := (24 : Int32)) rfl (pc' := 88) rfl ?_
  refine glushr B X139 at_88 rfl (pc' := 89) rfl ?_
  refine gl2i B X139 at_89 rfl (pc' := 90) rfl ?_
  refine gi2b B X139 at_90 rfl (pc' := 91) rfl ?_
  refine gbastore B X139 (i := 8) (n := 12) A141 rfl (by decide) rfl (vs' := [(.int ((p0.toUInt32 >>> ((24 : Int32) &&& 31).toUInt32).toInt32).toInt8.toInt32), (.int ((p0.toUInt32 >>> ((16 : Int32) &&& 31).toUInt32).toInt32).toInt8.toInt32), (.int ((p0.toUInt32 >>> ((8 : Int32) &&& 31).toUInt32).toInt32).toInt8.toInt32), (.int p0.toInt8.toInt32), (.int ((p1.toUInt64 >>> ((56 : Int32) &&& 0x3f).toInt64.toUInt64).toInt64).toInt32.toInt8.toInt32), (.int ((p1.toUInt64 >>> ((48 : Int32) &&& 0x3f).toInt64.toUInt64).toInt64).toInt32.toInt8.toInt32), (.int ((p1.toUInt64 >>> ((40 : Int32) &&& 0x3f).toInt64.toUInt64).toInt64).toInt32.toInt8.toInt32), (.int ((p1.toUInt64 >>> ((32 : Int32) &&& 0x3f).toInt64.toUInt64).toInt64).toInt32.toInt8.toInt32), (.int ((p1.toUInt64 >>> ((24 : Int32) &&& 0x3f).toInt64.toUInt64).toInt64).toInt32.toInt8.toInt32), (.int (0 : Int32)), (.int (0 : Int32)), (.int (0 : Int32))]) (by rw [Jvm.OwnKit.nbb]; rfl) (Or.inr z_a89) at_91 (pc' := 92) rfl fun T143 h144 X145 W146 A147 => ?_
  have E148 := E142.wr W146
  refine gaload B X145 at_92 rfl rfl (pc' := 94) rfl ?_
  refine gbipush B X145 at_94 (v := (9 : Int32)) rfl (pc' := 96) rfl ?_
  refine glloadN B X145 at_96 rfl (pc' := 97) rfl ?_
  refine gbipush B X145 at_97 (v := (16 : Int32)) rfl (pc' := 99) rfl ?_
  refine glushr B X145 at_99 rfl (pc' := 100) rfl ?_
  refine gl2i B X145 at_100 rfl (pc' := 101) rfl ?_
  refine gi2b B X145 at_101 rfl (pc' := 102) rfl ?_
  refine gbastore B X145 (i := 9) (n := 12) A147 rfl (by decide) rfl (vs' := [(.int ((p0.toUInt32 >>> ((24 : Int32) &&& 31).toUInt32).toInt32).toInt8.toInt32), (.int ((p0.toUInt32 >>> ((16 : Int32) &&& 31).toUInt32).toInt32).toInt8.toInt32), (.int ((p0.toUInt32 >>> ((8 : Int32) &&& 31).toUInt32).toInt32).toInt8.toInt32), (.int p0.toInt8.toInt32), (.int ((p1.toUInt64 >>> ((56 : Int32) &&& 0x3f).toInt64.toUInt64).toInt64).toInt32.toInt8.toInt32), (.int ((p1.toUInt64 >>> ((48 : Int32) &&& 0x3f).toInt64.toUInt64).toInt64).toInt32.toInt8.toInt32), (.int ((p1.toUInt64 >>> ((40 : Int32) &&& 0x3f).toInt64.toUInt64).toInt64).toInt32.toInt8.toInt32), (.int ((p1.toUInt64 >>> ((32 : Int32) &&& 0x3f).toInt64.toUInt64).toInt64).toInt32.toInt8.toInt32), (.int ((p1.toUInt64 >>> ((24 : Int32) &&& 0x3f).toInt64.toUInt64).toInt64).toInt32.toInt8.toInt32), (.int ((p1.toUInt64 >>> ((16 : Int32) &&& 0x3f).toInt64.toUInt64).toInt64).toInt32.toInt8.toInt32), (.int (0 : Int32)), (.int (0 : Int32))]) (by rw [Jvm.OwnKit.nbb]; rfl) (Or.inr z_a89) at_102 (pc' := 103) rfl fun T149 h150 X151 W152 A153 => ?_
  have E154 := E148.wr W152
  refine gaload B X151 at_103 rfl rfl (pc' := 105) rfl ?_
  refine gbipush B X151 at_105 (v := (10 : Int32)) rfl (pc' := 107) rfl ?_
  refine glloadN B X151 at_107 rfl (pc' := 108) rfl ?_
  refine gbipush B X151 at_108 (v := (8 : Int32)) rfl (pc' := 110) rfl ?_
  refine glushr B X151 at_110 rfl (pc' := 111) rfl ?_
  refine gl2i B X151 at_111 rfl (pc' := 112) rfl ?_
  refine gi2b B X151 at_112 rfl (pc' := 113) rfl ?_
  refine gbastore B X151 (i := 10) (n := 12) A153 rfl (by decide) rfl (vs' := [(.int ((p0.toUInt32 >>> ((24 : Int32) &&& 31).toUInt32).toInt32).toInt8.toInt32), (.int ((p0.toUInt32 >>> ((16 : Int32) &&& 31).toUInt32).toInt32).toInt8.toInt32), (.int ((p0.toUInt32 >>> ((8 : Int32) &&& 31).toUInt32).toInt32).toInt8.toInt32), (.int p0.toInt8.toInt32), (.int ((p1.toUInt64 >>> ((56 : Int32) &&& 0x3f).toInt64.toUInt64).toInt64).toInt32.toInt8.toInt32), (.int ((p1.toUInt64 >>> ((48 : Int32) &&& 0x3f).toInt64.toUInt64).toInt64).toInt32.toInt8.toInt32), (.int ((p1.toUInt64 >>> ((40 : Int32) &&& 0x3f).toInt64.toUInt64).toInt64).toInt32.toInt8.toInt32), (.int ((p1.toUInt64 >>> ((32 : Int32) &&& 0x3f).toInt64.toUInt64).toInt64).toInt32.toInt8.toInt32), (.int ((p1.toUInt64 >>> ((24 : Int32) &&& 0x3f).toInt64.toUInt64).toInt64).toInt32.toInt8.toInt32), (.int ((p1.toUInt64 >>> ((16 : Int32) &&& 0x3f).toInt64.toUInt64).toInt64).toInt32.toInt8.toInt32), (.int ((p1.toUInt64 >>> ((8 : Int32) &&& 0x3f).toInt64.toUInt64).toInt64).toInt32.toInt8.toInt32), (.int (0 : Int32))]) (by rw [Jvm.OwnKit.nbb]; rfl) (Or.inr z_a89) at_113 (pc' := 114) rfl fun T155 h156 X157 W158 A159 => ?_
  have E160 := E154.wr W158
  refine gaload B X157 at_114 rfl rfl (pc' := 116) rfl ?_
  refine gbipush B X157 at_116 (v := (11 : Int32)) rfl (pc' := 118) rfl ?_
  refine glloadN B X157 at_118 rfl (pc' := 119) rfl ?_
  refine gl2i B X157 at_119 rfl (pc' := 120) rfl ?_
  refine gi2b B X157 at_120 rfl (pc' := 121) rfl ?_
  refine gbastore B X157 (i := 11) (n := 12) A159 rfl (by decide) rfl (vs' := [(.int ((p0.toUInt32 >>> ((24 : Int32) &&& 31).toUInt32).toInt32).toInt8.toInt32), (.int ((p0.toUInt32 >>> ((16 : Int32) &&& 31).toUInt32).toInt32).toInt8.toInt32), (.int ((p0.toUInt32 >>> ((8 : Int32) &&& 31).toUInt32).toInt32).toInt8.toInt32), (.int p0.toInt8.toInt32), (.int ((p1.toUInt64 >>> ((56 : Int32) &&& 0x3f).toInt64.toUInt64).toInt64).toInt32.toInt8.toInt32), (.int ((p1.toUInt64 >>> ((48 : Int32) &&& 0x3f).toInt64.toUInt64).toInt64).toInt32.toInt8.toInt32), (.int ((p1.toUInt64 >>> ((40 : Int32) &&& 0x3f).toInt64.toUInt64).toInt64).toInt32.toInt8.toInt32), (.int ((p1.toUInt64 >>> ((32 : Int32) &&& 0x3f).toInt64.toUInt64).toInt64).toInt32.toInt8.toInt32), (.int ((p1.toUInt64 >>> ((24 : Int32) &&& 0x3f).toInt64.toUInt64).toInt64).toInt32.toInt8.toInt32), (.int ((p1.toUInt64 >>> ((16 : Int32) &&& 0x3f).toInt64.toUInt64).toInt64).toInt32.toInt8.toInt32), (.int ((p1.toUInt64 >>> ((8 : Int32) &&& 0x3f).toInt64.toUInt64).toInt64).toInt32.toInt8.toInt32), (.int p1.toInt32.toInt8.toInt32)]) (by rw [Jvm.OwnKit.nbb]; rfl) (Or.inr z_a89) at_121 (pc' := 122) rfl fun T161 h162 X163 W164 A165 => ?_
  have E166 := E160.wr W164
  refine gaload B X163 at_122 rfl rfl (pc' := 124) rfl ?_
  refine glloadN B X163 at_124 rfl (pc' := 125) rfl ?_
  refine gcallS B X163 (hw _ (List.mem_of_getElem? (i := 1) rfl)) (hw _ (List.mem_of_getElem? (i := 2) rfl)) (hw _ (List.mem_of_getElem? (i := 3) rfl)) (hw _ (List.mem_of_getElem? (i := 4) rfl)) (by decide) (mt1 l Z a0 hw a89 p2 ((p0.toUInt32 >>> ((24 : Int32) &&& 31).toUInt32).toInt32).toInt8.toInt32 ((p0.toUInt32 >>> ((16 : Int32) &&& 31).toUInt32).toInt32).toInt8.toInt32 ((p0.toUInt32 >>> ((8 : Int32) &&& 31).toUInt32).toInt32).toInt8.toInt32 p0.toInt8.toInt32 ((p1.toUInt64 >>> ((56 : Int32) &&& 0x3f).toInt64.toUInt64).toInt64).toInt32.toInt8.toInt32 ((p1.toUInt64 >>> ((48 : Int32) &&& 0x3f).toInt64.toUInt64).toInt64).toInt32.toInt8.toInt32 ((p1.toUInt64 >>> ((40 : Int32) &&& 0x3f).toInt64.toUInt64).toInt64).toInt32.toInt8.toInt32 ((p1.toUInt64 >>> ((32 : Int32) &&& 0x3f).toInt64.toUInt64).toInt64).toInt32.toInt8.toInt32 ((p1.toUInt64 >>> ((24 : Int32) &&& 0x3f).toInt64.toUInt64).toInt64).toInt32.toInt8.toInt32 ((p1.toUInt64 >>> ((16 : Int32) &&& 0x3f).toInt64.toUInt64).toInt64).toInt32.toInt8.toInt32 ((p1.toUInt64 >>> ((8 : Int32) &&& 0x3f).toInt64.toUInt64).toInt64).toInt32.toInt8.toInt32 p1.toInt32.toInt8.toInt32 h162 A165 E166 (own_fits ((p0.toUInt32 >>> ((24 : Int32) &&& 31).toUInt32).toInt32) ((p0.toUInt32 >>> ((16 : Int32) &&& 31).toUInt32).toInt32) ((p0.toUInt32 >>> ((8 : Int32) &&& 31).toUInt32).toInt32) p0 ((p1.toUInt64 >>> ((56 : Int32) &&& 0x3f).toInt64.toUInt64).toInt64).toInt32 ((p1.toUInt64 >>> ((48 : Int32) &&& 0x3f).toInt64.toUInt64).toInt64).toInt32 ((p1.toUInt64 >>> ((40 : Int32) &&& 0x3f).toInt64.toUInt64).toInt64).toInt32 ((p1.toUInt64 >>> ((32 : Int32) &&& 0x3f).toInt64.toUInt64).toInt64).toInt32 ((p1.toUInt64 >>> ((24 : Int32) &&& 0x3f).toInt64.toUInt64).toInt64).toInt32 ((p1.toUInt64 >>> ((16 : Int32) &&& 0x3f).toInt64.toUInt64).toInt64).toInt32 ((p1.toUInt64 >>> ((8 : Int32) &&& 0x3f).toInt64.toUInt64).toInt64).toInt32 p1.toInt32)) pd___BJ__B rfl (argsL := [(.ref a89), (.long p2)]) (st := []) rfl rfl (W := 0) (Nat.le_of_eq rfl) (by decide) (by decide) (by decide) (by decide) (fun x q => nomatch q) at_125 (pc' := 128) rfl fun T167 h168 v169 X170 K171 Q172 => ?_
  have E173 := E166.keep K171
  have F174 := A165.keep K171 nin0
  obtain ⟨a175, rfl, y176, A177⟩ := Q172
  have z_a175 : h0.size ≤ a175 := Nat.le_trans X163.kept.1 y176
  have n178 : a89 ≠ a175 := Nat.ne_of_lt (Nat.lt_of_lt_of_le A165.lt y176)
  show Go p e below s _ _ _ _ _ T167 (mkF m 128 #[.val (.int p0), .val (.long p1), .second, .val (.long p2), .second, .val (.ref a89), .unset, .unset] [(.ref a175)])
  refine gastore B X170 at_128 rfl (Ls' := #[.val (.int p0), .val (.long p1), .second, .val (.long p2), .second, .val (.ref a89), .val (.ref a175), .unset]) rfl (pc' := 130) rfl ?_
  refine gaload B X170 at_130 rfl rfl (pc' := 132) rfl ?_
  refine gnullN B X170 at_132 (pc' := 135) rfl ?_
  refine gaload B X170 at_135 rfl rfl (pc' := 137) rfl ?_
  refine glength B X170 (n := (12 : Int32)) A177 (k := 12) rfl (by decide) at_137 (pc' := 138) rfl ?_
  refine gbipush B X170 at_138 (v := (12 : Int32)) rfl (pc' := 140) rfl ?_
  have c140_179 : (12 : Int32) = (12 : Int32) := (by decide)
  refine gicY B X170 (pc' := 145) at_140 (teq c140_179).1 (by decide) ?_
  refine gaload B X170 at_145 rfl rfl (pc' := 147) rfl ?_
  refine gcallS B X170 (hw _ (List.mem_of_getElem? (i := 14) rfl)) (hw _ (List.mem_of_getElem? (i := 15) rfl)) (hw _ (List.mem_of_getElem? (i := 16) rfl)) (hw _ (List.mem_of_getElem? (i := 17) rfl)) (by decide) (mtb4 l Z a0 hw a89 ((p0.toUInt32 >>> ((24 : Int32) &&& 31).toUInt32).toInt32).toInt8.toInt32 ((p0.toUInt32 >>> ((16 : Int32) &&& 31).toUInt32).toInt32).toInt8.toInt32 ((p0.toUInt32 >>> ((8 : Int32) &&& 31).toUInt32).toInt32).toInt8.toInt32 p0.toInt8.toInt32 ((p1.toUInt64 >>> ((56 : Int32) &&& 0x3f).toInt64.toUInt64).toInt64).toInt32.toInt8.toInt32 ((p1.toUInt64 >>> ((48 : Int32) &&& 0x3f).toInt64.toUInt64).toInt64).toInt32.toInt8.toInt32 ((p1.toUInt64 >>> ((40 : Int32) &&& 0x3f).toInt64.toUInt64).toInt64).toInt32.toInt8.toInt32 ((p1.toUInt64 >>> ((32 : Int32) &&& 0x3f).toInt64.toUInt64).toInt64).toInt32.toInt8.toInt32 ((p1.toUInt64 >>> ((24 : Int32) &&& 0x3f).toInt64.toUInt64).toInt64).toInt32.toInt8.toInt32 ((p1.toUInt64 >>> ((16 : Int32) &&& 0x3f).toInt64.toUInt64).toInt64).toInt32.toInt8.toInt32 ((p1.toUInt64 >>> ((8 : Int32) &&& 0x3f).toInt64.toUInt64).toInt64).toInt32.toInt8.toInt32 p1.toInt32.toInt8.toInt32 h168 F174) pd___B_I rfl (argsL := [(.ref a89)]) (st := []) rfl rfl (W := 0) (Nat.le_of_eq rfl) (by decide) (by decide) (by decide) (by decide) (fun x q => nomatch q) at_147 (pc' := 150) rfl (pureG rfl rfl fun T180 X181 => ?_)
  refine giloadN B X181 at_150 rfl (pc' := 151) rfl ?_
  have c151_182 : (f2 ((p0.toUInt32 >>> ((24 : Int32) &&& 31).toUInt32).toInt32).toInt8.toInt32 ((p0.toUInt32 >>> ((16 : Int32) &&& 31).toUInt32).toInt32).toInt8.toInt32 ((p0.toUInt32 >>> ((8 : Int32) &&& 31).toUInt32).toInt32).toInt8.toInt32 p0.toInt8.toInt32) = p0 := own_be4 p0
  refine gicN B X181 at_151 (teq c151_182).2 (pc' := 154) rfl ?_
  refine gaload B X181 at_154 rfl rfl (pc' := 156) rfl ?_
  refine gcallS B X181 (hw _ (List.mem_of_getElem? (i := 18) rfl)) (hw _ (List.mem_of_getElem? (i := 19) rfl)) (hw _ (List.mem_of_getElem? (i := 16) rfl)) (hw _ (List.mem_of_getElem? (i := 20) rfl)) (by decide) (mtb8 l Z a0 hw a89 ((p0.toUInt32 >>> ((24 : Int32) &&& 31).toUInt32).toInt32).toInt8.toInt32 ((p0.toUInt32 >>> ((16 : Int32) &&& 31).toUInt32).toInt32).toInt8.toInt32 ((p0.toUInt32 >>> ((8 : Int32) &&& 31).toUInt32).toInt32).toInt8.toInt32 p0.toInt8.toInt32 ((p1.toUInt64 >>> ((56 : Int32) &&& 0x3f).toInt64.toUInt64).toInt64).toInt32.toInt8.toInt32 ((p1.toUInt64 >>> ((48 : Int32) &&& 0x3f).toInt64.toUInt64).toInt64).toInt32.toInt8.toInt32 ((p1.toUInt64 >>> ((40 : Int32) &&& 0x3f).toInt64.toUInt64).toInt64).toInt32.toInt8.toInt32 ((p1.toUInt64 >>> ((32 : Int32) &&& 0x3f).toInt64.toUInt64).toInt64).toInt32.toInt8.toInt32 ((p1.toUInt64 >>> ((24 : Int32) &&& 0x3f).toInt64.toUInt64).toInt64).toInt32.toInt8.toInt32 ((p1.toUInt64 >>> ((16 : Int32) &&& 0x3f).toInt64.toUInt64).toInt64).toInt32.toInt8.toInt32 ((p1.toUInt64 >>> ((8 : Int32) &&& 0x3f).toInt64.toUInt64).toInt64).toInt32.toInt8.toInt32 p1.toInt32.toInt8.toInt32 h168 F174) pd___B_J rfl (argsL := [(.ref a89)]) (st := []) rfl rfl (W := 0) (Nat.le_of_eq rfl) (by decide) (by decide) (by decide) (by decide) (fun x q => nomatch q) at_156 (pc' := 159) rfl (pureG rfl rfl fun T183 X184 => ?_)
  refine glloadN B X184 at_159 rfl (pc' := 160) rfl ?_
  refine glcmp B X184 at_160 (pc' := 161) rfl ?_
  have c161_185 : (f3 ((p1.toUInt64 >>> ((56 : Int32) &&& 0x3f).toInt64.toUInt64).toInt64).toInt32.toInt8.toInt32 ((p1.toUInt64 >>> ((48 : Int32) &&& 0x3f).toInt64.toUInt64).toInt64).toInt32.toInt8.toInt32 ((p1.toUInt64 >>> ((40 : Int32) &&& 0x3f).toInt64.toUInt64).toInt64).toInt32.toInt8.toInt32 ((p1.toUInt64 >>> ((32 : Int32) &&& 0x3f).toInt64.toUInt64).toInt64).toInt32.toInt8.toInt32 ((p1.toUInt64 >>> ((24 : Int32) &&& 0x3f).toInt64.toUInt64).toInt64).toInt32.toInt8.toInt32 ((p1.toUInt64 >>> ((16 : Int32) &&& 0x3f).toInt64.toUInt64).toInt64).toInt32.toInt8.toInt32 ((p1.toUInt64 >>> ((8 : Int32) &&& 0x3f).toInt64.toUInt64).toInt64).toInt32.toInt8.toInt32 p1.toInt32.toInt8.toInt32) = p1 := own_be8 p1
  refine gifN B X184 at_161 ((if0 _ _).trans (teq (((lw_eq (f3 ((p1.toUInt64 >>> ((56 : Int32) &&& 0x3f).toInt64.toUInt64).toInt64).toInt32.toInt8.toInt32 ((p1.toUInt64 >>> ((48 : Int32) &&& 0x3f).toInt64.toUInt64).toInt64).toInt32.toInt8.toInt32 ((p1.toUInt64 >>> ((40 : Int32) &&& 0x3f).toInt64.toUInt64).toInt64).toInt32.toInt8.toInt32 ((p1.toUInt64 >>> ((32 : Int32) &&& 0x3f).toInt64.toUInt64).toInt64).toInt32.toInt8.toInt32 ((p1.toUInt64 >>> ((24 : Int32) &&& 0x3f).toInt64.toUInt64).toInt64).toInt32.toInt8.toInt32 ((p1.toUInt64 >>> ((16 : Int32) &&& 0x3f).toInt64.toUInt64).toInt64).toInt32.toInt8.toInt32 ((p1.toUInt64 >>> ((8 : Int32) &&& 0x3f).toInt64.toUInt64).toInt64).toInt32.toInt8.toInt32 p1.toInt32.toInt8.toInt32) p1)).mpr c161_185)).2) (pc' := 164) rfl ?_
  refine giconst B X184 at_164 (v := (1 : Int32)) rfl (pc' := 165) rfl ?_
  refine ggoto B X184 (pc' := 169) at_165 (by decide) ?_
  refine gistore B X184 at_169 (Ls' := #[.val (.int p0), .val (.long p1), .second, .val (.long p2), .second, .val (.ref a89), .val (.ref a175), .val (.int (1 : Int32))]) rfl (pc' := 171) rfl ?_
  refine giload B X184 at_171 rfl (pc' := 173) rfl ?_
  have c173_186 : ¬ ((1 : Int32) = (0 : Int32)) := (by decide)
  refine gifN B X184 at_173 ((if0 _ _).trans (feq c173_186).1) (pc' := 176) rfl ?_
  refine gaload B X184 at_176 rfl rfl (pc' := 178) rfl ?_
  refine gcallS B X184 (hw _ (List.mem_of_getElem? (i := 14) rfl)) (hw _ (List.mem_of_getElem? (i := 15) rfl)) (hw _ (List.mem_of_getElem? (i := 16) rfl)) (hw _ (List.mem_of_getElem? (i := 17) rfl)) (by decide) (mtb4 l Z a0 hw a175 ((p0.toUInt32 >>> ((24 : Int32) &&& 31).toUInt32).toInt32).toInt8.toInt32 ((p0.toUInt32 >>> ((16 : Int32) &&& 31).toUInt32).toInt32).toInt8.toInt32 ((p0.toUInt32 >>> ((8 : Int32) &&& 31).toUInt32).toInt32).toInt8.toInt32 p0.toInt8.toInt32 (((p1.toUInt64 >>> ((56 : Int32) &&& 0x3f).toInt64.toUInt64).toInt64).toInt32.toInt8.toInt32 ^^^ ((p2.toUInt64 >>> ((56 : Int32) &&& 0x3f).toInt64.toUInt64).toInt64).toInt32.toInt8.toInt32).toInt8.toInt32 (((p1.toUInt64 >>> ((48 : Int32) &&& 0x3f).toInt64.toUInt64).toInt64).toInt32.toInt8.toInt32 ^^^ ((p2.toUInt64 >>> ((48 : Int32) &&& 0x3f).toInt64.toUInt64).toInt64).toInt32.toInt8.toInt32).toInt8.toInt32 (((p1.toUInt64 >>> ((40 : Int32) &&& 0x3f).toInt64.toUInt64).toInt64).toInt32.toInt8.toInt32 ^^^ ((p2.toUInt64 >>> ((40 : Int32) &&& 0x3f).toInt64.toUInt64).toInt64).toInt32.toInt8.toInt32).toInt8.toInt32 (((p1.toUInt64 >>> ((32 : Int32) &&& 0x3f).toInt64.toUInt64).toInt64).toInt32.toInt8.toInt32 ^^^ ((p2.toUInt64 >>> ((32 : Int32) &&& 0x3f).toInt64.toUInt64).toInt64).toInt32.toInt8.toInt32).toInt8.toInt32 (((p1.toUInt64 >>> ((24 : Int32) &&& 0x3f).toInt64.toUInt64).toInt64).toInt32.toInt8.toInt32 ^^^ ((p2.toUInt64 >>> ((24 : Int32) &&& 0x3f).toInt64.toUInt64).toInt64).toInt32.toInt8.toInt32).toInt8.toInt32 (((p1.toUInt64 >>> ((16 : Int32) &&& 0x3f).toInt64.toUInt64).toInt64).toInt32.toInt8.toInt32 ^^^ ((p2.toUInt64 >>> ((16 : Int32) &&& 0x3f).toInt64.toUInt64).toInt64).toInt32.toInt8.toInt32).toInt8.toInt32 (((p1.toUInt64 >>> ((8 : Int32) &&& 0x3f).toInt64.toUInt64).toInt64).toInt32.toInt8.toInt32 ^^^ ((p2.toUInt64 >>> ((8 : Int32) &&& 0x3f).toInt64.toUInt64).toInt64).toInt32.toInt8.toInt32).toInt8.toInt32 (p1.toInt32.toInt8.toInt32 ^^^ p2.toInt32.toInt8.toInt32).toInt8.toInt32 h168 A177) pd___B_I rfl (argsL := [(.ref a175)]) (st := []) rfl rfl (W := 0) (Nat.le_of_eq rfl) (by decide) (by decide) (by decide) (by decide) (fun x q => nomatch q) at_178 (pc' := 181) rfl (pureG rfl rfl fun T187 X188 => ?_)
  refine giloadN B X188 at_181 rfl (pc' := 182) rfl ?_
  have c182_189 : (f2 ((p0.toUInt32 >>> ((24 : Int32) &&& 31).toUInt32).toInt32).toInt8.toInt32 ((p0.toUInt32 >>> ((16 : Int32) &&& 31).toUInt32).toInt32).toInt8.toInt32 ((p0.toUInt32 >>> ((8 : Int32) &&& 31).toUInt32).toInt32).toInt8.toInt32 p0.toInt8.toInt32) = p0 := own_be4 p0
  refine gicN B X188 at_182 (teq c182_189).2 (pc' := 185) rfl ?_
  refine gaload B X188 at_185 rfl rfl (pc' := 187) rfl ?_
  refine gcallS B X188 (hw _ (List.mem_of_getElem? (i := 18) rfl)) (hw _ (List.mem_of_getElem? (i := 19) rfl)) (hw _ (List.mem_of_getElem? (i := 16) rfl)) (hw _ (List.mem_of_getElem? (i := 20) rfl)) (by decide) (mtb8 l Z a0 hw a175 ((p0.toUInt32 >>> ((24 : Int32) &&& 31).toUInt32).toInt32).toInt8.toInt32 ((p0.toUInt32 >>> ((16 : Int32) &&& 31).toUInt32).toInt32).toInt8.toInt32 ((p0.toUInt32 >>> ((8 : Int32) &&& 31).toUInt32).toInt32).toInt8.toInt32 p0.toInt8.toInt32 (((p1.toUInt64 >>> ((56 : Int32) &&& 0x3f).toInt64.toUInt64).toInt64).toInt32.toInt8.toInt32 ^^^ ((p2.toUInt64 >>> ((56 : Int32) &&& 0x3f).toInt64.toUInt64).toInt64).toInt32.toInt8.toInt32).toInt8.toInt32 (((p1.toUInt64 >>> ((48 : Int32) &&& 0x3f).toInt64.toUInt64).toInt64).toInt32.toInt8.toInt32 ^^^ ((p2.toUInt64 >>> ((48 : Int32) &&& 0x3f).toInt64.toUInt64).toInt64).toInt32.toInt8.toInt32).toInt8.toInt32 (((p1.toUInt64 >>> ((40 : Int32) &&& 0x3f).toInt64.toUInt64).toInt64).toInt32.toInt8.toInt32 ^^^ ((p2.toUInt64 >>> ((40 : Int32) &&& 0x3f).toInt64.toUInt64).toInt64).toInt32.toInt8.toInt32).toInt8.toInt32 (((p1.toUInt64 >>> ((32 : Int32) &&& 0x3f).toInt64.toUInt64).toInt64).toInt32.toInt8.toInt32 ^^^ ((p2.toUInt64 >>> ((32 : Int32) &&& 0x3f).toInt64.toUInt64).toInt64).toInt32.toInt8.toInt32).toInt8.toInt32 (((p1.toUInt64 >>> ((24 : Int32) &&& 0x3f).toInt64.toUInt64).toInt64).toInt32.toInt8.toInt32 ^^^ ((p2.toUInt64 >>> ((24 : Int32) &&& 0x3f).toInt64.toUInt64).toInt64).toInt32.toInt8.toInt32).toInt8.toInt32 (((p1.toUInt64 >>> ((16 : Int32) &&& 0x3f).toInt64.toUInt64).toInt64).toInt32.toInt8.toInt32 ^^^ ((p2.toUInt64 >>> ((16 : Int32) &&& 0x3f).toInt64.toUInt64).toInt64).toInt32.toInt8.toInt32).toInt8.toInt32 (((p1.toUInt64 >>> ((8 : Int32) &&& 0x3f).toInt64.toUInt64).toInt64).toInt32.toInt8.toInt32 ^^^ ((p2.toUInt64 >>> ((8 : Int32) &&& 0x3f).toInt64.toUInt64).toInt64).toInt32.toInt8.toInt32).toInt8.toInt32 (p1.toInt32.toInt8.toInt32 ^^^ p2.toInt32.toInt8.toInt32).toInt8.toInt32 h168 A177) pd___B_J rfl (argsL := [(.ref a175)]) (st := []) rfl rfl (W := 0) (Nat.le_of_eq rfl) (by decide) (by decide) (by decide) (by decide) (fun x q => nomatch q) at_187 (pc' := 190) rfl (pureG rfl rfl fun T190 X191 => ?_)
  refine glloadN B X191 at_190 rfl (pc' := 191) rfl ?_
  refine glloadN B X191 at_191 rfl (pc' := 192) rfl ?_
  refine glxor B X191 at_192 rfl (pc' := 193) rfl ?_
  refine glcmp B X191 at_193 (pc' := 194) rfl ?_
  have c194_192 : (f3 (((p1.toUInt64 >>> ((56 : Int32) &&& 0x3f).toInt64.toUInt64).toInt64).toInt32.toInt8.toInt32 ^^^ ((p2.toUInt64 >>> ((56 : Int32) &&& 0x3f).toInt64.toUInt64).toInt64).toInt32.toInt8.toInt32).toInt8.toInt32 (((p1.toUInt64 >>> ((48 : Int32) &&& 0x3f).toInt64.toUInt64).toInt64).toInt32.toInt8.toInt32 ^^^ ((p2.toUInt64 >>> ((48 : Int32) &&& 0x3f).toInt64.toUInt64).toInt64).toInt32.toInt8.toInt32).toInt8.toInt32 (((p1.toUInt64 >>> ((40 : Int32) &&& 0x3f).toInt64.toUInt64).toInt64).toInt32.toInt8.toInt32 ^^^ ((p2.toUInt64 >>> ((40 : Int32) &&& 0x3f).toInt64.toUInt64).toInt64).toInt32.toInt8.toInt32).toInt8.toInt32 (((p1.toUInt64 >>> ((32 : Int32) &&& 0x3f).toInt64.toUInt64).toInt64).toInt32.toInt8.toInt32 ^^^ ((p2.toUInt64 >>> ((32 : Int32) &&& 0x3f).toInt64.toUInt64).toInt64).toInt32.toInt8.toInt32).toInt8.toInt32 (((p1.toUInt64 >>> ((24 : Int32) &&& 0x3f).toInt64.toUInt64).toInt64).toInt32.toInt8.toInt32 ^^^ ((p2.toUInt64 >>> ((24 : Int32) &&& 0x3f).toInt64.toUInt64).toInt64).toInt32.toInt8.toInt32).toInt8.toInt32 (((p1.toUInt64 >>> ((16 : Int32) &&& 0x3f).toInt64.toUInt64).toInt64).toInt32.toInt8.toInt32 ^^^ ((p2.toUInt64 >>> ((16 : Int32) &&& 0x3f).toInt64.toUInt64).toInt64).toInt32.toInt8.toInt32).toInt8.toInt32 (((p1.toUInt64 >>> ((8 : Int32) &&& 0x3f).toInt64.toUInt64).toInt64).toInt32.toInt8.toInt32 ^^^ ((p2.toUInt64 >>> ((8 : Int32) &&& 0x3f).toInt64.toUInt64).toInt64).toInt32.toInt8.toInt32).toInt8.toInt32 (p1.toInt32.toInt8.toInt32 ^^^ p2.toInt32.toInt8.toInt32).toInt8.toInt32) = (p1 ^^^ p2) := own_be8x p1 p2
  refine gifN B X191 at_194 ((if0 _ _).trans (teq (((lw_eq (f3 (((p1.toUInt64 >>> ((56 : Int32) &&& 0x3f).toInt64.toUInt64).toInt64).toInt32.toInt8.toInt32 ^^^ ((p2.toUInt64 >>> ((56 : Int32) &&& 0x3f).toInt64.toUInt64).toInt64).toInt32.toInt8.toInt32).toInt8.toInt32 (((p1.toUInt64 >>> ((48 : Int32) &&& 0x3f).toInt64.toUInt64).toInt64).toInt32.toInt8.toInt32 ^^^ ((p2.toUInt64 >>> ((48 : Int32) &&& 0x3f).toInt64.toUInt64).toInt64).toInt32.toInt8.toInt32).toInt8.toInt32 (((p1.toUInt64 >>> ((40 : Int32) &&& 0x3f).toInt64.toUInt64).toInt64).toInt32.toInt8.toInt32 ^^^ ((p2.toUInt64 >>> ((40 : Int32) &&& 0x3f).toInt64.toUInt64).toInt64).toInt32.toInt8.toInt32).toInt8.toInt32 (((p1.toUInt64 >>> ((32 : Int32) &&& 0x3f).toInt64.toUInt64).toInt64).toInt32.toInt8.toInt32 ^^^ ((p2.toUInt64 >>> ((32 : Int32) &&& 0x3f).toInt64.toUInt64).toInt64).toInt32.toInt8.toInt32).toInt8.toInt32 (((p1.toUInt64 >>> ((24 : Int32) &&& 0x3f).toInt64.toUInt64).toInt64).toInt32.toInt8.toInt32 ^^^ ((p2.toUInt64 >>> ((24 : Int32) &&& 0x3f).toInt64.toUInt64).toInt64).toInt32.toInt8.toInt32).toInt8.toInt32 (((p1.toUInt64 >>> ((16 : Int32) &&& 0x3f).toInt64.toUInt64).toInt64).toInt32.toInt8.toInt32 ^^^ ((p2.toUInt64 >>> ((16 : Int32) &&& 0x3f).toInt64.toUInt64).toInt64).toInt32.toInt8.toInt32).toInt8.toInt32 (((p1.toUInt64 >>> ((8 : Int32) &&& 0x3f).toInt64.toUInt64).toInt64).toInt32.toInt8.toInt32 ^^^ ((p2.toUInt64 >>> ((8 : Int32) &&& 0x3f).toInt64.toUInt64).toInt64).toInt32.toInt8.toInt32).toInt8.toInt32 (p1.toInt32.toInt8.toInt32 ^^^ p2.toInt32.toInt8.toInt32).toInt8.toInt32) (p1 ^^^ p2))).mpr c194_192)).2) (pc' := 197) rfl ?_
  refine giconst B X191 at_197 (v := (1 : Int32)) rfl (pc' := 198) rfl ?_
  refine ggoto B X191 (pc' := 202) at_198 (by decide) ?_
  exact gretN B X191 (z' := (1 : Int32)) (by simp) (rfl) at_202 (by decide) (by decide) (rfl)
set_option maxRecDepth 65536 in
set_option maxHeartbeats 4000000 in
theorem comes_1 {Post : Tables → Env → Array Value → State → Outcome → State → Prop} (hpost : ∀ tb e args s v u, (limb_1_1.after args s (.returned v) u = true ∧ limb_1_2.after args s (.returned v) u = true ∧ True) → FrameEnd s (.returned v) u (Jvm.fieldLocs frame_1_writes args s ++ Jvm.arrayLocs frame_1_arrays args s ++ Jvm.staticLocs frame_1_statics s) 16 128 → Post tb e args s (.returned v) u) :
    ArmFor flags0 classFile x code maxLocals ret World_1 tables_1 room_1 Calls_1 rest_1 Pre_1 Post := by
  intro l hfl _ _ p e ha hc hk s m args below hf hA hF happ hP
  obtain ⟨hcalls, hrest, hpre⟩ := hP
  obtain ⟨-, -, -, hnamed, -, -, -, hat⟩ := (Spec.applies_iff hf).mp happ
  obtain ⟨hg, hn⟩ := and_e (Cond.before_iff.mp (show (Jvm.Cond.and given_1 narrow_1).before args s = true from hpre))
  obtain ⟨g2, g3⟩ := and_e hg
  obtain ⟨g4, g5⟩ := and_e g3
  obtain ⟨g6, g7⟩ := and_e g5
  obtain ⟨w0, w1, w2, rfl⟩ : ∃ w0 w1 w2 : Value, args = #[w0, w1, w2] := by
    have hs : args.size = 3 := by simpa [Cond.value, given_1] using g2
    obtain ⟨L⟩ := args
    match L, hs with
    | [w0, w1, w2], _ => exact ⟨w0, w1, w2, rfl⟩
  have hw := fun d (hd : d ∈ tables_1) => atoms_spec (ws := Jvm.Cond.code x code maxLocals ret :: tables_1) hat d (List.mem_cons_of_mem _ hd)
  obtain ⟨i0, ei0⟩ := is_v g4
  obtain rfl : w0 = (.int i0) := Option.some.inj ei0
  obtain ⟨i1, ei1⟩ := isL_v g6
  obtain rfl : w1 = (.long i1) := Option.some.inj ei1
  obtain ⟨i2, ei2⟩ := isL_v g7
  obtain rfl : w2 = (.long i2) := Option.some.inj ei2
  obtain ⟨n, o, h1, h2, h3, _, L, rfl, ⟨rfl, N, N2⟩, hq⟩ := mt0 l s _ hw i0 i1 i2 s.heap tables_1 p e ha hc hk s m _ below hf ((Spec.applies_iff_loose hf).mp happ).1 ⟨rfl, State.Warmed39.refl s, rfl⟩ trivial
  refine ⟨n, _, h1, h2, h3, hpost _ _ _ _ _ _ ⟨Cond.after_iff.mpr rfl, Cond.after_iff.mpr (eq_i res_at (Term.int_eval (1)) rfl), trivial⟩ ⟨hq.1, hq.2.1, (hq.2.2.sift fun y hy => Or.inr ((N2 y hy).elim (fun z => nomatch z) id)).mono (by decide) (by decide)⟩⟩
theorem main_1_1 : Claimed_1_1 := comes_1 fun _ _ _ _ _ _ h hF => ⟨h.1, hF⟩
theorem main_1_2 : Claimed_1_2 := comes_1 fun _ _ _ _ _ _ h hF => ⟨h.2.1, hF⟩
end Jvm.Pilot.@@N@@
namespace Jvm.Pilot.@@N@@
open Jvm Jvm.ClassFile Sem Op Lib Jvm.Free Jvm.Stand Jvm.Pilot.@@N@@.Jvm.D
/-! MADE BY PROGRAM (witnessworld.py) out of the Statement's table words and the real class files: 9 classes; the members and pool entries that the words name. The judged class is class 1, her method 3. -/
namespace start1
open Jvm.ClassFile
def u (s : String) : CpInfo := .utf8 (stringToUtf16 s)
/-- a pool by its gaps: so many unusable entries, then the entry; so many at the end -/
def gap : Nat → List CpInfo → List CpInfo
  | 0, r => r
  | n + 1, r => .unusable :: gap n r
def poolList (es : List (Nat × CpInfo)) (last : Nat) : List CpInfo := es.foldr (fun e r => gap e.1 (e.2 :: r)) (gap last [])
def pool (es : List (Nat × CpInfo)) (last : Nat) : Array CpInfo := ⟨poolList es last⟩
def fileOf (pool : Array CpInfo) (this : Nat) (attrs : Array Attribute := #[]) (ms : Array MethodInfo := #[]) (fl : Nat := 33) (sup : Nat := 0) (ifs : Array Nat := #[]) (fds : Array FieldInfo := #[]) : ClassFile where
  minorVersion := 0
  majorVersion := 65
  constantPool := pool
  accessFlags := fl
  thisClass := this
  superClass := sup
  interfaces := ifs
  fields := fds
  methods := ms
  attributes := attrs
def plain (name : String) (sup : Option ClassId) : Class where
  name := name
  kind := .ordinary
  loader := none
  accessFlags := 33
  super := sup
  interfaces := #[]
  cf := none
  fields := #[]
  methods := #[]
  instanceTypes := #[]
  staticTypes := #[]
  resolved := #[]
  callSites := []
  init := .initialized
  statics := none
  mirror := none

def pool0 : Array CpInfo := pool [(5, u "<init>"), (0, u "()V"), (1, .class_ 10), (1, u "java/lang/Object"), (85, u "clone"), (0, u "()Ljava/lang/Object;")] 26

def k0m0 : Method := { name := "<init>", desc := "()V", sig := { parameters := [], returnType := none }, accessFlags := 1, code := none }
def k0m1 : Method := { name := "clone", desc := "()Ljava/lang/Object;", sig := { parameters := [], returnType := some (.object "java/lang/Object") }, accessFlags := 260, code := none }
/-- java/lang/Object -/
def k0 : Class := { plain "java/lang/Object" none with
  accessFlags := 33
  interfaces := #[]
  cf := some (fileOf pool0 8 #[] #[{ accessFlags := 1, nameIndex := 5, descriptorIndex := 6, attributes := #[] }, { accessFlags := 260, nameIndex := 96, descriptorIndex := 97, attributes := #[] }] 33 0 #[] #[])
  fields := #[]
  methods := #[k0m0, k0m1]
  instanceTypes := #[]
  staticTypes := #[]
  resolved := Array.replicate 124 none
  statics := none }

def pool1 : Array CpInfo := pool [(2, .class_ 4), (1, u "java/lang/Object"), (0, u "<init>"), (0, u "()V"), (0, .long 255), (1, .methodref 10 11), (0, .class_ 12), (0, .nameAndType 13 14), (0, u "com/example/dokaz/dokaz/crypto/Aes256Gcm"), (0, u "nonce"), (0, u "([BJ)[B"), (0, .methodref 16 17), (0, .class_ 18), (0, .nameAndType 19 20), (0, u "com/example/dokaz/dokaz/crypto/Aes256GcmNoncePinLaw"), (0, u "be4"), (0, u "([B)I"), (0, .methodref 16 22), (0, .nameAndType 23 24), (0, u "be8"), (0, u "([B)J"), (2, u "law"), (0, u "(IJJ)Z")] 5

def k1m0 : Method := { name := "<init>", desc := "()V", sig := { parameters := [], returnType := none }, accessFlags := 2, code := none }
def k1c1 : Code := { maxStack := 3, maxLocals := 1, code := method_2_code, exceptionTable := #[], attributes := #[] }
def k1m1 : Method := { name := "be4", desc := "([B)I", sig := { parameters := [(.array .byte)], returnType := some .int }, accessFlags := 10, code := some k1c1 }
def k1c2 : Code := { maxStack := 6, maxLocals := 1, code := method_3_code, exceptionTable := #[], attributes := #[] }
def k1m2 : Method := { name := "be8", desc := "([B)J", sig := { parameters := [(.array .byte)], returnType := some .long }, accessFlags := 10, code := some k1c2 }
def k1c3 : Code := { maxStack := 6, maxLocals := 8, code := code, exceptionTable := #[], attributes := #[] }
def k1m3 : Method := { name := "law", desc := "(IJJ)Z", sig := { parameters := [.int, .long, .long], returnType := some .boolean }, accessFlags := 9, code := some k1c3 }
/-- com/example/dokaz/dokaz/crypto/Aes256GcmNoncePinLaw -/
def k1 : Class := { plain "com/example/dokaz/dokaz/crypto/Aes256GcmNoncePinLaw" (some 0) with
  accessFlags := 49
  interfaces := #[]
  cf := some (fileOf pool1 16 #[] #[{ accessFlags := 2, nameIndex := 5, descriptorIndex := 6, attributes := #[] }, { accessFlags := 10, nameIndex := 19, descriptorIndex := 20, attributes := #[] }, { accessFlags := 10, nameIndex := 23, descriptorIndex := 24, attributes := #[] }, { accessFlags := 9, nameIndex := 27, descriptorIndex := 28, attributes := #[] }] 49 2 #[] #[])
  fields := #[]
  methods := #[k1m0, k1m1, k1m2, k1m3]
  instanceTypes := #[]
  staticTypes := #[]
  resolved := Array.replicate 34 none
  statics := none }

def pool2 : Array CpInfo := pool [(2, .class_ 4), (1, u "java/lang/Object"), (0, u "<init>"), (0, u "()V"), (3, .class_ 12), (1, u "com/example/dokaz/dokaz/crypto/Aes256Gcm"), (24, .methodref 38 39), (0, .class_ 40), (0, .nameAndType 41 42), (0, u "[B"), (0, u "clone"), (0, u "()Ljava/lang/Object;"), (19, u "nonce"), (0, u "([BJ)[B"), (25, u "IV_LENGTH"), (0, u "I"), (2, u "TAG_LENGTH"), (1, u "TRANSFORMATION"), (0, u "Ljava/lang/String;")] 28

def k2m0 : Method := { name := "<init>", desc := "()V", sig := { parameters := [], returnType := none }, accessFlags := 2, code := none }
def k2c1 : Code := { maxStack := 7, maxLocals := 5, code := prog_5_method_4_code, exceptionTable := #[], attributes := #[] }
def k2m1 : Method := { name := "nonce", desc := "([BJ)[B", sig := { parameters := [(.array .byte), .long], returnType := some (.array .byte) }, accessFlags := 8, code := some k2c1 }
/-- com/example/dokaz/dokaz/crypto/Aes256Gcm -/
def k2 : Class := { plain "com/example/dokaz/dokaz/crypto/Aes256Gcm" (some 0) with
  accessFlags := 49
  interfaces := #[]
  cf := some (fileOf pool2 10 #[] #[{ accessFlags := 2, nameIndex := 5, descriptorIndex := 6, attributes := #[] }, { accessFlags := 8, nameIndex := 62, descriptorIndex := 63, attributes := #[] }] 49 2 #[] #[{ accessFlags := 25, nameIndex := 89, descriptorIndex := 90, attributes := #[] }, { accessFlags := 25, nameIndex := 93, descriptorIndex := 90, attributes := #[] }, { accessFlags := 26, nameIndex := 95, descriptorIndex := 96, attributes := #[] }])
  fields := #[{ name := "IV_LENGTH", type := .int, accessFlags := 25, slot := 0, constantValue := 0 }, { name := "TAG_LENGTH", type := .int, accessFlags := 25, slot := 1, constantValue := 0 }, { name := "TRANSFORMATION", type := (.object "java/lang/String"), accessFlags := 26, slot := 2, constantValue := 0 }]
  methods := #[k2m0, k2m1]
  instanceTypes := #[]
  staticTypes := #[.int, .int, (.object "java/lang/String")]
  resolved := Array.replicate 125 none
  statics := none }

def pool3 : Array CpInfo := pool [(1, .class_ 2), (0, u "java/lang/Cloneable"), (0, .class_ 4), (0, u "java/lang/Object")] 2

/-- java/lang/Cloneable -/
def k3 : Class := { plain "java/lang/Cloneable" (some 0) with
  accessFlags := 1537
  interfaces := #[]
  cf := some (fileOf pool3 1 #[] #[] 1537 3 #[] #[])
  fields := #[]
  methods := #[]
  instanceTypes := #[]
  staticTypes := #[]
  resolved := Array.replicate 7 none
  statics := none }

def pool4 : Array CpInfo := pool [(1, u "java/io/Serializable"), (0, .class_ 1), (0, u "java/lang/Object"), (0, .class_ 3)] 3

/-- java/io/Serializable -/
def k4 : Class := { plain "java/io/Serializable" (some 0) with
  accessFlags := 1537
  interfaces := #[]
  cf := some (fileOf pool4 2 #[] #[] 1537 4 #[] #[])
  fields := #[]
  methods := #[]
  instanceTypes := #[]
  staticTypes := #[]
  resolved := Array.replicate 8 none
  statics := none }

/-- the primitive byte -/
def k5 : Class := { plain "byte" none with kind := .primitive 'B', accessFlags := 0x411 }
/-- [B -/
def k6 : Class := { plain "[B" (some 0) with kind := .array 5 .byte, interfaces := #[3, 4], accessFlags := 1041 }

/-- the primitive int -/
def k7 : Class := { plain "int" none with kind := .primitive 'I', accessFlags := 0x411 }
/-- [I -/
def k8 : Class := { plain "[I" (some 0) with kind := .array 7 .int, interfaces := #[3, 4], accessFlags := 1041 }

def heap : Heap := #[]
def classes : Array Class := #[k0, k1, k2, k3, k4, k5, k6, k7, k8]
def interned : List (Array UInt16 × Addr) := []
def slotsUsed : Nat := 0
def theMethod : MethodId := ⟨1, 3⟩
def args0 : Array Value := #[.int 5, .long 300, .long 7]
def aboutOver (below : List Frame) : State where
  vm := { classes := classes, interned := interned.toArray }
  heap := heap
  slotsUsed := slotsUsed
  threads := #[{ frames := .invoking theMethod args0 :: below }]
def below0 : List Frame := [.native { method := ⟨0, 0⟩, args := #[] }]
def about1 : State := aboutOver below0
def p0 : Program := .bare "" "" ""
def e0 : Env := launch0.env 0 0 0
theorem w_frames : about1.frames = Frame.invoking theMethod args0 :: below0 := rfl
set_option maxRecDepth 65536 in
theorem w_args : argsFit about1.vm theMethod args0 = true := by decide +kernel
set_option maxRecDepth 65536 in
theorem w_heap : heapFits about1 = true := by decide +kernel
set_option maxRecDepth 65536 in
theorem w_runnable : about1.curStatus? = some .runnable := by decide +kernel
set_option maxRecDepth 65536 in
theorem w_alone : about1.alone = true := by decide +kernel
set_option maxRecDepth 65536 in
theorem w_named : about1.methodNamed? x = some theMethod := by decide +kernel
set_option maxRecDepth 65536 in
theorem w_hears : about1.hears theMethod below0 = true := by decide +kernel
set_option maxRecDepth 65536 in
theorem w_ripe : about1.ripe theMethod args0 below0 = true := by decide +kernel
theorem w_running : about1.status = .running := rfl
set_option maxRecDepth 65536 in
theorem w_room : about1.hasRoom e0.platform room_1 = true :=
  launch0.hasRoom_least _ room_1 (by decide +kernel) (by decide +kernel) (by decide +kernel) (by decide +kernel) (by decide +kernel) (by decide +kernel)
theorem allAtoms_all (ts : List Jvm.Cond) (a : Array Jvm.Value) (st : Jvm.State) : (allAtoms ts).before a st = ts.all (fun c => c.before a st) := by
  induction ts with
  | nil => rfl
  | cons c t ih =>
    show (Jvm.Cond.and c (allAtoms t)).before a st = _
    rw [Jvm.Cond.before_and, ih, List.all_cons]
def words1 : List Jvm.Cond := Jvm.Cond.code x code maxLocals ret :: tables_1
/-- a 'code' word, met by the world's own term for the bytes: nothing is compared byte by byte -/
theorem code_word {y : MethodName} {bytes : ByteArray} {mx : Nat} {rt : Option FieldType} {a : Array Value} {s : State} {m : MethodId} {meth : Method} {c : Code} (h1 : s.methodNamed? y = some m) (h2 : s.vm.method? m = some meth) (h3 : meth.code = some c) (h4 : c.code = bytes)
    (h5 : (c.maxLocals == mx && c.exceptionTable.isEmpty && decide (c.maxStack ≤ mostOperands) && decide (meth.sig.returnType = rt) && !meth.locks && decide (parseMethodDescriptor y.desc = some meth.sig)) = true) : (Jvm.Cond.code y bytes mx rt).before a s = true := by
  simp only [Bool.and_eq_true, beq_iff_eq, Bool.not_eq_true', decide_eq_true_eq] at h5
  obtain ⟨⟨⟨⟨⟨g1, g2⟩, g3⟩, g4⟩, g5⟩, g6⟩ := h5
  simp [Cond.before, Cond.holds, Cond.value, h1, h2, h3, h4, g1, g2, g3, g4, g5, g6]
def isCode : Jvm.Cond → Bool
  | .code _ _ _ _ => true
  | _ => false
theorem all_split {L : List Jvm.Cond} {P : Jvm.Cond → Bool} (h1 : L.all (fun c => isCode c || P c) = true) (h2 : ∀ c ∈ L.filter isCode, P c = true) : L.all P = true := by
  refine List.all_eq_true.mpr fun c hc => ?_
  have h := List.all_eq_true.mp h1 c hc
  rcases Bool.eq_false_or_eq_true (isCode c) with hi | hi
  · exact h2 c (List.mem_filter.mpr ⟨hc, hi⟩)
  · simpa [hi] using h
set_option maxRecDepth 65536 in
theorem w_c0 : (Jvm.Cond.code x code maxLocals ret).before args0 about1 = true := code_word (m := ⟨1, 3⟩) (meth := k1m3) (c := k1c3) (by decide +kernel) rfl rfl rfl (by decide +kernel)
set_option maxRecDepth 65536 in
theorem w_c1 : (Jvm.Cond.code ({ cls := "com/example/dokaz/dokaz/crypto/Aes256Gcm", name := "nonce", desc := "([BJ)[B" } : Jvm.MethodName) prog_5_method_4_code (5 : Nat) (Option.some (Jvm.ClassFile.FieldType.array Jvm.ClassFile.FieldType.byte))).before args0 about1 = true := code_word (m := ⟨2, 1⟩) (meth := k2m1) (c := k2c1) (by decide +kernel) rfl rfl rfl (by decide +kernel)
set_option maxRecDepth 65536 in
theorem w_c2 : (Jvm.Cond.code ({ cls := "com/example/dokaz/dokaz/crypto/Aes256GcmNoncePinLaw", name := "be4", desc := "([B)I" } : Jvm.MethodName) method_2_code (1 : Nat) (Option.some Jvm.ClassFile.FieldType.int)).before args0 about1 = true := code_word (m := ⟨1, 1⟩) (meth := k1m1) (c := k1c1) (by decide +kernel) rfl rfl rfl (by decide +kernel)
set_option maxRecDepth 65536 in
theorem w_c3 : (Jvm.Cond.code ({ cls := "com/example/dokaz/dokaz/crypto/Aes256GcmNoncePinLaw", name := "be8", desc := "([B)J" } : Jvm.MethodName) method_3_code (1 : Nat) (Option.some Jvm.ClassFile.FieldType.long)).before args0 about1 = true := code_word (m := ⟨1, 2⟩) (meth := k1m2) (c := k1c2) (by decide +kernel) rfl rfl rfl (by decide +kernel)
def codes1 : List Jvm.Cond := [Jvm.Cond.code x code maxLocals ret, Jvm.Cond.code ({ cls := "com/example/dokaz/dokaz/crypto/Aes256Gcm", name := "nonce", desc := "([BJ)[B" } : Jvm.MethodName) prog_5_method_4_code (5 : Nat) (Option.some (Jvm.ClassFile.FieldType.array Jvm.ClassFile.FieldType.byte)), Jvm.Cond.code ({ cls := "com/example/dokaz/dokaz/crypto/Aes256GcmNoncePinLaw", name := "be4", desc := "([B)I" } : Jvm.MethodName) method_2_code (1 : Nat) (Option.some Jvm.ClassFile.FieldType.int), Jvm.Cond.code ({ cls := "com/example/dokaz/dokaz/crypto/Aes256GcmNoncePinLaw", name := "be8", desc := "([B)J" } : Jvm.MethodName) method_3_code (1 : Nat) (Option.some Jvm.ClassFile.FieldType.long)]
set_option maxRecDepth 65536 in
theorem codes_eq : words1.filter isCode = codes1 := rfl
theorem w_codes : ∀ c ∈ words1.filter isCode, c.before args0 about1 = true := by
  rw [codes_eq]
  intro c hc
  simp only [codes1, List.mem_cons, List.not_mem_nil, or_false] at hc
  rcases hc with rfl | rfl | rfl | rfl
  · exact w_c0
  · exact w_c1
  · exact w_c2
  · exact w_c3
set_option maxRecDepth 65536 in
theorem w_t1 : words1.all (fun c => isCode c || c.before args0 about1) = true := by decide +kernel
theorem w_tables : (allAtoms (Jvm.Cond.code x code maxLocals ret :: tables_1)).before args0 about1 = true := by
  rw [allAtoms_all]
  show words1.all (fun c => c.before args0 about1) = true
  refine all_split ?_ w_codes
  rw [w_t1]
set_option maxRecDepth 65536 in
theorem w_case : (Jvm.Cond.and given_1 narrow_1).before args0 about1 = true := by decide +kernel
theorem w_applies : (headSpec (Jvm.Cond.code x code maxLocals ret :: tables_1) room_1).applies x e0.platform about1 = true :=
  (Spec.applies_iff w_frames).mpr ⟨w_running, w_runnable, w_alone, w_named, w_hears, w_ripe, w_room, w_tables⟩
theorem atStart : AtStart classFile x code maxLocals ret World_1 tables_1 room_1 Calls_1 rest_1 Pre_1 launch0 p0 e0 about1 theMethod args0 below0 :=
  ⟨lists_1, trivial, launch0.admits_env _ _ _, launch0.least_env, fairChoices_fair.cas, fairChoices_fair.clock, w_frames, w_args, w_heap, w_applies, trivial, trivial, w_case⟩
end start1
theorem witness_1 : WitnessClaimed_1 := ⟨start1.p0, start1.e0, start1.about1, start1.theMethod, start1.args0, start1.below0, start1.atStart⟩
end Jvm.Pilot.@@N@@
